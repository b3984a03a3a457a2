import Derived.Test.YtoopljlbiifmfaaGreatDoorBuf
/-! Runs of bytes: writing. -/
namespace Go.Proofs.YtoopljlbiifmfaaGreatDoor.Rlb
open Go.Proofs.YtoopljlbiifmfaaGreatDoor.Buf Go.Proofs.YtoopljlbiifmfaaGreatDoor.Fit Go.Proofs.YtoopljlbiifmfaaGreatDoor.Bit Go.Proofs.YtoopljlbiifmfaaGreatDoor.Wrd Go.Proofs.YtoopljlbiifmfaaGreatDoor.Spl Go.Proofs.YtoopljlbiifmfaaGreatDoor.Str Go.Proofs.YtoopljlbiifmfaaGreatDoor.Flt Go.Proofs.YtoopljlbiifmfaaGreatDoor.Owe Go.Proofs.YtoopljlbiifmfaaGreatDoor.Num Go.Proofs.YtoopljlbiifmfaaGreatDoor.Le Go.Proofs.YtoopljlbiifmfaaGreatDoor.Lst Go.Proofs.YtoopljlbiifmfaaGreatDoor.Aid Go.RowKit Go.Proofs.YtoopljlbiifmfaaGreatDoorW.PrintWords Go.Proofs.YtoopljlbiifmfaaGreatDoorW.PrintLast Go.Proofs.YtoopljlbiifmfaaGreatDoorW.PrintMore
set_option linter.unusedVariables false
set_option linter.unusedSimpArgs false
theorem cutFrom0 {P : Program} (t e : TypeId) {i : TypeInfo} (ht : P.underlying t = some (.slice e)) (hi : P.info? e = some i) (hsz : i.size = 1) (g n C l : Nat) (hln : l ≤ n) (hn : n ≤ C) (hl : l < C) :
    ∀ W : World, (Instr.slice t (.slice (some ⟨g, 0, none⟩) n C) (some (.int .i64 (l : Int))) none none).run P W = .ok (.slice (some ⟨g, l, none⟩) (n - l) (C - l)) W := by
  intro W
  have hel : P.elem t = e := by simp [Program.elem, ht]
  have hu : P.underlying t = some (.slice (P.elem t)) := by rw [hel]; exact ht
  rw [run_slice_l W t (some ⟨g, 0, none⟩) n C hu .i64 l (by omega) (by omega), hel]
  have hne : ¬ C = l := by omega
  by_cases h0 : l = 0
  · subst h0; simp [sizeOf, typeInfo, hi, hsz, sliced, Result.andThen, Addr.add]
  · simp [sizeOf, typeInfo, hi, hsz, sliced, Result.andThen, Addr.add, hne, h0]
/-! ### words into buffers -/
set_option maxHeartbeats 4000000 in
theorem put32F_calls (g C t n c : Nat) (xs : List Int) (v : Int) (w : World) (hF : Front w g C t .u8 xs) (hn : 4 ≤ n) (hC : xs.length + 4 ≤ C) (hv0 : 0 ≤ v) (hv1 : v < 4294967296) :
    Calls Tryz.prog 76 #[.slice (some ⟨g, xs.length, none⟩) n c, .int .u32 v] w fun e w' => e = .returned (.tuple #[]) ∧ Front w' g C t .u8 (xs ++ lowL 4 v) ∧ w.grownBy w' (some g) := by
  have HF := Aside0.mk hF
  obtain ⟨o, ho⟩ : ∃ o, xs.length = o := ⟨_, rfl⟩
  have HO := Aside0.mk ho
  rw [ho] at hC ⊢
  obtain ⟨z0, x0⟩ := hF.cell o (by omega)
  obtain ⟨z1, x1⟩ := hF.cell (o + 1) (by omega)
  obtain ⟨z2, x2⟩ := hF.cell (o + 2) (by omega)
  obtain ⟨z3, x3⟩ := hF.cell (o + 3) (by omega)
  have f0 := hF.free o
  have f1 := hF.free (o + 1)
  have f2 := hF.free (o + 2)
  have f3 := hF.free (o + 3)
  have i0 : decide (0 < n) = true := decide_eq_true (by omega)
  have i1 : decide (1 < n) = true := decide_eq_true (by omega)
  have i2 : decide (2 < n) = true := decide_eq_true (by omega)
  have i3 : decide (3 < n) = true := decide_eq_true (by omega)
  clear hF ho
  go_enter Tryz.func76, Tryz.ntmps76
  go_wp2
  go_end0
  refine ⟨rfl, ?_, grownSet (grownSet (grownSet (grownSet (grownRefl w _) o _) (o + 1) _) (o + 2) _) (o + 3) _⟩
  have h1 := HF.out.push (by rw [HO.out]; omega) (v % 256) o HO.out.symm
  have h2 := h1.push (by rw [List.length_append, HO.out]; simp; omega) (v / 256 % 256) (o + 1) (by rw [List.length_append, HO.out]; rfl)
  have h3 := h2.push (by rw [List.length_append, List.length_append, HO.out]; simp; omega) (v / 65536 % 256) (o + 2) (by rw [List.length_append, List.length_append, HO.out]; rfl)
  have h4 := h3.push (by rw [List.length_append, List.length_append, List.length_append, HO.out]; simp; omega) (v / 16777216 % 256) (o + 3) (by rw [List.length_append, List.length_append, List.length_append, HO.out]; rfl)
  have e : xs ++ [v % 256] ++ [v / 256 % 256] ++ [v / 65536 % 256] ++ [v / 16777216 % 256] = xs ++ lowL 4 v := by simp [lowL, List.range_succ]
  rw [e] at h4
  first
    | exact h4
    | (have e2 : v / 16777216 % 256 = v / 16777216 := by omega
       rw [e2] at h4
       exact h4)
end Go.Proofs.YtoopljlbiifmfaaGreatDoor.Rlb
