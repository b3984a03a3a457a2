import Derived.Test.YtoopljlbiifmfaaDoorBuf
/-! Runs of bytes: writing. -/
namespace Go.Proofs.YtoopljlbiifmfaaDoor.Rlb
open Go.Proofs.YtoopljlbiifmfaaDoor.Buf Go.Proofs.YtoopljlbiifmfaaDoor.Fit Go.Proofs.YtoopljlbiifmfaaDoor.Bit Go.Proofs.YtoopljlbiifmfaaDoor.Wrd Go.Proofs.YtoopljlbiifmfaaDoor.Spl Go.Proofs.YtoopljlbiifmfaaDoor.Str Go.Proofs.YtoopljlbiifmfaaDoor.Flt Go.Proofs.YtoopljlbiifmfaaDoor.Owe Go.Proofs.YtoopljlbiifmfaaDoor.Num Go.Proofs.YtoopljlbiifmfaaDoor.Le Go.Proofs.YtoopljlbiifmfaaDoor.Lst Go.Proofs.YtoopljlbiifmfaaDoor.Aid Go.RowKit Go.Proofs.YtoopljlbiifmfaaDoorW.PrintWords Go.Proofs.YtoopljlbiifmfaaDoorW.PrintLast Go.Proofs.YtoopljlbiifmfaaDoorW.PrintMore
set_option linter.unusedVariables false
set_option linter.unusedSimpArgs false
theorem cutFrom0 {P : Program} (t e : TypeId) {i : TypeInfo} (ht : P.underlying t = some (.slice e)) (hi : P.info? e = some i) (hsz : i.size = 1) (g n C l : Nat) (hln : l ≤ n) (hn : n ≤ C) (hl : l < C) :
    ∀ W : World, (Instr.slice t (.slice (some ⟨g, 0, none⟩) n C) (some (.int .i64 (l : Int))) none none).run P W = .ok (.slice (some ⟨g, l, none⟩) (n - l) (C - l)) W := by
  intro W
  have hel : P.elem t = e := by simp [Program.elem, ht]
  have hu : P.underlying t = some (.slice (P.elem t)) := by rw [hel]; exact ht
  rw [run_slice_l W t (some ⟨g, 0, none⟩) n C hu .i64 l (by omega) (by omega), hel]
  have hne : ¬ C = l := by omega
  by_cases h0 : l = 0
  · subst h0; simp [sizeOf, typeInfo, hi, hsz, sliced, Result.andThen, Addr.add]
  · simp [sizeOf, typeInfo, hi, hsz, sliced, Result.andThen, Addr.add, hne, h0]
set_option maxHeartbeats 4000000 in
set_option maxRecDepth 100000 in
theorem appendRunLengthBytes_calls (w0 : World) (base : Nat) (v : Value) (xs : List Int) (k y : Nat) (w : World) (hO : Own w base 5 .u8 v xs) (hB : Below base w0 w) (hb : base ≤ w.heap.size) (hx : xs.length ≤ 536870912) (hk : k ≤ 16777216) :
    Calls Tryd.prog 92 #[v, .int .i64 k, .int .u8 y] w fun e w' => ∃ v1, e = .returned v1 ∧ Own w' base 5 .u8 v1 (xs ++ (varL (2 * k) ++ [(y : Int)])) ∧ Below base w0 w' := by
  obtain ⟨A0, c0, rfl, hc0, _⟩ := hO.read
  have HB := Aside0.mk hB
  obtain ⟨n, hn⟩ : ∃ n, xs.length = n := ⟨_, rfl⟩
  have HN := Aside0.mk hn
  rw [hn] at hO hc0 hx ⊢
  have HRS := Aside0.mk (resize_calls base _ xs (n + 11) w hO hb (by omega) (by omega) (by omega))
  rw [show ((n + 11 : Nat) : Int) = (n : Int) + 10 + 1 by omega] at HRS
  have HPU : Aside0 (∀ (W : World) (g M : Nat), Front W g M 5 .u8 xs → n + 11 ≤ M → Calls Tryd.prog 119 #[.slice (some ⟨g, n, none⟩) 11 (M - n), .int .u64 ((k : Int) * 2)] W fun e w' => e = .returned (.int .i64 ((varL (2 * k)).length : Int)) ∧ Front w' g M 5 .u8 (xs ++ varL (2 * k)) ∧ W.grownBy w' (some g)) := ⟨fun W g M hf hM => by
    have := putUvarint_calls g M 5 (n + 11 - n) (M - n) xs (2 * k) W hf (by omega) (by have := varL_len5 (2 * k) (by omega); omega) (by omega)
    rw [hn, show n + 11 - n = 11 by omega, show ((2 * k : Nat) : Int) = (k : Int) * 2 by omega] at this
    exact this⟩
  have hL5 := varL_len5 (2 * k) (by omega)
  have hL0 := varL_pos (2 * k)
  obtain ⟨L, hL⟩ : ∃ L, (varL (2 * k)).length = L := ⟨_, rfl⟩
  rw [hL] at hL5 hL0
  have HL := Aside0.mk hL
  obtain ⟨i8, h8⟩ := h8
  clear hO hB hL hn
  go_enter Tryd.func92, Tryd.ntmps92
  go_wp2_with (first
    | (go_at_call 83; (with_reducible refine HRS.out.mono ?_); rintro e w2 ⟨g, M, rfl, hf, h1, h2, h3, h4, hb2⟩; have HF2 := Aside0.mk hf; have HB2 := Aside0.mk hb2; have cut1 := cutFrom0 (P := Tryd.prog) 25 5 Tryd.underlying25 h8.1 h8.2 g (n + 11) M n (by omega) h1 (by omega); clear hf hb2)
    | (go_at_call 119; (with_reducible refine (HPU.out w2 g M HF2.out h1).mono ?_); rintro e w3 ⟨rfl, hf, hg⟩; rw [HL.out]; have HF3 := Aside0.mk hf; have HG3 := Aside0.mk hg; obtain ⟨z, rc⟩ := hf.cell (n + L) (by omega); have rf := hf.free (n + L); have qi : ((n : Int) + (L : Int)).toNat = n + L := (by omega); have qb : (n : Int) + (L : Int) < (n : Int) + 11 := (by omega); have cut2 := cutAtMid0 (P := Tryd.prog) 25 5 Tryd.underlying25 h8.1 h8.2 g (n + 11) M (n + L + 1) (by omega); clear hf hg))
  go_ret
  refine ⟨_, rfl, ?_, ?_⟩
  · have h := (HF3.out.push (by rw [List.length_append, HN.out, HL.out]; omega) (y : Int) (n + L) (by rw [List.length_append, HN.out, HL.out])).toOwn (base := base) h3 h2
    rw [List.length_append, List.length_append, HN.out, HL.out, List.append_assoc] at h
    exact h
  · exact ((HB.out.trans (HB2.out.mono hb)).grown (grownSet HG3.out _ _) (by have := HB2.out.size; omega) (fun j hj => by injection hj with hj; omega))
/-! ### words into buffers -/
set_option maxHeartbeats 4000000 in
theorem put32F_calls (g C t n c : Nat) (xs : List Int) (v : Int) (w : World) (hF : Front w g C t .u8 xs) (hn : 4 ≤ n) (hC : xs.length + 4 ≤ C) (hv0 : 0 ≤ v) (hv1 : v < 4294967296) :
    Calls Tryd.prog 126 #[.slice (some ⟨g, xs.length, none⟩) n c, .int .u32 v] w fun e w' => e = .returned (.tuple #[]) ∧ Front w' g C t .u8 (xs ++ lowL 4 v) ∧ w.grownBy w' (some g) := by
  have HF := Aside0.mk hF
  obtain ⟨o, ho⟩ : ∃ o, xs.length = o := ⟨_, rfl⟩
  have HO := Aside0.mk ho
  rw [ho] at hC ⊢
  obtain ⟨z0, x0⟩ := hF.cell o (by omega)
  obtain ⟨z1, x1⟩ := hF.cell (o + 1) (by omega)
  obtain ⟨z2, x2⟩ := hF.cell (o + 2) (by omega)
  obtain ⟨z3, x3⟩ := hF.cell (o + 3) (by omega)
  have f0 := hF.free o
  have f1 := hF.free (o + 1)
  have f2 := hF.free (o + 2)
  have f3 := hF.free (o + 3)
  have i0 : decide (0 < n) = true := decide_eq_true (by omega)
  have i1 : decide (1 < n) = true := decide_eq_true (by omega)
  have i2 : decide (2 < n) = true := decide_eq_true (by omega)
  have i3 : decide (3 < n) = true := decide_eq_true (by omega)
  clear hF ho
  go_enter Tryd.func126, Tryd.ntmps126
  go_wp2
  go_end0
  refine ⟨rfl, ?_, grownSet (grownSet (grownSet (grownSet (grownRefl w _) o _) (o + 1) _) (o + 2) _) (o + 3) _⟩
  have h1 := HF.out.push (by rw [HO.out]; omega) (v % 256) o HO.out.symm
  have h2 := h1.push (by rw [List.length_append, HO.out]; simp; omega) (v / 256 % 256) (o + 1) (by rw [List.length_append, HO.out]; rfl)
  have h3 := h2.push (by rw [List.length_append, List.length_append, HO.out]; simp; omega) (v / 65536 % 256) (o + 2) (by rw [List.length_append, List.length_append, HO.out]; rfl)
  have h4 := h3.push (by rw [List.length_append, List.length_append, List.length_append, HO.out]; simp; omega) (v / 16777216 % 256) (o + 3) (by rw [List.length_append, List.length_append, List.length_append, HO.out]; rfl)
  have e : xs ++ [v % 256] ++ [v / 256 % 256] ++ [v / 65536 % 256] ++ [v / 16777216 % 256] = xs ++ lowL 4 v := by simp [lowL, List.range_succ]
  rw [e] at h4
  first
    | exact h4
    | (have e2 : v / 16777216 % 256 = v / 16777216 := by omega
       rw [e2] at h4
       exact h4)
theorem lowL_4_4 (v : Int) : lowL 4 (v % 4294967296) ++ lowL 4 (v / 4294967296) = lowL 8 v := by
  simp [lowL, List.range_succ]
  omega
set_option maxHeartbeats 4000000 in
theorem put64F_calls (g C t n c : Nat) (xs : List Int) (v : Int) (w : World) (hF : Front w g C t .u8 xs) (hn : 8 ≤ n) (hC : xs.length + 8 ≤ C) (hc : 8 ≤ c) (hnc : n ≤ c) (hv0 : 0 ≤ v) (hv1 : v < 18446744073709551616) :
    Calls Tryd.prog 143 #[.slice (some ⟨g, xs.length, none⟩) n c, .int .u64 v] w fun e w' => e = .returned (.tuple #[]) ∧ Front w' g C t .u8 (xs ++ lowL 8 v) ∧ w.grownBy w' (some g) := by
  have HF := Aside0.mk hF
  have F1 := Aside0.mk (put32F_calls g C t n c xs (v % 4294967296) w hF (by omega) (by omega) (by omega) (by omega))
  have F2 : Aside0 (∀ W, Front W g C t .u8 (xs ++ lowL 4 (v % 4294967296)) → Calls Tryd.prog 126 #[.slice (some ⟨g, xs.length + 4, none⟩) (n - 4) (c - 4), .int .u32 (v / 4294967296)] W fun e w' => e = .returned (.tuple #[]) ∧ Front w' g C t .u8 (xs ++ lowL 8 v) ∧ W.grownBy w' (some g)) := ⟨fun W hW => by
    have := put32F_calls g C t (n - 4) (c - 4) (xs ++ lowL 4 (v % 4294967296)) (v / 4294967296) W hW (by omega) (by rw [List.length_append, lowL_length]; omega) (by omega) (by omega)
    rw [List.length_append, lowL_length, List.append_assoc, lowL_4_4] at this
    exact this⟩
  obtain ⟨o, ho⟩ : ∃ o, xs.length = o := ⟨_, rfl⟩
  rw [ho] at hC F1 F2 ⊢
  obtain ⟨z7, x7⟩ := hF.cell (o + 7) (by omega)
  have i7 : decide (7 < n) = true := decide_eq_true (by omega)
  obtain ⟨i8, h8⟩ := h8
  clear hF ho
  go_enter Tryd.func143, Tryd.ntmps143
  go_wp2_with (go_at_call 126; (first
    | ((with_reducible refine F1.out.mono ?_); rintro e w2 ⟨rfl, hf, hg⟩; have HF2 := Aside0.mk hf; have HG2 := Aside0.mk hg; clear hf hg)
    | ((with_reducible refine (F2.out _ HF2.out).mono ?_); rintro e w3 ⟨rfl, hf, hg⟩; have HF3 := Aside0.mk hf; have HG3 := Aside0.mk hg; clear hf hg)))
  go_end0
  exact ⟨rfl, HF3.out, HG2.out.trans HG3.out⟩
end Go.Proofs.YtoopljlbiifmfaaDoor.Rlb
