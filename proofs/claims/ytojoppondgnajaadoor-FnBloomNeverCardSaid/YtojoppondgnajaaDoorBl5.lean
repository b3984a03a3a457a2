import Derived.Test.YtojoppondgnajaaDoorBl4
namespace Go.Proofs.YtojoppondgnajaaDoor.Bl
open Go.Proofs.YtojoppondgnajaaDoor.Aid Go.RowKit Go.Proofs.YtojoppondgnajaaDoorW.PrintWords Go.Proofs.YtojoppondgnajaaDoorW.PrintLast Go.Proofs.YtojoppondgnajaaDoorW.PrintMore
set_option linter.unusedVariables false
set_option linter.unusedSimpArgs false

theorem cutAt {P : Program} (t e : TypeId) {i : TypeInfo} (ht : P.underlying t = some (.slice e)) (hi : P.info? e = some i) (hsz : i.size = 1) (g n c : Nat) (kl : IntKind) (lo : Int) (l : Nat) (hlo : lo = l) (h1 : l ≤ n) (hc : n ≤ c) (hl : l < c) :
    ∀ W : World, (Instr.slice t (.slice (some ⟨g, 0, none⟩) n c) (some (.int kl lo)) none none).run P W = .ok (.slice (some ⟨g, l, none⟩) (n - l) (c - l)) W := by
  intro W
  subst hlo
  have := cut_from t e kl ht hi 1 hsz (some ⟨g, 0, none⟩) n c l (by omega) (by omega) W
  have hne : ¬ c = l := by omega
  by_cases h0 : l = 0
  · subst h0; simpa [hne, Addr.add] using this
  · simpa [hne, Addr.add, h0] using this
/-! ### the bytes of a block -/
/-- 32 bytes, the first k words of which are laid -/
def bB (ws : List Int) (o : Nat) : Nat → List Int
  | 0 => List.replicate 32 0
  | k + 1 => put4 (bB ws o k) (4 * k) (rd ws (o + k : Nat))
theorem bB_length (ws : List Int) (o k : Nat) : (bB ws o k).length = 32 := by
  induction k with
  | zero => simp [bB]
  | succ k ih => simp [bB, put4_length, ih]
set_option maxHeartbeats 4000000 in
theorem bytes1_calls (g o : Nat) (ws : List Int) (w : World) (hR : Row w g 43 .u32 ws) (ho : o + 8 ≤ ws.length) (hu : u32L ws) :
    Calls Tryd.prog 24 #[.pointer (some ⟨g, o, none⟩)] w fun e w' => e = .returned (.slice (some ⟨w.heap.size, 0, none⟩) 32 32) ∧ Row w' w.heap.size 5 .u8 (bB ws o 8) ∧ Below w.heap.size w w' := by
  have HU := Aside0.mk hu
  have HG := Aside0.mk hR.lt
  have HR := Aside0.mk hR
  obtain ⟨i0, hi0⟩ := Option.isSome_iff_exists.1 i5.1
  have hsz := i5.2 i0 hi0
  have hmk : ∀ W : World, (Instr.makeSlice 22 (.int .i64 32) (.int .i64 32)).run Tryd.prog W = .ok (.slice (some ⟨W.heap.size, 0, none⟩) 32 32) (W.alloc (.cells (madeCells #[.int .u8 0] 32) 5)) := print_make (P := Tryd.prog) 22 5 .u8 1 Tryd.underlying22 info5 (by decide) 32 (by omega)
  clear hR hu
  go_enter Tryd.func24, Tryd.ntmps24
  go_wp2_with (fail)
  have HM : Aside0 (Row (w.alloc (.cells (madeCells #[.int .u8 0] 32) 5)) w.heap.size 5 .u8 (bB ws o 0)) := ⟨madeRow w 5 .u8 32⟩
  have HR1 : Aside0 (Row (w.alloc (.cells (madeCells #[.int .u8 0] 32) 5)) g 43 .u32 ws) := ⟨HR.out.alloc _⟩
  have HB : Aside0 (Below w.heap.size w (w.alloc (.cells (madeCells #[.int .u8 0] 32) 5))) := ⟨(Below.refl _ _).alloc (Nat.le_refl _) _⟩
  generalize w.alloc (.cells (madeCells #[.int .u8 0] 32) 5) = wm at *
  clear HR
  have HGN : Aside0 (g ≠ w.heap.size) := ⟨by have := HG.out; omega⟩
  go_loopg [4, 5, 8] 8 (fun kq v4 v5 v8 w' => ∃ k : Nat, k ≤ 8 ∧ v8 = .int .i64 k ∧ Aside0 (Row w' w.heap.size 5 .u8 (bB ws o k)) ∧ Aside0 (Row w' g 43 .u32 ws) ∧ Aside0 (Below w.heap.size w w') ∧ Aside0 (8 - k ≤ kq))
  case atStart => exact ⟨0, by omega, rfl, HM, HR1, HB, ⟨by omega⟩⟩
  case round =>
    clear HM HR1 HB
    obtain ⟨k, hk, rfl, HM, HR1, HB, HK⟩ := hrel
    by_cases ck : k < 8
    · have ckb : decide ((k : Int) < 8) = true := decide_eq_true (by omega)
      have ok := HR1.out.cell (j := o + k) (by omega)
      have uk := u32L_rd HU.out (i := o + k) (by omega)
      obtain ⟨y, hy⟩ : ∃ y, rd ws (o + k : Nat) = y := ⟨_, rfl⟩
      rw [hy] at ok uk
      have HY := Aside0.mk hy
      have uk0 : 0 ≤ y := uk.1
      have uk1 : y < 4294967296 := uk.2
      clear hy uk
      have cut1 := cutAt (P := Tryd.prog) 22 5 Tryd.underlying22 hi0 hsz w.heap.size 32 32 .i64 (4 * (k : Int)) (4 * k) (by omega) (by omega) (by omega) (by omega)
      go_wp2_with (first | go_quiet (fail) | (go_at_call 30; (with_reducible refine (PFnBloomInsert.pqbloom_lePutUint32.calls w.heap.size (4 * k) (32 - 4 * k) (32 - 4 * k) 5 (bB ws o k) y (wr.drewN nq) (HM.out.drewN nq) (by omega) (by rw [bB_length]; omega) uk0 uk1).mono ?_); rintro e w2 ⟨rfl, hg, hrow⟩; have HG2 := Aside0.mk hg; have HM2 := Aside0.mk hrow; clear hg hrow))
      go_roundg (gk - 1)
      case measure => have := HK.out; omega
      case rel =>
        refine ⟨k + 1, by omega, by go_num, ⟨?_⟩, ⟨(HR1.out.drewN nq).grown HG2.out (by have := HGN.out; simpa using this)⟩, ⟨belowGrown (HB.out.trans ((drewN_below wr nq).mono HB.out.size)) HG2.out (Nat.le_refl _)⟩, ⟨by have := HK.out; omega⟩⟩
        have := HM2.out
        rw [← HY.out] at this
        exact this
    · obtain rfl : k = 8 := by omega
      have ckb : decide (((8 : Nat) : Int) < 8) = false := by decide
      go_wp2_with (fail)
      go_ret
      exact ⟨rfl, HM.out, HB.out⟩

/-! ### the bytes of all blocks -/
theorem rowC {w : World} {g n : Nat} {t : TypeId} {k : IntKind} {xs : List Int} (h : Row w g t k xs) (hn : xs.length = n) (hm : n ≤ 9223372036854775807) : (Kd.int k).C w (some ⟨g, 0, none⟩) n xs := by
  subst hn
  refine ⟨rfl, hm, fun _ => ⟨_, rfl, fun j p hj => ⟨[.int k p], rfl, rfl, fun i u hu => ?_⟩⟩⟩
  have hjl : j < xs.length := (List.getElem?_eq_some_iff.1 hj).1
  have hi : i = 0 := by
    have := (List.getElem?_eq_some_iff.1 hu).1
    simp at this; exact this
  subst hi
  have hu' : Value.int k p = u := by simpa using hu
  subst hu'
  have := h.cell hjl
  have e : rd xs j = p := by simp [rd, List.getD_eq_getElem?_getD, hj]
  rw [e] at this
  show w.cell? ((⟨g, 0, none⟩ : Addr).add (j * 1 + 0)) = _
  by_cases h0 : j = 0
  · subst h0; simpa [Addr.add] using this
  · simpa [Addr.add, h0] using this
def bbs (ws : List Int) : Nat → List Int
  | 0 => []
  | k + 1 => bbs ws k ++ bB ws (k * 8) 8
theorem bbs_length (ws : List Int) (k : Nat) : (bbs ws k).length = 32 * k := by
  induction k with
  | zero => rfl
  | succ k ih => simp [bbs, ih, bB_length]; omega
set_option maxHeartbeats 4000000 in
theorem bytes_calls (g n c : Nat) (ws : List Int) (w : World) (hR : Row w g 43 .u32 ws) (hl : n * 8 = ws.length) (hn : n < 65536) (hu : u32L ws) :
    Calls Tryd.prog 18 #[.slice (some ⟨g, 0, none⟩) n c] w fun e w' => ∃ v, e = .returned v ∧ Own w' w.heap.size 5 .u8 v (bbs ws n) ∧ Below w.heap.size w w' := by
  have HU := Aside0.mk hu
  have HG := Aside0.mk hR.lt
  have HR := Aside0.mk hR
  clear hR hu
  go_enter Tryd.func18, Tryd.ntmps18
  go_wp2_with (fail)
  go_loopg [3, 4, 7] n (fun kq v3 v4 v7 w' => ∃ k : Nat, k ≤ n ∧ v7 = .int .i64 k ∧ Aside0 (Own w' w.heap.size 5 .u8 v3 (bbs ws k)) ∧ Aside0 (Below w.heap.size w w') ∧ Aside0 (n - k ≤ kq))
  case atStart => exact ⟨0, by omega, rfl, ⟨Own.nil _ _ _ _⟩, ⟨Below.refl _ _⟩, ⟨by omega⟩⟩
  case round =>
    obtain ⟨k, hk, rfl, HO, HB, HK⟩ := hrel
    by_cases ck : k < n
    · have ckb : decide ((k : Int) < n) = true := decide_eq_true (by omega)
      have HR1 : Aside0 (Row wr g 43 .u32 ws) := ⟨HR.out.below HB.out HG.out⟩
      have HC := Aside0.mk (bytes1_calls g (k * 8) ws wr HR1.out (by omega) HU.out)
      go_wp2_with (first
        | (go_at_call 24; (with_reducible refine HC.out.mono ?_); rintro e w2 ⟨rfl, hrow, hb⟩; have HM2 := Aside0.mk hrow; have HB2 := Aside0.mk hb; clear hb hrow)
        | (at_builtin; refine appendRead (w0 := w) w.heap.size rfl (.tmp 10) (.tmp 14) 22 5 .u8 1 rfl Tryd.underlying22 info5 (by decide) u3 (bbs ws k) (some ⟨wr.heap.size, 0, none⟩) 32 32 (bB ws (k * 8) 8) rfl rfl ?ho ?hbb ?hb ?hc ?hl ?_; (case ho => exact HO.out.below HB2.out); (case hbb => exact HB.out.trans (HB2.out.mono HB.out.size)); (case hb => exact Nat.le_trans HB.out.size HB2.out.size); (case hc => exact rowC HM2.out (bB_length _ _ _) (by omega)); (case hl => rw [bbs_length]; omega); intro v1 w1 ho hb hg; have HO1 := Aside0.mk ho; have HB1 := Aside0.mk hb; clear ho hb hg))
      go_roundg (gk - 1)
      case measure => have := HK.out; omega
      case rel => exact ⟨k + 1, by omega, by go_num, HO1, HB1, ⟨by have := HK.out; omega⟩⟩
    · obtain rfl : k = n := by omega
      have ckb : decide ((k : Int) < k) = false := decide_eq_false (by omega)
      go_wp2_with (fail)
      go_ret
      exact ⟨_, rfl, HO.out, HB.out⟩
end Go.Proofs.YtojoppondgnajaaDoor.Bl
