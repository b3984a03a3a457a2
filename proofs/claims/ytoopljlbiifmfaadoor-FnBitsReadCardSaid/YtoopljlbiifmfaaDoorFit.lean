import Derived.Test.YtoopljlbiifmfaaDoorBit
/-! Walks: widths, numbers of so many bits. -/
namespace Go.Proofs.YtoopljlbiifmfaaDoor.Fit
open Go.Proofs.YtoopljlbiifmfaaDoor.Bit Go.Proofs.YtoopljlbiifmfaaDoor.Wrd Go.Proofs.YtoopljlbiifmfaaDoor.Spl Go.Proofs.YtoopljlbiifmfaaDoor.Str Go.Proofs.YtoopljlbiifmfaaDoor.Flt Go.Proofs.YtoopljlbiifmfaaDoor.Owe Go.Proofs.YtoopljlbiifmfaaDoor.Num Go.Proofs.YtoopljlbiifmfaaDoor.Le Go.Proofs.YtoopljlbiifmfaaDoor.Lst Go.Proofs.YtoopljlbiifmfaaDoor.Aid Go.RowKit Go.Proofs.YtoopljlbiifmfaaDoorW.PrintWords Go.Proofs.YtoopljlbiifmfaaDoorW.PrintLast Go.Proofs.YtoopljlbiifmfaaDoorW.PrintMore
set_option linter.unusedVariables false
set_option linter.unusedSimpArgs false
set_option maxHeartbeats 4000000 in
theorem wide_byte_calls (A : Option Addr) (n c : Nat) (l : List Int) (w : World) (hC : (Kd.int .u8).C w A n l) (hc : n ≤ c) (hn : n ≤ 2147483647) (hwf : ∀ x ∈ l, (Lit.int .u8 x).wf = true) :
    Calls Tryd.prog 25 #[.int .i64 64, .slice A n c] w fun e w' => ∃ v, e = .returned v ∧ Own w' w.heap.size 32 .u64 v (wideL 64 l) ∧ Below w.heap.size w w' := by
  have HLN : Aside0 (l.length = n) := ⟨hC.1⟩
  have HC := Aside0.mk hC
  have HWF := Aside0.mk hwf
  have hmk := print_make (P := Tryd.prog) 27 32 .u64 8 Tryd.underlying27 infoU64 (by decide) n (by omega)
  clear hC hwf
  go_enter Tryd.func25, Tryd.ntmps25
  go_wp2_with (fail)
  have HR : Aside0 (Row (w.alloc (.cells (madeCells #[.int .u64 0] n) 32)) w.heap.size 32 .u64 (partI (fun i : Nat => wideI 64 (rd l (i : Nat))) n 0)) := ⟨by rw [partI_zero]; exact madeRow w 32 .u64 n⟩
  have HB : Aside0 (Below w.heap.size w (w.alloc (.cells (madeCells #[.int .u64 0] n) 32))) := ⟨(Below.refl _ _).alloc (Nat.le_refl _) _⟩
  generalize w.alloc (.cells (madeCells #[.int .u64 0] n) 32) = wm at *
  go_loopg [6, 7, 13] n (fun kq v6 v7 v13 w' => ∃ (j : Nat), j ≤ n ∧ v13 = .int .i64 j ∧ Aside0 (Row w' w.heap.size 32 .u64 (partI (fun i : Nat => wideI 64 (rd l (i : Nat))) n j)) ∧ Aside0 (Below w.heap.size w w') ∧ Aside0 (n - j ≤ kq))
  case atStart => exact ⟨0, by omega, rfl, HR, HB, ⟨by omega⟩⟩
  case round =>
    clear HR HB
    obtain ⟨j, hj, rfl, HR, HB, HK⟩ := hrel
    by_cases cj : j < n
    · have cjb : decide ((j : Int) < n) = true := decide_eq_true (by omega)
      obtain ⟨ad, ead, hcell⟩ := Kd.at_int (Kd.C_below HC.out HB.out) (j : Int) (by omega) (by omega)
      rw [Int.toNat_natCast] at hcell
      obtain ⟨y, hy⟩ : ∃ y, rd l (j : Int) = y := ⟨_, rfl⟩
      rw [hy] at hcell
      have hyw := HWF.out y (by rw [← hy]; exact rd_mem (by rw [HLN.out]; exact cj))
      have hyb := wf_bd hyw
      have e1 : IntKind.u8.min = 0 := by decide +kernel
      have e2 : IntKind.u8.max = 255 := by decide +kernel
      rw [e1, e2] at hyb
      obtain ⟨hy0, hy1⟩ := hyb
      have HY := Aside0.mk hy
      have rc := HR.out.cell (j := j) (by rw [partI_length]; exact cj)
      have rf := HR.out.free j
      rw [rd_partI _ _ _ _ cj, if_neg (by omega)] at rc
      clear hy hyw e1 e2
      subst ead
      have HV : Aside0 (wideI 64 (rd l (j : Nat)) = y) := ⟨by rw [HY.out]; show y % 2 ^ 64 = y; omega⟩
      go_wp2_with (fail)
      go_roundg (gk - 1)
      case measure => have := HK.out; omega
      case rel =>
        refine ⟨j + 1, by omega, by go_num, ⟨?_⟩, ⟨Below.setCell (p := ⟨w.heap.size, j, none⟩) HB.out (Nat.le_refl _) _⟩, ⟨by have := HK.out; omega⟩⟩
        have := HR.out.set j y
        rw [← HV.out] at this
        rw [← HV.out]
        have e := partI_set (fun i : Nat => wideI 64 (rd l (i : Nat))) n j
        rw [e] at this
        exact this
    · obtain rfl : j = n := by omega
      have cjb : decide ((j : Int) < j) = false := decide_eq_false (by omega)
      go_wp2_with (fail)
      go_ret
      have := HR.out.toOwn (base := w.heap.size) (n := j) (Nat.le_refl _) (by rw [partI_length]; omega) (by rw [partI_length]; omega)
      rw [partI_length, partI_full, map_range_rd (wideI 64) l j HLN.out, List.take_of_length_le (by rw [List.length_map, HLN.out]; omega)] at this
      exact ⟨_, rfl, this, HB.out⟩
theorem mask_bd (a : Int) : 0 ≤ Go.bits .and .i64 a 65535 ∧ Go.bits .and .i64 a 65535 ≤ 65535 := by
  have h : Go.bits .and .i64 a 65535 = IntKind.i64.wrap (((BitVec.ofInt 64 a &&& BitVec.ofInt 64 65535).toNat : Nat) : Int) := rfl
  have h2 : (BitVec.ofInt 64 a &&& BitVec.ofInt 64 65535).toNat ≤ 65535 := by
    rw [BitVec.toNat_and]
    exact Nat.and_le_right
  rw [h, IntWalk.i64_in _ (by omega)]
  omega
def widthI (x : Int) (m : Int) : Int := 1 + Go.bits .and .i64 x 65535 % m
theorem widthI_bd (x m : Int) (h : 0 < m) : 1 ≤ widthI x m ∧ widthI x m ≤ m := by
  have := Int.emod_nonneg (Go.bits .and .i64 x 65535) (show m ≠ 0 by omega)
  have := Int.emod_lt_of_pos (Go.bits .and .i64 x 65535) h
  unfold widthI; omega
set_option maxHeartbeats 4000000 in
theorem enWidth_calls (x m : Int) (h0 : 0 < m) (h1 : m ≤ 1000) (w : World) :
    Calls Tryd.prog 20 #[.int .i64 x, .int .i64 m] w fun e w' => e = .returned (.int .i64 (widthI x m)) ∧ w = w' := by
  obtain ⟨y, hy⟩ : ∃ y, Go.bits .and .i64 x 65535 = y := ⟨_, rfl⟩
  have HB := mask_bd x
  rw [hy] at HB
  obtain ⟨hy0, hy1⟩ := HB
  have HY := Aside0.mk hy
  have q3 : (m == 0) = false := by simpa using (show m ≠ 0 by omega)
  have q4 : ¬ m = 0 := by omega
  have b0 := Int.emod_nonneg y (show m ≠ 0 by omega)
  have b1 := Int.emod_lt_of_pos y h0
  have hrt : y.tmod m = y % m := Int.tmod_eq_emod_of_nonneg hy0
  obtain ⟨r, hr⟩ : ∃ r, y % m = r := ⟨_, rfl⟩
  rw [hr] at b0 b1 hrt
  have HR := Aside0.mk hr
  go_enter Tryd.func20, Tryd.ntmps20
  go_wp2_with (fail)
  go_ret
  refine ⟨?_, rfl⟩
  unfold widthI
  rw [HY.out, HR.out]
  rfl
theorem Own.lower {w : World} {base base' t : Nat} {k : IntKind} {v : Value} {xs : List Int} (h : Own w base t k v xs) (hb : base' ≤ base) : Own w base' t k v xs := by
  obtain ⟨h1, h2 | ⟨g, c, cur, e, hg, r⟩⟩ := h.out
  · exact ⟨⟨h1, .inl h2⟩⟩
  · exact ⟨⟨h1, .inr ⟨g, c, cur, e, Nat.le_trans hb hg, r⟩⟩⟩
def fitL (w : Nat) (l : List Int) : Prop := ∀ x ∈ l, 0 ≤ x ∧ x < 2 ^ w
instance (w : Nat) (l : List Int) : Decidable (fitL w l) := by unfold fitL; infer_instance
def fitB (w : Nat) (l : List Int) : Bool := decide (fitL w l ∧ l.length ≤ 100000)
set_option maxHeartbeats 4000000 in
theorem fitsIn_calls (w : Nat) (x : Int) (W : World) (hw : w < 64) (h0 : 0 ≤ x) (h1 : x < 18446744073709551616) :
    Calls Tryd.prog 35 #[.int .i64 w, .int .u64 x] W fun e w' => e = .returned (.bool (decide (x < 2 ^ w))) ∧ W = w' := by
  obtain ⟨y, rfl⟩ : ∃ y : Nat, x = (y : Int) := ⟨x.toNat, by omega⟩
  have qd : decide (64 ≤ (w : Int)) = false := decide_eq_false (by omega)
  have qd2 : decide (64 ≤ w) = false := decide_eq_false (by omega)
  have HR : Aside0 ((((y : Int) / 2 ^ w) == 0) = decide ((y : Int) < 2 ^ w)) := ⟨by
    have hp : (0 : Int) < 2 ^ w := by exact_mod_cast Nat.two_pow_pos w
    by_cases c : (y : Int) < 2 ^ w
    · rw [decide_eq_true c, Int.ediv_eq_zero_of_lt (by omega) c]; rfl
    · rw [decide_eq_false c, beq_eq_false_iff_ne]
      intro h
      have := Int.lt_mul_ediv_self_add (x := (y : Int)) hp
      rw [h] at this
      simp at this
      exact c this⟩
  go_enter Tryd.func35, Tryd.ntmps35
  go_wp2_with (fail)
  go_ret
  exact ⟨by rw [← HR.out]; rfl, rfl⟩
set_option maxHeartbeats 4000000 in
theorem allFit_calls (w : Nat) (A : Option Addr) (n c : Nat) (l : List Int) (W : World) (hC : (Kd.int .u64).C W A n l) (hc : n ≤ c) (hn : n ≤ 2147483647) (hw : w < 64) (hu : u64L l) :
    Calls Tryd.prog 24 #[.int .i64 w, .slice A n c] W fun e w' => e = .returned (.bool (fitB w l)) ∧ W = w' := by
  have HLN : Aside0 (l.length = n) := ⟨hC.1⟩
  have HC := Aside0.mk hC
  have HU := Aside0.mk hu
  clear hC hu
  go_enter Tryd.func24, Tryd.ntmps24
  go_wp2_with (fail)
  go_loopg [6, 9] n (fun kq v6 v9 w' => ∃ (j : Nat), j ≤ n ∧ v9 = .int .i64 j ∧ Aside0 (∀ i : Nat, i < j → rd l (i : Nat) < 2 ^ w) ∧ W = w' ∧ Aside0 (n - j ≤ kq))
  case atStart => exact ⟨0, by omega, rfl, ⟨fun i h => by omega⟩, rfl, ⟨by omega⟩⟩
  case round =>
    obtain ⟨j, hj, rfl, HF, rfl, HK⟩ := hrel
    by_cases cj : j < n
    · have cjb : decide ((j : Int) < n) = true := decide_eq_true (by omega)
      obtain ⟨ad, ead, hcell⟩ := Kd.at_int HC.out (j : Int) (by omega) (by omega)
      rw [Int.toNat_natCast] at hcell
      have hb := HU.out _ (rd_mem (l := l) (i := j) (by rw [HLN.out]; exact cj))
      have hm := rd_mem (l := l) (i := j) (by rw [HLN.out]; exact cj)
      obtain ⟨y, hy⟩ : ∃ y, rd l (j : Int) = y := ⟨_, rfl⟩
      rw [hy] at hcell hb hm
      have HM := Aside0.mk hm
      have HY := Aside0.mk hy
      have hF := Aside0.mk (fitsIn_calls w y W hw hb.1 hb.2)
      subst ead
      clear hy hb hm
      by_cases cf : y < 2 ^ w
      · rw [decide_eq_true cf] at hF
        have HCF := Aside0.mk cf
        clear cf
        go_wp2_with (first
          | (go_at_call 35; (with_reducible refine hF.out.mono ?_); rintro e w1 ⟨rfl, rfl⟩))
        go_roundg (gk - 1)
        case measure => have := HK.out; omega
        case rel =>
          refine ⟨j + 1, by omega, by go_num, ⟨fun i hi => ?_⟩, rfl, ⟨by have := HK.out; omega⟩⟩
          by_cases h : i < j
          · exact HF.out i h
          · obtain rfl : i = j := by omega
            rw [HY.out]; exact HCF.out
      · rw [decide_eq_false cf] at hF
        have HCF := Aside0.mk cf
        clear cf
        go_wp2_with (first
          | (go_at_call 35; (with_reducible refine hF.out.mono ?_); rintro e w1 ⟨rfl, rfl⟩))
        go_ret
        refine ⟨?_, rfl⟩
        have : fitB w l = false := decide_eq_false fun h => absurd (h.1 y HM.out).2 (by have := HCF.out; omega)
        rw [this]; rfl
    · obtain rfl : j = n := by omega
      have cjb : decide ((j : Int) < j) = false := decide_eq_false (by omega)
      have HR : Aside0 (fitB w l = decide ((j : Int) ≤ 100000)) := ⟨by
        have hf : fitL w l := fun x hx => by
          obtain ⟨i, hi, rfl⟩ := List.getElem_of_mem hx
          have h1 := HF.out i (by rw [← HLN.out]; exact hi)
          rw [rd_nat _ _ hi] at h1
          exact ⟨(HU.out _ hx).1, h1⟩
        unfold fitB
        rw [HLN.out]
        by_cases c : j ≤ 100000
        · rw [decide_eq_true ⟨hf, c⟩, decide_eq_true (by omega)]
        · rw [decide_eq_false (fun h => c h.2), decide_eq_false (by omega)]⟩
      go_wp2_with (fail)
      go_ret
      exact ⟨by rw [HR.out]; rfl, rfl⟩
theorem wide64_bytes {l : List Int} (h : ∀ x ∈ l, (Lit.int .u8 x).wf = true) : wideL 64 l = l := by
  unfold wideL
  conv => rhs; rw [← List.map_id l]
  apply List.map_congr_left
  intro x hx
  have := h x hx
  simp [Lit.wf, IntKind.min, IntKind.max, IntKind.signed, IntKind.bits] at this
  simp only [wideI, id]; omega
end Go.Proofs.YtoopljlbiifmfaaDoor.Fit
