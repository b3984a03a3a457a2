import Derived.Test.YtigmcdpjlkgocaaDoorBit
/-! Walks: widths, numbers of so many bits. -/
namespace Go.Proofs.YtigmcdpjlkgocaaDoor.Fit
open Go.Proofs.YtigmcdpjlkgocaaDoor.Bit Go.Proofs.YtigmcdpjlkgocaaDoor.Wrd Go.Proofs.YtigmcdpjlkgocaaDoor.Spl Go.Proofs.YtigmcdpjlkgocaaDoor.Str Go.Proofs.YtigmcdpjlkgocaaDoor.Flt Go.Proofs.YtigmcdpjlkgocaaDoor.Owe Go.Proofs.YtigmcdpjlkgocaaDoor.Num Go.Proofs.YtigmcdpjlkgocaaDoor.Le Go.Proofs.YtigmcdpjlkgocaaDoor.Lst Go.Proofs.YtigmcdpjlkgocaaDoor.Aid Go.RowKit Go.Proofs.YtigmcdpjlkgocaaDoorW.PrintWords Go.Proofs.YtigmcdpjlkgocaaDoorW.PrintLast Go.Proofs.YtigmcdpjlkgocaaDoorW.PrintMore
set_option linter.unusedVariables false
set_option linter.unusedSimpArgs false
theorem mask_bd (a : Int) : 0 ≤ Go.bits .and .i64 a 65535 ∧ Go.bits .and .i64 a 65535 ≤ 65535 := by
  have h : Go.bits .and .i64 a 65535 = IntKind.i64.wrap (((BitVec.ofInt 64 a &&& BitVec.ofInt 64 65535).toNat : Nat) : Int) := rfl
  have h2 : (BitVec.ofInt 64 a &&& BitVec.ofInt 64 65535).toNat ≤ 65535 := by
    rw [BitVec.toNat_and]
    exact Nat.and_le_right
  rw [h, IntWalk.i64_in _ (by omega)]
  omega
def widthI (x : Int) (m : Int) : Int := 1 + Go.bits .and .i64 x 65535 % m
theorem widthI_bd (x m : Int) (h : 0 < m) : 1 ≤ widthI x m ∧ widthI x m ≤ m := by
  have := Int.emod_nonneg (Go.bits .and .i64 x 65535) (show m ≠ 0 by omega)
  have := Int.emod_lt_of_pos (Go.bits .and .i64 x 65535) h
  unfold widthI; omega
set_option maxHeartbeats 4000000 in
theorem enWidth_calls (x m : Int) (h0 : 0 < m) (h1 : m ≤ 1000) (w : World) :
    Calls Tryd.prog 26 #[.int .i64 x, .int .i64 m] w fun e w' => e = .returned (.int .i64 (widthI x m)) ∧ w = w' := by
  obtain ⟨y, hy⟩ : ∃ y, Go.bits .and .i64 x 65535 = y := ⟨_, rfl⟩
  have HB := mask_bd x
  rw [hy] at HB
  obtain ⟨hy0, hy1⟩ := HB
  have HY := Aside0.mk hy
  have q3 : (m == 0) = false := by simpa using (show m ≠ 0 by omega)
  have q4 : ¬ m = 0 := by omega
  have b0 := Int.emod_nonneg y (show m ≠ 0 by omega)
  have b1 := Int.emod_lt_of_pos y h0
  have hrt : y.tmod m = y % m := Int.tmod_eq_emod_of_nonneg hy0
  obtain ⟨r, hr⟩ : ∃ r, y % m = r := ⟨_, rfl⟩
  rw [hr] at b0 b1 hrt
  have HR := Aside0.mk hr
  go_enter Tryd.func26, Tryd.ntmps26
  go_wp2_with (fail)
  go_ret
  refine ⟨?_, rfl⟩
  unfold widthI
  rw [HY.out, HR.out]
  rfl
theorem Own.lower {w : World} {base base' t : Nat} {k : IntKind} {v : Value} {xs : List Int} (h : Own w base t k v xs) (hb : base' ≤ base) : Own w base' t k v xs := by
  obtain ⟨h1, h2 | ⟨g, c, cur, e, hg, r⟩⟩ := h.out
  · exact ⟨⟨h1, .inl h2⟩⟩
  · exact ⟨⟨h1, .inr ⟨g, c, cur, e, Nat.le_trans hb hg, r⟩⟩⟩
def fitL (w : Nat) (l : List Int) : Prop := ∀ x ∈ l, 0 ≤ x ∧ x < 2 ^ w
instance (w : Nat) (l : List Int) : Decidable (fitL w l) := by unfold fitL; infer_instance
def fitB (w : Nat) (l : List Int) : Bool := decide (fitL w l ∧ l.length ≤ 100000)
theorem wide64_bytes {l : List Int} (h : ∀ x ∈ l, (Lit.int .u8 x).wf = true) : wideL 64 l = l := by
  unfold wideL
  conv => rhs; rw [← List.map_id l]
  apply List.map_congr_left
  intro x hx
  have := h x hx
  simp [Lit.wf, IntKind.min, IntKind.max, IntKind.signed, IntKind.bits] at this
  simp only [wideI, id]; omega
end Go.Proofs.YtigmcdpjlkgocaaDoor.Fit
