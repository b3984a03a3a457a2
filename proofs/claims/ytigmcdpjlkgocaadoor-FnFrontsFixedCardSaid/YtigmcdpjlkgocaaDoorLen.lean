import Derived.Test.YtigmcdpjlkgocaaDoorWrd
import Derived.Lib.Strings
import Derived.Lib.Slices
import Derived.Lib.Small
import Derived.Lib.Walk
import Derived.Lib.BitFns
import Derived.Lib.ItoaNum
import Derived.Shelf.Lays
import Derived.Shelf.Strconv.Itoa0
/-! How many bits a number has. -/
namespace Go.Proofs.YtigmcdpjlkgocaaDoor.Len
open Go.Proofs.YtigmcdpjlkgocaaDoor.Aid Go.RowKit Go.Proofs.YtigmcdpjlkgocaaDoorW.PrintWords Go.Proofs.YtigmcdpjlkgocaaDoorW.PrintLast Go.Proofs.YtigmcdpjlkgocaaDoorW.PrintMore
set_option linter.unusedVariables false
set_option linter.unusedSimpArgs false
theorem bitLen_fit (u : Nat) (hu : u < 4294967296) : Lib.bitLen u ≤ 32 ∧ u < 2 ^ Lib.bitLen u := by
  refine ⟨Lib.bitLen_le u 32 (by omega) (by omega), ?_⟩
  by_cases h : u = 0
  · subst h; unfold Lib.bitLen; rw [Lib.bitLenAux_zero]; decide
  · have := Lib.bitLenAux_bounds 64 u (by omega) h
    exact this.2.2
set_option maxHeartbeats 4000000 in
set_option maxRecDepth 100000 in
theorem len32_calls' (x : Int) (w : World) (h0 : 0 ≤ x) (h1 : x ≤ 4294967295) :
    Calls Tryd.prog 155 #[.int .u32 x] w fun e w' => e = .returned (.int .i64 (Lib.bitLen x.toNat)) ∧ w' = w := by
  have hq : ∀ y : Int, 0 ≤ y → y < 256 → wrap64 (wrap64 (Lib.len8 y)) = (Lib.bitLen y.toNat : Int) := fun y h0 h1 => by
    rw [Lib.len8_of y h0 (by omega)]
    have l := Lib.bitLen_le8' y h0 (by omega)
    simp only [wrap64]
    omega
  have hq2 : ∀ (k y : Int), 0 ≤ y → y ≤ 255 → 0 ≤ k → k ≤ 100 → wrap64 (k + wrap64 (Lib.len8 y)) = k + (Lib.bitLen y.toNat : Int) := fun k y h0 h1 hk0 hk1 => by
    rw [Lib.len8_of y h0 h1]
    have l := Lib.bitLen_le8' y h0 h1
    simp only [wrap64]
    omega
  by_cases b : x < 65536
  · have q1 : decide (65536 ≤ x) = false := decide_eq_false (by omega)
    by_cases a : x < 256
    · have g0 : x ≤ 255 := by omega
      have q2 : decide (256 ≤ x) = false := decide_eq_false (by omega)
      have HE := hq x h0 a
      clear hq
      go_enter Tryd.func155, Tryd.ntmps155
      go_wp2_with (fail)
      go_ret
      exact ⟨congrArg Ending.returned (congrArg (Value.int IntKind.i64) HE), rfl⟩
    · obtain ⟨y, hy⟩ : ∃ y, x / 256 = y := ⟨_, rfl⟩
      have g0 : 0 ≤ y := by omega
      have g1 : y ≤ 255 := by omega
      have q2 : decide (256 ≤ x) = true := decide_eq_true (by omega)
      have HE := hq2 8 y g0 g1 (by omega) (by omega)
      have HS : Aside0 ((8 + (Lib.bitLen y.toNat : Int)) = (Lib.bitLen x.toNat : Int)) := ⟨by
        have s := Lib.bitLen_shift8 x.toNat (by omega) (by omega)
        rw [show x.toNat / 256 = y.toNat by omega] at s
        omega⟩
      clear hq hq2
      go_enter Tryd.func155, Tryd.ntmps155
      go_wp2_with (fail)
      go_ret
      exact ⟨congrArg Ending.returned (congrArg (Value.int IntKind.i64) HS.out), rfl⟩
  · have q1 : decide (65536 ≤ x) = true := decide_eq_true (by omega)
    obtain ⟨y, hy⟩ : ∃ y, x / 65536 = y := ⟨_, rfl⟩
    by_cases a : y < 256
    · have g0 : 0 ≤ y := by omega
      have g1 : y ≤ 255 := by omega
      have q2 : decide (256 ≤ y) = false := decide_eq_false (by omega)
      have HE := hq2 16 y g0 g1 (by omega) (by omega)
      have HS : Aside0 ((16 + (Lib.bitLen y.toNat : Int)) = (Lib.bitLen x.toNat : Int)) := ⟨by
        have s := Lib.bitLen_shift16 x.toNat (by omega) (by omega)
        rw [show x.toNat / 65536 = y.toNat by omega] at s
        omega⟩
      clear hq hq2
      go_enter Tryd.func155, Tryd.ntmps155
      go_wp2_with (fail)
      go_ret
      exact ⟨congrArg Ending.returned (congrArg (Value.int IntKind.i64) HS.out), rfl⟩
    · obtain ⟨z, hz⟩ : ∃ z, y / 256 = z := ⟨_, rfl⟩
      have g0 : 0 ≤ z := by omega
      have g1 : z ≤ 255 := by omega
      have q2 : decide (256 ≤ y) = true := decide_eq_true (by omega)
      have HE := hq2 24 z g0 g1 (by omega) (by omega)
      have HS : Aside0 ((24 + (Lib.bitLen z.toNat : Int)) = (Lib.bitLen x.toNat : Int)) := ⟨by
        have s := Lib.bitLen_shift24 x.toNat (by omega) (by omega)
        rw [show x.toNat / 16777216 = z.toNat by omega] at s
        omega⟩
      clear hq hq2
      go_enter Tryd.func155, Tryd.ntmps155
      go_wp2_with (fail)
      go_ret
      exact ⟨congrArg Ending.returned (congrArg (Value.int IntKind.i64) HS.out), rfl⟩
theorem len32_calls (x : Int) (w : World) (h0 : 0 ≤ x) (h1 : x ≤ 4294967295) :
    Calls Tryd.prog 155 #[.int .u32 x] w fun e w' => ∃ k : Nat, e = .returned (.int .i64 (k : Int)) ∧ k ≤ 32 ∧ x < ((2 ^ k : Nat) : Int) ∧ w = w' := by
  refine (len32_calls' x w h0 h1).mono ?_
  rintro e w' ⟨rfl, rfl⟩
  have := bitLen_fit x.toNat (by omega)
  exact ⟨_, rfl, this.1, by omega, rfl⟩
end Go.Proofs.YtigmcdpjlkgocaaDoor.Len
