import Derived.Test.YtigmcdpjlkgocaaWrd
import Derived.Lib.Strings
import Derived.Lib.Slices
import Derived.Lib.Small
import Derived.Lib.Walk
import Derived.Lib.BitFns
import Derived.Lib.ItoaNum
import Derived.Shelf.Lays
import Derived.Shelf.Strconv.Itoa0
/-! How many bits a number has. -/
namespace Go.Proofs.Ytigmcdpjlkgocaa.Len
open Go.Proofs.Ytigmcdpjlkgocaa.Aid Go.RowKit Go.Proofs.YtigmcdpjlkgocaaW.PrintWords Go.Proofs.YtigmcdpjlkgocaaW.PrintLast Go.Proofs.YtigmcdpjlkgocaaW.PrintMore
set_option linter.unusedVariables false
set_option linter.unusedSimpArgs false
theorem bitLen_fit (u : Nat) (hu : u < 4294967296) : Lib.bitLen u ≤ 32 ∧ u < 2 ^ Lib.bitLen u := by
  refine ⟨Lib.bitLen_le u 32 (by omega) (by omega), ?_⟩
  by_cases h : u = 0
  · subst h; unfold Lib.bitLen; rw [Lib.bitLenAux_zero]; decide
  · have := Lib.bitLenAux_bounds 64 u (by omega) h
    exact this.2.2
set_option maxHeartbeats 4000000 in
set_option maxRecDepth 100000 in
theorem len32_calls' (x : Int) (w : World) (h0 : 0 ≤ x) (h1 : x ≤ 4294967295) :
    Calls Try.prog 75 #[.int .u32 x] w fun e w' => e = .returned (.int .i64 (Lib.bitLen x.toNat)) ∧ w' = w := by
  have hq : ∀ y : Int, 0 ≤ y → y < 256 → wrap64 (wrap64 (Lib.len8 y)) = (Lib.bitLen y.toNat : Int) := fun y h0 h1 => by
    rw [Lib.len8_of y h0 (by omega)]
    have l := Lib.bitLen_le8' y h0 (by omega)
    simp only [wrap64]
    omega
  have hq2 : ∀ (k y : Int), 0 ≤ y → y ≤ 255 → 0 ≤ k → k ≤ 100 → wrap64 (k + wrap64 (Lib.len8 y)) = k + (Lib.bitLen y.toNat : Int) := fun k y h0 h1 hk0 hk1 => by
    rw [Lib.len8_of y h0 h1]
    have l := Lib.bitLen_le8' y h0 h1
    simp only [wrap64]
    omega
  by_cases b : x < 65536
  · have q1 : decide (65536 ≤ x) = false := decide_eq_false (by omega)
    by_cases a : x < 256
    · have g0 : x ≤ 255 := by omega
      have q2 : decide (256 ≤ x) = false := decide_eq_false (by omega)
      have HE := hq x h0 a
      clear hq
      go_enter Try.func75, Try.ntmps75
      go_wp2_with (fail)
      go_ret
      exact ⟨congrArg Ending.returned (congrArg (Value.int IntKind.i64) HE), rfl⟩
    · obtain ⟨y, hy⟩ : ∃ y, x / 256 = y := ⟨_, rfl⟩
      have g0 : 0 ≤ y := by omega
      have g1 : y ≤ 255 := by omega
      have q2 : decide (256 ≤ x) = true := decide_eq_true (by omega)
      have HE := hq2 8 y g0 g1 (by omega) (by omega)
      have HS : Aside0 ((8 + (Lib.bitLen y.toNat : Int)) = (Lib.bitLen x.toNat : Int)) := ⟨by
        have s := Lib.bitLen_shift8 x.toNat (by omega) (by omega)
        rw [show x.toNat / 256 = y.toNat by omega] at s
        omega⟩
      clear hq hq2
      go_enter Try.func75, Try.ntmps75
      go_wp2_with (fail)
      go_ret
      exact ⟨congrArg Ending.returned (congrArg (Value.int IntKind.i64) HS.out), rfl⟩
  · have q1 : decide (65536 ≤ x) = true := decide_eq_true (by omega)
    obtain ⟨y, hy⟩ : ∃ y, x / 65536 = y := ⟨_, rfl⟩
    by_cases a : y < 256
    · have g0 : 0 ≤ y := by omega
      have g1 : y ≤ 255 := by omega
      have q2 : decide (256 ≤ y) = false := decide_eq_false (by omega)
      have HE := hq2 16 y g0 g1 (by omega) (by omega)
      have HS : Aside0 ((16 + (Lib.bitLen y.toNat : Int)) = (Lib.bitLen x.toNat : Int)) := ⟨by
        have s := Lib.bitLen_shift16 x.toNat (by omega) (by omega)
        rw [show x.toNat / 65536 = y.toNat by omega] at s
        omega⟩
      clear hq hq2
      go_enter Try.func75, Try.ntmps75
      go_wp2_with (fail)
      go_ret
      exact ⟨congrArg Ending.returned (congrArg (Value.int IntKind.i64) HS.out), rfl⟩
    · obtain ⟨z, hz⟩ : ∃ z, y / 256 = z := ⟨_, rfl⟩
      have g0 : 0 ≤ z := by omega
      have g1 : z ≤ 255 := by omega
      have q2 : decide (256 ≤ y) = true := decide_eq_true (by omega)
      have HE := hq2 24 z g0 g1 (by omega) (by omega)
      have HS : Aside0 ((24 + (Lib.bitLen z.toNat : Int)) = (Lib.bitLen x.toNat : Int)) := ⟨by
        have s := Lib.bitLen_shift24 x.toNat (by omega) (by omega)
        rw [show x.toNat / 16777216 = z.toNat by omega] at s
        omega⟩
      clear hq hq2
      go_enter Try.func75, Try.ntmps75
      go_wp2_with (fail)
      go_ret
      exact ⟨congrArg Ending.returned (congrArg (Value.int IntKind.i64) HS.out), rfl⟩
theorem len32_calls (x : Int) (w : World) (h0 : 0 ≤ x) (h1 : x ≤ 4294967295) :
    Calls Try.prog 75 #[.int .u32 x] w fun e w' => ∃ k : Nat, e = .returned (.int .i64 (k : Int)) ∧ k ≤ 32 ∧ x < ((2 ^ k : Nat) : Int) ∧ w = w' := by
  refine (len32_calls' x w h0 h1).mono ?_
  rintro e w' ⟨rfl, rfl⟩
  have := bitLen_fit x.toNat (by omega)
  exact ⟨_, rfl, this.1, by omega, rfl⟩
set_option maxHeartbeats 8000000 in
set_option maxRecDepth 100000 in
theorem len64_calls' (x : Int) (w : World) (h0 : 0 ≤ x) (h1 : x ≤ 18446744073709551615) :
    Calls Try.prog 99 #[.int .u64 x] w fun e w' => e = .returned (.int .i64 (Lib.bitLen x.toNat)) ∧ w' = w := by
  have hq : ∀ y : Int, 0 ≤ y → y < 256 → wrap64 (wrap64 (Lib.len8 y)) = (Lib.bitLen y.toNat : Int) := fun y h0 h1 => by
    rw [Lib.len8_of y h0 (by omega)]
    have l := Lib.bitLen_le8' y h0 (by omega)
    simp only [wrap64]
    omega
  have hq2 : ∀ (k y : Int), 0 ≤ y → y ≤ 255 → 0 ≤ k → k ≤ 100 → wrap64 (k + wrap64 (Lib.len8 y)) = k + (Lib.bitLen y.toNat : Int) := fun k y h0 h1 hk0 hk1 => by
    rw [Lib.len8_of y h0 h1]
    have l := Lib.bitLen_le8' y h0 h1
    simp only [wrap64]
    omega
  by_cases c000 : x < 4294967296 ∧ x < 65536 ∧ x < 256
  · obtain ⟨ca, cb, cc⟩ := c000
    have qa : decide (4294967296 ≤ x) = false := decide_eq_false (by omega)
    have qb : decide (65536 ≤ x) = false := decide_eq_false (by omega)
    have qc : decide (256 ≤ x) = false := decide_eq_false (by omega)
    have g0 : 0 ≤ x := by omega
    have g1 : x ≤ 255 := by omega
    have HE := hq x g0 (by omega)
    have HS : Aside0 ((Lib.bitLen x.toNat : Int) = (Lib.bitLen x.toNat : Int)) := ⟨rfl⟩
    clear hq hq2
    go_enter Try.func99, Try.ntmps99
    go_wp2_with (fail)
    go_ret
    exact ⟨congrArg Ending.returned (congrArg (Value.int IntKind.i64) (by first | exact HE.trans HS.out | exact HS.out | exact HE | rfl)), rfl⟩
  by_cases c001 : x < 4294967296 ∧ x < 65536 ∧ 256 ≤ x
  · obtain ⟨ca, cb, cc⟩ := c001
    have qa : decide (4294967296 ≤ x) = false := decide_eq_false (by omega)
    have qb : decide (65536 ≤ x) = false := decide_eq_false (by omega)
    have qc : decide (256 ≤ x) = true := decide_eq_true (by omega)
    obtain ⟨y3, hy3⟩ : ∃ y, x / 256 = y := ⟨_, rfl⟩
    have g0 : 0 ≤ y3 := by omega
    have g1 : y3 ≤ 255 := by omega
    have HE := hq2 8 y3 g0 g1 (by omega) (by omega)
    have HS : Aside0 ((8 + (Lib.bitLen y3.toNat : Int)) = (Lib.bitLen x.toNat : Int)) := ⟨by
      have s := Lib.bitLen_shift 8 x.toNat (by omega) (by omega)
      rw [show x.toNat / 2 ^ 8 = y3.toNat by omega] at s
      omega⟩
    clear hq hq2
    go_enter Try.func99, Try.ntmps99
    go_wp2_with (fail)
    go_ret
    exact ⟨congrArg Ending.returned (congrArg (Value.int IntKind.i64) (by first | exact HE.trans HS.out | exact HS.out | exact HE | rfl)), rfl⟩
  by_cases c010 : x < 4294967296 ∧ 65536 ≤ x ∧ x / 65536 < 256
  · obtain ⟨ca, cb, cc⟩ := c010
    have qa : decide (4294967296 ≤ x) = false := decide_eq_false (by omega)
    have qb : decide (65536 ≤ x) = true := decide_eq_true (by omega)
    obtain ⟨y2, hy2⟩ : ∃ y, x / 65536 = y := ⟨_, rfl⟩
    have qc : decide (256 ≤ y2) = false := decide_eq_false (by omega)
    have g0 : 0 ≤ y2 := by omega
    have g1 : y2 ≤ 255 := by omega
    have HE := hq2 16 y2 g0 g1 (by omega) (by omega)
    have HS : Aside0 ((16 + (Lib.bitLen y2.toNat : Int)) = (Lib.bitLen x.toNat : Int)) := ⟨by
      have s := Lib.bitLen_shift 16 x.toNat (by omega) (by omega)
      rw [show x.toNat / 2 ^ 16 = y2.toNat by omega] at s
      omega⟩
    clear hq hq2
    go_enter Try.func99, Try.ntmps99
    go_wp2_with (fail)
    go_ret
    exact ⟨congrArg Ending.returned (congrArg (Value.int IntKind.i64) (by first | exact HE.trans HS.out | exact HS.out | exact HE | rfl)), rfl⟩
  by_cases c011 : x < 4294967296 ∧ 65536 ≤ x ∧ 256 ≤ x / 65536
  · obtain ⟨ca, cb, cc⟩ := c011
    have qa : decide (4294967296 ≤ x) = false := decide_eq_false (by omega)
    have qb : decide (65536 ≤ x) = true := decide_eq_true (by omega)
    obtain ⟨y2, hy2⟩ : ∃ y, x / 65536 = y := ⟨_, rfl⟩
    have qc : decide (256 ≤ y2) = true := decide_eq_true (by omega)
    obtain ⟨y3, hy3⟩ : ∃ y, y2 / 256 = y := ⟨_, rfl⟩
    have g0 : 0 ≤ y3 := by omega
    have g1 : y3 ≤ 255 := by omega
    have HE := hq2 24 y3 g0 g1 (by omega) (by omega)
    have HS : Aside0 ((24 + (Lib.bitLen y3.toNat : Int)) = (Lib.bitLen x.toNat : Int)) := ⟨by
      have s := Lib.bitLen_shift 24 x.toNat (by omega) (by omega)
      rw [show x.toNat / 2 ^ 24 = y3.toNat by omega] at s
      omega⟩
    clear hq hq2
    go_enter Try.func99, Try.ntmps99
    go_wp2_with (fail)
    go_ret
    exact ⟨congrArg Ending.returned (congrArg (Value.int IntKind.i64) (by first | exact HE.trans HS.out | exact HS.out | exact HE | rfl)), rfl⟩
  by_cases c100 : 4294967296 ≤ x ∧ x / 4294967296 < 65536 ∧ x / 4294967296 < 256
  · obtain ⟨ca, cb, cc⟩ := c100
    have qa : decide (4294967296 ≤ x) = true := decide_eq_true (by omega)
    obtain ⟨y1, hy1⟩ : ∃ y, x / 4294967296 = y := ⟨_, rfl⟩
    have qb : decide (65536 ≤ y1) = false := decide_eq_false (by omega)
    have qc : decide (256 ≤ y1) = false := decide_eq_false (by omega)
    have g0 : 0 ≤ y1 := by omega
    have g1 : y1 ≤ 255 := by omega
    have HE := hq2 32 y1 g0 g1 (by omega) (by omega)
    have HS : Aside0 ((32 + (Lib.bitLen y1.toNat : Int)) = (Lib.bitLen x.toNat : Int)) := ⟨by
      have s := Lib.bitLen_shift 32 x.toNat (by omega) (by omega)
      rw [show x.toNat / 2 ^ 32 = y1.toNat by omega] at s
      omega⟩
    clear hq hq2
    go_enter Try.func99, Try.ntmps99
    go_wp2_with (fail)
    go_ret
    exact ⟨congrArg Ending.returned (congrArg (Value.int IntKind.i64) (by first | exact HE.trans HS.out | exact HS.out | exact HE | rfl)), rfl⟩
  by_cases c101 : 4294967296 ≤ x ∧ x / 4294967296 < 65536 ∧ 256 ≤ x / 4294967296
  · obtain ⟨ca, cb, cc⟩ := c101
    have qa : decide (4294967296 ≤ x) = true := decide_eq_true (by omega)
    obtain ⟨y1, hy1⟩ : ∃ y, x / 4294967296 = y := ⟨_, rfl⟩
    have qb : decide (65536 ≤ y1) = false := decide_eq_false (by omega)
    have qc : decide (256 ≤ y1) = true := decide_eq_true (by omega)
    obtain ⟨y3, hy3⟩ : ∃ y, y1 / 256 = y := ⟨_, rfl⟩
    have g0 : 0 ≤ y3 := by omega
    have g1 : y3 ≤ 255 := by omega
    have HE := hq2 40 y3 g0 g1 (by omega) (by omega)
    have HS : Aside0 ((40 + (Lib.bitLen y3.toNat : Int)) = (Lib.bitLen x.toNat : Int)) := ⟨by
      have s := Lib.bitLen_shift 40 x.toNat (by omega) (by omega)
      rw [show x.toNat / 2 ^ 40 = y3.toNat by omega] at s
      omega⟩
    clear hq hq2
    go_enter Try.func99, Try.ntmps99
    go_wp2_with (fail)
    go_ret
    exact ⟨congrArg Ending.returned (congrArg (Value.int IntKind.i64) (by first | exact HE.trans HS.out | exact HS.out | exact HE | rfl)), rfl⟩
  by_cases c110 : 4294967296 ≤ x ∧ 65536 ≤ x / 4294967296 ∧ x / 281474976710656 < 256
  · obtain ⟨ca, cb, cc⟩ := c110
    have qa : decide (4294967296 ≤ x) = true := decide_eq_true (by omega)
    obtain ⟨y1, hy1⟩ : ∃ y, x / 4294967296 = y := ⟨_, rfl⟩
    have qb : decide (65536 ≤ y1) = true := decide_eq_true (by omega)
    obtain ⟨y2, hy2⟩ : ∃ y, y1 / 65536 = y := ⟨_, rfl⟩
    have qc : decide (256 ≤ y2) = false := decide_eq_false (by omega)
    have g0 : 0 ≤ y2 := by omega
    have g1 : y2 ≤ 255 := by omega
    have HE := hq2 48 y2 g0 g1 (by omega) (by omega)
    have HS : Aside0 ((48 + (Lib.bitLen y2.toNat : Int)) = (Lib.bitLen x.toNat : Int)) := ⟨by
      have s := Lib.bitLen_shift 48 x.toNat (by omega) (by omega)
      rw [show x.toNat / 2 ^ 48 = y2.toNat by omega] at s
      omega⟩
    clear hq hq2
    go_enter Try.func99, Try.ntmps99
    go_wp2_with (fail)
    go_ret
    exact ⟨congrArg Ending.returned (congrArg (Value.int IntKind.i64) (by first | exact HE.trans HS.out | exact HS.out | exact HE | rfl)), rfl⟩
  by_cases c111 : 4294967296 ≤ x ∧ 65536 ≤ x / 4294967296 ∧ 256 ≤ x / 281474976710656
  · obtain ⟨ca, cb, cc⟩ := c111
    have qa : decide (4294967296 ≤ x) = true := decide_eq_true (by omega)
    obtain ⟨y1, hy1⟩ : ∃ y, x / 4294967296 = y := ⟨_, rfl⟩
    have qb : decide (65536 ≤ y1) = true := decide_eq_true (by omega)
    obtain ⟨y2, hy2⟩ : ∃ y, y1 / 65536 = y := ⟨_, rfl⟩
    have qc : decide (256 ≤ y2) = true := decide_eq_true (by omega)
    obtain ⟨y3, hy3⟩ : ∃ y, y2 / 256 = y := ⟨_, rfl⟩
    have g0 : 0 ≤ y3 := by omega
    have g1 : y3 ≤ 255 := by omega
    have HE := hq2 56 y3 g0 g1 (by omega) (by omega)
    have HS : Aside0 ((56 + (Lib.bitLen y3.toNat : Int)) = (Lib.bitLen x.toNat : Int)) := ⟨by
      have s := Lib.bitLen_shift 56 x.toNat (by omega) (by omega)
      rw [show x.toNat / 2 ^ 56 = y3.toNat by omega] at s
      omega⟩
    clear hq hq2
    go_enter Try.func99, Try.ntmps99
    go_wp2_with (fail)
    go_ret
    exact ⟨congrArg Ending.returned (congrArg (Value.int IntKind.i64) (by first | exact HE.trans HS.out | exact HS.out | exact HE | rfl)), rfl⟩
  omega
theorem bitLen_fit64 (u : Nat) (hu : u < 18446744073709551616) : Lib.bitLen u ≤ 64 ∧ u < 2 ^ Lib.bitLen u := by
  refine ⟨Lib.bitLen_le u 64 (by omega) (by omega), ?_⟩
  by_cases h : u = 0
  · subst h; unfold Lib.bitLen; rw [Lib.bitLenAux_zero]; decide
  · have := Lib.bitLenAux_bounds 64 u (by omega) h
    exact this.2.2
end Go.Proofs.Ytigmcdpjlkgocaa.Len
