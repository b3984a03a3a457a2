import Derived.Test.YtcboegodjlfmnaaMtd
/-! spec.cutTo. -/
namespace Go.Proofs.Ytcboegodjlfmnaa.Tsd
open Go.Proofs.Ytcboegodjlfmnaa.Tzm Go.Proofs.Ytcboegodjlfmnaa.Tzl Go.Proofs.Ytcboegodjlfmnaa.Trh Go.Proofs.Ytcboegodjlfmnaa.Trn Go.Proofs.Ytcboegodjlfmnaa.Trm Go.Proofs.Ytcboegodjlfmnaa.Tuv Go.Proofs.Ytcboegodjlfmnaa.Tpa Go.Proofs.Ytcboegodjlfmnaa.Duv Go.Proofs.Ytcboegodjlfmnaa.Dpu Go.Proofs.Ytcboegodjlfmnaa.Pak Go.Proofs.Ytcboegodjlfmnaa.Buf Go.Proofs.Ytcboegodjlfmnaa.Fit Go.Proofs.Ytcboegodjlfmnaa.Bit Go.Proofs.Ytcboegodjlfmnaa.Wrd Go.Proofs.Ytcboegodjlfmnaa.Spl Go.Proofs.Ytcboegodjlfmnaa.Str Go.Proofs.Ytcboegodjlfmnaa.Flt Go.Proofs.Ytcboegodjlfmnaa.Owe Go.Proofs.Ytcboegodjlfmnaa.Num Go.Proofs.Ytcboegodjlfmnaa.Le Go.Proofs.Ytcboegodjlfmnaa.Lst Go.Proofs.Ytcboegodjlfmnaa.Aid Go.RowKit Go.Proofs.YtcboegodjlfmnaaW.PrintWords Go.Proofs.YtcboegodjlfmnaaW.PrintLast Go.Proofs.YtcboegodjlfmnaaW.PrintMore
set_option linter.unusedVariables false
set_option linter.unusedSimpArgs false
theorem xor_i64_m1 (a : Nat) (ha : a < 9223372036854775808) : bits .xor .i64 (a : Int) (-1) = -1 - (a : Int) := by
  have h1 : (BitVec.ofInt 64 (a : Int)).toNat = a := by
    rw [BitVec.ofInt_natCast, BitVec.toNat_ofNat]; exact Nat.mod_eq_of_lt (by omega)
  have h2 : (BitVec.ofInt 64 (-1)).toNat = 2 ^ 64 - 1 := by decide
  show IntKind.i64.wrap ((BitVec.ofInt 64 (a : Int) ^^^ BitVec.ofInt 64 (-1)).toNat : Int) = _
  rw [BitVec.toNat_xor, h1, h2, Nat.xor_comm, xor_ones a (by omega), IntKind.wrap_i64]
  omega
theorem xor_i64_0 (a : Nat) (ha : a < 9223372036854775808) : bits .xor .i64 (a : Int) 0 = (a : Int) := by
  have h1 : (BitVec.ofInt 64 (a : Int)).toNat = a := by
    rw [BitVec.ofInt_natCast, BitVec.toNat_ofNat]; exact Nat.mod_eq_of_lt (by omega)
  have h2 : (BitVec.ofInt 64 0).toNat = 0 := by decide
  show IntKind.i64.wrap ((BitVec.ofInt 64 (a : Int) ^^^ BitVec.ofInt 64 0).toNat : Int) = _
  rw [BitVec.toNat_xor, h1, h2, Nat.xor_zero, IntKind.wrap_i64]
  omega
theorem cutTo64_calls (n : Int) (h0 : 0 ≤ n) (h1 : n < 18446744073709551616) (w : World) :
    Calls Try.prog 21 #[.int .i64 64, .int .u64 n] w fun e w' => e = .returned (.int .i64 (IntKind.i64.wrap n)) ∧ w = w' := by
  obtain ⟨y, hy⟩ : ∃ y, IntKind.i64.wrap n = y := ⟨_, rfl⟩
  rw [hy]
  go_enter Try.func21, Try.ntmps21
  go_wp2_with (fail)
  go_ret
  exact ⟨rfl, rfl⟩
theorem cut32 (n : Int) (h0 : 0 ≤ n) (h1 : n < 18446744073709551616) : IntKind.i64.wrap (IntKind.u64.wrap (n * 4294967296)) / 4294967296 = IntKind.i32.wrap n := by
  rw [IntKind.wrap_u64, IntKind.wrap_i64, IntKind.wrap_i32]; omega
theorem cutTo32_calls (n : Int) (h0 : 0 ≤ n) (h1 : n < 18446744073709551616) (w : World) :
    Calls Try.prog 21 #[.int .i64 32, .int .u64 n] w fun e w' => e = .returned (.int .i64 (IntKind.i32.wrap n)) ∧ w = w' := by
  have HC := Aside0.mk (cut32 n h0 h1)
  obtain ⟨y, hy⟩ : ∃ y, IntKind.i32.wrap n = y := ⟨_, rfl⟩
  rw [hy] at HC ⊢
  obtain ⟨u, hu⟩ : ∃ u, IntKind.u64.wrap (n * 4294967296) = u := ⟨_, rfl⟩
  rw [hu] at HC
  obtain ⟨v, hv⟩ : ∃ v, IntKind.i64.wrap u = v := ⟨_, rfl⟩
  rw [hv] at HC
  have hq := HC.out
  go_enter Try.func21, Try.ntmps21
  go_wp2_with (fail)
  go_ret
  exact ⟨rfl, rfl⟩
theorem cut16 (n : Int) (h0 : 0 ≤ n) (h1 : n < 18446744073709551616) : IntKind.i64.wrap (IntKind.u64.wrap (n * 281474976710656)) / 281474976710656 = IntKind.i16.wrap n := by
  rw [IntKind.wrap_u64, IntKind.wrap_i64, wrap_i16]; omega
theorem cutTo16_calls (n : Int) (h0 : 0 ≤ n) (h1 : n < 18446744073709551616) (w : World) :
    Calls Try.prog 21 #[.int .i64 16, .int .u64 n] w fun e w' => e = .returned (.int .i64 (IntKind.i16.wrap n)) ∧ w = w' := by
  have HC := Aside0.mk (cut16 n h0 h1)
  obtain ⟨y, hy⟩ : ∃ y, IntKind.i16.wrap n = y := ⟨_, rfl⟩
  rw [hy] at HC ⊢
  obtain ⟨u, hu⟩ : ∃ u, IntKind.u64.wrap (n * 281474976710656) = u := ⟨_, rfl⟩
  rw [hu] at HC
  obtain ⟨v, hv⟩ : ∃ v, IntKind.i64.wrap u = v := ⟨_, rfl⟩
  rw [hv] at HC
  have hq := HC.out
  go_enter Try.func21, Try.ntmps21
  go_wp2_with (fail)
  go_ret
  exact ⟨rfl, rfl⟩
theorem cut8 (n : Int) (h0 : 0 ≤ n) (h1 : n < 18446744073709551616) : IntKind.i64.wrap (IntKind.u64.wrap (n * 72057594037927936)) / 72057594037927936 = IntKind.i8.wrap n := by
  rw [IntKind.wrap_u64, IntKind.wrap_i64, wrap_i8]; omega
theorem cutTo8_calls (n : Int) (h0 : 0 ≤ n) (h1 : n < 18446744073709551616) (w : World) :
    Calls Try.prog 21 #[.int .i64 8, .int .u64 n] w fun e w' => e = .returned (.int .i64 (IntKind.i8.wrap n)) ∧ w = w' := by
  have HC := Aside0.mk (cut8 n h0 h1)
  obtain ⟨y, hy⟩ : ∃ y, IntKind.i8.wrap n = y := ⟨_, rfl⟩
  rw [hy] at HC ⊢
  obtain ⟨u, hu⟩ : ∃ u, IntKind.u64.wrap (n * 72057594037927936) = u := ⟨_, rfl⟩
  rw [hu] at HC
  obtain ⟨v, hv⟩ : ∃ v, IntKind.i64.wrap u = v := ⟨_, rfl⟩
  rw [hv] at HC
  have hq := HC.out
  go_enter Try.func21, Try.ntmps21
  go_wp2_with (fail)
  go_ret
  exact ⟨rfl, rfl⟩
/-- numbers of b bits -/
def Bits (b m : Int) : Prop := (b = 8 ∧ m = 128) ∨ (b = 16 ∧ m = 32768) ∨ (b = 32 ∧ m = 2147483648) ∨ (b = 64 ∧ m = 9223372036854775808)
theorem cut_of (b m : Int) (hbm : Bits b m) (x : Int) (h0 : -9223372036854775808 ≤ x) (h1 : x < 9223372036854775808) :
    ∃ y, (∀ W, Calls Try.prog 21 #[.int .i64 b, .int .u64 (IntKind.u64.wrap x)] W fun e w' => e = .returned (.int .i64 y) ∧ W = w') ∧ (y = x ↔ -m ≤ x ∧ x < m) := by
  have h2 : 0 ≤ IntKind.u64.wrap x ∧ IntKind.u64.wrap x < 18446744073709551616 := by rw [IntKind.wrap_u64]; omega
  rcases hbm with ⟨rfl, rfl⟩ | ⟨rfl, rfl⟩ | ⟨rfl, rfl⟩ | ⟨rfl, rfl⟩
  · exact ⟨_, fun W => cutTo8_calls _ h2.1 h2.2 W, by rw [IntKind.wrap_u64, wrap_i8]; omega⟩
  · exact ⟨_, fun W => cutTo16_calls _ h2.1 h2.2 W, by rw [IntKind.wrap_u64, wrap_i16]; omega⟩
  · exact ⟨_, fun W => cutTo32_calls _ h2.1 h2.2 W, by rw [IntKind.wrap_u64, IntKind.wrap_i32]; omega⟩
  · exact ⟨_, fun W => cutTo64_calls _ h2.1 h2.2 W, by rw [IntKind.wrap_u64, IntKind.wrap_i64]; omega⟩
end Go.Proofs.Ytcboegodjlfmnaa.Tsd
