import Derived.Test.YtcboegodjlfmnaaDoorSlMtd
namespace Go.Proofs.YtcboegodjlfmnaaDoor.Tsd
open Go.Proofs.YtcboegodjlfmnaaDoor.Tzm Go.Proofs.YtcboegodjlfmnaaDoor.Tzl Go.Proofs.YtcboegodjlfmnaaDoor.Trh Go.Proofs.YtcboegodjlfmnaaDoor.Trn Go.Proofs.YtcboegodjlfmnaaDoor.Trm Go.Proofs.YtcboegodjlfmnaaDoor.Tuv Go.Proofs.YtcboegodjlfmnaaDoor.Tpa Go.Proofs.YtcboegodjlfmnaaDoor.Duv Go.Proofs.YtcboegodjlfmnaaDoor.Dpu Go.Proofs.YtcboegodjlfmnaaDoor.Pak Go.Proofs.YtcboegodjlfmnaaDoor.Buf Go.Proofs.YtcboegodjlfmnaaDoor.Fit Go.Proofs.YtcboegodjlfmnaaDoor.Bit Go.Proofs.YtcboegodjlfmnaaDoor.Wrd Go.Proofs.YtcboegodjlfmnaaDoor.Spl Go.Proofs.YtcboegodjlfmnaaDoor.Str Go.Proofs.YtcboegodjlfmnaaDoor.Flt Go.Proofs.YtcboegodjlfmnaaDoor.Owe Go.Proofs.YtcboegodjlfmnaaDoor.Num Go.Proofs.YtcboegodjlfmnaaDoor.Le Go.Proofs.YtcboegodjlfmnaaDoor.Lst Go.Proofs.YtcboegodjlfmnaaDoor.Aid Go.RowKit Go.Proofs.YtcboegodjlfmnaaDoorW.PrintWords Go.Proofs.YtcboegodjlfmnaaDoorW.PrintLast Go.Proofs.YtcboegodjlfmnaaDoorW.PrintMore
set_option linter.unusedVariables false
set_option linter.unusedSimpArgs false
theorem cutTo64_calls (n : Int) (h0 : 0 ≤ n) (h1 : n < 18446744073709551616) (w : World) :
    Calls Tryd.prog 20 #[.int .i64 64, .int .u64 n] w fun e w' => e = .returned (.int .i64 (IntKind.i64.wrap n)) ∧ w = w' := by
  obtain ⟨y, hy⟩ : ∃ y, IntKind.i64.wrap n = y := ⟨_, rfl⟩
  rw [hy]
  go_enter Tryd.func20, Tryd.ntmps20
  go_wp2_with (fail)
  go_ret
  exact ⟨rfl, rfl⟩
theorem cut32 (n : Int) (h0 : 0 ≤ n) (h1 : n < 18446744073709551616) : IntKind.i64.wrap (IntKind.u64.wrap (n * 4294967296)) / 4294967296 = IntKind.i32.wrap n := by
  rw [IntKind.wrap_u64, IntKind.wrap_i64, IntKind.wrap_i32]; omega
theorem cutTo32_calls (n : Int) (h0 : 0 ≤ n) (h1 : n < 18446744073709551616) (w : World) :
    Calls Tryd.prog 20 #[.int .i64 32, .int .u64 n] w fun e w' => e = .returned (.int .i64 (IntKind.i32.wrap n)) ∧ w = w' := by
  have HC := Aside0.mk (cut32 n h0 h1)
  obtain ⟨y, hy⟩ : ∃ y, IntKind.i32.wrap n = y := ⟨_, rfl⟩
  rw [hy] at HC ⊢
  obtain ⟨u, hu⟩ : ∃ u, IntKind.u64.wrap (n * 4294967296) = u := ⟨_, rfl⟩
  rw [hu] at HC
  obtain ⟨v, hv⟩ : ∃ v, IntKind.i64.wrap u = v := ⟨_, rfl⟩
  rw [hv] at HC
  have hq := HC.out
  go_enter Tryd.func20, Tryd.ntmps20
  go_wp2_with (fail)
  go_ret
  exact ⟨rfl, rfl⟩
theorem cut16 (n : Int) (h0 : 0 ≤ n) (h1 : n < 18446744073709551616) : IntKind.i64.wrap (IntKind.u64.wrap (n * 281474976710656)) / 281474976710656 = IntKind.i16.wrap n := by
  rw [IntKind.wrap_u64, IntKind.wrap_i64, wrap_i16]; omega
theorem cutTo16_calls (n : Int) (h0 : 0 ≤ n) (h1 : n < 18446744073709551616) (w : World) :
    Calls Tryd.prog 20 #[.int .i64 16, .int .u64 n] w fun e w' => e = .returned (.int .i64 (IntKind.i16.wrap n)) ∧ w = w' := by
  have HC := Aside0.mk (cut16 n h0 h1)
  obtain ⟨y, hy⟩ : ∃ y, IntKind.i16.wrap n = y := ⟨_, rfl⟩
  rw [hy] at HC ⊢
  obtain ⟨u, hu⟩ : ∃ u, IntKind.u64.wrap (n * 281474976710656) = u := ⟨_, rfl⟩
  rw [hu] at HC
  obtain ⟨v, hv⟩ : ∃ v, IntKind.i64.wrap u = v := ⟨_, rfl⟩
  rw [hv] at HC
  have hq := HC.out
  go_enter Tryd.func20, Tryd.ntmps20
  go_wp2_with (fail)
  go_ret
  exact ⟨rfl, rfl⟩
theorem cut8 (n : Int) (h0 : 0 ≤ n) (h1 : n < 18446744073709551616) : IntKind.i64.wrap (IntKind.u64.wrap (n * 72057594037927936)) / 72057594037927936 = IntKind.i8.wrap n := by
  rw [IntKind.wrap_u64, IntKind.wrap_i64, wrap_i8]; omega
theorem cutTo8_calls (n : Int) (h0 : 0 ≤ n) (h1 : n < 18446744073709551616) (w : World) :
    Calls Tryd.prog 20 #[.int .i64 8, .int .u64 n] w fun e w' => e = .returned (.int .i64 (IntKind.i8.wrap n)) ∧ w = w' := by
  have HC := Aside0.mk (cut8 n h0 h1)
  obtain ⟨y, hy⟩ : ∃ y, IntKind.i8.wrap n = y := ⟨_, rfl⟩
  rw [hy] at HC ⊢
  obtain ⟨u, hu⟩ : ∃ u, IntKind.u64.wrap (n * 72057594037927936) = u := ⟨_, rfl⟩
  rw [hu] at HC
  obtain ⟨v, hv⟩ : ∃ v, IntKind.i64.wrap u = v := ⟨_, rfl⟩
  rw [hv] at HC
  have hq := HC.out
  go_enter Tryd.func20, Tryd.ntmps20
  go_wp2_with (fail)
  go_ret
  exact ⟨rfl, rfl⟩
def Bits (b m : Int) : Prop := (b = 8 ∧ m = 128) ∨ (b = 16 ∧ m = 32768) ∨ (b = 32 ∧ m = 2147483648) ∨ (b = 64 ∧ m = 9223372036854775808)
theorem cut_of (b m : Int) (hbm : Bits b m) (x : Int) (h0 : -9223372036854775808 ≤ x) (h1 : x < 9223372036854775808) :
    ∃ y, (∀ W, Calls Tryd.prog 20 #[.int .i64 b, .int .u64 (IntKind.u64.wrap x)] W fun e w' => e = .returned (.int .i64 y) ∧ W = w') ∧ (y = x ↔ -m ≤ x ∧ x < m) := by
  have h2 : 0 ≤ IntKind.u64.wrap x ∧ IntKind.u64.wrap x < 18446744073709551616 := by rw [IntKind.wrap_u64]; omega
  rcases hbm with ⟨rfl, rfl⟩ | ⟨rfl, rfl⟩ | ⟨rfl, rfl⟩ | ⟨rfl, rfl⟩
  · exact ⟨_, fun W => cutTo8_calls _ h2.1 h2.2 W, by rw [IntKind.wrap_u64, wrap_i8]; omega⟩
  · exact ⟨_, fun W => cutTo16_calls _ h2.1 h2.2 W, by rw [IntKind.wrap_u64, wrap_i16]; omega⟩
  · exact ⟨_, fun W => cutTo32_calls _ h2.1 h2.2 W, by rw [IntKind.wrap_u64, IntKind.wrap_i32]; omega⟩
  · exact ⟨_, fun W => cutTo64_calls _ h2.1 h2.2 W, by rw [IntKind.wrap_u64, IntKind.wrap_i64]; omega⟩
end Go.Proofs.YtcboegodjlfmnaaDoor.Tsd
