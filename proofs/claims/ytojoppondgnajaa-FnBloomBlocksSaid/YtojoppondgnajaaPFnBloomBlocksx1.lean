-- PRINTED BY print.sh 35421559b90ae4d0a3588c463048766b98c2df88dd9212a6774a882060cdf62d: not written by this session
import Derived.Test.YtojoppondgnajaaPFnBloomBlocksx0
namespace Go.Proofs.Ytojoppondgnajaa.PFnBloomBlocks
open Go.RowKit Go.Proofs.YtojoppondgnajaaW.PrintWords Go.Proofs.YtojoppondgnajaaW.PrintLast Go.Proofs.YtojoppondgnajaaW.PrintMore
attribute [local go_sem] max2_int min2_int max_two min_two max_three min_three max_four min_four   -- for this text's walks alone
set_option linter.unusedVariables false
set_option linter.unusedSimpArgs false

/-! ### pqbloom_NumSplitBlocksOf: function 16 -/
def pqbloom_NumSplitBlocksOf.f (a0 : Int) (a1 : Int) : Option (Int) := some (wrap64 (IntKind.u64.wrap (Int.tdiv (IntKind.u64.wrap ((IntKind.u64.wrap (Int.tdiv (IntKind.u64.wrap ((IntKind.u64.wrap ((IntKind.u64.wrap (a0)) * a1)) + 7)) 8)) + 31)) 32)))
set_option maxHeartbeats 8000000 in
set_option maxRecDepth 100000 in
theorem pqbloom_NumSplitBlocksOf.calls (a0 : Int) (a1 : Int) (r : Int) (w : World) (h : pqbloom_NumSplitBlocksOf.f a0 a1 = some r) :
    Calls Try.prog 16 #[.int .i64 a0, .int .u64 a1] w fun e w' => e = .returned (.int .i64 r) ∧ Drawn0 w w' := by
  have H : (some (wrap64 (IntKind.u64.wrap (Int.tdiv (IntKind.u64.wrap ((IntKind.u64.wrap (Int.tdiv (IntKind.u64.wrap ((IntKind.u64.wrap ((IntKind.u64.wrap (a0)) * a1)) + 7)) 8)) + 31)) 32)))) = some r := h
  clear h
  obtain rfl := Option.some.inj H
  go_enter Try.func16, Try.ntmps16
  go_wp2
  go_ret
  exact ⟨by first | rfl | (simp; done) | (simp [*]; done), by repeat (first | exact Drawn0.refl _ | apply Drawn0.step)⟩

/-! ### impl_BlocksOf: function 7 -/
def impl_BlocksOf.f (a0 : Int) (a1 : Int) : Option (Int) := (pqbloom_NumSplitBlocksOf.f a0 a1).bind fun t101 => (some t101)
set_option maxHeartbeats 8000000 in
set_option maxRecDepth 100000 in
theorem impl_BlocksOf.calls (a0 : Int) (a1 : Int) (r : Int) (w : World) (h : impl_BlocksOf.f a0 a1 = some r) :
    Calls Try.prog 7 #[.int .i64 a0, .int .u64 a1] w fun e w' => e = .returned (.int .i64 r) ∧ Drawn0 w w' := by
  have H : ((pqbloom_NumSplitBlocksOf.f a0 a1).bind fun t101 => (some t101)) = some r := h
  clear h
  replace H := Option.bind_eq_some_iff.mp H
  obtain ⟨t101, A30, H⟩ := H
  replace H : (some t101) = some r := H
  have A3 := Aside0.mk A30
  clear A30
  obtain rfl := Option.some.inj H
  go_enter Try.func7, Try.ntmps7
  go_wp2_with (first | ((with_reducible refine gate_callee (f := 16) rfl ?_); refine goesL_ (some 7) rfl rfl Try.func16 (by kernel_rfl) rfl #[.int .i64 a0, .int .u64 a1] rfl (by (try simp only [List.map_toArray, List.map_cons, List.map_nil]); first | done | rfl | (simp only [List.length_drop, List.length_take]; rfl)) ?_; (with_reducible refine (pqbloom_NumSplitBlocksOf.calls a0 a1 t101 _ A3.out).mono ?_); rintro e w' ⟨rfl, ⟨nd, rfl⟩⟩; refine ⟨_, rfl, ?_⟩))
  go_ret
  exact ⟨by first | rfl | (simp; done) | (simp [*]; done), by repeat (first | exact Drawn0.refl _ | apply Drawn0.step)⟩

/-! ### laws_FnBloomBlocks: function 3 -/
def laws_FnBloomBlocks.f (a0 : Int) (a1 : Int) : Option (Bool) := (impl_BlocksOf.f (Go.bits .and .i64 a0 16777215) (IntKind.u64.wrap (Go.bits .and .i64 a1 255))).bind fun t102 => (if (wrap64 (t102 * 256)) ≥ (wrap64 ((Go.bits .and .i64 a0 16777215) * (Go.bits .and .i64 a1 255))) then (some (decide ((wrap64 ((wrap64 (t102 - 1)) * 256)) < (wrap64 ((Go.bits .and .i64 a0 16777215) * (Go.bits .and .i64 a1 255)))))) else (some false))
set_option maxHeartbeats 8000000 in
set_option maxRecDepth 100000 in
theorem laws_FnBloomBlocks.calls (a0 : Int) (a1 : Int) (r : Bool) (w : World) (h : laws_FnBloomBlocks.f a0 a1 = some r) :
    Calls Try.prog 3 #[.int .i64 a0, .int .i64 a1] w fun e w' => e = .returned (.bool r) ∧ Drawn0 w w' := by
  have H : ((impl_BlocksOf.f (Go.bits .and .i64 a0 16777215) (IntKind.u64.wrap (Go.bits .and .i64 a1 255))).bind fun t102 => (if (wrap64 (t102 * 256)) ≥ (wrap64 ((Go.bits .and .i64 a0 16777215) * (Go.bits .and .i64 a1 255))) then (some (decide ((wrap64 ((wrap64 (t102 - 1)) * 256)) < (wrap64 ((Go.bits .and .i64 a0 16777215) * (Go.bits .and .i64 a1 255)))))) else (some false))) = some r := h
  clear h
  replace H := Option.bind_eq_some_iff.mp H
  obtain ⟨t102, A30, H⟩ := H
  replace H : (if (wrap64 (t102 * 256)) ≥ (wrap64 ((Go.bits .and .i64 a0 16777215) * (Go.bits .and .i64 a1 255))) then (some (decide ((wrap64 ((wrap64 (t102 - 1)) * 256)) < (wrap64 ((Go.bits .and .i64 a0 16777215) * (Go.bits .and .i64 a1 255)))))) else (some false)) = some r := H
  have A3 := Aside0.mk A30
  clear A30
  by_cases c4 : (wrap64 (t102 * 256)) ≥ (wrap64 ((Go.bits .and .i64 a0 16777215) * (Go.bits .and .i64 a1 255)))
  · rw [if_pos c4] at H
    have c4b0 : decide ((wrap64 ((Go.bits .and .i64 a0 16777215) * (Go.bits .and .i64 a1 255))) ≤ (wrap64 (t102 * 256))) = true := decide_eq_true c4
    clear c4
    obtain rfl := Option.some.inj H
    go_enter Try.func3, Try.ntmps3
    go_wp2_with (first | ((with_reducible refine gate_callee (f := 7) rfl ?_); refine goesL_ (some 15) rfl rfl Try.func7 (by kernel_rfl) rfl #[.int .i64 (Go.bits .and .i64 a0 16777215), .int .u64 (IntKind.u64.wrap (Go.bits .and .i64 a1 255))] rfl (by (try simp only [List.map_toArray, List.map_cons, List.map_nil]); first | done | rfl | (simp only [List.length_drop, List.length_take]; rfl)) ?_; (with_reducible refine (impl_BlocksOf.calls (Go.bits .and .i64 a0 16777215) (IntKind.u64.wrap (Go.bits .and .i64 a1 255)) t102 _ A3.out).mono ?_); rintro e w' ⟨rfl, ⟨nd, rfl⟩⟩; refine ⟨_, rfl, ?_⟩))
    go_ret
    exact ⟨by first | rfl | (simp; done) | (simp [*]; done), by repeat (first | exact Drawn0.refl _ | apply Drawn0.step)⟩
  · rw [if_neg c4] at H
    have c4b0 : decide ((wrap64 ((Go.bits .and .i64 a0 16777215) * (Go.bits .and .i64 a1 255))) ≤ (wrap64 (t102 * 256))) = false := decide_eq_false c4
    clear c4
    obtain rfl := Option.some.inj H
    go_enter Try.func3, Try.ntmps3
    go_wp2_with (first | ((with_reducible refine gate_callee (f := 7) rfl ?_); refine goesL_ (some 15) rfl rfl Try.func7 (by kernel_rfl) rfl #[.int .i64 (Go.bits .and .i64 a0 16777215), .int .u64 (IntKind.u64.wrap (Go.bits .and .i64 a1 255))] rfl (by (try simp only [List.map_toArray, List.map_cons, List.map_nil]); first | done | rfl | (simp only [List.length_drop, List.length_take]; rfl)) ?_; (with_reducible refine (impl_BlocksOf.calls (Go.bits .and .i64 a0 16777215) (IntKind.u64.wrap (Go.bits .and .i64 a1 255)) t102 _ A3.out).mono ?_); rintro e w' ⟨rfl, ⟨nd, rfl⟩⟩; refine ⟨_, rfl, ?_⟩))
    go_ret
    exact ⟨by first | rfl | (simp; done) | (simp [*]; done), by repeat (first | exact Drawn0.refl _ | apply Drawn0.step)⟩

/-- THE ONE PURE STATEMENT of laws_FnBloomBlocks: yours. -/
def laws_FnBloomBlocks.Pure : Prop := ∀ (a0 : Int) (a1 : Int), (Lit.int .i64 a0).wf = true → (Lit.int .i64 a1).wf = true → laws_FnBloomBlocks.f a0 a1 = some true
theorem laws_FnBloomBlocks.walk (P : laws_FnBloomBlocks.Pure) (a0 : Int) (a1 : Int) (w : World) (w0 : (Lit.int .i64 a0).wf = true) (w1 : (Lit.int .i64 a1).wf = true) :
    Calls Try.prog 3 #[.int .i64 a0, .int .i64 a1] w fun e w' => e = .returned (.bool true) ∧ Below w.heap.size w w' := by
  have h := P a0 a1 w0 w1
  refine (laws_FnBloomBlocks.calls a0 a1 true w h).mono ?_
  rintro e w' ⟨rfl, hd⟩
  exact ⟨rfl, hd.below⟩

end Go.Proofs.Ytojoppondgnajaa.PFnBloomBlocks
