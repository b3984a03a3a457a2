-- Laid by a program of this session over the kit's print (stand-ins: functions proved by hand).
import Derived.Test.YtojoppondgnajaaPFnHashIntx0
namespace Go.Proofs.Ytojoppondgnajaa.PFnHashInt
open Go.Proofs.Ytojoppondgnajaa.Aid Go.Proofs.Ytojoppondgnajaa.Xx
open Go.RowKit Go.Proofs.YtojoppondgnajaaW.PrintWords Go.Proofs.YtojoppondgnajaaW.PrintLast Go.Proofs.YtojoppondgnajaaW.PrintMore
attribute [local go_sem] max2_int min2_int max_two min_two max_three min_three max_four min_four   -- for this text's walks alone
set_option linter.unusedVariables false
set_option linter.unusedSimpArgs false

/-! ### spec_Low: function 8 -/
def spec_Low.l0 : Nat → Int → List Int → Int → Int → Option (List Int)
  | 0, _, _, _, _ => none
  | k + 1, x1, x5, x6, x7 => if x7 < x6 then (if x5.length < 140737488355328 then (spec_Low.l0 k (x1 / 256) (x5 ++ [(x1) % 256]) x6 (wrap64 (x7 + 1))) else (none)) else (some x5)
def spec_Low.f (k : Nat) (a0 : Int) (a1 : Int) : Option (List Int) := spec_Low.l0 k a1 ([] : List Int) a0 0
theorem spec_Low.mono_l : ∀ k, (∀ y0 y1 y2 y3, LeO (spec_Low.l0 k y0 y1 y2 y3) (spec_Low.l0 (k + 1) y0 y1 y2 y3))
  | 0 => fun _ _ _ _ r h => by simp [spec_Low.l0] at h
  | k + 1 => by
    have ih0 := spec_Low.mono_l k
    · intro y0 y1 y2 y3
      unfold spec_Low.l0
      repeat' first
      | (with_reducible exact ih0 _ _ _ _)
      | (with_reducible exact LeO.refl _)
      | (with_reducible exact LeO.none _)
      | (with_reducible refine LeO.ite ?_ ?_)
      | (with_reducible refine LeO.bind ?_ (fun _ => ?_))
      | exact ih0 _ _ _ _
      | exact LeO.none _
      | refine LeO.ite ?_ ?_
      | refine LeO.bind ?_ (fun _ => ?_)
theorem spec_Low.mono : ∀ a0 a1 k, LeO (spec_Low.f k a0 a1) (spec_Low.f (k + 1) a0 a1) := by
  intro a0 a1 k
  have ih0 := spec_Low.mono_l k
  unfold spec_Low.f
  repeat' first
      | (with_reducible exact ih0 _ _ _ _)
      | (with_reducible exact LeO.refl _)
      | (with_reducible exact LeO.none _)
      | (with_reducible refine LeO.ite ?_ ?_)
      | (with_reducible refine LeO.bind ?_ (fun _ => ?_))
      | exact ih0 _ _ _ _
      | exact LeO.none _
      | refine LeO.ite ?_ ?_
      | refine LeO.bind ?_ (fun _ => ?_)
set_option maxHeartbeats 8000000 in
set_option maxRecDepth 100000 in
theorem spec_Low.calls (k : Nat) (a0 : Int) (a1 : Int) (r : List Int) (w : World) (h : spec_Low.f k a0 a1 = some r) :
    Calls Try.prog 8 #[.int .i64 a0, .int .u64 a1] w fun e w' => ∃ v0_ : Value, e = .returned (v0_) ∧ Kd.R (Kd.int .u8) 5 w' w.heap.size (fun _ => True) v0_ r ∧ Below w.heap.size w w' := by
  have HB := Aside0.mk (Below.refl w.heap.size w)
  have H : (spec_Low.l0 k a1 ([] : List Int) a0 0) = some r := h
  clear h
  have H' := Aside0.mk H
  clear H
  go_enter Try.func8, Try.ntmps8
  go_wp2
  go_loopg [1, 5, 7] k (fun kq v1 v5 v7 w' => ∃ (x1_1 : Int) (x5_1 : List Int) (x7_1 : Int), v1 = .int .u64 x1_1 ∧ v7 = .int .i64 x7_1 ∧ Aside0 (spec_Low.l0 kq x1_1 x5_1 a0 x7_1 = some r) ∧ Aside0 (kq ≤ k) ∧ Aside0 (Kd.R (Kd.int .u8) 5 w' w.heap.size (fun _ => True) v5 x5_1) ∧ Aside0 (Below w.heap.size w w'))
  case atStart => exact ⟨(a1), (([] : List Int)), (0), (by first | rfl | (simp; done) | (simp [*]; done)), (by first | rfl | (simp; done) | (simp [*]; done)), H', ⟨Nat.le_refl _⟩, ⟨by first | exact Kd.R_nil _ _ _ _ _ | exact Kd.N_nil _ _ _ _ _ | exact Kd.V_nil _ _ _ _ _ | exact Kd.Q_nil _ _ _ _ _ | exact Kd.S_nil _ _ _ _ _⟩, ⟨by repeat (first | (with_reducible first | exact HB.out | apply below_alloc | apply pw_below_drewN | apply below_drew1) | exact HB.out)⟩⟩
  case round =>
    clear H'
    try clear p2
    obtain ⟨x1_1, x5_1, x7_1, rfl, rfl, HA, HK1, HO_5, HB⟩ := hrel
    cases gk with
    | zero => exact absurd HA.out (by simp [spec_Low.l0])
    | succ k1 =>
      have H := HA.out
      clear HA
      simp only [spec_Low.l0] at H
      by_cases c3 : x7_1 < a0
      · rw [if_pos c3] at H
        have c3b0 : decide (x7_1 < a0) = true := decide_eq_true c3
        clear c3
        by_cases c4 : x5_1.length < 140737488355328
        · rw [if_pos c4] at H
          have LMc4 := Aside0.mk c4
          clear c4
          obtain ⟨y101, hy101⟩ : ∃ y_ : List Int, y_ = (x5_1 ++ [(x1_1) % 256]) := ⟨_, rfl⟩
          replace H : (spec_Low.l0 k1 (x1_1 / 256) y101 a0 (wrap64 (x7_1 + 1))) = some r := by first | (rw [hy101]; with_reducible exact H) | (have H2_ := (Option.bind_some _ _).symm.trans H; rw [hy101]; with_reducible exact H2_) | (have H2_ := (Option.bind_some _ _).symm.trans H; with_reducible exact H2_) | with_reducible exact H | (rw [hy101]; exact H) | exact H
          have Ny101 := Aside0.mk hy101
          clear hy101
          have H' := Aside0.mk H
          clear H
          go_wp2_with (first | ((with_reducible refine gate_builtin (b := .append) (xs := #[.tmp 9, .tmp 12]) rfl ?_); at_builtin; refine Kd.R_append (Kd.int .u8) (w0 := w) w.heap.size rfl (.tmp 9) (.tmp 12) 26 5 (.int .u8 0) 1 rfl Try.underlying26 info5 rfl (by decide) (by omega) u5 x5_1 ((x1_1) % 256) [.int .u8 ((x1_1) % 256)] (fun _ => True) (fun _ => False) rfl rfl ?aP (fun _ hk => hk.elim) ?aF ?aO ?aB ?aS ?aL ?_; (case aP => exact rfl); (case aB => exact (by repeat (first | (with_reducible first | exact HB.out | apply below_alloc | apply pw_below_drewN | apply below_drew1) | exact HB.out))); (case aF => exact (fun _ _ => trivial)); (case aO => exact (by (with_reducible repeat (first | apply Kd.R_alloc | apply Kd.R_drewN | apply Kd.R_drew)); exact HO_5.out)); (case aS => exact (below_size (by repeat (first | (with_reducible first | exact HB.out | apply below_alloc | apply pw_below_drewN | apply below_drew1) | exact HB.out)))); (case aL => have := LMc4.out; omega); intro v102 w5 ho hb hg hat; rw [← Ny101.out] at ho; have n0_ := Aside0.mk (hb); have n1_ := Aside0.mk (ho); clear HB; clear HO_5; have HB := n0_; have HO103 := n1_; clear n0_ n1_; clear ho hb hg hat))
          go_roundg k1
          case measure => have := HK1.out; omega
          case rel => exact ⟨(x1_1 / 256), (y101), (wrap64 (x7_1 + 1)), (by first | rfl | (simp; done) | (simp [*]; done)), (by first | rfl | (simp; done) | (simp [*]; done)), H', ⟨by have := HK1.out; omega⟩, ⟨by (with_reducible repeat (first | apply Kd.R_alloc | apply Kd.R_drewN | apply Kd.R_drew)); exact HO103.out⟩, ⟨by repeat (first | (with_reducible first | exact HB.out | apply below_alloc | apply pw_below_drewN | apply below_drew1) | exact HB.out)⟩⟩
        · rw [if_neg c4] at H
          exact absurd H (by simp)
      · rw [if_neg c3] at H
        have c3b0 : decide (x7_1 < a0) = false := decide_eq_false c3
        clear c3
        obtain rfl := Option.some.inj H
        go_wp2
        go_ret
        exact ⟨_, by first | rfl | (simp [errW_none, errW_some] <;> rfl) | (simp [*, errW_none, errW_some] <;> rfl), by (with_reducible repeat (first | apply Kd.R_alloc | apply Kd.R_drewN | apply Kd.R_drew)); exact HO_5.out, by repeat (first | (with_reducible first | exact HB.out | apply below_alloc | apply pw_below_drewN | apply below_drew1) | exact HB.out)⟩

/-! ### pqxxhash_avalanche: function 28 -/
def pqxxhash_avalanche.f (a0 : Int) : Option (Int) := some (Go.bits .xor .u64 (IntKind.u64.wrap ((Go.bits .xor .u64 (IntKind.u64.wrap ((Go.bits .xor .u64 a0 (a0 / 8589934592)) * 14029467366897019727)) ((IntKind.u64.wrap ((Go.bits .xor .u64 a0 (a0 / 8589934592)) * 14029467366897019727)) / 536870912)) * 1609587929392839161)) ((IntKind.u64.wrap ((Go.bits .xor .u64 (IntKind.u64.wrap ((Go.bits .xor .u64 a0 (a0 / 8589934592)) * 14029467366897019727)) ((IntKind.u64.wrap ((Go.bits .xor .u64 a0 (a0 / 8589934592)) * 14029467366897019727)) / 536870912)) * 1609587929392839161)) / 4294967296))
set_option maxHeartbeats 8000000 in
set_option maxRecDepth 100000 in
theorem pqxxhash_avalanche.calls (a0 : Int) (r : Int) (w : World) (h : pqxxhash_avalanche.f a0 = some r) :
    Calls Try.prog 28 #[.int .u64 a0] w fun e w' => e = .returned (.int .u64 r) ∧ Drawn0 w w' := by
  have H : (some (Go.bits .xor .u64 (IntKind.u64.wrap ((Go.bits .xor .u64 (IntKind.u64.wrap ((Go.bits .xor .u64 a0 (a0 / 8589934592)) * 14029467366897019727)) ((IntKind.u64.wrap ((Go.bits .xor .u64 a0 (a0 / 8589934592)) * 14029467366897019727)) / 536870912)) * 1609587929392839161)) ((IntKind.u64.wrap ((Go.bits .xor .u64 (IntKind.u64.wrap ((Go.bits .xor .u64 a0 (a0 / 8589934592)) * 14029467366897019727)) ((IntKind.u64.wrap ((Go.bits .xor .u64 a0 (a0 / 8589934592)) * 14029467366897019727)) / 536870912)) * 1609587929392839161)) / 4294967296))) = some r := h
  clear h
  obtain rfl := Option.some.inj H
  go_enter Try.func28, Try.ntmps28
  go_wp2
  go_ret
  exact ⟨by first | rfl | (simp; done) | (simp [*]; done), by repeat (first | exact Drawn0.refl _ | apply Drawn0.step)⟩

/-! ### bits_RotateLeft64: function 40 -/
def bits_RotateLeft64.f (a0 : Int) (a1 : Int) : Option (Int) := if 0 ≤ (Go.bits .and .u64 (IntKind.u64.wrap (a1)) 63) then (if 0 ≤ (IntKind.u64.wrap (64 - (Go.bits .and .u64 (IntKind.u64.wrap (a1)) 63))) then (some (Go.bits .or .u64 (shl .u64 a0 (Go.bits .and .u64 (IntKind.u64.wrap (a1)) 63)) (shr .u64 a0 (IntKind.u64.wrap (64 - (Go.bits .and .u64 (IntKind.u64.wrap (a1)) 63)))))) else (none)) else (none)
set_option maxHeartbeats 8000000 in
set_option maxRecDepth 100000 in
theorem bits_RotateLeft64.calls (a0 : Int) (a1 : Int) (r : Int) (w : World) (h : bits_RotateLeft64.f a0 a1 = some r) :
    Calls Try.prog 40 #[.int .u64 a0, .int .i64 a1] w fun e w' => e = .returned (.int .u64 r) ∧ Drawn0 w w' := by
  have H : (if 0 ≤ (Go.bits .and .u64 (IntKind.u64.wrap (a1)) 63) then (if 0 ≤ (IntKind.u64.wrap (64 - (Go.bits .and .u64 (IntKind.u64.wrap (a1)) 63))) then (some (Go.bits .or .u64 (shl .u64 a0 (Go.bits .and .u64 (IntKind.u64.wrap (a1)) 63)) (shr .u64 a0 (IntKind.u64.wrap (64 - (Go.bits .and .u64 (IntKind.u64.wrap (a1)) 63)))))) else (none)) else (none)) = some r := h
  clear h
  obtain ⟨ji3, hji3⟩ : ∃ j_ : Int, (Go.bits .and .u64 (IntKind.u64.wrap (a1)) 63) = j_ := ⟨_, rfl⟩
  replace H : (if 0 ≤ (ji3) then (if 0 ≤ (IntKind.u64.wrap (64 - (ji3))) then (some (Go.bits .or .u64 (shl .u64 a0 (ji3)) (shr .u64 a0 (IntKind.u64.wrap (64 - (ji3)))))) else (none)) else (none)) = some r := by first | (rw [hji3] at H; exact H) | (simp only [hji3] at H ⊢; exact H)
  by_cases c4 : 0 ≤ (ji3)
  · rw [if_pos c4] at H
    have c4b0 := eq_true c4
    have c4b1 : decide (0 ≤ (ji3)) = true := decide_eq_true c4
    clear c4
    obtain ⟨ji5, hji5⟩ : ∃ j_ : Int, (shl .u64 a0 (ji3)) = j_ := ⟨_, rfl⟩
    replace H : (if 0 ≤ (IntKind.u64.wrap (64 - (ji3))) then (some (Go.bits .or .u64 (ji5) (shr .u64 a0 (IntKind.u64.wrap (64 - (ji3)))))) else (none)) = some r := by first | (rw [hji5] at H; exact H) | (simp only [hji5] at H ⊢; exact H)
    have hji5_ : (IntKind.u64.wrap (a0 * 2 ^ min (ji3).toNat 64)) = ji5 := hji5
    have hji5z : (ji3) ≤ 64 → (IntKind.u64.wrap (a0 * 2 ^ (ji3).toNat)) = ji5 := shl_small hji5
    obtain ⟨ji6, hji6⟩ : ∃ j_ : Int, (IntKind.u64.wrap (64 - (ji3))) = j_ := ⟨_, rfl⟩
    replace H : (if 0 ≤ (ji6) then (some (Go.bits .or .u64 (ji5) (shr .u64 a0 (ji6)))) else (none)) = some r := by first | (rw [hji6] at H; exact H) | (simp only [hji6] at H ⊢; exact H)
    by_cases c7 : 0 ≤ (ji6)
    · rw [if_pos c7] at H
      have c7b0 := eq_true c7
      have c7b1 : decide (0 ≤ (ji6)) = true := decide_eq_true c7
      clear c7
      obtain ⟨ji8, hji8⟩ : ∃ j_ : Int, (shr .u64 a0 (ji6)) = j_ := ⟨_, rfl⟩
      replace H : (some (Go.bits .or .u64 (ji5) (ji8))) = some r := by first | (rw [hji8] at H; exact H) | (simp only [hji8] at H ⊢; exact H)
      have hji8_ : (a0 / 2 ^ min (ji6).toNat 64) = ji8 := hji8
      have hji8z : (ji6) ≤ 64 → (a0 / 2 ^ (ji6).toNat) = ji8 := shr_small hji8
      obtain rfl := Option.some.inj H
      go_enter Try.func40, Try.ntmps40
      go_wp2
      go_ret
      exact ⟨by first | rfl | (simp; done) | (simp only [← hji3, ← hji5, ← hji6, ← hji8] <;> (first | rfl | simp)) | (simp [*]; done), by repeat (first | exact Drawn0.refl _ | apply Drawn0.step)⟩
    · rw [if_neg c7] at H
      exact absurd H (by simp)
  · rw [if_neg c4] at H
    exact absurd H (by simp)

/-! ### pqxxhash_rol11: function 29 -/
def pqxxhash_rol11.f (a0 : Int) : Option (Int) := (bits_RotateLeft64.f a0 11).bind fun t104 => (some t104)
set_option maxHeartbeats 8000000 in
set_option maxRecDepth 100000 in
theorem pqxxhash_rol11.calls (a0 : Int) (r : Int) (w : World) (h : pqxxhash_rol11.f a0 = some r) :
    Calls Try.prog 29 #[.int .u64 a0] w fun e w' => e = .returned (.int .u64 r) ∧ Drawn0 w w' := by
  have H : ((bits_RotateLeft64.f a0 11).bind fun t104 => (some t104)) = some r := h
  clear h
  replace H := Option.bind_eq_some_iff.mp H
  obtain ⟨t104, A20, H⟩ := H
  replace H : (some t104) = some r := H
  have A2 := Aside0.mk A20
  clear A20
  obtain rfl := Option.some.inj H
  go_enter Try.func29, Try.ntmps29
  go_wp2_with (first | ((with_reducible refine gate_callee (f := 40) rfl ?_); refine goesL_ (some 4) rfl rfl Try.func40 (by kernel_rfl) rfl #[.int .u64 a0, .int .i64 11] rfl (by (try simp only [List.map_toArray, List.map_cons, List.map_nil]); first | done | rfl | (simp only [List.length_drop, List.length_take]; rfl)) ?_; (with_reducible refine (bits_RotateLeft64.calls a0 11 t104 _ A2.out).mono ?_); rintro e w' ⟨rfl, ⟨nd, rfl⟩⟩; refine ⟨_, rfl, ?_⟩))
  go_ret
  exact ⟨by first | rfl | (simp; done) | (simp [*]; done), by repeat (first | exact Drawn0.refl _ | apply Drawn0.step)⟩

/-! ### pqxxhash_Sum64Uint8: function 17 -/
def pqxxhash_Sum64Uint8.f (a0 : Int) : Option (Int) := (pqxxhash_rol11.f (Go.bits .xor .u64 2870177450012600262 (IntKind.u64.wrap ((IntKind.u64.wrap (a0)) * 2870177450012600261)))).bind fun t105 => ((pqxxhash_avalanche.f (IntKind.u64.wrap (t105 * 11400714785074694791))).bind fun t106 => (some t106))
set_option maxHeartbeats 8000000 in
set_option maxRecDepth 100000 in
theorem pqxxhash_Sum64Uint8.calls (a0 : Int) (r : Int) (w : World) (h : pqxxhash_Sum64Uint8.f a0 = some r) :
    Calls Try.prog 17 #[.int .u8 a0] w fun e w' => e = .returned (.int .u64 r) ∧ Drawn0 w w' := by
  have H : ((pqxxhash_rol11.f (Go.bits .xor .u64 2870177450012600262 (IntKind.u64.wrap ((IntKind.u64.wrap (a0)) * 2870177450012600261)))).bind fun t105 => ((pqxxhash_avalanche.f (IntKind.u64.wrap (t105 * 11400714785074694791))).bind fun t106 => (some t106))) = some r := h
  clear h
  replace H := Option.bind_eq_some_iff.mp H
  obtain ⟨t105, A20, H⟩ := H
  replace H : ((pqxxhash_avalanche.f (IntKind.u64.wrap (t105 * 11400714785074694791))).bind fun t106 => (some t106)) = some r := H
  have A2 := Aside0.mk A20
  clear A20
  replace H := Option.bind_eq_some_iff.mp H
  obtain ⟨t106, A30, H⟩ := H
  replace H : (some t106) = some r := H
  have A3 := Aside0.mk A30
  clear A30
  obtain rfl := Option.some.inj H
  go_enter Try.func17, Try.ntmps17
  go_wp2_with (first | ((with_reducible refine gate_callee (f := 29) rfl ?_); refine goesL_ (some 10) rfl rfl Try.func29 (by kernel_rfl) rfl #[.int .u64 (Go.bits .xor .u64 2870177450012600262 (IntKind.u64.wrap ((IntKind.u64.wrap (a0)) * 2870177450012600261)))] rfl (by (try simp only [List.map_toArray, List.map_cons, List.map_nil]); first | done | rfl | (simp only [List.length_drop, List.length_take]; rfl)) ?_; (with_reducible refine (pqxxhash_rol11.calls (Go.bits .xor .u64 2870177450012600262 (IntKind.u64.wrap ((IntKind.u64.wrap (a0)) * 2870177450012600261))) t105 _ A2.out).mono ?_); rintro e w' ⟨rfl, ⟨nd, rfl⟩⟩; refine ⟨_, rfl, ?_⟩) | ((with_reducible refine gate_callee (f := 28) rfl ?_); refine goesL_ (some 12) rfl rfl Try.func28 (by kernel_rfl) rfl #[.int .u64 (IntKind.u64.wrap (t105 * 11400714785074694791))] rfl (by (try simp only [List.map_toArray, List.map_cons, List.map_nil]); first | done | rfl | (simp only [List.length_drop, List.length_take]; rfl)) ?_; (with_reducible refine (pqxxhash_avalanche.calls (IntKind.u64.wrap (t105 * 11400714785074694791)) t106 _ A3.out).mono ?_); rintro e w' ⟨rfl, ⟨nd, rfl⟩⟩; refine ⟨_, rfl, ?_⟩))
  go_ret
  exact ⟨by first | rfl | (simp; done) | (simp [*]; done), by repeat (first | exact Drawn0.refl _ | apply Drawn0.step)⟩

/-! ### pqxxhash_Sum64Uint16: function 18 -/
def pqxxhash_Sum64Uint16.f (a0 : Int) : Option (Int) := (pqxxhash_rol11.f (Go.bits .xor .u64 2870177450012600263 (IntKind.u64.wrap ((IntKind.u64.wrap (Go.bits .and .u16 a0 255)) * 2870177450012600261)))).bind fun t107 => ((pqxxhash_rol11.f (Go.bits .xor .u64 (IntKind.u64.wrap (t107 * 11400714785074694791)) (IntKind.u64.wrap ((IntKind.u64.wrap (a0 / 256)) * 2870177450012600261)))).bind fun t108 => ((pqxxhash_avalanche.f (IntKind.u64.wrap (t108 * 11400714785074694791))).bind fun t109 => (some t109)))
set_option maxHeartbeats 8000000 in
set_option maxRecDepth 100000 in
theorem pqxxhash_Sum64Uint16.calls (a0 : Int) (r : Int) (w : World) (h : pqxxhash_Sum64Uint16.f a0 = some r) :
    Calls Try.prog 18 #[.int .u16 a0] w fun e w' => e = .returned (.int .u64 r) ∧ Drawn0 w w' := by
  have H : ((pqxxhash_rol11.f (Go.bits .xor .u64 2870177450012600263 (IntKind.u64.wrap ((IntKind.u64.wrap (Go.bits .and .u16 a0 255)) * 2870177450012600261)))).bind fun t107 => ((pqxxhash_rol11.f (Go.bits .xor .u64 (IntKind.u64.wrap (t107 * 11400714785074694791)) (IntKind.u64.wrap ((IntKind.u64.wrap (a0 / 256)) * 2870177450012600261)))).bind fun t108 => ((pqxxhash_avalanche.f (IntKind.u64.wrap (t108 * 11400714785074694791))).bind fun t109 => (some t109)))) = some r := h
  clear h
  replace H := Option.bind_eq_some_iff.mp H
  obtain ⟨t107, A20, H⟩ := H
  replace H : ((pqxxhash_rol11.f (Go.bits .xor .u64 (IntKind.u64.wrap (t107 * 11400714785074694791)) (IntKind.u64.wrap ((IntKind.u64.wrap (a0 / 256)) * 2870177450012600261)))).bind fun t108 => ((pqxxhash_avalanche.f (IntKind.u64.wrap (t108 * 11400714785074694791))).bind fun t109 => (some t109))) = some r := H
  have A2 := Aside0.mk A20
  clear A20
  replace H := Option.bind_eq_some_iff.mp H
  obtain ⟨t108, A30, H⟩ := H
  replace H : ((pqxxhash_avalanche.f (IntKind.u64.wrap (t108 * 11400714785074694791))).bind fun t109 => (some t109)) = some r := H
  have A3 := Aside0.mk A30
  clear A30
  replace H := Option.bind_eq_some_iff.mp H
  obtain ⟨t109, A40, H⟩ := H
  replace H : (some t109) = some r := H
  have A4 := Aside0.mk A40
  clear A40
  obtain rfl := Option.some.inj H
  go_enter Try.func18, Try.ntmps18
  go_wp2_with (first | ((with_reducible refine gate_callee (f := 29) rfl ?_); refine goesL_ (some 11) rfl rfl Try.func29 (by kernel_rfl) rfl #[.int .u64 (Go.bits .xor .u64 2870177450012600263 (IntKind.u64.wrap ((IntKind.u64.wrap (Go.bits .and .u16 a0 255)) * 2870177450012600261)))] rfl (by (try simp only [List.map_toArray, List.map_cons, List.map_nil]); first | done | rfl | (simp only [List.length_drop, List.length_take]; rfl)) ?_; (with_reducible refine (pqxxhash_rol11.calls (Go.bits .xor .u64 2870177450012600263 (IntKind.u64.wrap ((IntKind.u64.wrap (Go.bits .and .u16 a0 255)) * 2870177450012600261))) t107 _ A2.out).mono ?_); rintro e w' ⟨rfl, ⟨nd, rfl⟩⟩; refine ⟨_, rfl, ?_⟩) | ((with_reducible refine gate_callee (f := 29) rfl ?_); refine goesL_ (some 20) rfl rfl Try.func29 (by kernel_rfl) rfl #[.int .u64 (Go.bits .xor .u64 (IntKind.u64.wrap (t107 * 11400714785074694791)) (IntKind.u64.wrap ((IntKind.u64.wrap (a0 / 256)) * 2870177450012600261)))] rfl (by (try simp only [List.map_toArray, List.map_cons, List.map_nil]); first | done | rfl | (simp only [List.length_drop, List.length_take]; rfl)) ?_; (with_reducible refine (pqxxhash_rol11.calls (Go.bits .xor .u64 (IntKind.u64.wrap (t107 * 11400714785074694791)) (IntKind.u64.wrap ((IntKind.u64.wrap (a0 / 256)) * 2870177450012600261))) t108 _ A3.out).mono ?_); rintro e w' ⟨rfl, ⟨nd, rfl⟩⟩; refine ⟨_, rfl, ?_⟩) | ((with_reducible refine gate_callee (f := 28) rfl ?_); refine goesL_ (some 23) rfl rfl Try.func28 (by kernel_rfl) rfl #[.int .u64 (IntKind.u64.wrap (t108 * 11400714785074694791))] rfl (by (try simp only [List.map_toArray, List.map_cons, List.map_nil]); first | done | rfl | (simp only [List.length_drop, List.length_take]; rfl)) ?_; (with_reducible refine (pqxxhash_avalanche.calls (IntKind.u64.wrap (t108 * 11400714785074694791)) t109 _ A4.out).mono ?_); rintro e w' ⟨rfl, ⟨nd, rfl⟩⟩; refine ⟨_, rfl, ?_⟩))
  go_ret
  exact ⟨by first | rfl | (simp; done) | (simp [*]; done), by repeat (first | exact Drawn0.refl _ | apply Drawn0.step)⟩

/-! ### pqxxhash_rol23: function 30 -/
def pqxxhash_rol23.f (a0 : Int) : Option (Int) := (bits_RotateLeft64.f a0 23).bind fun t110 => (some t110)
set_option maxHeartbeats 8000000 in
set_option maxRecDepth 100000 in
theorem pqxxhash_rol23.calls (a0 : Int) (r : Int) (w : World) (h : pqxxhash_rol23.f a0 = some r) :
    Calls Try.prog 30 #[.int .u64 a0] w fun e w' => e = .returned (.int .u64 r) ∧ Drawn0 w w' := by
  have H : ((bits_RotateLeft64.f a0 23).bind fun t110 => (some t110)) = some r := h
  clear h
  replace H := Option.bind_eq_some_iff.mp H
  obtain ⟨t110, A20, H⟩ := H
  replace H : (some t110) = some r := H
  have A2 := Aside0.mk A20
  clear A20
  obtain rfl := Option.some.inj H
  go_enter Try.func30, Try.ntmps30
  go_wp2_with (first | ((with_reducible refine gate_callee (f := 40) rfl ?_); refine goesL_ (some 4) rfl rfl Try.func40 (by kernel_rfl) rfl #[.int .u64 a0, .int .i64 23] rfl (by (try simp only [List.map_toArray, List.map_cons, List.map_nil]); first | done | rfl | (simp only [List.length_drop, List.length_take]; rfl)) ?_; (with_reducible refine (bits_RotateLeft64.calls a0 23 t110 _ A2.out).mono ?_); rintro e w' ⟨rfl, ⟨nd, rfl⟩⟩; refine ⟨_, rfl, ?_⟩))
  go_ret
  exact ⟨by first | rfl | (simp; done) | (simp [*]; done), by repeat (first | exact Drawn0.refl _ | apply Drawn0.step)⟩

/-! ### pqxxhash_Sum64Uint32: function 19 -/
def pqxxhash_Sum64Uint32.f (a0 : Int) : Option (Int) := (pqxxhash_rol23.f (Go.bits .xor .u64 2870177450012600265 (IntKind.u64.wrap ((IntKind.u64.wrap (a0)) * 11400714785074694791)))).bind fun t111 => ((pqxxhash_avalanche.f (IntKind.u64.wrap ((IntKind.u64.wrap (t111 * 14029467366897019727)) + 1609587929392839161))).bind fun t112 => (some t112))
set_option maxHeartbeats 8000000 in
set_option maxRecDepth 100000 in
theorem pqxxhash_Sum64Uint32.calls (a0 : Int) (r : Int) (w : World) (h : pqxxhash_Sum64Uint32.f a0 = some r) :
    Calls Try.prog 19 #[.int .u32 a0] w fun e w' => e = .returned (.int .u64 r) ∧ Drawn0 w w' := by
  have H : ((pqxxhash_rol23.f (Go.bits .xor .u64 2870177450012600265 (IntKind.u64.wrap ((IntKind.u64.wrap (a0)) * 11400714785074694791)))).bind fun t111 => ((pqxxhash_avalanche.f (IntKind.u64.wrap ((IntKind.u64.wrap (t111 * 14029467366897019727)) + 1609587929392839161))).bind fun t112 => (some t112))) = some r := h
  clear h
  replace H := Option.bind_eq_some_iff.mp H
  obtain ⟨t111, A20, H⟩ := H
  replace H : ((pqxxhash_avalanche.f (IntKind.u64.wrap ((IntKind.u64.wrap (t111 * 14029467366897019727)) + 1609587929392839161))).bind fun t112 => (some t112)) = some r := H
  have A2 := Aside0.mk A20
  clear A20
  replace H := Option.bind_eq_some_iff.mp H
  obtain ⟨t112, A30, H⟩ := H
  replace H : (some t112) = some r := H
  have A3 := Aside0.mk A30
  clear A30
  obtain rfl := Option.some.inj H
  go_enter Try.func19, Try.ntmps19
  go_wp2_with (first | ((with_reducible refine gate_callee (f := 30) rfl ?_); refine goesL_ (some 10) rfl rfl Try.func30 (by kernel_rfl) rfl #[.int .u64 (Go.bits .xor .u64 2870177450012600265 (IntKind.u64.wrap ((IntKind.u64.wrap (a0)) * 11400714785074694791)))] rfl (by (try simp only [List.map_toArray, List.map_cons, List.map_nil]); first | done | rfl | (simp only [List.length_drop, List.length_take]; rfl)) ?_; (with_reducible refine (pqxxhash_rol23.calls (Go.bits .xor .u64 2870177450012600265 (IntKind.u64.wrap ((IntKind.u64.wrap (a0)) * 11400714785074694791))) t111 _ A2.out).mono ?_); rintro e w' ⟨rfl, ⟨nd, rfl⟩⟩; refine ⟨_, rfl, ?_⟩) | ((with_reducible refine gate_callee (f := 28) rfl ?_); refine goesL_ (some 13) rfl rfl Try.func28 (by kernel_rfl) rfl #[.int .u64 (IntKind.u64.wrap ((IntKind.u64.wrap (t111 * 14029467366897019727)) + 1609587929392839161))] rfl (by (try simp only [List.map_toArray, List.map_cons, List.map_nil]); first | done | rfl | (simp only [List.length_drop, List.length_take]; rfl)) ?_; (with_reducible refine (pqxxhash_avalanche.calls (IntKind.u64.wrap ((IntKind.u64.wrap (t111 * 14029467366897019727)) + 1609587929392839161)) t112 _ A3.out).mono ?_); rintro e w' ⟨rfl, ⟨nd, rfl⟩⟩; refine ⟨_, rfl, ?_⟩))
  go_ret
  exact ⟨by first | rfl | (simp; done) | (simp [*]; done), by repeat (first | exact Drawn0.refl _ | apply Drawn0.step)⟩

/-! ### pqxxhash_rol31: function 41 -/
def pqxxhash_rol31.f (a0 : Int) : Option (Int) := (bits_RotateLeft64.f a0 31).bind fun t113 => (some t113)
set_option maxHeartbeats 8000000 in
set_option maxRecDepth 100000 in
theorem pqxxhash_rol31.calls (a0 : Int) (r : Int) (w : World) (h : pqxxhash_rol31.f a0 = some r) :
    Calls Try.prog 41 #[.int .u64 a0] w fun e w' => e = .returned (.int .u64 r) ∧ Drawn0 w w' := by
  have H : ((bits_RotateLeft64.f a0 31).bind fun t113 => (some t113)) = some r := h
  clear h
  replace H := Option.bind_eq_some_iff.mp H
  obtain ⟨t113, A20, H⟩ := H
  replace H : (some t113) = some r := H
  have A2 := Aside0.mk A20
  clear A20
  obtain rfl := Option.some.inj H
  go_enter Try.func41, Try.ntmps41
  go_wp2_with (first | ((with_reducible refine gate_callee (f := 40) rfl ?_); refine goesL_ (some 4) rfl rfl Try.func40 (by kernel_rfl) rfl #[.int .u64 a0, .int .i64 31] rfl (by (try simp only [List.map_toArray, List.map_cons, List.map_nil]); first | done | rfl | (simp only [List.length_drop, List.length_take]; rfl)) ?_; (with_reducible refine (bits_RotateLeft64.calls a0 31 t113 _ A2.out).mono ?_); rintro e w' ⟨rfl, ⟨nd, rfl⟩⟩; refine ⟨_, rfl, ?_⟩))
  go_ret
  exact ⟨by first | rfl | (simp; done) | (simp [*]; done), by repeat (first | exact Drawn0.refl _ | apply Drawn0.step)⟩

/-! ### pqxxhash_round: function 31 -/
def pqxxhash_round.f (a0 : Int) (a1 : Int) : Option (Int) := (pqxxhash_rol31.f (IntKind.u64.wrap (a0 + (IntKind.u64.wrap (a1 * 14029467366897019727))))).bind fun t114 => (some (IntKind.u64.wrap (t114 * 11400714785074694791)))
set_option maxHeartbeats 8000000 in
set_option maxRecDepth 100000 in
theorem pqxxhash_round.calls (a0 : Int) (a1 : Int) (r : Int) (w : World) (h : pqxxhash_round.f a0 a1 = some r) :
    Calls Try.prog 31 #[.int .u64 a0, .int .u64 a1] w fun e w' => e = .returned (.int .u64 r) ∧ Drawn0 w w' := by
  have H : ((pqxxhash_rol31.f (IntKind.u64.wrap (a0 + (IntKind.u64.wrap (a1 * 14029467366897019727))))).bind fun t114 => (some (IntKind.u64.wrap (t114 * 11400714785074694791)))) = some r := h
  clear h
  replace H := Option.bind_eq_some_iff.mp H
  obtain ⟨t114, A30, H⟩ := H
  replace H : (some (IntKind.u64.wrap (t114 * 11400714785074694791))) = some r := H
  have A3 := Aside0.mk A30
  clear A30
  obtain rfl := Option.some.inj H
  go_enter Try.func31, Try.ntmps31
  go_wp2_with (first | ((with_reducible refine gate_callee (f := 41) rfl ?_); refine goesL_ (some 10) rfl rfl Try.func41 (by kernel_rfl) rfl #[.int .u64 (IntKind.u64.wrap (a0 + (IntKind.u64.wrap (a1 * 14029467366897019727))))] rfl (by (try simp only [List.map_toArray, List.map_cons, List.map_nil]); first | done | rfl | (simp only [List.length_drop, List.length_take]; rfl)) ?_; (with_reducible refine (pqxxhash_rol31.calls (IntKind.u64.wrap (a0 + (IntKind.u64.wrap (a1 * 14029467366897019727)))) t114 _ A3.out).mono ?_); rintro e w' ⟨rfl, ⟨nd, rfl⟩⟩; refine ⟨_, rfl, ?_⟩))
  go_ret
  exact ⟨by first | rfl | (simp; done) | (simp [*]; done), by repeat (first | exact Drawn0.refl _ | apply Drawn0.step)⟩

/-! ### pqxxhash_rol27: function 32 -/
def pqxxhash_rol27.f (a0 : Int) : Option (Int) := (bits_RotateLeft64.f a0 27).bind fun t115 => (some t115)
set_option maxHeartbeats 8000000 in
set_option maxRecDepth 100000 in
theorem pqxxhash_rol27.calls (a0 : Int) (r : Int) (w : World) (h : pqxxhash_rol27.f a0 = some r) :
    Calls Try.prog 32 #[.int .u64 a0] w fun e w' => e = .returned (.int .u64 r) ∧ Drawn0 w w' := by
  have H : ((bits_RotateLeft64.f a0 27).bind fun t115 => (some t115)) = some r := h
  clear h
  replace H := Option.bind_eq_some_iff.mp H
  obtain ⟨t115, A20, H⟩ := H
  replace H : (some t115) = some r := H
  have A2 := Aside0.mk A20
  clear A20
  obtain rfl := Option.some.inj H
  go_enter Try.func32, Try.ntmps32
  go_wp2_with (first | ((with_reducible refine gate_callee (f := 40) rfl ?_); refine goesL_ (some 4) rfl rfl Try.func40 (by kernel_rfl) rfl #[.int .u64 a0, .int .i64 27] rfl (by (try simp only [List.map_toArray, List.map_cons, List.map_nil]); first | done | rfl | (simp only [List.length_drop, List.length_take]; rfl)) ?_; (with_reducible refine (bits_RotateLeft64.calls a0 27 t115 _ A2.out).mono ?_); rintro e w' ⟨rfl, ⟨nd, rfl⟩⟩; refine ⟨_, rfl, ?_⟩))
  go_ret
  exact ⟨by first | rfl | (simp; done) | (simp [*]; done), by repeat (first | exact Drawn0.refl _ | apply Drawn0.step)⟩

/-! ### pqxxhash_Sum64Uint64: function 20 -/
def pqxxhash_Sum64Uint64.f (a0 : Int) : Option (Int) := (pqxxhash_round.f 0 a0).bind fun t116 => ((pqxxhash_rol27.f (Go.bits .xor .u64 2870177450012600269 t116)).bind fun t117 => ((pqxxhash_avalanche.f (IntKind.u64.wrap ((IntKind.u64.wrap (t117 * 11400714785074694791)) + 9650029242287828579))).bind fun t118 => (some t118)))
set_option maxHeartbeats 8000000 in
set_option maxRecDepth 100000 in
theorem pqxxhash_Sum64Uint64.calls (a0 : Int) (r : Int) (w : World) (h : pqxxhash_Sum64Uint64.f a0 = some r) :
    Calls Try.prog 20 #[.int .u64 a0] w fun e w' => e = .returned (.int .u64 r) ∧ Drawn0 w w' := by
  have H : ((pqxxhash_round.f 0 a0).bind fun t116 => ((pqxxhash_rol27.f (Go.bits .xor .u64 2870177450012600269 t116)).bind fun t117 => ((pqxxhash_avalanche.f (IntKind.u64.wrap ((IntKind.u64.wrap (t117 * 11400714785074694791)) + 9650029242287828579))).bind fun t118 => (some t118)))) = some r := h
  clear h
  replace H := Option.bind_eq_some_iff.mp H
  obtain ⟨t116, A20, H⟩ := H
  replace H : ((pqxxhash_rol27.f (Go.bits .xor .u64 2870177450012600269 t116)).bind fun t117 => ((pqxxhash_avalanche.f (IntKind.u64.wrap ((IntKind.u64.wrap (t117 * 11400714785074694791)) + 9650029242287828579))).bind fun t118 => (some t118))) = some r := H
  have A2 := Aside0.mk A20
  clear A20
  replace H := Option.bind_eq_some_iff.mp H
  obtain ⟨t117, A30, H⟩ := H
  replace H : ((pqxxhash_avalanche.f (IntKind.u64.wrap ((IntKind.u64.wrap (t117 * 11400714785074694791)) + 9650029242287828579))).bind fun t118 => (some t118)) = some r := H
  have A3 := Aside0.mk A30
  clear A30
  replace H := Option.bind_eq_some_iff.mp H
  obtain ⟨t118, A40, H⟩ := H
  replace H : (some t118) = some r := H
  have A4 := Aside0.mk A40
  clear A40
  obtain rfl := Option.some.inj H
  go_enter Try.func20, Try.ntmps20
  go_wp2_with (first | ((with_reducible refine gate_callee (f := 31) rfl ?_); refine goesL_ (some 6) rfl rfl Try.func31 (by kernel_rfl) rfl #[.int .u64 0, .int .u64 a0] rfl (by (try simp only [List.map_toArray, List.map_cons, List.map_nil]); first | done | rfl | (simp only [List.length_drop, List.length_take]; rfl)) ?_; (with_reducible refine (pqxxhash_round.calls 0 a0 t116 _ A2.out).mono ?_); rintro e w' ⟨rfl, ⟨nd, rfl⟩⟩; refine ⟨_, rfl, ?_⟩) | ((with_reducible refine gate_callee (f := 32) rfl ?_); refine goesL_ (some 9) rfl rfl Try.func32 (by kernel_rfl) rfl #[.int .u64 (Go.bits .xor .u64 2870177450012600269 t116)] rfl (by (try simp only [List.map_toArray, List.map_cons, List.map_nil]); first | done | rfl | (simp only [List.length_drop, List.length_take]; rfl)) ?_; (with_reducible refine (pqxxhash_rol27.calls (Go.bits .xor .u64 2870177450012600269 t116) t117 _ A3.out).mono ?_); rintro e w' ⟨rfl, ⟨nd, rfl⟩⟩; refine ⟨_, rfl, ?_⟩) | ((with_reducible refine gate_callee (f := 28) rfl ?_); refine goesL_ (some 12) rfl rfl Try.func28 (by kernel_rfl) rfl #[.int .u64 (IntKind.u64.wrap ((IntKind.u64.wrap (t117 * 11400714785074694791)) + 9650029242287828579))] rfl (by (try simp only [List.map_toArray, List.map_cons, List.map_nil]); first | done | rfl | (simp only [List.length_drop, List.length_take]; rfl)) ?_; (with_reducible refine (pqxxhash_avalanche.calls (IntKind.u64.wrap ((IntKind.u64.wrap (t117 * 11400714785074694791)) + 9650029242287828579)) t118 _ A4.out).mono ?_); rintro e w' ⟨rfl, ⟨nd, rfl⟩⟩; refine ⟨_, rfl, ?_⟩))
  go_ret
  exact ⟨by first | rfl | (simp; done) | (simp [*]; done), by repeat (first | exact Drawn0.refl _ | apply Drawn0.step)⟩

/-! ### impl_HashInt: function 9 -/
def impl_HashInt.f (a0 : Int) (a1 : Int) : Option (Int) := if a0 = 1 then ((pqxxhash_Sum64Uint8.f ((a1) % 256)).bind fun t119 => (some t119)) else (if a0 = 2 then ((pqxxhash_Sum64Uint16.f (IntKind.u16.wrap (a1))).bind fun t120 => (some t120)) else (if a0 = 4 then ((pqxxhash_Sum64Uint32.f ((a1) % 4294967296)).bind fun t121 => (some t121)) else ((pqxxhash_Sum64Uint64.f a1).bind fun t122 => (some t122))))
set_option maxHeartbeats 8000000 in
set_option maxRecDepth 100000 in
theorem impl_HashInt.calls (a0 : Int) (a1 : Int) (r : Int) (w : World) (h : impl_HashInt.f a0 a1 = some r) :
    Calls Try.prog 9 #[.int .i64 a0, .int .u64 a1] w fun e w' => e = .returned (.int .u64 r) ∧ Drawn0 w w' := by
  have H : (if a0 = 1 then ((pqxxhash_Sum64Uint8.f ((a1) % 256)).bind fun t119 => (some t119)) else (if a0 = 2 then ((pqxxhash_Sum64Uint16.f (IntKind.u16.wrap (a1))).bind fun t120 => (some t120)) else (if a0 = 4 then ((pqxxhash_Sum64Uint32.f ((a1) % 4294967296)).bind fun t121 => (some t121)) else ((pqxxhash_Sum64Uint64.f a1).bind fun t122 => (some t122))))) = some r := h
  clear h
  by_cases c3 : a0 = 1
  · rw [if_pos c3] at H
    have c3b0 : (a0 == 1) = true := beq_iff_eq.mpr c3
    have c3b1 : (a0 != 1) = false := bne_eq_false_iff_eq.mpr c3
    clear c3
    replace H := Option.bind_eq_some_iff.mp H
    obtain ⟨t119, A40, H⟩ := H
    replace H : (some t119) = some r := H
    have A4 := Aside0.mk A40
    clear A40
    obtain rfl := Option.some.inj H
    go_enter Try.func9, Try.ntmps9
    go_wp2_with (first | ((with_reducible refine gate_callee (f := 17) rfl ?_); refine goesL_ (some 10) rfl rfl Try.func17 (by kernel_rfl) rfl #[.int .u8 ((a1) % 256)] rfl (by (try simp only [List.map_toArray, List.map_cons, List.map_nil]); first | done | rfl | (simp only [List.length_drop, List.length_take]; rfl)) ?_; (with_reducible refine (pqxxhash_Sum64Uint8.calls ((a1) % 256) t119 _ A4.out).mono ?_); rintro e w' ⟨rfl, ⟨nd, rfl⟩⟩; refine ⟨_, rfl, ?_⟩))
    go_ret
    exact ⟨by first | rfl | (simp; done) | (simp [*]; done), by repeat (first | exact Drawn0.refl _ | apply Drawn0.step)⟩
  · rw [if_neg c3] at H
    have c3b0 : (a0 == 1) = false := beq_eq_false_iff_ne.mpr c3
    have c3b1 : (a0 != 1) = true := bne_iff_ne.mpr c3
    by_cases c5 : a0 = 2
    · rw [if_pos c5] at H
      have c5b0 : (a0 == 2) = true := beq_iff_eq.mpr c5
      have c5b1 : (a0 != 2) = false := bne_eq_false_iff_eq.mpr c5
      clear c5
      replace H := Option.bind_eq_some_iff.mp H
      obtain ⟨t120, A60, H⟩ := H
      replace H : (some t120) = some r := H
      have A6 := Aside0.mk A60
      clear A60
      obtain rfl := Option.some.inj H
      go_enter Try.func9, Try.ntmps9
      go_wp2_with (first | ((with_reducible refine gate_callee (f := 18) rfl ?_); refine goesL_ (some 15) rfl rfl Try.func18 (by kernel_rfl) rfl #[.int .u16 (IntKind.u16.wrap (a1))] rfl (by (try simp only [List.map_toArray, List.map_cons, List.map_nil]); first | done | rfl | (simp only [List.length_drop, List.length_take]; rfl)) ?_; (with_reducible refine (pqxxhash_Sum64Uint16.calls (IntKind.u16.wrap (a1)) t120 _ A6.out).mono ?_); rintro e w' ⟨rfl, ⟨nd, rfl⟩⟩; refine ⟨_, rfl, ?_⟩))
      go_ret
      exact ⟨by first | rfl | (simp; done) | (simp [*]; done), by repeat (first | exact Drawn0.refl _ | apply Drawn0.step)⟩
    · rw [if_neg c5] at H
      have c5b0 : (a0 == 2) = false := beq_eq_false_iff_ne.mpr c5
      have c5b1 : (a0 != 2) = true := bne_iff_ne.mpr c5
      by_cases c7 : a0 = 4
      · rw [if_pos c7] at H
        have c7b0 : (a0 == 4) = true := beq_iff_eq.mpr c7
        have c7b1 : (a0 != 4) = false := bne_eq_false_iff_eq.mpr c7
        clear c7
        replace H := Option.bind_eq_some_iff.mp H
        obtain ⟨t121, A80, H⟩ := H
        replace H : (some t121) = some r := H
        have A8 := Aside0.mk A80
        clear A80
        obtain rfl := Option.some.inj H
        go_enter Try.func9, Try.ntmps9
        go_wp2_with (first | ((with_reducible refine gate_callee (f := 19) rfl ?_); refine goesL_ (some 20) rfl rfl Try.func19 (by kernel_rfl) rfl #[.int .u32 ((a1) % 4294967296)] rfl (by (try simp only [List.map_toArray, List.map_cons, List.map_nil]); first | done | rfl | (simp only [List.length_drop, List.length_take]; rfl)) ?_; (with_reducible refine (pqxxhash_Sum64Uint32.calls ((a1) % 4294967296) t121 _ A8.out).mono ?_); rintro e w' ⟨rfl, ⟨nd, rfl⟩⟩; refine ⟨_, rfl, ?_⟩))
        go_ret
        exact ⟨by first | rfl | (simp; done) | (simp [*]; done), by repeat (first | exact Drawn0.refl _ | apply Drawn0.step)⟩
      · rw [if_neg c7] at H
        have c7b0 : (a0 == 4) = false := beq_eq_false_iff_ne.mpr c7
        have c7b1 : (a0 != 4) = true := bne_iff_ne.mpr c7
        replace H := Option.bind_eq_some_iff.mp H
        obtain ⟨t122, A90, H⟩ := H
        replace H : (some t122) = some r := H
        have A9 := Aside0.mk A90
        clear A90
        obtain rfl := Option.some.inj H
        go_enter Try.func9, Try.ntmps9
        go_wp2_with (first | ((with_reducible refine gate_callee (f := 20) rfl ?_); refine goesL_ (some 22) rfl rfl Try.func20 (by kernel_rfl) rfl #[.int .u64 a1] rfl (by (try simp only [List.map_toArray, List.map_cons, List.map_nil]); first | done | rfl | (simp only [List.length_drop, List.length_take]; rfl)) ?_; (with_reducible refine (pqxxhash_Sum64Uint64.calls a1 t122 _ A9.out).mono ?_); rintro e w' ⟨rfl, ⟨nd, rfl⟩⟩; refine ⟨_, rfl, ?_⟩))
        go_ret
        exact ⟨by first | rfl | (simp; done) | (simp [*]; done), by repeat (first | exact Drawn0.refl _ | apply Drawn0.step)⟩

/-! ### spec_FromLow: function 10 -/
def spec_FromLow.l0 : Nat → List Int → Int → Int → Option (Int)
  | 0, _, _, _ => none
  | k + 1, x0, x3, x4 => if x4 ≥ 0 then (if 0 ≤ x4 then (if x4 < (x0.length : Int) then (spec_FromLow.l0 k x0 (Go.bits .or .u64 (IntKind.u64.wrap (x3 * 256)) (IntKind.u64.wrap (rd x0 x4))) (wrap64 (x4 - 1))) else (none)) else (none)) else (some x3)
def spec_FromLow.f (k : Nat) (l0 : List Int) : Option (Int) := spec_FromLow.l0 k l0 0 (wrap64 ((l0.length : Int) - 1))
theorem spec_FromLow.mono_l : ∀ k, (∀ y0 y1 y2, LeO (spec_FromLow.l0 k y0 y1 y2) (spec_FromLow.l0 (k + 1) y0 y1 y2))
  | 0 => fun _ _ _ r h => by simp [spec_FromLow.l0] at h
  | k + 1 => by
    have ih0 := spec_FromLow.mono_l k
    · intro y0 y1 y2
      unfold spec_FromLow.l0
      repeat' first
      | (with_reducible exact ih0 _ _ _)
      | (with_reducible exact LeO.refl _)
      | (with_reducible exact LeO.none _)
      | (with_reducible refine LeO.ite ?_ ?_)
      | (with_reducible refine LeO.bind ?_ (fun _ => ?_))
      | exact ih0 _ _ _
      | exact LeO.none _
      | refine LeO.ite ?_ ?_
      | refine LeO.bind ?_ (fun _ => ?_)
theorem spec_FromLow.mono : ∀ a0 k, LeO (spec_FromLow.f k a0) (spec_FromLow.f (k + 1) a0) := by
  intro a0 k
  have ih0 := spec_FromLow.mono_l k
  unfold spec_FromLow.f
  repeat' first
      | (with_reducible exact ih0 _ _ _)
      | (with_reducible exact LeO.refl _)
      | (with_reducible exact LeO.none _)
      | (with_reducible refine LeO.ite ?_ ?_)
      | (with_reducible refine LeO.bind ?_ (fun _ => ?_))
      | exact ih0 _ _ _
      | exact LeO.none _
      | refine LeO.ite ?_ ?_
      | refine LeO.bind ?_ (fun _ => ?_)
set_option maxHeartbeats 8000000 in
set_option maxRecDepth 100000 in
theorem spec_FromLow.calls (k : Nat) (A0 : Option Addr) (c0 : Nat) (l0 : List Int) (r : Int) (w : World) (hr0 : Kd.C (Kd.int .u8) w A0 l0.length l0) (hc0 : l0.length ≤ c0) (h : spec_FromLow.f k l0 = some r) :
    Calls Try.prog 10 #[.slice A0 l0.length c0] w fun e w' => e = .returned (.int .u64 r) ∧ Drawn0 w w' := by
  have HR0 := Aside0.mk hr0
  have HC0 := Aside0.mk hc0
  clear hr0 hc0
  have H : (spec_FromLow.l0 k l0 0 (wrap64 ((l0.length : Int) - 1))) = some r := h
  clear h
  have H' := Aside0.mk H
  clear H
  go_enter Try.func10, Try.ntmps10
  go_wp2
  go_loopg [3, 4] k (fun kq v3 v4 w' => ∃ (x3_1 : Int) (x4_1 : Int), v3 = .int .u64 x3_1 ∧ v4 = .int .i64 x4_1 ∧ Aside0 (spec_FromLow.l0 kq l0 x3_1 x4_1 = some r) ∧ Aside0 (kq ≤ k) ∧ Drawn0 w w')
  case atStart => exact ⟨(0), (wrap64 ((l0.length : Int) - 1)), (by first | rfl | (simp; done) | (simp [*]; done)), (by first | rfl | (simp; done) | (simp [*]; done)), H', ⟨Nat.le_refl _⟩, by repeat (first | exact Drawn0.refl _ | apply Drawn0.step)⟩
  case round =>
    clear H'
    try clear c1
    obtain ⟨x3_1, x4_1, rfl, rfl, HA, HK1, ⟨m1, rfl⟩⟩ := hrel
    cases gk with
    | zero => exact absurd HA.out (by simp [spec_FromLow.l0])
    | succ k1 =>
      have H := HA.out
      clear HA
      simp only [spec_FromLow.l0] at H
      by_cases c2 : x4_1 ≥ 0
      · rw [if_pos c2] at H
        have c2b0 : decide (0 ≤ x4_1) = true := decide_eq_true c2
        clear c2
        by_cases c3 : 0 ≤ x4_1
        · rw [if_pos c3] at H
          have c3b0 : decide (0 ≤ x4_1) = true := decide_eq_true c3
          clear c3
          by_cases c4 : x4_1 < (l0.length : Int)
          · rw [if_pos c4] at H
            have c4b0 : decide (x4_1 < (l0.length : Int)) = true := decide_eq_true c4
            clear c4
            have H' := Aside0.mk H
            clear H
            have p123 : 0 ≤ (x4_1 : Int) := of_decide_eq_true (by first | (with_reducible assumption) | assumption)
            have q123 : x4_1 < (l0.length : Int) := of_decide_eq_true (by first | (with_reducible assumption) | assumption)
            obtain ⟨ad123, e123, hx123_0⟩ := Kd.at_int HR0.out x4_1 p123 q123
            cases e123
            replace p123 := eq_true p123
            replace q123 := eq_true q123
            go_wp2
            go_roundg k1
            case measure => have := HK1.out; omega
            case rel => exact ⟨(Go.bits .or .u64 (IntKind.u64.wrap (x3_1 * 256)) (IntKind.u64.wrap (rd l0 x4_1))), (wrap64 (x4_1 - 1)), (by first | rfl | (simp; done) | (simp [*]; done)), (by first | rfl | (simp; done) | (simp [*]; done)), H', ⟨by have := HK1.out; omega⟩, by repeat (first | exact Drawn0.refl _ | apply Drawn0.step)⟩
          · rw [if_neg c4] at H
            exact absurd H (by simp)
        · rw [if_neg c3] at H
          exact absurd H (by simp)
      · rw [if_neg c2] at H
        have c2b0 : decide (0 ≤ x4_1) = false := decide_eq_false c2
        clear c2
        obtain rfl := Option.some.inj H
        go_wp2
        go_ret
        exact ⟨by first | rfl | (simp; done) | (simp [*]; done), by repeat (first | exact Drawn0.refl _ | apply Drawn0.step)⟩

/-! ### spec_turn: function 22 -/
def spec_turn.f (a0 : Int) (a1 : Int) : Option (Int) := if 0 ≤ a1 then (if 0 ≤ (wrap64 (64 - a1)) then (some (Go.bits .or .u64 (shl .u64 a0 a1) (shr .u64 a0 (wrap64 (64 - a1))))) else (none)) else (none)
set_option maxHeartbeats 8000000 in
set_option maxRecDepth 100000 in
theorem spec_turn.calls (a0 : Int) (a1 : Int) (r : Int) (w : World) (h : spec_turn.f a0 a1 = some r) :
    Calls Try.prog 22 #[.int .u64 a0, .int .i64 a1] w fun e w' => e = .returned (.int .u64 r) ∧ Drawn0 w w' := by
  have H : (if 0 ≤ a1 then (if 0 ≤ (wrap64 (64 - a1)) then (some (Go.bits .or .u64 (shl .u64 a0 a1) (shr .u64 a0 (wrap64 (64 - a1))))) else (none)) else (none)) = some r := h
  clear h
  by_cases c3 : 0 ≤ a1
  · rw [if_pos c3] at H
    have c3b0 := eq_true c3
    have c3b1 : decide (0 ≤ a1) = true := decide_eq_true c3
    clear c3
    obtain ⟨ji4, hji4⟩ : ∃ j_ : Int, (shl .u64 a0 a1) = j_ := ⟨_, rfl⟩
    replace H : (if 0 ≤ (wrap64 (64 - a1)) then (some (Go.bits .or .u64 (ji4) (shr .u64 a0 (wrap64 (64 - a1))))) else (none)) = some r := by first | (rw [hji4] at H; exact H) | (simp only [hji4] at H ⊢; exact H)
    have hji4_ : (IntKind.u64.wrap (a0 * 2 ^ min a1.toNat 64)) = ji4 := hji4
    have hji4z : a1 ≤ 64 → (IntKind.u64.wrap (a0 * 2 ^ a1.toNat)) = ji4 := shl_small hji4
    obtain ⟨ji5, hji5⟩ : ∃ j_ : Int, (wrap64 (64 - a1)) = j_ := ⟨_, rfl⟩
    replace H : (if 0 ≤ (ji5) then (some (Go.bits .or .u64 (ji4) (shr .u64 a0 (ji5)))) else (none)) = some r := by first | (rw [hji5] at H; exact H) | (simp only [hji5] at H ⊢; exact H)
    have hji5w : (IntKind.i64.wrap (64 - a1)) = ji5 := (i64_w _).trans hji5
    by_cases c6 : 0 ≤ (ji5)
    · rw [if_pos c6] at H
      have c6b0 := eq_true c6
      have c6b1 : decide (0 ≤ (ji5)) = true := decide_eq_true c6
      clear c6
      obtain ⟨ji7, hji7⟩ : ∃ j_ : Int, (shr .u64 a0 (ji5)) = j_ := ⟨_, rfl⟩
      replace H : (some (Go.bits .or .u64 (ji4) (ji7))) = some r := by first | (rw [hji7] at H; exact H) | (simp only [hji7] at H ⊢; exact H)
      have hji7_ : (a0 / 2 ^ min (ji5).toNat 64) = ji7 := hji7
      have hji7z : (ji5) ≤ 64 → (a0 / 2 ^ (ji5).toNat) = ji7 := shr_small hji7
      obtain rfl := Option.some.inj H
      go_enter Try.func22, Try.ntmps22
      go_wp2
      repeat (go_quiet (fail); try go_wp2)
      go_ret
      exact ⟨by first | rfl | (simp; done) | (simp only [← hji4, ← hji5, ← hji7] <;> (first | rfl | simp)) | (simp [*]; done), by repeat (first | exact Drawn0.refl _ | apply Drawn0.step)⟩
    · rw [if_neg c6] at H
      exact absurd H (by simp)
  · rw [if_neg c3] at H
    exact absurd H (by simp)

/-! ### spec_round: function 21 -/
def spec_round.f (a0 : Int) (a1 : Int) : Option (Int) := (spec_turn.f (IntKind.u64.wrap (a0 + (IntKind.u64.wrap (a1 * 14029467366897019727)))) 31).bind fun t124 => (some (IntKind.u64.wrap (t124 * 11400714785074694791)))
set_option maxHeartbeats 8000000 in
set_option maxRecDepth 100000 in
theorem spec_round.calls (a0 : Int) (a1 : Int) (r : Int) (w : World) (h : spec_round.f a0 a1 = some r) :
    Calls Try.prog 21 #[.int .u64 a0, .int .u64 a1] w fun e w' => e = .returned (.int .u64 r) ∧ Drawn0 w w' := by
  have H : ((spec_turn.f (IntKind.u64.wrap (a0 + (IntKind.u64.wrap (a1 * 14029467366897019727)))) 31).bind fun t124 => (some (IntKind.u64.wrap (t124 * 11400714785074694791)))) = some r := h
  clear h
  replace H := Option.bind_eq_some_iff.mp H
  obtain ⟨t124, A30, H⟩ := H
  replace H : (some (IntKind.u64.wrap (t124 * 11400714785074694791))) = some r := H
  have A3 := Aside0.mk A30
  clear A30
  obtain rfl := Option.some.inj H
  go_enter Try.func21, Try.ntmps21
  go_wp2_with (first | ((with_reducible refine gate_callee (f := 22) rfl ?_); refine goesL_ (some 9) rfl rfl Try.func22 (by kernel_rfl) rfl #[.int .u64 (IntKind.u64.wrap (a0 + (IntKind.u64.wrap (a1 * 14029467366897019727)))), .int .i64 31] rfl (by (try simp only [List.map_toArray, List.map_cons, List.map_nil]); first | done | rfl | (simp only [List.length_drop, List.length_take]; rfl)) ?_; (with_reducible refine (spec_turn.calls (IntKind.u64.wrap (a0 + (IntKind.u64.wrap (a1 * 14029467366897019727)))) 31 t124 _ A3.out).mono ?_); rintro e w' ⟨rfl, ⟨nd, rfl⟩⟩; refine ⟨_, rfl, ?_⟩))
  go_ret
  exact ⟨by first | rfl | (simp; done) | (simp [*]; done), by repeat (first | exact Drawn0.refl _ | apply Drawn0.step)⟩

end Go.Proofs.Ytojoppondgnajaa.PFnHashInt
