-- Laid by a program of this session over the kit's print (stand-ins: functions proved by hand).
import Derived.Test.YtojoppondgnajaaPFnHashIntsx0
namespace Go.Proofs.Ytojoppondgnajaa.PFnHashInts
open Go.Proofs.Ytojoppondgnajaa.Aid Go.Proofs.Ytojoppondgnajaa.Xx
open Go.RowKit Go.Proofs.YtojoppondgnajaaW.PrintWords Go.Proofs.YtojoppondgnajaaW.PrintLast Go.Proofs.YtojoppondgnajaaW.PrintMore
attribute [local go_sem] max2_int min2_int max_two min_two max_three min_three max_four min_four   -- for this text's walks alone
set_option linter.unusedVariables false
set_option linter.unusedSimpArgs false

/-! ### spec_Low: function 8 -/
def spec_Low.l0 : Nat → Int → List Int → Int → Int → Option (List Int)
  | 0, _, _, _, _ => none
  | k + 1, x1, x5, x6, x7 => if x7 < x6 then (if x5.length < 140737488355328 then (spec_Low.l0 k (x1 / 256) (x5 ++ [(x1) % 256]) x6 (wrap64 (x7 + 1))) else (none)) else (some x5)
def spec_Low.f (k : Nat) (a0 : Int) (a1 : Int) : Option (List Int) := spec_Low.l0 k a1 ([] : List Int) a0 0
theorem spec_Low.mono_l : ∀ k, (∀ y0 y1 y2 y3, LeO (spec_Low.l0 k y0 y1 y2 y3) (spec_Low.l0 (k + 1) y0 y1 y2 y3))
  | 0 => fun _ _ _ _ r h => by simp [spec_Low.l0] at h
  | k + 1 => by
    have ih0 := spec_Low.mono_l k
    · intro y0 y1 y2 y3
      unfold spec_Low.l0
      repeat' first
      | (with_reducible exact ih0 _ _ _ _)
      | (with_reducible exact LeO.refl _)
      | (with_reducible exact LeO.none _)
      | (with_reducible refine LeO.ite ?_ ?_)
      | (with_reducible refine LeO.bind ?_ (fun _ => ?_))
      | exact ih0 _ _ _ _
      | exact LeO.none _
      | refine LeO.ite ?_ ?_
      | refine LeO.bind ?_ (fun _ => ?_)
theorem spec_Low.mono : ∀ a0 a1 k, LeO (spec_Low.f k a0 a1) (spec_Low.f (k + 1) a0 a1) := by
  intro a0 a1 k
  have ih0 := spec_Low.mono_l k
  unfold spec_Low.f
  repeat' first
      | (with_reducible exact ih0 _ _ _ _)
      | (with_reducible exact LeO.refl _)
      | (with_reducible exact LeO.none _)
      | (with_reducible refine LeO.ite ?_ ?_)
      | (with_reducible refine LeO.bind ?_ (fun _ => ?_))
      | exact ih0 _ _ _ _
      | exact LeO.none _
      | refine LeO.ite ?_ ?_
      | refine LeO.bind ?_ (fun _ => ?_)
set_option maxHeartbeats 8000000 in
set_option maxRecDepth 100000 in
theorem spec_Low.calls (k : Nat) (a0 : Int) (a1 : Int) (r : List Int) (w : World) (h : spec_Low.f k a0 a1 = some r) :
    Calls Try.prog 8 #[.int .i64 a0, .int .u64 a1] w fun e w' => ∃ v0_ : Value, e = .returned (v0_) ∧ Kd.R (Kd.int .u8) 5 w' w.heap.size (fun _ => True) v0_ r ∧ Below w.heap.size w w' := by
  have HB := Aside0.mk (Below.refl w.heap.size w)
  have H : (spec_Low.l0 k a1 ([] : List Int) a0 0) = some r := h
  clear h
  have H' := Aside0.mk H
  clear H
  go_enter Try.func8, Try.ntmps8
  go_wp2
  go_loopg [1, 5, 7] k (fun kq v1 v5 v7 w' => ∃ (x1_1 : Int) (x5_1 : List Int) (x7_1 : Int), v1 = .int .u64 x1_1 ∧ v7 = .int .i64 x7_1 ∧ Aside0 (spec_Low.l0 kq x1_1 x5_1 a0 x7_1 = some r) ∧ Aside0 (kq ≤ k) ∧ Aside0 (Kd.R (Kd.int .u8) 5 w' w.heap.size (fun _ => True) v5 x5_1) ∧ Aside0 (Below w.heap.size w w'))
  case atStart => exact ⟨(a1), (([] : List Int)), (0), (by first | rfl | (simp; done) | (simp [*]; done)), (by first | rfl | (simp; done) | (simp [*]; done)), H', ⟨Nat.le_refl _⟩, ⟨by first | exact Kd.R_nil _ _ _ _ _ | exact Kd.N_nil _ _ _ _ _ | exact Kd.V_nil _ _ _ _ _ | exact Kd.Q_nil _ _ _ _ _ | exact Kd.S_nil _ _ _ _ _⟩, ⟨by repeat (first | (with_reducible first | exact HB.out | apply below_alloc | apply pw_below_drewN | apply below_drew1) | exact HB.out)⟩⟩
  case round =>
    clear H'
    try clear p2
    obtain ⟨x1_1, x5_1, x7_1, rfl, rfl, HA, HK1, HO_5, HB⟩ := hrel
    cases gk with
    | zero => exact absurd HA.out (by simp [spec_Low.l0])
    | succ k1 =>
      have H := HA.out
      clear HA
      simp only [spec_Low.l0] at H
      by_cases c3 : x7_1 < a0
      · rw [if_pos c3] at H
        have c3b0 : decide (x7_1 < a0) = true := decide_eq_true c3
        clear c3
        by_cases c4 : x5_1.length < 140737488355328
        · rw [if_pos c4] at H
          have LMc4 := Aside0.mk c4
          clear c4
          obtain ⟨y101, hy101⟩ : ∃ y_ : List Int, y_ = (x5_1 ++ [(x1_1) % 256]) := ⟨_, rfl⟩
          replace H : (spec_Low.l0 k1 (x1_1 / 256) y101 a0 (wrap64 (x7_1 + 1))) = some r := by first | (rw [hy101]; with_reducible exact H) | (have H2_ := (Option.bind_some _ _).symm.trans H; rw [hy101]; with_reducible exact H2_) | (have H2_ := (Option.bind_some _ _).symm.trans H; with_reducible exact H2_) | with_reducible exact H | (rw [hy101]; exact H) | exact H
          have Ny101 := Aside0.mk hy101
          clear hy101
          have H' := Aside0.mk H
          clear H
          go_wp2_with (first | ((with_reducible refine gate_builtin (b := .append) (xs := #[.tmp 9, .tmp 12]) rfl ?_); at_builtin; refine Kd.R_append (Kd.int .u8) (w0 := w) w.heap.size rfl (.tmp 9) (.tmp 12) 26 5 (.int .u8 0) 1 rfl Try.underlying26 info5 rfl (by decide) (by omega) u5 x5_1 ((x1_1) % 256) [.int .u8 ((x1_1) % 256)] (fun _ => True) (fun _ => False) rfl rfl ?aP (fun _ hk => hk.elim) ?aF ?aO ?aB ?aS ?aL ?_; (case aP => exact rfl); (case aB => exact (by repeat (first | (with_reducible first | exact HB.out | apply below_alloc | apply pw_below_drewN | apply below_drew1) | exact HB.out))); (case aF => exact (fun _ _ => trivial)); (case aO => exact (by (with_reducible repeat (first | apply Kd.R_alloc | apply Kd.R_drewN | apply Kd.R_drew)); exact HO_5.out)); (case aS => exact (below_size (by repeat (first | (with_reducible first | exact HB.out | apply below_alloc | apply pw_below_drewN | apply below_drew1) | exact HB.out)))); (case aL => have := LMc4.out; omega); intro v102 w5 ho hb hg hat; rw [← Ny101.out] at ho; have n0_ := Aside0.mk (hb); have n1_ := Aside0.mk (ho); clear HB; clear HO_5; have HB := n0_; have HO103 := n1_; clear n0_ n1_; clear ho hb hg hat))
          go_roundg k1
          case measure => have := HK1.out; omega
          case rel => exact ⟨(x1_1 / 256), (y101), (wrap64 (x7_1 + 1)), (by first | rfl | (simp; done) | (simp [*]; done)), (by first | rfl | (simp; done) | (simp [*]; done)), H', ⟨by have := HK1.out; omega⟩, ⟨by (with_reducible repeat (first | apply Kd.R_alloc | apply Kd.R_drewN | apply Kd.R_drew)); exact HO103.out⟩, ⟨by repeat (first | (with_reducible first | exact HB.out | apply below_alloc | apply pw_below_drewN | apply below_drew1) | exact HB.out)⟩⟩
        · rw [if_neg c4] at H
          exact absurd H (by simp)
      · rw [if_neg c3] at H
        have c3b0 : decide (x7_1 < a0) = false := decide_eq_false c3
        clear c3
        obtain rfl := Option.some.inj H
        go_wp2
        go_ret
        exact ⟨_, by first | rfl | (simp [errW_none, errW_some] <;> rfl) | (simp [*, errW_none, errW_some] <;> rfl), by (with_reducible repeat (first | apply Kd.R_alloc | apply Kd.R_drewN | apply Kd.R_drew)); exact HO_5.out, by repeat (first | (with_reducible first | exact HB.out | apply below_alloc | apply pw_below_drewN | apply below_drew1) | exact HB.out)⟩

/-! ### spec_FromLow: function 10 -/
def spec_FromLow.l0 : Nat → List Int → Int → Int → Option (Int)
  | 0, _, _, _ => none
  | k + 1, x0, x3, x4 => if x4 ≥ 0 then (if 0 ≤ x4 then (if x4 < (x0.length : Int) then (spec_FromLow.l0 k x0 (Go.bits .or .u64 (IntKind.u64.wrap (x3 * 256)) (IntKind.u64.wrap (rd x0 x4))) (wrap64 (x4 - 1))) else (none)) else (none)) else (some x3)
def spec_FromLow.f (k : Nat) (l0 : List Int) : Option (Int) := spec_FromLow.l0 k l0 0 (wrap64 ((l0.length : Int) - 1))
theorem spec_FromLow.mono_l : ∀ k, (∀ y0 y1 y2, LeO (spec_FromLow.l0 k y0 y1 y2) (spec_FromLow.l0 (k + 1) y0 y1 y2))
  | 0 => fun _ _ _ r h => by simp [spec_FromLow.l0] at h
  | k + 1 => by
    have ih0 := spec_FromLow.mono_l k
    · intro y0 y1 y2
      unfold spec_FromLow.l0
      repeat' first
      | (with_reducible exact ih0 _ _ _)
      | (with_reducible exact LeO.refl _)
      | (with_reducible exact LeO.none _)
      | (with_reducible refine LeO.ite ?_ ?_)
      | (with_reducible refine LeO.bind ?_ (fun _ => ?_))
      | exact ih0 _ _ _
      | exact LeO.none _
      | refine LeO.ite ?_ ?_
      | refine LeO.bind ?_ (fun _ => ?_)
theorem spec_FromLow.mono : ∀ a0 k, LeO (spec_FromLow.f k a0) (spec_FromLow.f (k + 1) a0) := by
  intro a0 k
  have ih0 := spec_FromLow.mono_l k
  unfold spec_FromLow.f
  repeat' first
      | (with_reducible exact ih0 _ _ _)
      | (with_reducible exact LeO.refl _)
      | (with_reducible exact LeO.none _)
      | (with_reducible refine LeO.ite ?_ ?_)
      | (with_reducible refine LeO.bind ?_ (fun _ => ?_))
      | exact ih0 _ _ _
      | exact LeO.none _
      | refine LeO.ite ?_ ?_
      | refine LeO.bind ?_ (fun _ => ?_)
set_option maxHeartbeats 8000000 in
set_option maxRecDepth 100000 in
theorem spec_FromLow.calls (k : Nat) (A0 : Option Addr) (c0 : Nat) (l0 : List Int) (r : Int) (w : World) (hr0 : Kd.C (Kd.int .u8) w A0 l0.length l0) (hc0 : l0.length ≤ c0) (h : spec_FromLow.f k l0 = some r) :
    Calls Try.prog 10 #[.slice A0 l0.length c0] w fun e w' => e = .returned (.int .u64 r) ∧ Drawn0 w w' := by
  have HR0 := Aside0.mk hr0
  have HC0 := Aside0.mk hc0
  clear hr0 hc0
  have H : (spec_FromLow.l0 k l0 0 (wrap64 ((l0.length : Int) - 1))) = some r := h
  clear h
  have H' := Aside0.mk H
  clear H
  go_enter Try.func10, Try.ntmps10
  go_wp2
  go_loopg [3, 4] k (fun kq v3 v4 w' => ∃ (x3_1 : Int) (x4_1 : Int), v3 = .int .u64 x3_1 ∧ v4 = .int .i64 x4_1 ∧ Aside0 (spec_FromLow.l0 kq l0 x3_1 x4_1 = some r) ∧ Aside0 (kq ≤ k) ∧ Drawn0 w w')
  case atStart => exact ⟨(0), (wrap64 ((l0.length : Int) - 1)), (by first | rfl | (simp; done) | (simp [*]; done)), (by first | rfl | (simp; done) | (simp [*]; done)), H', ⟨Nat.le_refl _⟩, by repeat (first | exact Drawn0.refl _ | apply Drawn0.step)⟩
  case round =>
    clear H'
    try clear c1
    obtain ⟨x3_1, x4_1, rfl, rfl, HA, HK1, ⟨m1, rfl⟩⟩ := hrel
    cases gk with
    | zero => exact absurd HA.out (by simp [spec_FromLow.l0])
    | succ k1 =>
      have H := HA.out
      clear HA
      simp only [spec_FromLow.l0] at H
      by_cases c2 : x4_1 ≥ 0
      · rw [if_pos c2] at H
        have c2b0 : decide (0 ≤ x4_1) = true := decide_eq_true c2
        clear c2
        by_cases c3 : 0 ≤ x4_1
        · rw [if_pos c3] at H
          have c3b0 : decide (0 ≤ x4_1) = true := decide_eq_true c3
          clear c3
          by_cases c4 : x4_1 < (l0.length : Int)
          · rw [if_pos c4] at H
            have c4b0 : decide (x4_1 < (l0.length : Int)) = true := decide_eq_true c4
            clear c4
            have H' := Aside0.mk H
            clear H
            have p104 : 0 ≤ (x4_1 : Int) := of_decide_eq_true (by first | (with_reducible assumption) | assumption)
            have q104 : x4_1 < (l0.length : Int) := of_decide_eq_true (by first | (with_reducible assumption) | assumption)
            obtain ⟨ad104, e104, hx104_0⟩ := Kd.at_int HR0.out x4_1 p104 q104
            cases e104
            replace p104 := eq_true p104
            replace q104 := eq_true q104
            go_wp2
            go_roundg k1
            case measure => have := HK1.out; omega
            case rel => exact ⟨(Go.bits .or .u64 (IntKind.u64.wrap (x3_1 * 256)) (IntKind.u64.wrap (rd l0 x4_1))), (wrap64 (x4_1 - 1)), (by first | rfl | (simp; done) | (simp [*]; done)), (by first | rfl | (simp; done) | (simp [*]; done)), H', ⟨by have := HK1.out; omega⟩, by repeat (first | exact Drawn0.refl _ | apply Drawn0.step)⟩
          · rw [if_neg c4] at H
            exact absurd H (by simp)
        · rw [if_neg c3] at H
          exact absurd H (by simp)
      · rw [if_neg c2] at H
        have c2b0 : decide (0 ≤ x4_1) = false := decide_eq_false c2
        clear c2
        obtain rfl := Option.some.inj H
        go_wp2
        go_ret
        exact ⟨by first | rfl | (simp; done) | (simp [*]; done), by repeat (first | exact Drawn0.refl _ | apply Drawn0.step)⟩

/-! ### spec_turn: function 22 -/
def spec_turn.f (a0 : Int) (a1 : Int) : Option (Int) := if 0 ≤ a1 then (if 0 ≤ (wrap64 (64 - a1)) then (some (Go.bits .or .u64 (shl .u64 a0 a1) (shr .u64 a0 (wrap64 (64 - a1))))) else (none)) else (none)
set_option maxHeartbeats 8000000 in
set_option maxRecDepth 100000 in
theorem spec_turn.calls (a0 : Int) (a1 : Int) (r : Int) (w : World) (h : spec_turn.f a0 a1 = some r) :
    Calls Try.prog 22 #[.int .u64 a0, .int .i64 a1] w fun e w' => e = .returned (.int .u64 r) ∧ Drawn0 w w' := by
  have H : (if 0 ≤ a1 then (if 0 ≤ (wrap64 (64 - a1)) then (some (Go.bits .or .u64 (shl .u64 a0 a1) (shr .u64 a0 (wrap64 (64 - a1))))) else (none)) else (none)) = some r := h
  clear h
  by_cases c3 : 0 ≤ a1
  · rw [if_pos c3] at H
    have c3b0 := eq_true c3
    have c3b1 : decide (0 ≤ a1) = true := decide_eq_true c3
    clear c3
    obtain ⟨ji4, hji4⟩ : ∃ j_ : Int, (shl .u64 a0 a1) = j_ := ⟨_, rfl⟩
    replace H : (if 0 ≤ (wrap64 (64 - a1)) then (some (Go.bits .or .u64 (ji4) (shr .u64 a0 (wrap64 (64 - a1))))) else (none)) = some r := by first | (rw [hji4] at H; exact H) | (simp only [hji4] at H ⊢; exact H)
    have hji4_ : (IntKind.u64.wrap (a0 * 2 ^ min a1.toNat 64)) = ji4 := hji4
    have hji4z : a1 ≤ 64 → (IntKind.u64.wrap (a0 * 2 ^ a1.toNat)) = ji4 := shl_small hji4
    obtain ⟨ji5, hji5⟩ : ∃ j_ : Int, (wrap64 (64 - a1)) = j_ := ⟨_, rfl⟩
    replace H : (if 0 ≤ (ji5) then (some (Go.bits .or .u64 (ji4) (shr .u64 a0 (ji5)))) else (none)) = some r := by first | (rw [hji5] at H; exact H) | (simp only [hji5] at H ⊢; exact H)
    have hji5w : (IntKind.i64.wrap (64 - a1)) = ji5 := (i64_w _).trans hji5
    by_cases c6 : 0 ≤ (ji5)
    · rw [if_pos c6] at H
      have c6b0 := eq_true c6
      have c6b1 : decide (0 ≤ (ji5)) = true := decide_eq_true c6
      clear c6
      obtain ⟨ji7, hji7⟩ : ∃ j_ : Int, (shr .u64 a0 (ji5)) = j_ := ⟨_, rfl⟩
      replace H : (some (Go.bits .or .u64 (ji4) (ji7))) = some r := by first | (rw [hji7] at H; exact H) | (simp only [hji7] at H ⊢; exact H)
      have hji7_ : (a0 / 2 ^ min (ji5).toNat 64) = ji7 := hji7
      have hji7z : (ji5) ≤ 64 → (a0 / 2 ^ (ji5).toNat) = ji7 := shr_small hji7
      obtain rfl := Option.some.inj H
      go_enter Try.func22, Try.ntmps22
      go_wp2
      repeat (go_quiet (fail); try go_wp2)
      go_ret
      exact ⟨by first | rfl | (simp; done) | (simp only [← hji4, ← hji5, ← hji7] <;> (first | rfl | simp)) | (simp [*]; done), by repeat (first | exact Drawn0.refl _ | apply Drawn0.step)⟩
    · rw [if_neg c6] at H
      exact absurd H (by simp)
  · rw [if_neg c3] at H
    exact absurd H (by simp)

/-! ### spec_round: function 21 -/
def spec_round.f (a0 : Int) (a1 : Int) : Option (Int) := (spec_turn.f (IntKind.u64.wrap (a0 + (IntKind.u64.wrap (a1 * 14029467366897019727)))) 31).bind fun t105 => (some (IntKind.u64.wrap (t105 * 11400714785074694791)))
set_option maxHeartbeats 8000000 in
set_option maxRecDepth 100000 in
theorem spec_round.calls (a0 : Int) (a1 : Int) (r : Int) (w : World) (h : spec_round.f a0 a1 = some r) :
    Calls Try.prog 21 #[.int .u64 a0, .int .u64 a1] w fun e w' => e = .returned (.int .u64 r) ∧ Drawn0 w w' := by
  have H : ((spec_turn.f (IntKind.u64.wrap (a0 + (IntKind.u64.wrap (a1 * 14029467366897019727)))) 31).bind fun t105 => (some (IntKind.u64.wrap (t105 * 11400714785074694791)))) = some r := h
  clear h
  replace H := Option.bind_eq_some_iff.mp H
  obtain ⟨t105, A30, H⟩ := H
  replace H : (some (IntKind.u64.wrap (t105 * 11400714785074694791))) = some r := H
  have A3 := Aside0.mk A30
  clear A30
  obtain rfl := Option.some.inj H
  go_enter Try.func21, Try.ntmps21
  go_wp2_with (first | ((with_reducible refine gate_callee (f := 22) rfl ?_); refine goesL_ (some 9) rfl rfl Try.func22 (by kernel_rfl) rfl #[.int .u64 (IntKind.u64.wrap (a0 + (IntKind.u64.wrap (a1 * 14029467366897019727)))), .int .i64 31] rfl (by (try simp only [List.map_toArray, List.map_cons, List.map_nil]); first | done | rfl | (simp only [List.length_drop, List.length_take]; rfl)) ?_; (with_reducible refine (spec_turn.calls (IntKind.u64.wrap (a0 + (IntKind.u64.wrap (a1 * 14029467366897019727)))) 31 t105 _ A3.out).mono ?_); rintro e w' ⟨rfl, ⟨nd, rfl⟩⟩; refine ⟨_, rfl, ?_⟩))
  go_ret
  exact ⟨by first | rfl | (simp; done) | (simp [*]; done), by repeat (first | exact Drawn0.refl _ | apply Drawn0.step)⟩

/-! ### spec_XX: function 11, by hand -/
theorem turn_eq (n : Int) (k : Nat) (hk : k ≤ 64) : spec_turn.f n k = some (rolI n k) := by
  unfold spec_turn.f rolI shl shr
  have h64 : (64 : Int) - (k : Int) = ((64 - k : Nat) : Int) := by omega
  rw [if_pos (by omega), IntWalk.wrap64_in _ (by omega), if_pos (by omega), h64]
  simp only [Int.toNat_natCast]
  rw [Nat.min_eq_left (show k ≤ IntKind.u64.bits from hk), Nat.min_eq_left (show 64 - k ≤ IntKind.u64.bits from by show 64 - k ≤ 64; omega)]
theorem turn_calls (n : Int) (j : Int) (k : Nat) (hj : j = k) (hk : k ≤ 64) (w : World) :
    Calls Try.prog 22 #[.int .u64 n, .int .i64 j] w fun e w' => e = .returned (.int .u64 (rolI n k)) ∧ Drawn0 w w' := by
  subst hj
  exact spec_turn.calls n k _ w (turn_eq n k hk)
theorem turn1_calls (n : Int) (w : World) : Calls Try.prog 22 #[.int .u64 n, .int .i64 1] w fun e w' => e = .returned (.int .u64 (rolI n 1)) ∧ Drawn0 w w' := turn_calls n 1 1 rfl (by omega) w
theorem turn7_calls (n : Int) (w : World) : Calls Try.prog 22 #[.int .u64 n, .int .i64 7] w fun e w' => e = .returned (.int .u64 (rolI n 7)) ∧ Drawn0 w w' := turn_calls n 7 7 rfl (by omega) w
theorem turn11_calls (n : Int) (w : World) : Calls Try.prog 22 #[.int .u64 n, .int .i64 11] w fun e w' => e = .returned (.int .u64 (rolI n 11)) ∧ Drawn0 w w' := turn_calls n 11 11 rfl (by omega) w
theorem turn12_calls (n : Int) (w : World) : Calls Try.prog 22 #[.int .u64 n, .int .i64 12] w fun e w' => e = .returned (.int .u64 (rolI n 12)) ∧ Drawn0 w w' := turn_calls n 12 12 rfl (by omega) w
theorem turn18_calls (n : Int) (w : World) : Calls Try.prog 22 #[.int .u64 n, .int .i64 18] w fun e w' => e = .returned (.int .u64 (rolI n 18)) ∧ Drawn0 w w' := turn_calls n 18 18 rfl (by omega) w
theorem turn23_calls (n : Int) (w : World) : Calls Try.prog 22 #[.int .u64 n, .int .i64 23] w fun e w' => e = .returned (.int .u64 (rolI n 23)) ∧ Drawn0 w w' := turn_calls n 23 23 rfl (by omega) w
theorem turn27_calls (n : Int) (w : World) : Calls Try.prog 22 #[.int .u64 n, .int .i64 27] w fun e w' => e = .returned (.int .u64 (rolI n 27)) ∧ Drawn0 w w' := turn_calls n 27 27 rfl (by omega) w
theorem fromLow_l (xs : List Int) (hl : xs.length ≤ 9223372036854775807) : ∀ (j k : Nat), j ≤ xs.length → j < k → spec_FromLow.l0 k xs (fromLowI (xs.drop j)) ((j : Int) - 1) = some (fromLowI xs) := by
  intro j
  induction j with
  | zero =>
    intro k hj hk
    obtain ⟨k, rfl⟩ : ∃ m, k = m + 1 := ⟨k - 1, by omega⟩
    simp only [spec_FromLow.l0]
    rw [if_neg (by omega)]
    simp
  | succ j ih =>
    intro k hj hk
    obtain ⟨k, rfl⟩ : ∃ m, k = m + 1 := ⟨k - 1, by omega⟩
    simp only [spec_FromLow.l0]
    have e : ((j + 1 : Nat) : Int) - 1 = (j : Int) := by omega
    rw [e, if_pos (by omega), if_pos (by omega), if_pos (by omega), IntWalk.wrap64_in _ (by omega)]
    have hd : xs.drop j = rd xs j :: xs.drop (j + 1) := by
      rw [List.drop_eq_getElem_cons (show j < xs.length by omega)]
      simp [rd, List.getD_eq_getElem?_getD, List.getElem?_eq_getElem (show j < xs.length by omega)]
    have hs : fromLowI (xs.drop j) = lowStep (rd xs j) (fromLowI (xs.drop (j + 1))) := by rw [hd]; rfl
    have := ih k (by omega) (by omega)
    rw [hs] at this
    exact this
theorem fromLow_eq (xs : List Int) (hl : xs.length ≤ 9223372036854775807) : ∃ k, spec_FromLow.f k xs = some (fromLowI xs) := by
  refine ⟨xs.length + 1, ?_⟩
  unfold spec_FromLow.f
  rw [IntWalk.wrap64_in _ (by omega)]
  have := fromLow_l xs hl xs.length (xs.length + 1) (Nat.le_refl _) (by omega)
  rwa [List.drop_length] at this
theorem fromLow_calls (A0 : Option Addr) (n c0 : Nat) (l0 : List Int) (w : World) (hn : l0.length = n) (hr : (Kd.int IntKind.u8).C w A0 l0.length l0) (hc : l0.length ≤ c0) (hl : l0.length ≤ 9223372036854775807) :
    Calls Try.prog 10 #[.slice A0 n c0] w fun e w' => e = .returned (.int .u64 (fromLowI l0)) ∧ Drawn0 w w' := by
  subst hn
  obtain ⟨k, hk⟩ := fromLow_eq l0 hl
  exact spec_FromLow.calls k A0 c0 l0 _ w hr hc hk
theorem round_calls (s v : Int) (w : World) :
    Calls Try.prog 21 #[.int .u64 s, .int .u64 v] w fun e w' => e = .returned (.int .u64 (rndI s v)) ∧ Drawn0 w w' := by
  refine spec_round.calls s v _ w ?_
  unfold spec_round.f
  have := turn_eq (IntKind.u64.wrap (s + IntKind.u64.wrap (v * 14029467366897019727))) 31 (by omega)
  rw [show ((31 : Nat) : Int) = 31 from rfl] at this
  rw [this]; rfl
theorem u8info : ∃ i, Try.prog.info? 5 = some i ∧ i.size = 1 := by
  obtain ⟨i, h, h2⟩ := Option.map_eq_some_iff.1 (show (Try.prog.info? 5).map (fun i => i.size) = some 1 by kernel_rfl)
  exact ⟨i, h, h2⟩

theorem fromLow_callsN (A0 : Option Addr) (n c0 : Nat) (l0 : List Int) (w : World) (hr : (Kd.int IntKind.u8).C w A0 n l0) (hc : n ≤ c0) (hl : n ≤ 9223372036854775807) :
    Calls Try.prog 10 #[.slice A0 n c0] w fun e w' => e = .returned (.int .u64 (fromLowI l0)) ∧ Drawn0 w w' := by
  have hn : l0.length = n := hr.1
  subst hn
  exact fromLow_calls A0 _ c0 l0 w rfl hr hc hl
set_option maxHeartbeats 4000000 in
set_option maxRecDepth 100000 in
theorem spec_XX.calls0 (A0 : Option Addr) (c0 : Nat) (l0 : List Int) (w : World) (hr : (Kd.int IntKind.u8).C w A0 l0.length l0) (hc : l0.length ≤ c0) :
    Calls Try.prog 11 #[.slice A0 l0.length c0] w fun e w' => e = .returned (.int .u64 (xxI l0)) ∧ Below w.heap.size w w' := by
  have HR := Aside0.mk hr
  have HC := Aside0.mk hc
  have hl : l0.length ≤ 9223372036854775807 := Kd.C_max hr
  have HS : SlB w (.slice A0 l0.length c0) l0 := ⟨A0, _, c0, rfl, rfl, hc, hl, hr⟩
  clear hr hc
  obtain ⟨i8, hi8, hs8⟩ := u8info
  go_enter Try.func11, Try.ntmps11
  go_upto_if 19 with (fail)
  go_cut [0, 4] (fun v0 v4 wx => ∃ (h : Int) (l : List Int), v4 = .int .u64 h ∧ SlB wx v0 l ∧ Aside0 (restI h l0.length l = xxI l0) ∧ Aside0 (Below w.heap.size w wx))
  case first =>
    by_cases c32 : 32 ≤ l0.length
    · have c1 : decide (32 ≤ (l0.length : Int)) = true := decide_eq_true (by omega)
      rw [c1]
      go_wp2_with (fail)
      rw [wrap_p12, wrap_np1]
      go_loopg [0] l0.length (fun kq v0 w' => ∃ (a b c d : Int) (l : List Int), SlB w v0 l ∧ Blk w' w.heap.size (quad a b c d) 43 ∧ Aside0 (str32 a b c d l (finK l0.length) = xxI l0) ∧ Aside0 (Below w.heap.size w w') ∧ Aside0 (l.length ≤ kq))
      case atStart =>
        refine ⟨_, _, _, _, l0, HS, Blk.new _ _ _, ⟨?_⟩, ⟨(Below.refl _ _).alloc (Nat.le_refl _) _⟩, ⟨Nat.le_refl _⟩⟩
        unfold xxI; rw [if_pos c32]; rfl
      case round =>
        clear HS
        obtain ⟨a, b, c', d, l, ⟨A, n, c, rfl, hn, hc, hm, hC⟩, HB4, HR, HB, HK⟩ := hrel
        have HN := Aside0.mk hn
        have HB4 := Aside0.mk HB4
        clear hn
        by_cases c32' : 32 ≤ n
        · have cb : decide (32 ≤ (n : Int)) = true := decide_eq_true (by omega)
          obtain ⟨A32, cut32, hC32⟩ := cutLo (P := Try.prog) 26 5 Try.underlying26 hi8 hs8 A n c .i64 32 32 rfl c32' hc
          have HC32 := Aside0.mk (hC32 _ _ _ rfl hC)
          have HCA := Aside0.mk hC
          have hR := HR.out
          rw [str32_ge (by rw [HN.out]; exact c32')] at hR
          have HR2 := Aside0.mk hR
          obtain ⟨gk0, hgk0⟩ : ∃ g : Nat, gk = g + 1 := ⟨gk - 1, by have := HK.out; have := HN.out; omega⟩
          subst hgk0
          clear hC32 hC hR HR
          go_wp2_with (fail)
          go_loopg [9, 31] 4 (fun kq v9 v31 w' => ∃ (k : Nat) (p q r s : Int), k ≤ 4 ∧ v31 = .int .i64 k ∧ Aside0 (Blk w' w.heap.size (quad p q r s) 43) ∧ Aside0 (upd k (lows l) 0 p = rndI a (lows l 0) ∧ upd k (lows l) 1 q = rndI b (lows l 1) ∧ upd k (lows l) 2 r = rndI c' (lows l 2) ∧ upd k (lows l) 3 s = rndI d (lows l 3)) ∧ Aside0 (Below w.heap.size w w') ∧ Aside0 (4 - k ≤ kq))
          case atStart => exact ⟨0, a, b, c', d, by omega, rfl, HB4, ⟨rfl, rfl, rfl, rfl⟩, HB, ⟨by omega⟩⟩
          case round =>
            clear HB4 HB
            obtain ⟨k, p, q, r, s, hk, rfl, HB4, HU, HB, HK4⟩ := hrel
            have HCr := Aside0.mk (Kd.C_below HCA.out HB.out)
            rcases (show k = 0 ∨ k = 1 ∨ k = 2 ∨ k = 3 ∨ k = 4 by omega) with rfl | rfl | rfl | rfl | rfl
            · obtain ⟨A0, cut0, hC0⟩ := cutMid (P := Try.prog) 26 5 Try.underlying26 hi8 hs8 A n c .i64 .i64 0 8 0 8 rfl rfl (by omega) (by omega) hc
              have HCk := Aside0.mk (hC0 _ _ _ rfl HCr.out)
              have x0 := HB4.out.cell (j := 0) (v := .int .u64 p) rfl
              have f0 := HB4.out.free 0
              have e0 := i64w0
              have e0' := i64w8
              clear hC0
              go_wp2_with (fail)
              refine region_tail 14 (by kernel_rfl) (by kernel_rfl) ?_
              simp only [List.take_succ_cons, List.take_zero, List.drop_succ_cons, List.drop_zero]
              repeat (quiet_step ((first
                | (go_at_call 10; exact quietCall (fromLow_callsN A0 _ _ ((l.take 8).drop 0) _ (Kd.C_drewN HCk.out _) (by omega) (by omega)))
                | (go_at_call 21; exact quietCall (round_calls _ _ _)))))
              refine wpQuiet_nil ?_
              rintro _ ⟨nq, rfl⟩
              go_wp2_with (fail)
              go_roundg (gk - 1)
              case measure => have := HK4.out; omega
              case rel =>
                obtain ⟨u0, u1, u2, u3⟩ := HU.out
                refine ⟨1, (rndI p (fromLowI ((l.take 8).drop 0))), q, r, s, by omega, rfl, ⟨?_⟩, ⟨?_⟩, ⟨?_⟩, ⟨by have := HK4.out; omega⟩⟩
                · exact (HB4.out.drewN nq).set 0 _
                · exact ⟨u0, u1, u2, u3⟩
                · exact (pw_below_drewN HB.out nq).setCell (p := ⟨w.heap.size, _, none⟩) (Nat.le_refl _) _
            · obtain ⟨A1, cut1, hC1⟩ := cutMid (P := Try.prog) 26 5 Try.underlying26 hi8 hs8 A n c .i64 .i64 8 16 8 16 rfl rfl (by omega) (by omega) hc
              have HCk := Aside0.mk (hC1 _ _ _ rfl HCr.out)
              have x1 := HB4.out.cell (j := 1) (v := .int .u64 q) rfl
              have f1 := HB4.out.free 1
              have e1 := i64w8
              have e1' := i64w16
              clear hC1
              go_wp2_with (fail)
              refine region_tail 14 (by kernel_rfl) (by kernel_rfl) ?_
              simp only [List.take_succ_cons, List.take_zero, List.drop_succ_cons, List.drop_zero]
              repeat (quiet_step ((first
                | (go_at_call 10; exact quietCall (fromLow_callsN A1 _ _ ((l.take 16).drop 8) _ (Kd.C_drewN HCk.out _) (by omega) (by omega)))
                | (go_at_call 21; exact quietCall (round_calls _ _ _)))))
              refine wpQuiet_nil ?_
              rintro _ ⟨nq, rfl⟩
              go_wp2_with (fail)
              go_roundg (gk - 1)
              case measure => have := HK4.out; omega
              case rel =>
                obtain ⟨u0, u1, u2, u3⟩ := HU.out
                refine ⟨2, p, (rndI q (fromLowI ((l.take 16).drop 8))), r, s, by omega, rfl, ⟨?_⟩, ⟨?_⟩, ⟨?_⟩, ⟨by have := HK4.out; omega⟩⟩
                · exact (HB4.out.drewN nq).set 1 _
                · exact ⟨u0, u1, u2, u3⟩
                · exact (pw_below_drewN HB.out nq).setCell (p := ⟨w.heap.size, _, none⟩) (Nat.le_refl _) _
            · obtain ⟨A2, cut2, hC2⟩ := cutMid (P := Try.prog) 26 5 Try.underlying26 hi8 hs8 A n c .i64 .i64 16 24 16 24 rfl rfl (by omega) (by omega) hc
              have HCk := Aside0.mk (hC2 _ _ _ rfl HCr.out)
              have x2 := HB4.out.cell (j := 2) (v := .int .u64 r) rfl
              have f2 := HB4.out.free 2
              have e2 := i64w16
              have e2' := i64w24
              clear hC2
              go_wp2_with (fail)
              refine region_tail 14 (by kernel_rfl) (by kernel_rfl) ?_
              simp only [List.take_succ_cons, List.take_zero, List.drop_succ_cons, List.drop_zero]
              repeat (quiet_step ((first
                | (go_at_call 10; exact quietCall (fromLow_callsN A2 _ _ ((l.take 24).drop 16) _ (Kd.C_drewN HCk.out _) (by omega) (by omega)))
                | (go_at_call 21; exact quietCall (round_calls _ _ _)))))
              refine wpQuiet_nil ?_
              rintro _ ⟨nq, rfl⟩
              go_wp2_with (fail)
              go_roundg (gk - 1)
              case measure => have := HK4.out; omega
              case rel =>
                obtain ⟨u0, u1, u2, u3⟩ := HU.out
                refine ⟨3, p, q, (rndI r (fromLowI ((l.take 24).drop 16))), s, by omega, rfl, ⟨?_⟩, ⟨?_⟩, ⟨?_⟩, ⟨by have := HK4.out; omega⟩⟩
                · exact (HB4.out.drewN nq).set 2 _
                · exact ⟨u0, u1, u2, u3⟩
                · exact (pw_below_drewN HB.out nq).setCell (p := ⟨w.heap.size, _, none⟩) (Nat.le_refl _) _
            · obtain ⟨A3, cut3, hC3⟩ := cutMid (P := Try.prog) 26 5 Try.underlying26 hi8 hs8 A n c .i64 .i64 24 32 24 32 rfl rfl (by omega) (by omega) hc
              have HCk := Aside0.mk (hC3 _ _ _ rfl HCr.out)
              have x3 := HB4.out.cell (j := 3) (v := .int .u64 s) rfl
              have f3 := HB4.out.free 3
              have e3 := i64w24
              have e3' := i64w32
              clear hC3
              go_wp2_with (fail)
              refine region_tail 14 (by kernel_rfl) (by kernel_rfl) ?_
              simp only [List.take_succ_cons, List.take_zero, List.drop_succ_cons, List.drop_zero]
              repeat (quiet_step ((first
                | (go_at_call 10; exact quietCall (fromLow_callsN A3 _ _ ((l.take 32).drop 24) _ (Kd.C_drewN HCk.out _) (by omega) (by omega)))
                | (go_at_call 21; exact quietCall (round_calls _ _ _)))))
              refine wpQuiet_nil ?_
              rintro _ ⟨nq, rfl⟩
              go_wp2_with (fail)
              go_roundg (gk - 1)
              case measure => have := HK4.out; omega
              case rel =>
                obtain ⟨u0, u1, u2, u3⟩ := HU.out
                refine ⟨4, p, q, r, (rndI s (fromLowI ((l.take 32).drop 24))), by omega, rfl, ⟨?_⟩, ⟨?_⟩, ⟨?_⟩, ⟨by have := HK4.out; omega⟩⟩
                · exact (HB4.out.drewN nq).set 3 _
                · exact ⟨u0, u1, u2, u3⟩
                · exact (pw_below_drewN HB.out nq).setCell (p := ⟨w.heap.size, _, none⟩) (Nat.le_refl _) _
            · go_wp2_with (fail)
              go_roundg gk0
              case measure => omega
              case rel =>
                obtain ⟨u0, u1, u2, u3⟩ := HU.out
                refine ⟨p, q, r, s, l.drop 32, ⟨A32, n - 32, c - 32, rfl, by rw [List.length_drop, HN.out], by omega, by omega, HC32.out⟩, HB4.out, ⟨?_⟩, HB, ⟨by rw [List.length_drop]; have := HK.out; have := HN.out; omega⟩⟩
                have hR := HR2.out
                have e0 : p = rndI a (fromLowI (l.take 8)) := u0
                have e1 : q = rndI b (fromLowI ((l.take 16).drop 8)) := u1
                have e2 : r = rndI c' (fromLowI ((l.take 24).drop 16)) := u2
                have e3 : s = rndI d (fromLowI ((l.take 32).drop 24)) := u3
                rw [e0, e1, e2, e3]
                exact hR
        · have cb : decide (32 ≤ (n : Int)) = false := decide_eq_false (by omega)
          have x0 := HB4.out.cell (j := 0) (v := .int .u64 a) rfl
          have x1 := HB4.out.cell (j := 1) (v := .int .u64 b) rfl
          have x2 := HB4.out.cell (j := 2) (v := .int .u64 c') rfl
          have x3 := HB4.out.cell (j := 3) (v := .int .u64 d) rfl
          go_wp2_with (fail)
          go_quiet (first
            | (go_at_call_of 22 (Value.int .u64 a); exact quietCall (turn1_calls _ _))
            | (go_at_call_of 22 (Value.int .u64 b); exact quietCall (turn7_calls _ _))
            | (go_at_call_of 22 (Value.int .u64 c'); exact quietCall (turn12_calls _ _))
            | (go_at_call_of 22 (Value.int .u64 d); exact quietCall (turn18_calls _ _)))
          go_wp2_with (fail)
          have i0 : ∀ w, (Instr.index 43 (.agg #[.int .u64 a, .int .u64 b, .int .u64 c', .int .u64 d]) (.int .i64 0)).run Try.prog w = .ok (.int .u64 a) w := fun _ => by kernel_rfl
          have i1 : ∀ w, (Instr.index 43 (.agg #[.int .u64 a, .int .u64 b, .int .u64 c', .int .u64 d]) (.int .i64 1)).run Try.prog w = .ok (.int .u64 b) w := fun _ => by kernel_rfl
          have i2 : ∀ w, (Instr.index 43 (.agg #[.int .u64 a, .int .u64 b, .int .u64 c', .int .u64 d]) (.int .i64 2)).run Try.prog w = .ok (.int .u64 c') w := fun _ => by kernel_rfl
          have i3 : ∀ w, (Instr.index 43 (.agg #[.int .u64 a, .int .u64 b, .int .u64 c', .int .u64 d]) (.int .i64 3)).run Try.prog w = .ok (.int .u64 d) w := fun _ => by kernel_rfl
          clear x0 x1 x2 x3
          go_loopg [4, 11, 67] 4 (fun kq v4 v11 v67 w' => ∃ (k : Nat) (h : Int), k ≤ 4 ∧ v67 = .int .i64 k ∧ v4 = .int .u64 h ∧ Aside0 (mrg a b c' d k h = mrg a b c' d 0 (sumsI a b c' d)) ∧ Aside0 (Below w.heap.size w w') ∧ Aside0 (4 - k ≤ kq))
          case atStart => exact ⟨0, _, by omega, rfl, rfl, ⟨rfl⟩, ⟨pw_below_drewN HB.out _⟩, ⟨by omega⟩⟩
          case round =>
            clear HB4
            obtain ⟨k, h, hk, rfl, rfl, HM, HBm, HK3⟩ := hrel
            rcases (show k = 0 ∨ k = 1 ∨ k = 2 ∨ k = 3 ∨ k = 4 by omega) with rfl | rfl | rfl | rfl | rfl
            · go_wp2_with (first
                | (go_at_call 21; (with_reducible refine (round_calls _ _ _).mono ?_); rintro e w' ⟨rfl, ⟨nd, rfl⟩⟩))
              go_roundg (gk - 1)
              case measure => have := HK3.out; omega
              case rel => exact ⟨1, _, by omega, rfl, rfl, HM, (by first | exact ⟨pw_below_drewN HBm.out _⟩ | exact HBm), ⟨by have := HK3.out; omega⟩⟩
            · go_wp2_with (first
                | (go_at_call 21; (with_reducible refine (round_calls _ _ _).mono ?_); rintro e w' ⟨rfl, ⟨nd, rfl⟩⟩))
              go_roundg (gk - 1)
              case measure => have := HK3.out; omega
              case rel => exact ⟨2, _, by omega, rfl, rfl, HM, (by first | exact ⟨pw_below_drewN HBm.out _⟩ | exact HBm), ⟨by have := HK3.out; omega⟩⟩
            · go_wp2_with (first
                | (go_at_call 21; (with_reducible refine (round_calls _ _ _).mono ?_); rintro e w' ⟨rfl, ⟨nd, rfl⟩⟩))
              go_roundg (gk - 1)
              case measure => have := HK3.out; omega
              case rel => exact ⟨3, _, by omega, rfl, rfl, HM, (by first | exact ⟨pw_below_drewN HBm.out _⟩ | exact HBm), ⟨by have := HK3.out; omega⟩⟩
            · go_wp2_with (first
                | (go_at_call 21; (with_reducible refine (round_calls _ _ _).mono ?_); rintro e w' ⟨rfl, ⟨nd, rfl⟩⟩))
              go_roundg (gk - 1)
              case measure => have := HK3.out; omega
              case rel => exact ⟨4, _, by omega, rfl, rfl, HM, (by first | exact ⟨pw_below_drewN HBm.out _⟩ | exact HBm), ⟨by have := HK3.out; omega⟩⟩
            · go_wp2_with (fail)
              go_meet
              have hR := HR.out
              rw [str32_lt (by rw [HN.out]; exact c32')] at hR
              have hM := HM.out
              refine ⟨h, l, rfl, ⟨A, n, c, rfl, HN.out, by omega, by omega, Kd.C_below hC HBm.out⟩, ⟨?_⟩, HBm⟩
              rw [show h = mrg a b c' d 0 (sumsI a b c' d) from hM]
              exact hR
    · have c1 : decide (32 ≤ (l0.length : Int)) = false := decide_eq_false (by omega)
      go_wp2_with (fail)
      go_meet
      refine ⟨_, l0, rfl, HS, ⟨?_⟩, ⟨Below.refl _ _⟩⟩
      unfold restI xxI; rw [if_neg (by omega)]
  case rest =>
    clear HS HR
    obtain ⟨h, l, rfl, HS, HR, HB⟩ := hcut
    go_wp2_with (fail)
    go_loopg [0, 4] l.length (fun kq v0 v4 w' => ∃ (h : Int) (l : List Int), v4 = .int .u64 h ∧ SlB w' v0 l ∧ Aside0 (tail8 h l = xxI l0) ∧ Aside0 (Below w.heap.size w w') ∧ Aside0 (l.length ≤ kq))
    case atStart => exact ⟨_, l, rfl, HS, HR, HB, ⟨Nat.le_refl _⟩⟩
    case round =>
      clear HS HR HB
      obtain ⟨h, l, rfl, ⟨A, n, c, rfl, hn, hc, hm, hC⟩, HR, HB, HK⟩ := hrel
      have HN := Aside0.mk hn
      clear hn
      by_cases c8 : 8 ≤ n
      · have c8b : decide (8 ≤ (n : Int)) = true := decide_eq_true (by omega)
        have c8n : decide (8 ≤ n) = true := decide_eq_true c8
        have hR' := HR.out
        rw [tail8_ge (by rw [HN.out]; exact c8)] at hR'
        have HR8 := Aside0.mk hR'
        clear hR' HR
        obtain ⟨A8, cut8, hC8⟩ := cutLo (P := Try.prog) 26 5 Try.underlying26 hi8 hs8 A n c .i64 8 8 rfl c8 hc
        have HC8 := Aside0.mk (hC8 _ _ _ rfl hC)
        have HCT := Aside0.mk (Kd.C_take (m := 8) (HN.out ▸ hC) (by rw [HN.out]; exact c8))
        have HT : (l.take 8).length = 8 := by rw [List.length_take, HN.out]; omega
        rw [HT] at HCT
        clear hC hC8 HT
        go_wp2_with (first
          | (go_at_call 10; ((with_reducible refine (fromLow_callsN A _ _ (l.take 8) _ HCT.out ?_ ?_).mono ?_); (case refine_1 => omega); (case refine_2 => omega); rintro e w' ⟨rfl, ⟨nd, rfl⟩⟩))
          | (go_at_call 21; (with_reducible refine (round_calls _ _ _).mono ?_); rintro e w' ⟨rfl, ⟨nd, rfl⟩⟩)
          | (go_at_call 22; (with_reducible refine (turn27_calls _ _).mono ?_); rintro e w' ⟨rfl, ⟨nd, rfl⟩⟩))
        go_roundg (gk - 1)
        case measure => have := HK.out; have := HN.out; omega
        case rel =>
          refine ⟨_, l.drop 8, rfl, ⟨A8, n - 8, c - 8, rfl, by rw [List.length_drop, HN.out], by omega, by omega, ?_⟩, HR8, ⟨HB.out.trans ⟨rfl, rfl, rfl, Nat.le_refl _, fun _ _ => rfl⟩⟩, ⟨?_⟩⟩
          · (with_reducible repeat (first | apply Kd.C_drewN | apply Kd.C_drew)); exact HC8.out
          · rw [List.length_drop]; have := HK.out; have := HN.out; omega
      · have c8b : decide (8 ≤ (n : Int)) = false := decide_eq_false (by omega)
        have c8n : decide (8 ≤ n) = false := decide_eq_false c8
        have hR' := HR.out
        rw [tail8_lt (by rw [HN.out]; exact c8)] at hR'
        have HR4 := Aside0.mk hR'
        clear hR' HR
        have HC := Aside0.mk hC
        clear hC
        go_upto_if 96 with (fail)
        go_cut [0, 4] (fun v0 v4 wx => ∃ (h : Int) (l : List Int), v4 = .int .u64 h ∧ SlB wx v0 l ∧ Aside0 (tail1 h l = xxI l0) ∧ Aside0 (Below w.heap.size w wx))
        case first =>
          by_cases c4 : 4 ≤ n
          · have c4b : decide (4 ≤ (n : Int)) = true := decide_eq_true (by omega)
            obtain ⟨A4, cut4, hC4⟩ := cutLo (P := Try.prog) 26 5 Try.underlying26 hi8 hs8 A n c .i64 4 4 rfl c4 hc
            have HC4 := Aside0.mk (hC4 _ _ _ rfl HC.out)
            have HCT := Aside0.mk (Kd.C_take (m := 4) (HN.out ▸ HC.out) (by rw [HN.out]; exact c4))
            have HT : (l.take 4).length = 4 := by rw [List.length_take, HN.out]; omega
            rw [HT] at HCT
            clear hC4 HT
            go_wp2_with (first
              | (go_at_call 10; ((with_reducible refine (fromLow_callsN A _ _ (l.take 4) _ HCT.out ?_ ?_).mono ?_); (case refine_1 => omega); (case refine_2 => omega); rintro e w' ⟨rfl, ⟨nd, rfl⟩⟩))
              | (go_at_call 22; (with_reducible refine (turn23_calls _ _).mono ?_); rintro e w' ⟨rfl, ⟨nd, rfl⟩⟩))
            go_meet
            have hR := HR4.out
            unfold tail4 at hR
            rw [if_pos (by rw [HN.out]; exact c4)] at hR
            refine ⟨_, l.drop 4, rfl, ⟨A4, n - 4, c - 4, rfl, by rw [List.length_drop, HN.out], by omega, by omega, ?_⟩, ⟨hR⟩, ⟨HB.out.trans ⟨rfl, rfl, rfl, Nat.le_refl _, fun _ _ => rfl⟩⟩⟩
            (with_reducible repeat (first | apply Kd.C_drewN | apply Kd.C_drew)); exact HC4.out
          · have c4b : decide (4 ≤ (n : Int)) = false := decide_eq_false (by omega)
            go_wp2_with (fail)
            go_meet
            have hR := HR4.out
            unfold tail4 at hR
            rw [if_neg (by rw [HN.out]; exact c4)] at hR
            exact ⟨_, l, rfl, ⟨A, n, c, rfl, HN.out, by omega, by omega, HC.out⟩, ⟨hR⟩, HB⟩
        case rest =>
          clear HR4 HB HC HN hc hm
          obtain ⟨h, l, rfl, ⟨A, n, c, rfl, hn, hc, hm, hC⟩, HR, HB⟩ := hcut
          have HN := Aside0.mk hn
          have HC := Aside0.mk hC
          clear hn hC
          go_wp2_with (fail)
          go_loopg [4, 13, 110] n (fun kq v4 v13 v110 w' => ∃ (h : Int) (k : Nat), v4 = .int .u64 h ∧ v110 = .int .i64 k ∧ k ≤ n ∧ Aside0 (tail1 h (l.drop k) = xxI l0) ∧ Aside0 (Below w.heap.size w w') ∧ Aside0 (n - k ≤ kq) ∧ Aside0 ((Kd.int IntKind.u8).C w' A n l))
          case atStart => exact ⟨h, 0, rfl, rfl, Nat.zero_le _, HR, HB, ⟨by omega⟩, HC⟩
          case round =>
            clear HR HB HC
            obtain ⟨h, k, rfl, rfl, hk, HR, HB, HK, HC⟩ := hrel
            by_cases ck : k < n
            · have ckb : decide ((k : Int) < (n : Int)) = true := decide_eq_true (by omega)
              obtain ⟨ad, rfl, x0⟩ := Kd.at_int HC.out k (by omega) (by omega)
              rw [Int.toNat_natCast] at x0
              go_wp2_with (first
              | (go_at_call 22; (with_reducible refine (turn11_calls _ _).mono ?_); rintro e w' ⟨rfl, ⟨nd, rfl⟩⟩))
              go_roundg (gk - 1)
              case measure => have := HK.out; omega
              case rel =>
                refine ⟨_, k + 1, rfl, by go_num, by omega, ?_, ⟨HB.out.trans ⟨rfl, rfl, rfl, Nat.le_refl _, fun _ _ => rfl⟩⟩, ⟨by have := HK.out; omega⟩, ⟨?_⟩⟩
                · have hR := HR.out
                  rw [drop_cons l k (by rw [HN.out]; exact ck)] at hR
                  exact ⟨hR⟩
                · (with_reducible repeat (first | apply Kd.C_drewN | apply Kd.C_drew)); exact HC.out
            · go_wp2_with (fail)
              go_ret
              refine ⟨?_, HB.out⟩
              have hR := HR.out
              rw [List.drop_of_length_le (by rw [HN.out]; omega)] at hR
              exact congrArg (fun x => Ending.returned (Value.int .u64 x)) hR

def spec_XX.f (l0 : List Int) : Option (Int) := some (xxI l0)
theorem spec_XX.calls (A0 : Option Addr) (c0 : Nat) (l0 : List Int) (r : Int) (w : World) (hr0 : Kd.C (Kd.int .u8) w A0 l0.length l0) (hc0 : l0.length ≤ c0) (h : spec_XX.f l0 = some r) :
    Calls Try.prog 11 #[.slice A0 l0.length c0] w fun e w' => e = .returned (.int .u64 r) ∧ Below w.heap.size w w' := by
  obtain rfl := Option.some.inj h
  exact spec_XX.calls0 A0 c0 l0 w hr0 hc0


/-! ### spec_SameNumbers_uint64: function 14 -/
def spec_SameNumbers_uint64.l0 : Nat → List Int → List Int → Int → Int → Option (Bool)
  | 0, _, _, _, _ => none
  | k + 1, x0, x1, x12, x13 => if x13 < x12 then (if 0 ≤ x13 then (if x13 < (x0.length : Int) then (if x13 < (x1.length : Int) then (if (rd x0 x13) = (rd x1 x13) then (spec_SameNumbers_uint64.l0 k x0 x1 x12 (wrap64 (x13 + 1))) else (some false)) else (none)) else (none)) else (none)) else (some true)
def spec_SameNumbers_uint64.f (k : Nat) (l0 : List Int) (l1 : List Int) : Option (Bool) := if (l0.length : Int) = (l1.length : Int) then (spec_SameNumbers_uint64.l0 k l0 l1 (l0.length : Int) 0) else (some false)
theorem spec_SameNumbers_uint64.mono_l : ∀ k, (∀ y0 y1 y2 y3, LeO (spec_SameNumbers_uint64.l0 k y0 y1 y2 y3) (spec_SameNumbers_uint64.l0 (k + 1) y0 y1 y2 y3))
  | 0 => fun _ _ _ _ r h => by simp [spec_SameNumbers_uint64.l0] at h
  | k + 1 => by
    have ih0 := spec_SameNumbers_uint64.mono_l k
    · intro y0 y1 y2 y3
      unfold spec_SameNumbers_uint64.l0
      repeat' first
      | (with_reducible exact ih0 _ _ _ _)
      | (with_reducible exact LeO.refl _)
      | (with_reducible exact LeO.none _)
      | (with_reducible refine LeO.ite ?_ ?_)
      | (with_reducible refine LeO.bind ?_ (fun _ => ?_))
      | exact ih0 _ _ _ _
      | exact LeO.none _
      | refine LeO.ite ?_ ?_
      | refine LeO.bind ?_ (fun _ => ?_)
theorem spec_SameNumbers_uint64.mono : ∀ a0 a1 k, LeO (spec_SameNumbers_uint64.f k a0 a1) (spec_SameNumbers_uint64.f (k + 1) a0 a1) := by
  intro a0 a1 k
  have ih0 := spec_SameNumbers_uint64.mono_l k
  unfold spec_SameNumbers_uint64.f
  repeat' first
      | (with_reducible exact ih0 _ _ _ _)
      | (with_reducible exact LeO.refl _)
      | (with_reducible exact LeO.none _)
      | (with_reducible refine LeO.ite ?_ ?_)
      | (with_reducible refine LeO.bind ?_ (fun _ => ?_))
      | exact ih0 _ _ _ _
      | exact LeO.none _
      | refine LeO.ite ?_ ?_
      | refine LeO.bind ?_ (fun _ => ?_)
set_option maxHeartbeats 8000000 in
set_option maxRecDepth 100000 in
theorem spec_SameNumbers_uint64.calls (k : Nat) (A0 : Option Addr) (c0 : Nat) (l0 : List Int) (A1 : Option Addr) (c1 : Nat) (l1 : List Int) (r : Bool) (w : World) (hr0 : Kd.C (Kd.int .u64) w A0 l0.length l0) (hc0 : l0.length ≤ c0) (hr1 : Kd.C (Kd.int .u64) w A1 l1.length l1) (hc1 : l1.length ≤ c1) (h : spec_SameNumbers_uint64.f k l0 l1 = some r) :
    Calls Try.prog 14 #[.slice A0 l0.length c0, .slice A1 l1.length c1] w fun e w' => e = .returned (.bool r) ∧ Drawn0 w w' := by
  have HR0 := Aside0.mk hr0
  have HC0 := Aside0.mk hc0
  clear hr0 hc0
  have HR1 := Aside0.mk hr1
  have HC1 := Aside0.mk hc1
  clear hr1 hc1
  have H : (if (l0.length : Int) = (l1.length : Int) then (spec_SameNumbers_uint64.l0 k l0 l1 (l0.length : Int) 0) else (some false)) = some r := h
  clear h
  by_cases c3 : (l0.length : Int) = (l1.length : Int)
  · rw [if_pos c3] at H
    have c3b0 : ((l0.length : Int) == (l1.length : Int)) = true := beq_iff_eq.mpr c3
    have c3b1 : ((l0.length : Int) != (l1.length : Int)) = false := bne_eq_false_iff_eq.mpr c3
    have c3b2 : (l0.length == l1.length) = true := by first | simpa using c3 | (simp at c3 ⊢; omega)
    clear c3
    have H' := Aside0.mk H
    clear H
    go_enter Try.func14, Try.ntmps14
    go_wp2
    repeat (go_quiet (fail); try go_wp2)
    go_loopg [13] k (fun kq v13 w' => ∃ (x13_1 : Int), v13 = .int .i64 x13_1 ∧ Aside0 (spec_SameNumbers_uint64.l0 kq l0 l1 (l0.length : Int) x13_1 = some r) ∧ Aside0 (kq ≤ k) ∧ Drawn0 w w')
    case atStart => exact ⟨(0), (by first | rfl | (simp; done) | (simp [*]; done)), H', ⟨Nat.le_refl _⟩, by repeat (first | exact Drawn0.refl _ | apply Drawn0.step)⟩
    case round =>
      clear H'
      try clear c1
      try clear p2
      try clear c3
      try clear c3b0
      try clear c3b1
      try clear c3b2
      obtain ⟨x13_1, rfl, HA, HK1, ⟨m1, rfl⟩⟩ := hrel
      cases gk with
      | zero => exact absurd HA.out (by simp [spec_SameNumbers_uint64.l0])
      | succ k1 =>
        have H := HA.out
        clear HA
        simp only [spec_SameNumbers_uint64.l0] at H
        by_cases c4 : x13_1 < (l0.length : Int)
        · rw [if_pos c4] at H
          have c4b0 : decide (x13_1 < (l0.length : Int)) = true := decide_eq_true c4
          clear c4
          by_cases c5 : 0 ≤ x13_1
          · rw [if_pos c5] at H
            have c5b0 : decide (0 ≤ x13_1) = true := decide_eq_true c5
            clear c5
            by_cases c6 : x13_1 < (l0.length : Int)
            · rw [if_pos c6] at H
              have c6b0 : decide (x13_1 < (l0.length : Int)) = true := decide_eq_true c6
              clear c6
              by_cases c7 : x13_1 < (l1.length : Int)
              · rw [if_pos c7] at H
                have c7b0 : decide (x13_1 < (l1.length : Int)) = true := decide_eq_true c7
                clear c7
                by_cases c8 : (rd l0 x13_1) = (rd l1 x13_1)
                · rw [if_pos c8] at H
                  have c8b0 : ((rd l0 x13_1) == (rd l1 x13_1)) = true := beq_iff_eq.mpr c8
                  have c8b1 : ((rd l0 x13_1) != (rd l1 x13_1)) = false := bne_eq_false_iff_eq.mpr c8
                  clear c8
                  have H' := Aside0.mk H
                  clear H
                  have p106 : 0 ≤ (x13_1 : Int) := of_decide_eq_true (by first | (with_reducible assumption) | assumption)
                  have q106 : x13_1 < (l0.length : Int) := of_decide_eq_true (by first | (with_reducible assumption) | assumption)
                  obtain ⟨ad106, e106, hx106_0⟩ := Kd.at_int HR0.out x13_1 p106 q106
                  cases e106
                  replace p106 := eq_true p106
                  replace q106 := eq_true q106
                  have p107 : 0 ≤ (x13_1 : Int) := of_decide_eq_true (by first | (with_reducible assumption) | assumption)
                  have q107 : x13_1 < (l1.length : Int) := of_decide_eq_true (by first | (with_reducible assumption) | assumption)
                  obtain ⟨ad107, e107, hx107_0⟩ := Kd.at_int HR1.out x13_1 p107 q107
                  cases e107
                  replace p107 := eq_true p107
                  replace q107 := eq_true q107
                  go_wp2
                  repeat (go_quiet (fail); try go_wp2)
                  go_roundg k1
                  case measure => have := HK1.out; omega
                  case rel => exact ⟨(wrap64 (x13_1 + 1)), (by first | rfl | (simp; done) | (simp [*]; done)), H', ⟨by have := HK1.out; omega⟩, by repeat (first | exact Drawn0.refl _ | apply Drawn0.step)⟩
                · rw [if_neg c8] at H
                  have c8b0 : ((rd l0 x13_1) == (rd l1 x13_1)) = false := beq_eq_false_iff_ne.mpr c8
                  have c8b1 : ((rd l0 x13_1) != (rd l1 x13_1)) = true := bne_iff_ne.mpr c8
                  obtain rfl := Option.some.inj H
                  have p106 : 0 ≤ (x13_1 : Int) := of_decide_eq_true (by first | (with_reducible assumption) | assumption)
                  have q106 : x13_1 < (l0.length : Int) := of_decide_eq_true (by first | (with_reducible assumption) | assumption)
                  obtain ⟨ad106, e106, hx106_0⟩ := Kd.at_int HR0.out x13_1 p106 q106
                  cases e106
                  replace p106 := eq_true p106
                  replace q106 := eq_true q106
                  have p107 : 0 ≤ (x13_1 : Int) := of_decide_eq_true (by first | (with_reducible assumption) | assumption)
                  have q107 : x13_1 < (l1.length : Int) := of_decide_eq_true (by first | (with_reducible assumption) | assumption)
                  obtain ⟨ad107, e107, hx107_0⟩ := Kd.at_int HR1.out x13_1 p107 q107
                  cases e107
                  replace p107 := eq_true p107
                  replace q107 := eq_true q107
                  go_wp2
                  repeat (go_quiet (fail); try go_wp2)
                  go_ret
                  exact ⟨by first | rfl | (simp; done) | (simp [*]; done), by repeat (first | exact Drawn0.refl _ | apply Drawn0.step)⟩
              · rw [if_neg c7] at H
                exact absurd H (by simp)
            · rw [if_neg c6] at H
              exact absurd H (by simp)
          · rw [if_neg c5] at H
            exact absurd H (by simp)
        · rw [if_neg c4] at H
          have c4b0 : decide (x13_1 < (l0.length : Int)) = false := decide_eq_false c4
          clear c4
          obtain rfl := Option.some.inj H
          go_wp2
          repeat (go_quiet (fail); try go_wp2)
          go_ret
          exact ⟨by first | rfl | (simp; done) | (simp [*]; done), by repeat (first | exact Drawn0.refl _ | apply Drawn0.step)⟩
  · rw [if_neg c3] at H
    have c3b0 : ((l0.length : Int) == (l1.length : Int)) = false := beq_eq_false_iff_ne.mpr c3
    have c3b1 : ((l0.length : Int) != (l1.length : Int)) = true := bne_iff_ne.mpr c3
    have c3b2 : (l0.length == l1.length) = false := by first | simpa using c3 | (simp at c3 ⊢; omega)
    obtain rfl := Option.some.inj H
    go_enter Try.func14, Try.ntmps14
    go_wp2
    repeat (go_quiet (fail); try go_wp2)
    go_ret
    exact ⟨by first | rfl | (simp; done) | (simp [*]; done), by repeat (first | exact Drawn0.refl _ | apply Drawn0.step)⟩

/-! ### pqxxhash_avalanche: function 28 -/
def pqxxhash_avalanche.f (a0 : Int) : Option (Int) := some (Go.bits .xor .u64 (IntKind.u64.wrap ((Go.bits .xor .u64 (IntKind.u64.wrap ((Go.bits .xor .u64 a0 (a0 / 8589934592)) * 14029467366897019727)) ((IntKind.u64.wrap ((Go.bits .xor .u64 a0 (a0 / 8589934592)) * 14029467366897019727)) / 536870912)) * 1609587929392839161)) ((IntKind.u64.wrap ((Go.bits .xor .u64 (IntKind.u64.wrap ((Go.bits .xor .u64 a0 (a0 / 8589934592)) * 14029467366897019727)) ((IntKind.u64.wrap ((Go.bits .xor .u64 a0 (a0 / 8589934592)) * 14029467366897019727)) / 536870912)) * 1609587929392839161)) / 4294967296))
set_option maxHeartbeats 8000000 in
set_option maxRecDepth 100000 in
theorem pqxxhash_avalanche.calls (a0 : Int) (r : Int) (w : World) (h : pqxxhash_avalanche.f a0 = some r) :
    Calls Try.prog 28 #[.int .u64 a0] w fun e w' => e = .returned (.int .u64 r) ∧ Drawn0 w w' := by
  have H : (some (Go.bits .xor .u64 (IntKind.u64.wrap ((Go.bits .xor .u64 (IntKind.u64.wrap ((Go.bits .xor .u64 a0 (a0 / 8589934592)) * 14029467366897019727)) ((IntKind.u64.wrap ((Go.bits .xor .u64 a0 (a0 / 8589934592)) * 14029467366897019727)) / 536870912)) * 1609587929392839161)) ((IntKind.u64.wrap ((Go.bits .xor .u64 (IntKind.u64.wrap ((Go.bits .xor .u64 a0 (a0 / 8589934592)) * 14029467366897019727)) ((IntKind.u64.wrap ((Go.bits .xor .u64 a0 (a0 / 8589934592)) * 14029467366897019727)) / 536870912)) * 1609587929392839161)) / 4294967296))) = some r := h
  clear h
  obtain rfl := Option.some.inj H
  go_enter Try.func28, Try.ntmps28
  go_wp2
  go_ret
  exact ⟨by first | rfl | (simp; done) | (simp [*]; done), by repeat (first | exact Drawn0.refl _ | apply Drawn0.step)⟩

/-! ### bits_RotateLeft64: function 40 -/
def bits_RotateLeft64.f (a0 : Int) (a1 : Int) : Option (Int) := if 0 ≤ (Go.bits .and .u64 (IntKind.u64.wrap (a1)) 63) then (if 0 ≤ (IntKind.u64.wrap (64 - (Go.bits .and .u64 (IntKind.u64.wrap (a1)) 63))) then (some (Go.bits .or .u64 (shl .u64 a0 (Go.bits .and .u64 (IntKind.u64.wrap (a1)) 63)) (shr .u64 a0 (IntKind.u64.wrap (64 - (Go.bits .and .u64 (IntKind.u64.wrap (a1)) 63)))))) else (none)) else (none)
set_option maxHeartbeats 8000000 in
set_option maxRecDepth 100000 in
theorem bits_RotateLeft64.calls (a0 : Int) (a1 : Int) (r : Int) (w : World) (h : bits_RotateLeft64.f a0 a1 = some r) :
    Calls Try.prog 40 #[.int .u64 a0, .int .i64 a1] w fun e w' => e = .returned (.int .u64 r) ∧ Drawn0 w w' := by
  have H : (if 0 ≤ (Go.bits .and .u64 (IntKind.u64.wrap (a1)) 63) then (if 0 ≤ (IntKind.u64.wrap (64 - (Go.bits .and .u64 (IntKind.u64.wrap (a1)) 63))) then (some (Go.bits .or .u64 (shl .u64 a0 (Go.bits .and .u64 (IntKind.u64.wrap (a1)) 63)) (shr .u64 a0 (IntKind.u64.wrap (64 - (Go.bits .and .u64 (IntKind.u64.wrap (a1)) 63)))))) else (none)) else (none)) = some r := h
  clear h
  obtain ⟨ji3, hji3⟩ : ∃ j_ : Int, (Go.bits .and .u64 (IntKind.u64.wrap (a1)) 63) = j_ := ⟨_, rfl⟩
  replace H : (if 0 ≤ (ji3) then (if 0 ≤ (IntKind.u64.wrap (64 - (ji3))) then (some (Go.bits .or .u64 (shl .u64 a0 (ji3)) (shr .u64 a0 (IntKind.u64.wrap (64 - (ji3)))))) else (none)) else (none)) = some r := by first | (rw [hji3] at H; exact H) | (simp only [hji3] at H ⊢; exact H)
  by_cases c4 : 0 ≤ (ji3)
  · rw [if_pos c4] at H
    have c4b0 := eq_true c4
    have c4b1 : decide (0 ≤ (ji3)) = true := decide_eq_true c4
    clear c4
    obtain ⟨ji5, hji5⟩ : ∃ j_ : Int, (shl .u64 a0 (ji3)) = j_ := ⟨_, rfl⟩
    replace H : (if 0 ≤ (IntKind.u64.wrap (64 - (ji3))) then (some (Go.bits .or .u64 (ji5) (shr .u64 a0 (IntKind.u64.wrap (64 - (ji3)))))) else (none)) = some r := by first | (rw [hji5] at H; exact H) | (simp only [hji5] at H ⊢; exact H)
    have hji5_ : (IntKind.u64.wrap (a0 * 2 ^ min (ji3).toNat 64)) = ji5 := hji5
    have hji5z : (ji3) ≤ 64 → (IntKind.u64.wrap (a0 * 2 ^ (ji3).toNat)) = ji5 := shl_small hji5
    obtain ⟨ji6, hji6⟩ : ∃ j_ : Int, (IntKind.u64.wrap (64 - (ji3))) = j_ := ⟨_, rfl⟩
    replace H : (if 0 ≤ (ji6) then (some (Go.bits .or .u64 (ji5) (shr .u64 a0 (ji6)))) else (none)) = some r := by first | (rw [hji6] at H; exact H) | (simp only [hji6] at H ⊢; exact H)
    by_cases c7 : 0 ≤ (ji6)
    · rw [if_pos c7] at H
      have c7b0 := eq_true c7
      have c7b1 : decide (0 ≤ (ji6)) = true := decide_eq_true c7
      clear c7
      obtain ⟨ji8, hji8⟩ : ∃ j_ : Int, (shr .u64 a0 (ji6)) = j_ := ⟨_, rfl⟩
      replace H : (some (Go.bits .or .u64 (ji5) (ji8))) = some r := by first | (rw [hji8] at H; exact H) | (simp only [hji8] at H ⊢; exact H)
      have hji8_ : (a0 / 2 ^ min (ji6).toNat 64) = ji8 := hji8
      have hji8z : (ji6) ≤ 64 → (a0 / 2 ^ (ji6).toNat) = ji8 := shr_small hji8
      obtain rfl := Option.some.inj H
      go_enter Try.func40, Try.ntmps40
      go_wp2
      go_ret
      exact ⟨by first | rfl | (simp; done) | (simp only [← hji3, ← hji5, ← hji6, ← hji8] <;> (first | rfl | simp)) | (simp [*]; done), by repeat (first | exact Drawn0.refl _ | apply Drawn0.step)⟩
    · rw [if_neg c7] at H
      exact absurd H (by simp)
  · rw [if_neg c4] at H
    exact absurd H (by simp)

/-! ### pqxxhash_rol11: function 29 -/
def pqxxhash_rol11.f (a0 : Int) : Option (Int) := (bits_RotateLeft64.f a0 11).bind fun t108 => (some t108)
set_option maxHeartbeats 8000000 in
set_option maxRecDepth 100000 in
theorem pqxxhash_rol11.calls (a0 : Int) (r : Int) (w : World) (h : pqxxhash_rol11.f a0 = some r) :
    Calls Try.prog 29 #[.int .u64 a0] w fun e w' => e = .returned (.int .u64 r) ∧ Drawn0 w w' := by
  have H : ((bits_RotateLeft64.f a0 11).bind fun t108 => (some t108)) = some r := h
  clear h
  replace H := Option.bind_eq_some_iff.mp H
  obtain ⟨t108, A20, H⟩ := H
  replace H : (some t108) = some r := H
  have A2 := Aside0.mk A20
  clear A20
  obtain rfl := Option.some.inj H
  go_enter Try.func29, Try.ntmps29
  go_wp2_with (first | ((with_reducible refine gate_callee (f := 40) rfl ?_); refine goesL_ (some 4) rfl rfl Try.func40 (by kernel_rfl) rfl #[.int .u64 a0, .int .i64 11] rfl (by (try simp only [List.map_toArray, List.map_cons, List.map_nil]); first | done | rfl | (simp only [List.length_drop, List.length_take]; rfl)) ?_; (with_reducible refine (bits_RotateLeft64.calls a0 11 t108 _ A2.out).mono ?_); rintro e w' ⟨rfl, ⟨nd, rfl⟩⟩; refine ⟨_, rfl, ?_⟩))
  go_ret
  exact ⟨by first | rfl | (simp; done) | (simp [*]; done), by repeat (first | exact Drawn0.refl _ | apply Drawn0.step)⟩

/-! ### pqxxhash_Sum64Uint8: function 17 -/
def pqxxhash_Sum64Uint8.f (a0 : Int) : Option (Int) := (pqxxhash_rol11.f (Go.bits .xor .u64 2870177450012600262 (IntKind.u64.wrap ((IntKind.u64.wrap (a0)) * 2870177450012600261)))).bind fun t109 => ((pqxxhash_avalanche.f (IntKind.u64.wrap (t109 * 11400714785074694791))).bind fun t110 => (some t110))
set_option maxHeartbeats 8000000 in
set_option maxRecDepth 100000 in
theorem pqxxhash_Sum64Uint8.calls (a0 : Int) (r : Int) (w : World) (h : pqxxhash_Sum64Uint8.f a0 = some r) :
    Calls Try.prog 17 #[.int .u8 a0] w fun e w' => e = .returned (.int .u64 r) ∧ Drawn0 w w' := by
  have H : ((pqxxhash_rol11.f (Go.bits .xor .u64 2870177450012600262 (IntKind.u64.wrap ((IntKind.u64.wrap (a0)) * 2870177450012600261)))).bind fun t109 => ((pqxxhash_avalanche.f (IntKind.u64.wrap (t109 * 11400714785074694791))).bind fun t110 => (some t110))) = some r := h
  clear h
  replace H := Option.bind_eq_some_iff.mp H
  obtain ⟨t109, A20, H⟩ := H
  replace H : ((pqxxhash_avalanche.f (IntKind.u64.wrap (t109 * 11400714785074694791))).bind fun t110 => (some t110)) = some r := H
  have A2 := Aside0.mk A20
  clear A20
  replace H := Option.bind_eq_some_iff.mp H
  obtain ⟨t110, A30, H⟩ := H
  replace H : (some t110) = some r := H
  have A3 := Aside0.mk A30
  clear A30
  obtain rfl := Option.some.inj H
  go_enter Try.func17, Try.ntmps17
  go_wp2_with (first | ((with_reducible refine gate_callee (f := 29) rfl ?_); refine goesL_ (some 10) rfl rfl Try.func29 (by kernel_rfl) rfl #[.int .u64 (Go.bits .xor .u64 2870177450012600262 (IntKind.u64.wrap ((IntKind.u64.wrap (a0)) * 2870177450012600261)))] rfl (by (try simp only [List.map_toArray, List.map_cons, List.map_nil]); first | done | rfl | (simp only [List.length_drop, List.length_take]; rfl)) ?_; (with_reducible refine (pqxxhash_rol11.calls (Go.bits .xor .u64 2870177450012600262 (IntKind.u64.wrap ((IntKind.u64.wrap (a0)) * 2870177450012600261))) t109 _ A2.out).mono ?_); rintro e w' ⟨rfl, ⟨nd, rfl⟩⟩; refine ⟨_, rfl, ?_⟩) | ((with_reducible refine gate_callee (f := 28) rfl ?_); refine goesL_ (some 12) rfl rfl Try.func28 (by kernel_rfl) rfl #[.int .u64 (IntKind.u64.wrap (t109 * 11400714785074694791))] rfl (by (try simp only [List.map_toArray, List.map_cons, List.map_nil]); first | done | rfl | (simp only [List.length_drop, List.length_take]; rfl)) ?_; (with_reducible refine (pqxxhash_avalanche.calls (IntKind.u64.wrap (t109 * 11400714785074694791)) t110 _ A3.out).mono ?_); rintro e w' ⟨rfl, ⟨nd, rfl⟩⟩; refine ⟨_, rfl, ?_⟩))
  go_ret
  exact ⟨by first | rfl | (simp; done) | (simp [*]; done), by repeat (first | exact Drawn0.refl _ | apply Drawn0.step)⟩

end Go.Proofs.Ytojoppondgnajaa.PFnHashInts
