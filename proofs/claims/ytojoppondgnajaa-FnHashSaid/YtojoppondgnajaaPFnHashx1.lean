-- Laid by a program of this session over the kit's print (stand-ins: functions proved by hand).
import Derived.Test.YtojoppondgnajaaPFnHashx0
namespace Go.Proofs.Ytojoppondgnajaa.PFnHash
open Go.Proofs.Ytojoppondgnajaa.Aid Go.Proofs.Ytojoppondgnajaa.Xx
open Go.RowKit Go.Proofs.YtojoppondgnajaaW.PrintWords Go.Proofs.YtojoppondgnajaaW.PrintLast Go.Proofs.YtojoppondgnajaaW.PrintMore
attribute [local go_sem] max2_int min2_int max_two min_two max_three min_three max_four min_four   -- for this text's walks alone
set_option linter.unusedVariables false
set_option linter.unusedSimpArgs false

/-! ### spec_FromLow: function 10 -/
def spec_FromLow.l0 : Nat → List Int → Int → Int → Option (Int)
  | 0, _, _, _ => none
  | k + 1, x0, x3, x4 => if x4 ≥ 0 then (if 0 ≤ x4 then (if x4 < (x0.length : Int) then (spec_FromLow.l0 k x0 (Go.bits .or .u64 (IntKind.u64.wrap (x3 * 256)) (IntKind.u64.wrap (rd x0 x4))) (wrap64 (x4 - 1))) else (none)) else (none)) else (some x3)
def spec_FromLow.f (k : Nat) (l0 : List Int) : Option (Int) := spec_FromLow.l0 k l0 0 (wrap64 ((l0.length : Int) - 1))
theorem spec_FromLow.mono_l : ∀ k, (∀ y0 y1 y2, LeO (spec_FromLow.l0 k y0 y1 y2) (spec_FromLow.l0 (k + 1) y0 y1 y2))
  | 0 => fun _ _ _ r h => by simp [spec_FromLow.l0] at h
  | k + 1 => by
    have ih0 := spec_FromLow.mono_l k
    · intro y0 y1 y2
      unfold spec_FromLow.l0
      repeat' first
      | (with_reducible exact ih0 _ _ _)
      | (with_reducible exact LeO.refl _)
      | (with_reducible exact LeO.none _)
      | (with_reducible refine LeO.ite ?_ ?_)
      | (with_reducible refine LeO.bind ?_ (fun _ => ?_))
      | exact ih0 _ _ _
      | exact LeO.none _
      | refine LeO.ite ?_ ?_
      | refine LeO.bind ?_ (fun _ => ?_)
theorem spec_FromLow.mono : ∀ a0 k, LeO (spec_FromLow.f k a0) (spec_FromLow.f (k + 1) a0) := by
  intro a0 k
  have ih0 := spec_FromLow.mono_l k
  unfold spec_FromLow.f
  repeat' first
      | (with_reducible exact ih0 _ _ _)
      | (with_reducible exact LeO.refl _)
      | (with_reducible exact LeO.none _)
      | (with_reducible refine LeO.ite ?_ ?_)
      | (with_reducible refine LeO.bind ?_ (fun _ => ?_))
      | exact ih0 _ _ _
      | exact LeO.none _
      | refine LeO.ite ?_ ?_
      | refine LeO.bind ?_ (fun _ => ?_)
set_option maxHeartbeats 8000000 in
set_option maxRecDepth 100000 in
theorem spec_FromLow.calls (k : Nat) (A0 : Option Addr) (c0 : Nat) (l0 : List Int) (r : Int) (w : World) (hr0 : Kd.C (Kd.int .u8) w A0 l0.length l0) (hc0 : l0.length ≤ c0) (h : spec_FromLow.f k l0 = some r) :
    Calls Try.prog 10 #[.slice A0 l0.length c0] w fun e w' => e = .returned (.int .u64 r) ∧ Drawn0 w w' := by
  have HR0 := Aside0.mk hr0
  have HC0 := Aside0.mk hc0
  clear hr0 hc0
  have H : (spec_FromLow.l0 k l0 0 (wrap64 ((l0.length : Int) - 1))) = some r := h
  clear h
  have H' := Aside0.mk H
  clear H
  go_enter Try.func10, Try.ntmps10
  go_wp2
  go_loopg [3, 4] k (fun kq v3 v4 w' => ∃ (x3_1 : Int) (x4_1 : Int), v3 = .int .u64 x3_1 ∧ v4 = .int .i64 x4_1 ∧ Aside0 (spec_FromLow.l0 kq l0 x3_1 x4_1 = some r) ∧ Aside0 (kq ≤ k) ∧ Drawn0 w w')
  case atStart => exact ⟨(0), (wrap64 ((l0.length : Int) - 1)), (by first | rfl | (simp; done) | (simp [*]; done)), (by first | rfl | (simp; done) | (simp [*]; done)), H', ⟨Nat.le_refl _⟩, by repeat (first | exact Drawn0.refl _ | apply Drawn0.step)⟩
  case round =>
    clear H'
    try clear c1
    obtain ⟨x3_1, x4_1, rfl, rfl, HA, HK1, ⟨m1, rfl⟩⟩ := hrel
    cases gk with
    | zero => exact absurd HA.out (by simp [spec_FromLow.l0])
    | succ k1 =>
      have H := HA.out
      clear HA
      simp only [spec_FromLow.l0] at H
      by_cases c2 : x4_1 ≥ 0
      · rw [if_pos c2] at H
        have c2b0 : decide (0 ≤ x4_1) = true := decide_eq_true c2
        clear c2
        by_cases c3 : 0 ≤ x4_1
        · rw [if_pos c3] at H
          have c3b0 : decide (0 ≤ x4_1) = true := decide_eq_true c3
          clear c3
          by_cases c4 : x4_1 < (l0.length : Int)
          · rw [if_pos c4] at H
            have c4b0 : decide (x4_1 < (l0.length : Int)) = true := decide_eq_true c4
            clear c4
            have H' := Aside0.mk H
            clear H
            have p101 : 0 ≤ (x4_1 : Int) := of_decide_eq_true (by first | (with_reducible assumption) | assumption)
            have q101 : x4_1 < (l0.length : Int) := of_decide_eq_true (by first | (with_reducible assumption) | assumption)
            obtain ⟨ad101, e101, hx101_0⟩ := Kd.at_int HR0.out x4_1 p101 q101
            cases e101
            replace p101 := eq_true p101
            replace q101 := eq_true q101
            go_wp2
            go_roundg k1
            case measure => have := HK1.out; omega
            case rel => exact ⟨(Go.bits .or .u64 (IntKind.u64.wrap (x3_1 * 256)) (IntKind.u64.wrap (rd l0 x4_1))), (wrap64 (x4_1 - 1)), (by first | rfl | (simp; done) | (simp [*]; done)), (by first | rfl | (simp; done) | (simp [*]; done)), H', ⟨by have := HK1.out; omega⟩, by repeat (first | exact Drawn0.refl _ | apply Drawn0.step)⟩
          · rw [if_neg c4] at H
            exact absurd H (by simp)
        · rw [if_neg c3] at H
          exact absurd H (by simp)
      · rw [if_neg c2] at H
        have c2b0 : decide (0 ≤ x4_1) = false := decide_eq_false c2
        clear c2
        obtain rfl := Option.some.inj H
        go_wp2
        go_ret
        exact ⟨by first | rfl | (simp; done) | (simp [*]; done), by repeat (first | exact Drawn0.refl _ | apply Drawn0.step)⟩

/-! ### spec_turn: function 22 -/
def spec_turn.f (a0 : Int) (a1 : Int) : Option (Int) := if 0 ≤ a1 then (if 0 ≤ (wrap64 (64 - a1)) then (some (Go.bits .or .u64 (shl .u64 a0 a1) (shr .u64 a0 (wrap64 (64 - a1))))) else (none)) else (none)
set_option maxHeartbeats 8000000 in
set_option maxRecDepth 100000 in
theorem spec_turn.calls (a0 : Int) (a1 : Int) (r : Int) (w : World) (h : spec_turn.f a0 a1 = some r) :
    Calls Try.prog 22 #[.int .u64 a0, .int .i64 a1] w fun e w' => e = .returned (.int .u64 r) ∧ Drawn0 w w' := by
  have H : (if 0 ≤ a1 then (if 0 ≤ (wrap64 (64 - a1)) then (some (Go.bits .or .u64 (shl .u64 a0 a1) (shr .u64 a0 (wrap64 (64 - a1))))) else (none)) else (none)) = some r := h
  clear h
  by_cases c3 : 0 ≤ a1
  · rw [if_pos c3] at H
    have c3b0 := eq_true c3
    have c3b1 : decide (0 ≤ a1) = true := decide_eq_true c3
    clear c3
    obtain ⟨ji4, hji4⟩ : ∃ j_ : Int, (shl .u64 a0 a1) = j_ := ⟨_, rfl⟩
    replace H : (if 0 ≤ (wrap64 (64 - a1)) then (some (Go.bits .or .u64 (ji4) (shr .u64 a0 (wrap64 (64 - a1))))) else (none)) = some r := by first | (rw [hji4] at H; exact H) | (simp only [hji4] at H ⊢; exact H)
    have hji4_ : (IntKind.u64.wrap (a0 * 2 ^ min a1.toNat 64)) = ji4 := hji4
    have hji4z : a1 ≤ 64 → (IntKind.u64.wrap (a0 * 2 ^ a1.toNat)) = ji4 := shl_small hji4
    obtain ⟨ji5, hji5⟩ : ∃ j_ : Int, (wrap64 (64 - a1)) = j_ := ⟨_, rfl⟩
    replace H : (if 0 ≤ (ji5) then (some (Go.bits .or .u64 (ji4) (shr .u64 a0 (ji5)))) else (none)) = some r := by first | (rw [hji5] at H; exact H) | (simp only [hji5] at H ⊢; exact H)
    have hji5w : (IntKind.i64.wrap (64 - a1)) = ji5 := (i64_w _).trans hji5
    by_cases c6 : 0 ≤ (ji5)
    · rw [if_pos c6] at H
      have c6b0 := eq_true c6
      have c6b1 : decide (0 ≤ (ji5)) = true := decide_eq_true c6
      clear c6
      obtain ⟨ji7, hji7⟩ : ∃ j_ : Int, (shr .u64 a0 (ji5)) = j_ := ⟨_, rfl⟩
      replace H : (some (Go.bits .or .u64 (ji4) (ji7))) = some r := by first | (rw [hji7] at H; exact H) | (simp only [hji7] at H ⊢; exact H)
      have hji7_ : (a0 / 2 ^ min (ji5).toNat 64) = ji7 := hji7
      have hji7z : (ji5) ≤ 64 → (a0 / 2 ^ (ji5).toNat) = ji7 := shr_small hji7
      obtain rfl := Option.some.inj H
      go_enter Try.func22, Try.ntmps22
      go_wp2
      repeat (go_quiet (fail); try go_wp2)
      go_ret
      exact ⟨by first | rfl | (simp; done) | (simp only [← hji4, ← hji5, ← hji7] <;> (first | rfl | simp)) | (simp [*]; done), by repeat (first | exact Drawn0.refl _ | apply Drawn0.step)⟩
    · rw [if_neg c6] at H
      exact absurd H (by simp)
  · rw [if_neg c3] at H
    exact absurd H (by simp)

/-! ### spec_round: function 21 -/
def spec_round.f (a0 : Int) (a1 : Int) : Option (Int) := (spec_turn.f (IntKind.u64.wrap (a0 + (IntKind.u64.wrap (a1 * 14029467366897019727)))) 31).bind fun t102 => (some (IntKind.u64.wrap (t102 * 11400714785074694791)))
set_option maxHeartbeats 8000000 in
set_option maxRecDepth 100000 in
theorem spec_round.calls (a0 : Int) (a1 : Int) (r : Int) (w : World) (h : spec_round.f a0 a1 = some r) :
    Calls Try.prog 21 #[.int .u64 a0, .int .u64 a1] w fun e w' => e = .returned (.int .u64 r) ∧ Drawn0 w w' := by
  have H : ((spec_turn.f (IntKind.u64.wrap (a0 + (IntKind.u64.wrap (a1 * 14029467366897019727)))) 31).bind fun t102 => (some (IntKind.u64.wrap (t102 * 11400714785074694791)))) = some r := h
  clear h
  replace H := Option.bind_eq_some_iff.mp H
  obtain ⟨t102, A30, H⟩ := H
  replace H : (some (IntKind.u64.wrap (t102 * 11400714785074694791))) = some r := H
  have A3 := Aside0.mk A30
  clear A30
  obtain rfl := Option.some.inj H
  go_enter Try.func21, Try.ntmps21
  go_wp2_with (first | ((with_reducible refine gate_callee (f := 22) rfl ?_); refine goesL_ (some 9) rfl rfl Try.func22 (by kernel_rfl) rfl #[.int .u64 (IntKind.u64.wrap (a0 + (IntKind.u64.wrap (a1 * 14029467366897019727)))), .int .i64 31] rfl (by (try simp only [List.map_toArray, List.map_cons, List.map_nil]); first | done | rfl | (simp only [List.length_drop, List.length_take]; rfl)) ?_; (with_reducible refine (spec_turn.calls (IntKind.u64.wrap (a0 + (IntKind.u64.wrap (a1 * 14029467366897019727)))) 31 t102 _ A3.out).mono ?_); rintro e w' ⟨rfl, ⟨nd, rfl⟩⟩; refine ⟨_, rfl, ?_⟩))
  go_ret
  exact ⟨by first | rfl | (simp; done) | (simp [*]; done), by repeat (first | exact Drawn0.refl _ | apply Drawn0.step)⟩

/-! ### spec_XX: function 11, by hand -/
theorem turn_eq (n : Int) (k : Nat) (hk : k ≤ 64) : spec_turn.f n k = some (rolI n k) := by
  unfold spec_turn.f rolI shl shr
  have h64 : (64 : Int) - (k : Int) = ((64 - k : Nat) : Int) := by omega
  rw [if_pos (by omega), IntWalk.wrap64_in _ (by omega), if_pos (by omega), h64]
  simp only [Int.toNat_natCast]
  rw [Nat.min_eq_left (show k ≤ IntKind.u64.bits from hk), Nat.min_eq_left (show 64 - k ≤ IntKind.u64.bits from by show 64 - k ≤ 64; omega)]
theorem turn_calls (n : Int) (j : Int) (k : Nat) (hj : j = k) (hk : k ≤ 64) (w : World) :
    Calls Try.prog 22 #[.int .u64 n, .int .i64 j] w fun e w' => e = .returned (.int .u64 (rolI n k)) ∧ Drawn0 w w' := by
  subst hj
  exact spec_turn.calls n k _ w (turn_eq n k hk)
theorem turn1_calls (n : Int) (w : World) : Calls Try.prog 22 #[.int .u64 n, .int .i64 1] w fun e w' => e = .returned (.int .u64 (rolI n 1)) ∧ Drawn0 w w' := turn_calls n 1 1 rfl (by omega) w
theorem turn7_calls (n : Int) (w : World) : Calls Try.prog 22 #[.int .u64 n, .int .i64 7] w fun e w' => e = .returned (.int .u64 (rolI n 7)) ∧ Drawn0 w w' := turn_calls n 7 7 rfl (by omega) w
theorem turn11_calls (n : Int) (w : World) : Calls Try.prog 22 #[.int .u64 n, .int .i64 11] w fun e w' => e = .returned (.int .u64 (rolI n 11)) ∧ Drawn0 w w' := turn_calls n 11 11 rfl (by omega) w
theorem turn12_calls (n : Int) (w : World) : Calls Try.prog 22 #[.int .u64 n, .int .i64 12] w fun e w' => e = .returned (.int .u64 (rolI n 12)) ∧ Drawn0 w w' := turn_calls n 12 12 rfl (by omega) w
theorem turn18_calls (n : Int) (w : World) : Calls Try.prog 22 #[.int .u64 n, .int .i64 18] w fun e w' => e = .returned (.int .u64 (rolI n 18)) ∧ Drawn0 w w' := turn_calls n 18 18 rfl (by omega) w
theorem turn23_calls (n : Int) (w : World) : Calls Try.prog 22 #[.int .u64 n, .int .i64 23] w fun e w' => e = .returned (.int .u64 (rolI n 23)) ∧ Drawn0 w w' := turn_calls n 23 23 rfl (by omega) w
theorem turn27_calls (n : Int) (w : World) : Calls Try.prog 22 #[.int .u64 n, .int .i64 27] w fun e w' => e = .returned (.int .u64 (rolI n 27)) ∧ Drawn0 w w' := turn_calls n 27 27 rfl (by omega) w
theorem fromLow_l (xs : List Int) (hl : xs.length ≤ 9223372036854775807) : ∀ (j k : Nat), j ≤ xs.length → j < k → spec_FromLow.l0 k xs (fromLowI (xs.drop j)) ((j : Int) - 1) = some (fromLowI xs) := by
  intro j
  induction j with
  | zero =>
    intro k hj hk
    obtain ⟨k, rfl⟩ : ∃ m, k = m + 1 := ⟨k - 1, by omega⟩
    simp only [spec_FromLow.l0]
    rw [if_neg (by omega)]
    simp
  | succ j ih =>
    intro k hj hk
    obtain ⟨k, rfl⟩ : ∃ m, k = m + 1 := ⟨k - 1, by omega⟩
    simp only [spec_FromLow.l0]
    have e : ((j + 1 : Nat) : Int) - 1 = (j : Int) := by omega
    rw [e, if_pos (by omega), if_pos (by omega), if_pos (by omega), IntWalk.wrap64_in _ (by omega)]
    have hd : xs.drop j = rd xs j :: xs.drop (j + 1) := by
      rw [List.drop_eq_getElem_cons (show j < xs.length by omega)]
      simp [rd, List.getD_eq_getElem?_getD, List.getElem?_eq_getElem (show j < xs.length by omega)]
    have hs : fromLowI (xs.drop j) = lowStep (rd xs j) (fromLowI (xs.drop (j + 1))) := by rw [hd]; rfl
    have := ih k (by omega) (by omega)
    rw [hs] at this
    exact this
theorem fromLow_eq (xs : List Int) (hl : xs.length ≤ 9223372036854775807) : ∃ k, spec_FromLow.f k xs = some (fromLowI xs) := by
  refine ⟨xs.length + 1, ?_⟩
  unfold spec_FromLow.f
  rw [IntWalk.wrap64_in _ (by omega)]
  have := fromLow_l xs hl xs.length (xs.length + 1) (Nat.le_refl _) (by omega)
  rwa [List.drop_length] at this
theorem fromLow_calls (A0 : Option Addr) (n c0 : Nat) (l0 : List Int) (w : World) (hn : l0.length = n) (hr : (Kd.int IntKind.u8).C w A0 l0.length l0) (hc : l0.length ≤ c0) (hl : l0.length ≤ 9223372036854775807) :
    Calls Try.prog 10 #[.slice A0 n c0] w fun e w' => e = .returned (.int .u64 (fromLowI l0)) ∧ Drawn0 w w' := by
  subst hn
  obtain ⟨k, hk⟩ := fromLow_eq l0 hl
  exact spec_FromLow.calls k A0 c0 l0 _ w hr hc hk
theorem round_calls (s v : Int) (w : World) :
    Calls Try.prog 21 #[.int .u64 s, .int .u64 v] w fun e w' => e = .returned (.int .u64 (rndI s v)) ∧ Drawn0 w w' := by
  refine spec_round.calls s v _ w ?_
  unfold spec_round.f
  have := turn_eq (IntKind.u64.wrap (s + IntKind.u64.wrap (v * 14029467366897019727))) 31 (by omega)
  rw [show ((31 : Nat) : Int) = 31 from rfl] at this
  rw [this]; rfl
theorem u8info : ∃ i, Try.prog.info? 5 = some i ∧ i.size = 1 := by
  obtain ⟨i, h, h2⟩ := Option.map_eq_some_iff.1 (show (Try.prog.info? 5).map (fun i => i.size) = some 1 by kernel_rfl)
  exact ⟨i, h, h2⟩

theorem fromLow_callsN (A0 : Option Addr) (n c0 : Nat) (l0 : List Int) (w : World) (hr : (Kd.int IntKind.u8).C w A0 n l0) (hc : n ≤ c0) (hl : n ≤ 9223372036854775807) :
    Calls Try.prog 10 #[.slice A0 n c0] w fun e w' => e = .returned (.int .u64 (fromLowI l0)) ∧ Drawn0 w w' := by
  have hn : l0.length = n := hr.1
  subst hn
  exact fromLow_calls A0 _ c0 l0 w rfl hr hc hl
set_option maxHeartbeats 4000000 in
set_option maxRecDepth 100000 in
theorem spec_XX.calls0 (A0 : Option Addr) (c0 : Nat) (l0 : List Int) (w : World) (hr : (Kd.int IntKind.u8).C w A0 l0.length l0) (hc : l0.length ≤ c0) :
    Calls Try.prog 11 #[.slice A0 l0.length c0] w fun e w' => e = .returned (.int .u64 (xxI l0)) ∧ Below w.heap.size w w' := by
  have HR := Aside0.mk hr
  have HC := Aside0.mk hc
  have hl : l0.length ≤ 9223372036854775807 := Kd.C_max hr
  have HS : SlB w (.slice A0 l0.length c0) l0 := ⟨A0, _, c0, rfl, rfl, hc, hl, hr⟩
  clear hr hc
  obtain ⟨i8, hi8, hs8⟩ := u8info
  go_enter Try.func11, Try.ntmps11
  go_upto_if 19 with (fail)
  go_cut [0, 4] (fun v0 v4 wx => ∃ (h : Int) (l : List Int), v4 = .int .u64 h ∧ SlB wx v0 l ∧ Aside0 (restI h l0.length l = xxI l0) ∧ Aside0 (Below w.heap.size w wx))
  case first =>
    by_cases c32 : 32 ≤ l0.length
    · have c1 : decide (32 ≤ (l0.length : Int)) = true := decide_eq_true (by omega)
      rw [c1]
      go_wp2_with (fail)
      rw [wrap_p12, wrap_np1]
      go_loopg [0] l0.length (fun kq v0 w' => ∃ (a b c d : Int) (l : List Int), SlB w v0 l ∧ Blk w' w.heap.size (quad a b c d) 43 ∧ Aside0 (str32 a b c d l (finK l0.length) = xxI l0) ∧ Aside0 (Below w.heap.size w w') ∧ Aside0 (l.length ≤ kq))
      case atStart =>
        refine ⟨_, _, _, _, l0, HS, Blk.new _ _ _, ⟨?_⟩, ⟨(Below.refl _ _).alloc (Nat.le_refl _) _⟩, ⟨Nat.le_refl _⟩⟩
        unfold xxI; rw [if_pos c32]; rfl
      case round =>
        clear HS
        obtain ⟨a, b, c', d, l, ⟨A, n, c, rfl, hn, hc, hm, hC⟩, HB4, HR, HB, HK⟩ := hrel
        have HN := Aside0.mk hn
        have HB4 := Aside0.mk HB4
        clear hn
        by_cases c32' : 32 ≤ n
        · have cb : decide (32 ≤ (n : Int)) = true := decide_eq_true (by omega)
          obtain ⟨A32, cut32, hC32⟩ := cutLo (P := Try.prog) 26 5 Try.underlying26 hi8 hs8 A n c .i64 32 32 rfl c32' hc
          have HC32 := Aside0.mk (hC32 _ _ _ rfl hC)
          have HCA := Aside0.mk hC
          have hR := HR.out
          rw [str32_ge (by rw [HN.out]; exact c32')] at hR
          have HR2 := Aside0.mk hR
          obtain ⟨gk0, hgk0⟩ : ∃ g : Nat, gk = g + 1 := ⟨gk - 1, by have := HK.out; have := HN.out; omega⟩
          subst hgk0
          clear hC32 hC hR HR
          go_wp2_with (fail)
          go_loopg [9, 31] 4 (fun kq v9 v31 w' => ∃ (k : Nat) (p q r s : Int), k ≤ 4 ∧ v31 = .int .i64 k ∧ Aside0 (Blk w' w.heap.size (quad p q r s) 43) ∧ Aside0 (upd k (lows l) 0 p = rndI a (lows l 0) ∧ upd k (lows l) 1 q = rndI b (lows l 1) ∧ upd k (lows l) 2 r = rndI c' (lows l 2) ∧ upd k (lows l) 3 s = rndI d (lows l 3)) ∧ Aside0 (Below w.heap.size w w') ∧ Aside0 (4 - k ≤ kq))
          case atStart => exact ⟨0, a, b, c', d, by omega, rfl, HB4, ⟨rfl, rfl, rfl, rfl⟩, HB, ⟨by omega⟩⟩
          case round =>
            clear HB4 HB
            obtain ⟨k, p, q, r, s, hk, rfl, HB4, HU, HB, HK4⟩ := hrel
            have HCr := Aside0.mk (Kd.C_below HCA.out HB.out)
            rcases (show k = 0 ∨ k = 1 ∨ k = 2 ∨ k = 3 ∨ k = 4 by omega) with rfl | rfl | rfl | rfl | rfl
            · obtain ⟨A0, cut0, hC0⟩ := cutMid (P := Try.prog) 26 5 Try.underlying26 hi8 hs8 A n c .i64 .i64 0 8 0 8 rfl rfl (by omega) (by omega) hc
              have HCk := Aside0.mk (hC0 _ _ _ rfl HCr.out)
              have x0 := HB4.out.cell (j := 0) (v := .int .u64 p) rfl
              have f0 := HB4.out.free 0
              have e0 := i64w0
              have e0' := i64w8
              clear hC0
              go_wp2_with (fail)
              refine region_tail 14 (by kernel_rfl) (by kernel_rfl) ?_
              simp only [List.take_succ_cons, List.take_zero, List.drop_succ_cons, List.drop_zero]
              repeat (quiet_step ((first
                | (go_at_call 10; exact quietCall (fromLow_callsN A0 _ _ ((l.take 8).drop 0) _ (Kd.C_drewN HCk.out _) (by omega) (by omega)))
                | (go_at_call 21; exact quietCall (round_calls _ _ _)))))
              refine wpQuiet_nil ?_
              rintro _ ⟨nq, rfl⟩
              go_wp2_with (fail)
              go_roundg (gk - 1)
              case measure => have := HK4.out; omega
              case rel =>
                obtain ⟨u0, u1, u2, u3⟩ := HU.out
                refine ⟨1, (rndI p (fromLowI ((l.take 8).drop 0))), q, r, s, by omega, rfl, ⟨?_⟩, ⟨?_⟩, ⟨?_⟩, ⟨by have := HK4.out; omega⟩⟩
                · exact (HB4.out.drewN nq).set 0 _
                · exact ⟨u0, u1, u2, u3⟩
                · exact (pw_below_drewN HB.out nq).setCell (p := ⟨w.heap.size, _, none⟩) (Nat.le_refl _) _
            · obtain ⟨A1, cut1, hC1⟩ := cutMid (P := Try.prog) 26 5 Try.underlying26 hi8 hs8 A n c .i64 .i64 8 16 8 16 rfl rfl (by omega) (by omega) hc
              have HCk := Aside0.mk (hC1 _ _ _ rfl HCr.out)
              have x1 := HB4.out.cell (j := 1) (v := .int .u64 q) rfl
              have f1 := HB4.out.free 1
              have e1 := i64w8
              have e1' := i64w16
              clear hC1
              go_wp2_with (fail)
              refine region_tail 14 (by kernel_rfl) (by kernel_rfl) ?_
              simp only [List.take_succ_cons, List.take_zero, List.drop_succ_cons, List.drop_zero]
              repeat (quiet_step ((first
                | (go_at_call 10; exact quietCall (fromLow_callsN A1 _ _ ((l.take 16).drop 8) _ (Kd.C_drewN HCk.out _) (by omega) (by omega)))
                | (go_at_call 21; exact quietCall (round_calls _ _ _)))))
              refine wpQuiet_nil ?_
              rintro _ ⟨nq, rfl⟩
              go_wp2_with (fail)
              go_roundg (gk - 1)
              case measure => have := HK4.out; omega
              case rel =>
                obtain ⟨u0, u1, u2, u3⟩ := HU.out
                refine ⟨2, p, (rndI q (fromLowI ((l.take 16).drop 8))), r, s, by omega, rfl, ⟨?_⟩, ⟨?_⟩, ⟨?_⟩, ⟨by have := HK4.out; omega⟩⟩
                · exact (HB4.out.drewN nq).set 1 _
                · exact ⟨u0, u1, u2, u3⟩
                · exact (pw_below_drewN HB.out nq).setCell (p := ⟨w.heap.size, _, none⟩) (Nat.le_refl _) _
            · obtain ⟨A2, cut2, hC2⟩ := cutMid (P := Try.prog) 26 5 Try.underlying26 hi8 hs8 A n c .i64 .i64 16 24 16 24 rfl rfl (by omega) (by omega) hc
              have HCk := Aside0.mk (hC2 _ _ _ rfl HCr.out)
              have x2 := HB4.out.cell (j := 2) (v := .int .u64 r) rfl
              have f2 := HB4.out.free 2
              have e2 := i64w16
              have e2' := i64w24
              clear hC2
              go_wp2_with (fail)
              refine region_tail 14 (by kernel_rfl) (by kernel_rfl) ?_
              simp only [List.take_succ_cons, List.take_zero, List.drop_succ_cons, List.drop_zero]
              repeat (quiet_step ((first
                | (go_at_call 10; exact quietCall (fromLow_callsN A2 _ _ ((l.take 24).drop 16) _ (Kd.C_drewN HCk.out _) (by omega) (by omega)))
                | (go_at_call 21; exact quietCall (round_calls _ _ _)))))
              refine wpQuiet_nil ?_
              rintro _ ⟨nq, rfl⟩
              go_wp2_with (fail)
              go_roundg (gk - 1)
              case measure => have := HK4.out; omega
              case rel =>
                obtain ⟨u0, u1, u2, u3⟩ := HU.out
                refine ⟨3, p, q, (rndI r (fromLowI ((l.take 24).drop 16))), s, by omega, rfl, ⟨?_⟩, ⟨?_⟩, ⟨?_⟩, ⟨by have := HK4.out; omega⟩⟩
                · exact (HB4.out.drewN nq).set 2 _
                · exact ⟨u0, u1, u2, u3⟩
                · exact (pw_below_drewN HB.out nq).setCell (p := ⟨w.heap.size, _, none⟩) (Nat.le_refl _) _
            · obtain ⟨A3, cut3, hC3⟩ := cutMid (P := Try.prog) 26 5 Try.underlying26 hi8 hs8 A n c .i64 .i64 24 32 24 32 rfl rfl (by omega) (by omega) hc
              have HCk := Aside0.mk (hC3 _ _ _ rfl HCr.out)
              have x3 := HB4.out.cell (j := 3) (v := .int .u64 s) rfl
              have f3 := HB4.out.free 3
              have e3 := i64w24
              have e3' := i64w32
              clear hC3
              go_wp2_with (fail)
              refine region_tail 14 (by kernel_rfl) (by kernel_rfl) ?_
              simp only [List.take_succ_cons, List.take_zero, List.drop_succ_cons, List.drop_zero]
              repeat (quiet_step ((first
                | (go_at_call 10; exact quietCall (fromLow_callsN A3 _ _ ((l.take 32).drop 24) _ (Kd.C_drewN HCk.out _) (by omega) (by omega)))
                | (go_at_call 21; exact quietCall (round_calls _ _ _)))))
              refine wpQuiet_nil ?_
              rintro _ ⟨nq, rfl⟩
              go_wp2_with (fail)
              go_roundg (gk - 1)
              case measure => have := HK4.out; omega
              case rel =>
                obtain ⟨u0, u1, u2, u3⟩ := HU.out
                refine ⟨4, p, q, r, (rndI s (fromLowI ((l.take 32).drop 24))), by omega, rfl, ⟨?_⟩, ⟨?_⟩, ⟨?_⟩, ⟨by have := HK4.out; omega⟩⟩
                · exact (HB4.out.drewN nq).set 3 _
                · exact ⟨u0, u1, u2, u3⟩
                · exact (pw_below_drewN HB.out nq).setCell (p := ⟨w.heap.size, _, none⟩) (Nat.le_refl _) _
            · go_wp2_with (fail)
              go_roundg gk0
              case measure => omega
              case rel =>
                obtain ⟨u0, u1, u2, u3⟩ := HU.out
                refine ⟨p, q, r, s, l.drop 32, ⟨A32, n - 32, c - 32, rfl, by rw [List.length_drop, HN.out], by omega, by omega, HC32.out⟩, HB4.out, ⟨?_⟩, HB, ⟨by rw [List.length_drop]; have := HK.out; have := HN.out; omega⟩⟩
                have hR := HR2.out
                have e0 : p = rndI a (fromLowI (l.take 8)) := u0
                have e1 : q = rndI b (fromLowI ((l.take 16).drop 8)) := u1
                have e2 : r = rndI c' (fromLowI ((l.take 24).drop 16)) := u2
                have e3 : s = rndI d (fromLowI ((l.take 32).drop 24)) := u3
                rw [e0, e1, e2, e3]
                exact hR
        · have cb : decide (32 ≤ (n : Int)) = false := decide_eq_false (by omega)
          have x0 := HB4.out.cell (j := 0) (v := .int .u64 a) rfl
          have x1 := HB4.out.cell (j := 1) (v := .int .u64 b) rfl
          have x2 := HB4.out.cell (j := 2) (v := .int .u64 c') rfl
          have x3 := HB4.out.cell (j := 3) (v := .int .u64 d) rfl
          go_wp2_with (fail)
          go_quiet (first
            | (go_at_call_of 22 (Value.int .u64 a); exact quietCall (turn1_calls _ _))
            | (go_at_call_of 22 (Value.int .u64 b); exact quietCall (turn7_calls _ _))
            | (go_at_call_of 22 (Value.int .u64 c'); exact quietCall (turn12_calls _ _))
            | (go_at_call_of 22 (Value.int .u64 d); exact quietCall (turn18_calls _ _)))
          go_wp2_with (fail)
          have i0 : ∀ w, (Instr.index 43 (.agg #[.int .u64 a, .int .u64 b, .int .u64 c', .int .u64 d]) (.int .i64 0)).run Try.prog w = .ok (.int .u64 a) w := fun _ => by kernel_rfl
          have i1 : ∀ w, (Instr.index 43 (.agg #[.int .u64 a, .int .u64 b, .int .u64 c', .int .u64 d]) (.int .i64 1)).run Try.prog w = .ok (.int .u64 b) w := fun _ => by kernel_rfl
          have i2 : ∀ w, (Instr.index 43 (.agg #[.int .u64 a, .int .u64 b, .int .u64 c', .int .u64 d]) (.int .i64 2)).run Try.prog w = .ok (.int .u64 c') w := fun _ => by kernel_rfl
          have i3 : ∀ w, (Instr.index 43 (.agg #[.int .u64 a, .int .u64 b, .int .u64 c', .int .u64 d]) (.int .i64 3)).run Try.prog w = .ok (.int .u64 d) w := fun _ => by kernel_rfl
          clear x0 x1 x2 x3
          go_loopg [4, 11, 67] 4 (fun kq v4 v11 v67 w' => ∃ (k : Nat) (h : Int), k ≤ 4 ∧ v67 = .int .i64 k ∧ v4 = .int .u64 h ∧ Aside0 (mrg a b c' d k h = mrg a b c' d 0 (sumsI a b c' d)) ∧ Aside0 (Below w.heap.size w w') ∧ Aside0 (4 - k ≤ kq))
          case atStart => exact ⟨0, _, by omega, rfl, rfl, ⟨rfl⟩, ⟨pw_below_drewN HB.out _⟩, ⟨by omega⟩⟩
          case round =>
            clear HB4
            obtain ⟨k, h, hk, rfl, rfl, HM, HBm, HK3⟩ := hrel
            rcases (show k = 0 ∨ k = 1 ∨ k = 2 ∨ k = 3 ∨ k = 4 by omega) with rfl | rfl | rfl | rfl | rfl
            · go_wp2_with (first
                | (go_at_call 21; (with_reducible refine (round_calls _ _ _).mono ?_); rintro e w' ⟨rfl, ⟨nd, rfl⟩⟩))
              go_roundg (gk - 1)
              case measure => have := HK3.out; omega
              case rel => exact ⟨1, _, by omega, rfl, rfl, HM, (by first | exact ⟨pw_below_drewN HBm.out _⟩ | exact HBm), ⟨by have := HK3.out; omega⟩⟩
            · go_wp2_with (first
                | (go_at_call 21; (with_reducible refine (round_calls _ _ _).mono ?_); rintro e w' ⟨rfl, ⟨nd, rfl⟩⟩))
              go_roundg (gk - 1)
              case measure => have := HK3.out; omega
              case rel => exact ⟨2, _, by omega, rfl, rfl, HM, (by first | exact ⟨pw_below_drewN HBm.out _⟩ | exact HBm), ⟨by have := HK3.out; omega⟩⟩
            · go_wp2_with (first
                | (go_at_call 21; (with_reducible refine (round_calls _ _ _).mono ?_); rintro e w' ⟨rfl, ⟨nd, rfl⟩⟩))
              go_roundg (gk - 1)
              case measure => have := HK3.out; omega
              case rel => exact ⟨3, _, by omega, rfl, rfl, HM, (by first | exact ⟨pw_below_drewN HBm.out _⟩ | exact HBm), ⟨by have := HK3.out; omega⟩⟩
            · go_wp2_with (first
                | (go_at_call 21; (with_reducible refine (round_calls _ _ _).mono ?_); rintro e w' ⟨rfl, ⟨nd, rfl⟩⟩))
              go_roundg (gk - 1)
              case measure => have := HK3.out; omega
              case rel => exact ⟨4, _, by omega, rfl, rfl, HM, (by first | exact ⟨pw_below_drewN HBm.out _⟩ | exact HBm), ⟨by have := HK3.out; omega⟩⟩
            · go_wp2_with (fail)
              go_meet
              have hR := HR.out
              rw [str32_lt (by rw [HN.out]; exact c32')] at hR
              have hM := HM.out
              refine ⟨h, l, rfl, ⟨A, n, c, rfl, HN.out, by omega, by omega, Kd.C_below hC HBm.out⟩, ⟨?_⟩, HBm⟩
              rw [show h = mrg a b c' d 0 (sumsI a b c' d) from hM]
              exact hR
    · have c1 : decide (32 ≤ (l0.length : Int)) = false := decide_eq_false (by omega)
      go_wp2_with (fail)
      go_meet
      refine ⟨_, l0, rfl, HS, ⟨?_⟩, ⟨Below.refl _ _⟩⟩
      unfold restI xxI; rw [if_neg (by omega)]
  case rest =>
    clear HS HR
    obtain ⟨h, l, rfl, HS, HR, HB⟩ := hcut
    go_wp2_with (fail)
    go_loopg [0, 4] l.length (fun kq v0 v4 w' => ∃ (h : Int) (l : List Int), v4 = .int .u64 h ∧ SlB w' v0 l ∧ Aside0 (tail8 h l = xxI l0) ∧ Aside0 (Below w.heap.size w w') ∧ Aside0 (l.length ≤ kq))
    case atStart => exact ⟨_, l, rfl, HS, HR, HB, ⟨Nat.le_refl _⟩⟩
    case round =>
      clear HS HR HB
      obtain ⟨h, l, rfl, ⟨A, n, c, rfl, hn, hc, hm, hC⟩, HR, HB, HK⟩ := hrel
      have HN := Aside0.mk hn
      clear hn
      by_cases c8 : 8 ≤ n
      · have c8b : decide (8 ≤ (n : Int)) = true := decide_eq_true (by omega)
        have c8n : decide (8 ≤ n) = true := decide_eq_true c8
        have hR' := HR.out
        rw [tail8_ge (by rw [HN.out]; exact c8)] at hR'
        have HR8 := Aside0.mk hR'
        clear hR' HR
        obtain ⟨A8, cut8, hC8⟩ := cutLo (P := Try.prog) 26 5 Try.underlying26 hi8 hs8 A n c .i64 8 8 rfl c8 hc
        have HC8 := Aside0.mk (hC8 _ _ _ rfl hC)
        have HCT := Aside0.mk (Kd.C_take (m := 8) (HN.out ▸ hC) (by rw [HN.out]; exact c8))
        have HT : (l.take 8).length = 8 := by rw [List.length_take, HN.out]; omega
        rw [HT] at HCT
        clear hC hC8 HT
        go_wp2_with (first
          | (go_at_call 10; ((with_reducible refine (fromLow_callsN A _ _ (l.take 8) _ HCT.out ?_ ?_).mono ?_); (case refine_1 => omega); (case refine_2 => omega); rintro e w' ⟨rfl, ⟨nd, rfl⟩⟩))
          | (go_at_call 21; (with_reducible refine (round_calls _ _ _).mono ?_); rintro e w' ⟨rfl, ⟨nd, rfl⟩⟩)
          | (go_at_call 22; (with_reducible refine (turn27_calls _ _).mono ?_); rintro e w' ⟨rfl, ⟨nd, rfl⟩⟩))
        go_roundg (gk - 1)
        case measure => have := HK.out; have := HN.out; omega
        case rel =>
          refine ⟨_, l.drop 8, rfl, ⟨A8, n - 8, c - 8, rfl, by rw [List.length_drop, HN.out], by omega, by omega, ?_⟩, HR8, ⟨HB.out.trans ⟨rfl, rfl, rfl, Nat.le_refl _, fun _ _ => rfl⟩⟩, ⟨?_⟩⟩
          · (with_reducible repeat (first | apply Kd.C_drewN | apply Kd.C_drew)); exact HC8.out
          · rw [List.length_drop]; have := HK.out; have := HN.out; omega
      · have c8b : decide (8 ≤ (n : Int)) = false := decide_eq_false (by omega)
        have c8n : decide (8 ≤ n) = false := decide_eq_false c8
        have hR' := HR.out
        rw [tail8_lt (by rw [HN.out]; exact c8)] at hR'
        have HR4 := Aside0.mk hR'
        clear hR' HR
        have HC := Aside0.mk hC
        clear hC
        go_upto_if 96 with (fail)
        go_cut [0, 4] (fun v0 v4 wx => ∃ (h : Int) (l : List Int), v4 = .int .u64 h ∧ SlB wx v0 l ∧ Aside0 (tail1 h l = xxI l0) ∧ Aside0 (Below w.heap.size w wx))
        case first =>
          by_cases c4 : 4 ≤ n
          · have c4b : decide (4 ≤ (n : Int)) = true := decide_eq_true (by omega)
            obtain ⟨A4, cut4, hC4⟩ := cutLo (P := Try.prog) 26 5 Try.underlying26 hi8 hs8 A n c .i64 4 4 rfl c4 hc
            have HC4 := Aside0.mk (hC4 _ _ _ rfl HC.out)
            have HCT := Aside0.mk (Kd.C_take (m := 4) (HN.out ▸ HC.out) (by rw [HN.out]; exact c4))
            have HT : (l.take 4).length = 4 := by rw [List.length_take, HN.out]; omega
            rw [HT] at HCT
            clear hC4 HT
            go_wp2_with (first
              | (go_at_call 10; ((with_reducible refine (fromLow_callsN A _ _ (l.take 4) _ HCT.out ?_ ?_).mono ?_); (case refine_1 => omega); (case refine_2 => omega); rintro e w' ⟨rfl, ⟨nd, rfl⟩⟩))
              | (go_at_call 22; (with_reducible refine (turn23_calls _ _).mono ?_); rintro e w' ⟨rfl, ⟨nd, rfl⟩⟩))
            go_meet
            have hR := HR4.out
            unfold tail4 at hR
            rw [if_pos (by rw [HN.out]; exact c4)] at hR
            refine ⟨_, l.drop 4, rfl, ⟨A4, n - 4, c - 4, rfl, by rw [List.length_drop, HN.out], by omega, by omega, ?_⟩, ⟨hR⟩, ⟨HB.out.trans ⟨rfl, rfl, rfl, Nat.le_refl _, fun _ _ => rfl⟩⟩⟩
            (with_reducible repeat (first | apply Kd.C_drewN | apply Kd.C_drew)); exact HC4.out
          · have c4b : decide (4 ≤ (n : Int)) = false := decide_eq_false (by omega)
            go_wp2_with (fail)
            go_meet
            have hR := HR4.out
            unfold tail4 at hR
            rw [if_neg (by rw [HN.out]; exact c4)] at hR
            exact ⟨_, l, rfl, ⟨A, n, c, rfl, HN.out, by omega, by omega, HC.out⟩, ⟨hR⟩, HB⟩
        case rest =>
          clear HR4 HB HC HN hc hm
          obtain ⟨h, l, rfl, ⟨A, n, c, rfl, hn, hc, hm, hC⟩, HR, HB⟩ := hcut
          have HN := Aside0.mk hn
          have HC := Aside0.mk hC
          clear hn hC
          go_wp2_with (fail)
          go_loopg [4, 13, 110] n (fun kq v4 v13 v110 w' => ∃ (h : Int) (k : Nat), v4 = .int .u64 h ∧ v110 = .int .i64 k ∧ k ≤ n ∧ Aside0 (tail1 h (l.drop k) = xxI l0) ∧ Aside0 (Below w.heap.size w w') ∧ Aside0 (n - k ≤ kq) ∧ Aside0 ((Kd.int IntKind.u8).C w' A n l))
          case atStart => exact ⟨h, 0, rfl, rfl, Nat.zero_le _, HR, HB, ⟨by omega⟩, HC⟩
          case round =>
            clear HR HB HC
            obtain ⟨h, k, rfl, rfl, hk, HR, HB, HK, HC⟩ := hrel
            by_cases ck : k < n
            · have ckb : decide ((k : Int) < (n : Int)) = true := decide_eq_true (by omega)
              obtain ⟨ad, rfl, x0⟩ := Kd.at_int HC.out k (by omega) (by omega)
              rw [Int.toNat_natCast] at x0
              go_wp2_with (first
              | (go_at_call 22; (with_reducible refine (turn11_calls _ _).mono ?_); rintro e w' ⟨rfl, ⟨nd, rfl⟩⟩))
              go_roundg (gk - 1)
              case measure => have := HK.out; omega
              case rel =>
                refine ⟨_, k + 1, rfl, by go_num, by omega, ?_, ⟨HB.out.trans ⟨rfl, rfl, rfl, Nat.le_refl _, fun _ _ => rfl⟩⟩, ⟨by have := HK.out; omega⟩, ⟨?_⟩⟩
                · have hR := HR.out
                  rw [drop_cons l k (by rw [HN.out]; exact ck)] at hR
                  exact ⟨hR⟩
                · (with_reducible repeat (first | apply Kd.C_drewN | apply Kd.C_drew)); exact HC.out
            · go_wp2_with (fail)
              go_ret
              refine ⟨?_, HB.out⟩
              have hR := HR.out
              rw [List.drop_of_length_le (by rw [HN.out]; omega)] at hR
              exact congrArg (fun x => Ending.returned (Value.int .u64 x)) hR

def spec_XX.f (l0 : List Int) : Option (Int) := some (xxI l0)
theorem spec_XX.calls (A0 : Option Addr) (c0 : Nat) (l0 : List Int) (r : Int) (w : World) (hr0 : Kd.C (Kd.int .u8) w A0 l0.length l0) (hc0 : l0.length ≤ c0) (h : spec_XX.f l0 = some r) :
    Calls Try.prog 11 #[.slice A0 l0.length c0] w fun e w' => e = .returned (.int .u64 r) ∧ Below w.heap.size w w' := by
  obtain rfl := Option.some.inj h
  exact spec_XX.calls0 A0 c0 l0 w hr0 hc0


/-! ### spec_Short: function 12 -/
def spec_Short.l0 : Nat → Int → List (List Int) → Int → Int → Option (Bool)
  | 0, _, _, _, _ => none
  | k + 1, x3, x8, x9, x10 => if x10 < x9 then (if 0 ≤ x10 then (if x10 < (x8.length : Int) then (if ((rd_L1 x8 x10).length : Int) > 100000 then (some false) else (if (wrap64 (x3 + ((rd_L1 x8 x10).length : Int))) > 100000 then (some false) else (spec_Short.l0 k (wrap64 (x3 + ((rd_L1 x8 x10).length : Int))) x8 x9 (wrap64 (x10 + 1))))) else (none)) else (none)) else (some (decide (x3 ≤ 100000)))
def spec_Short.f (k : Nat) (l0 : List (List Int)) : Option (Bool) := spec_Short.l0 k (l0.length : Int) l0 (l0.length : Int) 0
theorem spec_Short.mono_l : ∀ k, (∀ y0 y1 y2 y3, LeO (spec_Short.l0 k y0 y1 y2 y3) (spec_Short.l0 (k + 1) y0 y1 y2 y3))
  | 0 => fun _ _ _ _ r h => by simp [spec_Short.l0] at h
  | k + 1 => by
    have ih0 := spec_Short.mono_l k
    · intro y0 y1 y2 y3
      unfold spec_Short.l0
      repeat' first
      | (with_reducible exact ih0 _ _ _ _)
      | (with_reducible exact LeO.refl _)
      | (with_reducible exact LeO.none _)
      | (with_reducible refine LeO.ite ?_ ?_)
      | (with_reducible refine LeO.bind ?_ (fun _ => ?_))
      | exact ih0 _ _ _ _
      | exact LeO.none _
      | refine LeO.ite ?_ ?_
      | refine LeO.bind ?_ (fun _ => ?_)
theorem spec_Short.mono : ∀ a0 k, LeO (spec_Short.f k a0) (spec_Short.f (k + 1) a0) := by
  intro a0 k
  have ih0 := spec_Short.mono_l k
  unfold spec_Short.f
  repeat' first
      | (with_reducible exact ih0 _ _ _ _)
      | (with_reducible exact LeO.refl _)
      | (with_reducible exact LeO.none _)
      | (with_reducible refine LeO.ite ?_ ?_)
      | (with_reducible refine LeO.bind ?_ (fun _ => ?_))
      | exact ih0 _ _ _ _
      | exact LeO.none _
      | refine LeO.ite ?_ ?_
      | refine LeO.bind ?_ (fun _ => ?_)
set_option maxHeartbeats 8000000 in
set_option maxRecDepth 100000 in
theorem spec_Short.calls (k : Nat) (A0 : Option Addr) (c0 : Nat) (l0 : List (List Int)) (r : Bool) (w : World) (hr0 : Kd.C (Kd.slice 5 (Kd.int .u8)) w A0 l0.length l0) (hc0 : l0.length ≤ c0) (h : spec_Short.f k l0 = some r) :
    Calls Try.prog 12 #[.slice A0 l0.length c0] w fun e w' => e = .returned (.bool r) ∧ Drawn0 w w' := by
  have HR0 := Aside0.mk hr0
  have HC0 := Aside0.mk hc0
  clear hr0 hc0
  have H : (spec_Short.l0 k (l0.length : Int) l0 (l0.length : Int) 0) = some r := h
  clear h
  have H' := Aside0.mk H
  clear H
  go_enter Try.func12, Try.ntmps12
  go_wp2
  go_loopg [3, 10] k (fun kq v3 v10 w' => ∃ (x3_1 : Int) (x10_1 : Int), v3 = .int .i64 x3_1 ∧ v10 = .int .i64 x10_1 ∧ Aside0 (spec_Short.l0 kq x3_1 l0 (l0.length : Int) x10_1 = some r) ∧ Aside0 (kq ≤ k) ∧ Drawn0 w w')
  case atStart => exact ⟨((l0.length : Int)), (0), (by first | rfl | (simp; done) | (simp [*]; done)), (by first | rfl | (simp; done) | (simp [*]; done)), H', ⟨Nat.le_refl _⟩, by repeat (first | exact Drawn0.refl _ | apply Drawn0.step)⟩
  case round =>
    clear H'
    try clear c1
    obtain ⟨x3_1, x10_1, rfl, rfl, HA, HK1, ⟨m1, rfl⟩⟩ := hrel
    cases gk with
    | zero => exact absurd HA.out (by simp [spec_Short.l0])
    | succ k1 =>
      have H := HA.out
      clear HA
      simp only [spec_Short.l0] at H
      by_cases c2 : x10_1 < (l0.length : Int)
      · rw [if_pos c2] at H
        have c2b0 : decide (x10_1 < (l0.length : Int)) = true := decide_eq_true c2
        clear c2
        by_cases c3 : 0 ≤ x10_1
        · rw [if_pos c3] at H
          have c3b0 : decide (0 ≤ x10_1) = true := decide_eq_true c3
          clear c3
          by_cases c4 : x10_1 < (l0.length : Int)
          · rw [if_pos c4] at H
            have c4b0 : decide (x10_1 < (l0.length : Int)) = true := decide_eq_true c4
            clear c4
            by_cases c5 : ((rd_L1 l0 x10_1).length : Int) > 100000
            · rw [if_pos c5] at H
              have c5b0 : decide (100000 < ((rd_L1 l0 x10_1).length : Int)) = true := decide_eq_true c5
              have c5b1 : decide (100000 < (rd_L1 l0 x10_1).length) = true := decide_eq_true (by omega)
              clear c5
              obtain rfl := Option.some.inj H
              have p103 : 0 ≤ (x10_1 : Int) := of_decide_eq_true (by first | (with_reducible assumption) | assumption)
              have q103 : x10_1 < (l0.length : Int) := of_decide_eq_true (by first | (with_reducible assumption) | assumption)
              obtain ⟨ad103, A103_0, c103_0, e103, hx103_0, hl103_0, hi103_0⟩ := at_L1 HR0.out x10_1 p103 q103
              cases e103
              have HR103_0 := Aside0.mk hi103_0
              have HC103_0 := Aside0.mk hl103_0
              clear hi103_0 hl103_0
              replace p103 := eq_true p103
              replace q103 := eq_true q103
              go_wp2
              go_ret
              exact ⟨by first | rfl | (simp; done) | (simp [*]; done), by repeat (first | exact Drawn0.refl _ | apply Drawn0.step)⟩
            · rw [if_neg c5] at H
              have c5b0 : decide (100000 < ((rd_L1 l0 x10_1).length : Int)) = false := decide_eq_false c5
              have c5b1 : decide (100000 < (rd_L1 l0 x10_1).length) = false := decide_eq_false (by omega)
              clear c5
              by_cases c6 : (wrap64 (x3_1 + ((rd_L1 l0 x10_1).length : Int))) > 100000
              · rw [if_pos c6] at H
                have c6b0 : decide (100000 < (wrap64 (x3_1 + ((rd_L1 l0 x10_1).length : Int)))) = true := decide_eq_true c6
                clear c6
                obtain rfl := Option.some.inj H
                have p103 : 0 ≤ (x10_1 : Int) := of_decide_eq_true (by first | (with_reducible assumption) | assumption)
                have q103 : x10_1 < (l0.length : Int) := of_decide_eq_true (by first | (with_reducible assumption) | assumption)
                obtain ⟨ad103, A103_0, c103_0, e103, hx103_0, hl103_0, hi103_0⟩ := at_L1 HR0.out x10_1 p103 q103
                cases e103
                have HR103_0 := Aside0.mk hi103_0
                have HC103_0 := Aside0.mk hl103_0
                clear hi103_0 hl103_0
                replace p103 := eq_true p103
                replace q103 := eq_true q103
                go_wp2
                go_ret
                exact ⟨by first | rfl | (simp; done) | (simp [*]; done), by repeat (first | exact Drawn0.refl _ | apply Drawn0.step)⟩
              · rw [if_neg c6] at H
                have c6b0 : decide (100000 < (wrap64 (x3_1 + ((rd_L1 l0 x10_1).length : Int)))) = false := decide_eq_false c6
                clear c6
                have H' := Aside0.mk H
                clear H
                have p103 : 0 ≤ (x10_1 : Int) := of_decide_eq_true (by first | (with_reducible assumption) | assumption)
                have q103 : x10_1 < (l0.length : Int) := of_decide_eq_true (by first | (with_reducible assumption) | assumption)
                obtain ⟨ad103, A103_0, c103_0, e103, hx103_0, hl103_0, hi103_0⟩ := at_L1 HR0.out x10_1 p103 q103
                cases e103
                have HR103_0 := Aside0.mk hi103_0
                have HC103_0 := Aside0.mk hl103_0
                clear hi103_0 hl103_0
                replace p103 := eq_true p103
                replace q103 := eq_true q103
                go_wp2
                go_roundg k1
                case measure => have := HK1.out; omega
                case rel => exact ⟨(wrap64 (x3_1 + ((rd_L1 l0 x10_1).length : Int))), (wrap64 (x10_1 + 1)), (by first | rfl | (simp; done) | (simp [*]; done)), (by first | rfl | (simp; done) | (simp [*]; done)), H', ⟨by have := HK1.out; omega⟩, by repeat (first | exact Drawn0.refl _ | apply Drawn0.step)⟩
          · rw [if_neg c4] at H
            exact absurd H (by simp)
        · rw [if_neg c3] at H
          exact absurd H (by simp)
      · rw [if_neg c2] at H
        have c2b0 : decide (x10_1 < (l0.length : Int)) = false := decide_eq_false c2
        clear c2
        obtain rfl := Option.some.inj H
        go_wp2
        go_ret
        exact ⟨by first | rfl | (simp; done) | (simp [*]; done), by repeat (first | exact Drawn0.refl _ | apply Drawn0.step)⟩

/-! ### pqxxhash_avalanche: function 28 -/
def pqxxhash_avalanche.f (a0 : Int) : Option (Int) := some (Go.bits .xor .u64 (IntKind.u64.wrap ((Go.bits .xor .u64 (IntKind.u64.wrap ((Go.bits .xor .u64 a0 (a0 / 8589934592)) * 14029467366897019727)) ((IntKind.u64.wrap ((Go.bits .xor .u64 a0 (a0 / 8589934592)) * 14029467366897019727)) / 536870912)) * 1609587929392839161)) ((IntKind.u64.wrap ((Go.bits .xor .u64 (IntKind.u64.wrap ((Go.bits .xor .u64 a0 (a0 / 8589934592)) * 14029467366897019727)) ((IntKind.u64.wrap ((Go.bits .xor .u64 a0 (a0 / 8589934592)) * 14029467366897019727)) / 536870912)) * 1609587929392839161)) / 4294967296))
set_option maxHeartbeats 8000000 in
set_option maxRecDepth 100000 in
theorem pqxxhash_avalanche.calls (a0 : Int) (r : Int) (w : World) (h : pqxxhash_avalanche.f a0 = some r) :
    Calls Try.prog 28 #[.int .u64 a0] w fun e w' => e = .returned (.int .u64 r) ∧ Drawn0 w w' := by
  have H : (some (Go.bits .xor .u64 (IntKind.u64.wrap ((Go.bits .xor .u64 (IntKind.u64.wrap ((Go.bits .xor .u64 a0 (a0 / 8589934592)) * 14029467366897019727)) ((IntKind.u64.wrap ((Go.bits .xor .u64 a0 (a0 / 8589934592)) * 14029467366897019727)) / 536870912)) * 1609587929392839161)) ((IntKind.u64.wrap ((Go.bits .xor .u64 (IntKind.u64.wrap ((Go.bits .xor .u64 a0 (a0 / 8589934592)) * 14029467366897019727)) ((IntKind.u64.wrap ((Go.bits .xor .u64 a0 (a0 / 8589934592)) * 14029467366897019727)) / 536870912)) * 1609587929392839161)) / 4294967296))) = some r := h
  clear h
  obtain rfl := Option.some.inj H
  go_enter Try.func28, Try.ntmps28
  go_wp2
  go_ret
  exact ⟨by first | rfl | (simp; done) | (simp [*]; done), by repeat (first | exact Drawn0.refl _ | apply Drawn0.step)⟩

/-! ### bits_RotateLeft64: function 40 -/
def bits_RotateLeft64.f (a0 : Int) (a1 : Int) : Option (Int) := if 0 ≤ (Go.bits .and .u64 (IntKind.u64.wrap (a1)) 63) then (if 0 ≤ (IntKind.u64.wrap (64 - (Go.bits .and .u64 (IntKind.u64.wrap (a1)) 63))) then (some (Go.bits .or .u64 (shl .u64 a0 (Go.bits .and .u64 (IntKind.u64.wrap (a1)) 63)) (shr .u64 a0 (IntKind.u64.wrap (64 - (Go.bits .and .u64 (IntKind.u64.wrap (a1)) 63)))))) else (none)) else (none)
set_option maxHeartbeats 8000000 in
set_option maxRecDepth 100000 in
theorem bits_RotateLeft64.calls (a0 : Int) (a1 : Int) (r : Int) (w : World) (h : bits_RotateLeft64.f a0 a1 = some r) :
    Calls Try.prog 40 #[.int .u64 a0, .int .i64 a1] w fun e w' => e = .returned (.int .u64 r) ∧ Drawn0 w w' := by
  have H : (if 0 ≤ (Go.bits .and .u64 (IntKind.u64.wrap (a1)) 63) then (if 0 ≤ (IntKind.u64.wrap (64 - (Go.bits .and .u64 (IntKind.u64.wrap (a1)) 63))) then (some (Go.bits .or .u64 (shl .u64 a0 (Go.bits .and .u64 (IntKind.u64.wrap (a1)) 63)) (shr .u64 a0 (IntKind.u64.wrap (64 - (Go.bits .and .u64 (IntKind.u64.wrap (a1)) 63)))))) else (none)) else (none)) = some r := h
  clear h
  obtain ⟨ji3, hji3⟩ : ∃ j_ : Int, (Go.bits .and .u64 (IntKind.u64.wrap (a1)) 63) = j_ := ⟨_, rfl⟩
  replace H : (if 0 ≤ (ji3) then (if 0 ≤ (IntKind.u64.wrap (64 - (ji3))) then (some (Go.bits .or .u64 (shl .u64 a0 (ji3)) (shr .u64 a0 (IntKind.u64.wrap (64 - (ji3)))))) else (none)) else (none)) = some r := by first | (rw [hji3] at H; exact H) | (simp only [hji3] at H ⊢; exact H)
  by_cases c4 : 0 ≤ (ji3)
  · rw [if_pos c4] at H
    have c4b0 := eq_true c4
    have c4b1 : decide (0 ≤ (ji3)) = true := decide_eq_true c4
    clear c4
    obtain ⟨ji5, hji5⟩ : ∃ j_ : Int, (shl .u64 a0 (ji3)) = j_ := ⟨_, rfl⟩
    replace H : (if 0 ≤ (IntKind.u64.wrap (64 - (ji3))) then (some (Go.bits .or .u64 (ji5) (shr .u64 a0 (IntKind.u64.wrap (64 - (ji3)))))) else (none)) = some r := by first | (rw [hji5] at H; exact H) | (simp only [hji5] at H ⊢; exact H)
    have hji5_ : (IntKind.u64.wrap (a0 * 2 ^ min (ji3).toNat 64)) = ji5 := hji5
    have hji5z : (ji3) ≤ 64 → (IntKind.u64.wrap (a0 * 2 ^ (ji3).toNat)) = ji5 := shl_small hji5
    obtain ⟨ji6, hji6⟩ : ∃ j_ : Int, (IntKind.u64.wrap (64 - (ji3))) = j_ := ⟨_, rfl⟩
    replace H : (if 0 ≤ (ji6) then (some (Go.bits .or .u64 (ji5) (shr .u64 a0 (ji6)))) else (none)) = some r := by first | (rw [hji6] at H; exact H) | (simp only [hji6] at H ⊢; exact H)
    by_cases c7 : 0 ≤ (ji6)
    · rw [if_pos c7] at H
      have c7b0 := eq_true c7
      have c7b1 : decide (0 ≤ (ji6)) = true := decide_eq_true c7
      clear c7
      obtain ⟨ji8, hji8⟩ : ∃ j_ : Int, (shr .u64 a0 (ji6)) = j_ := ⟨_, rfl⟩
      replace H : (some (Go.bits .or .u64 (ji5) (ji8))) = some r := by first | (rw [hji8] at H; exact H) | (simp only [hji8] at H ⊢; exact H)
      have hji8_ : (a0 / 2 ^ min (ji6).toNat 64) = ji8 := hji8
      have hji8z : (ji6) ≤ 64 → (a0 / 2 ^ (ji6).toNat) = ji8 := shr_small hji8
      obtain rfl := Option.some.inj H
      go_enter Try.func40, Try.ntmps40
      go_wp2
      go_ret
      exact ⟨by first | rfl | (simp; done) | (simp only [← hji3, ← hji5, ← hji6, ← hji8] <;> (first | rfl | simp)) | (simp [*]; done), by repeat (first | exact Drawn0.refl _ | apply Drawn0.step)⟩
    · rw [if_neg c7] at H
      exact absurd H (by simp)
  · rw [if_neg c4] at H
    exact absurd H (by simp)

/-! ### pqxxhash_rol11: function 29 -/
def pqxxhash_rol11.f (a0 : Int) : Option (Int) := (bits_RotateLeft64.f a0 11).bind fun t104 => (some t104)
set_option maxHeartbeats 8000000 in
set_option maxRecDepth 100000 in
theorem pqxxhash_rol11.calls (a0 : Int) (r : Int) (w : World) (h : pqxxhash_rol11.f a0 = some r) :
    Calls Try.prog 29 #[.int .u64 a0] w fun e w' => e = .returned (.int .u64 r) ∧ Drawn0 w w' := by
  have H : ((bits_RotateLeft64.f a0 11).bind fun t104 => (some t104)) = some r := h
  clear h
  replace H := Option.bind_eq_some_iff.mp H
  obtain ⟨t104, A20, H⟩ := H
  replace H : (some t104) = some r := H
  have A2 := Aside0.mk A20
  clear A20
  obtain rfl := Option.some.inj H
  go_enter Try.func29, Try.ntmps29
  go_wp2_with (first | ((with_reducible refine gate_callee (f := 40) rfl ?_); refine goesL_ (some 4) rfl rfl Try.func40 (by kernel_rfl) rfl #[.int .u64 a0, .int .i64 11] rfl (by (try simp only [List.map_toArray, List.map_cons, List.map_nil]); first | done | rfl | (simp only [List.length_drop, List.length_take]; rfl)) ?_; (with_reducible refine (bits_RotateLeft64.calls a0 11 t104 _ A2.out).mono ?_); rintro e w' ⟨rfl, ⟨nd, rfl⟩⟩; refine ⟨_, rfl, ?_⟩))
  go_ret
  exact ⟨by first | rfl | (simp; done) | (simp [*]; done), by repeat (first | exact Drawn0.refl _ | apply Drawn0.step)⟩

/-! ### pqxxhash_rol23: function 30 -/
def pqxxhash_rol23.f (a0 : Int) : Option (Int) := (bits_RotateLeft64.f a0 23).bind fun t105 => (some t105)
set_option maxHeartbeats 8000000 in
set_option maxRecDepth 100000 in
theorem pqxxhash_rol23.calls (a0 : Int) (r : Int) (w : World) (h : pqxxhash_rol23.f a0 = some r) :
    Calls Try.prog 30 #[.int .u64 a0] w fun e w' => e = .returned (.int .u64 r) ∧ Drawn0 w w' := by
  have H : ((bits_RotateLeft64.f a0 23).bind fun t105 => (some t105)) = some r := h
  clear h
  replace H := Option.bind_eq_some_iff.mp H
  obtain ⟨t105, A20, H⟩ := H
  replace H : (some t105) = some r := H
  have A2 := Aside0.mk A20
  clear A20
  obtain rfl := Option.some.inj H
  go_enter Try.func30, Try.ntmps30
  go_wp2_with (first | ((with_reducible refine gate_callee (f := 40) rfl ?_); refine goesL_ (some 4) rfl rfl Try.func40 (by kernel_rfl) rfl #[.int .u64 a0, .int .i64 23] rfl (by (try simp only [List.map_toArray, List.map_cons, List.map_nil]); first | done | rfl | (simp only [List.length_drop, List.length_take]; rfl)) ?_; (with_reducible refine (bits_RotateLeft64.calls a0 23 t105 _ A2.out).mono ?_); rintro e w' ⟨rfl, ⟨nd, rfl⟩⟩; refine ⟨_, rfl, ?_⟩))
  go_ret
  exact ⟨by first | rfl | (simp; done) | (simp [*]; done), by repeat (first | exact Drawn0.refl _ | apply Drawn0.step)⟩

/-! ### pqxxhash_rol31: function 41 -/
def pqxxhash_rol31.f (a0 : Int) : Option (Int) := (bits_RotateLeft64.f a0 31).bind fun t106 => (some t106)
set_option maxHeartbeats 8000000 in
set_option maxRecDepth 100000 in
theorem pqxxhash_rol31.calls (a0 : Int) (r : Int) (w : World) (h : pqxxhash_rol31.f a0 = some r) :
    Calls Try.prog 41 #[.int .u64 a0] w fun e w' => e = .returned (.int .u64 r) ∧ Drawn0 w w' := by
  have H : ((bits_RotateLeft64.f a0 31).bind fun t106 => (some t106)) = some r := h
  clear h
  replace H := Option.bind_eq_some_iff.mp H
  obtain ⟨t106, A20, H⟩ := H
  replace H : (some t106) = some r := H
  have A2 := Aside0.mk A20
  clear A20
  obtain rfl := Option.some.inj H
  go_enter Try.func41, Try.ntmps41
  go_wp2_with (first | ((with_reducible refine gate_callee (f := 40) rfl ?_); refine goesL_ (some 4) rfl rfl Try.func40 (by kernel_rfl) rfl #[.int .u64 a0, .int .i64 31] rfl (by (try simp only [List.map_toArray, List.map_cons, List.map_nil]); first | done | rfl | (simp only [List.length_drop, List.length_take]; rfl)) ?_; (with_reducible refine (bits_RotateLeft64.calls a0 31 t106 _ A2.out).mono ?_); rintro e w' ⟨rfl, ⟨nd, rfl⟩⟩; refine ⟨_, rfl, ?_⟩))
  go_ret
  exact ⟨by first | rfl | (simp; done) | (simp [*]; done), by repeat (first | exact Drawn0.refl _ | apply Drawn0.step)⟩

/-! ### pqxxhash_round: function 31 -/
def pqxxhash_round.f (a0 : Int) (a1 : Int) : Option (Int) := (pqxxhash_rol31.f (IntKind.u64.wrap (a0 + (IntKind.u64.wrap (a1 * 14029467366897019727))))).bind fun t107 => (some (IntKind.u64.wrap (t107 * 11400714785074694791)))
set_option maxHeartbeats 8000000 in
set_option maxRecDepth 100000 in
theorem pqxxhash_round.calls (a0 : Int) (a1 : Int) (r : Int) (w : World) (h : pqxxhash_round.f a0 a1 = some r) :
    Calls Try.prog 31 #[.int .u64 a0, .int .u64 a1] w fun e w' => e = .returned (.int .u64 r) ∧ Drawn0 w w' := by
  have H : ((pqxxhash_rol31.f (IntKind.u64.wrap (a0 + (IntKind.u64.wrap (a1 * 14029467366897019727))))).bind fun t107 => (some (IntKind.u64.wrap (t107 * 11400714785074694791)))) = some r := h
  clear h
  replace H := Option.bind_eq_some_iff.mp H
  obtain ⟨t107, A30, H⟩ := H
  replace H : (some (IntKind.u64.wrap (t107 * 11400714785074694791))) = some r := H
  have A3 := Aside0.mk A30
  clear A30
  obtain rfl := Option.some.inj H
  go_enter Try.func31, Try.ntmps31
  go_wp2_with (first | ((with_reducible refine gate_callee (f := 41) rfl ?_); refine goesL_ (some 10) rfl rfl Try.func41 (by kernel_rfl) rfl #[.int .u64 (IntKind.u64.wrap (a0 + (IntKind.u64.wrap (a1 * 14029467366897019727))))] rfl (by (try simp only [List.map_toArray, List.map_cons, List.map_nil]); first | done | rfl | (simp only [List.length_drop, List.length_take]; rfl)) ?_; (with_reducible refine (pqxxhash_rol31.calls (IntKind.u64.wrap (a0 + (IntKind.u64.wrap (a1 * 14029467366897019727)))) t107 _ A3.out).mono ?_); rintro e w' ⟨rfl, ⟨nd, rfl⟩⟩; refine ⟨_, rfl, ?_⟩))
  go_ret
  exact ⟨by first | rfl | (simp; done) | (simp [*]; done), by repeat (first | exact Drawn0.refl _ | apply Drawn0.step)⟩

/-! ### pqxxhash_rol27: function 32 -/
def pqxxhash_rol27.f (a0 : Int) : Option (Int) := (bits_RotateLeft64.f a0 27).bind fun t108 => (some t108)
set_option maxHeartbeats 8000000 in
set_option maxRecDepth 100000 in
theorem pqxxhash_rol27.calls (a0 : Int) (r : Int) (w : World) (h : pqxxhash_rol27.f a0 = some r) :
    Calls Try.prog 32 #[.int .u64 a0] w fun e w' => e = .returned (.int .u64 r) ∧ Drawn0 w w' := by
  have H : ((bits_RotateLeft64.f a0 27).bind fun t108 => (some t108)) = some r := h
  clear h
  replace H := Option.bind_eq_some_iff.mp H
  obtain ⟨t108, A20, H⟩ := H
  replace H : (some t108) = some r := H
  have A2 := Aside0.mk A20
  clear A20
  obtain rfl := Option.some.inj H
  go_enter Try.func32, Try.ntmps32
  go_wp2_with (first | ((with_reducible refine gate_callee (f := 40) rfl ?_); refine goesL_ (some 4) rfl rfl Try.func40 (by kernel_rfl) rfl #[.int .u64 a0, .int .i64 27] rfl (by (try simp only [List.map_toArray, List.map_cons, List.map_nil]); first | done | rfl | (simp only [List.length_drop, List.length_take]; rfl)) ?_; (with_reducible refine (bits_RotateLeft64.calls a0 27 t108 _ A2.out).mono ?_); rintro e w' ⟨rfl, ⟨nd, rfl⟩⟩; refine ⟨_, rfl, ?_⟩))
  go_ret
  exact ⟨by first | rfl | (simp; done) | (simp [*]; done), by repeat (first | exact Drawn0.refl _ | apply Drawn0.step)⟩

/-! ### pqxxhash_leUint32: function 43, by hand -/
def pqxxhash_leUint32.f (l0 : List Int) : Option (Int) := if 4 ≤ l0.length ∧ bytesB l0 = true then some (le4L l0) else none
set_option maxHeartbeats 2000000 in
theorem pqxxhash_leUint32.calls (A0 : Option Addr) (c0 : Nat) (l0 : List Int) (r : Int) (w : World) (hr0 : Kd.C (Kd.int .u8) w A0 l0.length l0) (hc0 : l0.length ≤ c0) (h : pqxxhash_leUint32.f l0 = some r) :
    Calls Try.prog 43 #[.slice A0 l0.length c0] w fun e w' => e = .returned (.int .u32 r) ∧ Drawn0 w w' := by
  unfold pqxxhash_leUint32.f at h
  split at h
  · rename_i hb
    obtain ⟨hl, hb⟩ := hb
    obtain rfl := Option.some.inj h
    have b0 := bytesB_rd hb (i := 0) (k := 0) rfl (by omega)
    have b1 := bytesB_rd hb (i := 1) (k := 1) rfl (by omega)
    have b2 := bytesB_rd hb (i := 2) (k := 2) rfl (by omega)
    have b3 := bytesB_rd hb (i := 3) (k := 3) rfl (by omega)
    obtain ⟨ad, rfl, x0⟩ := Kd.at_int hr0 0 (by omega) (by omega)
    obtain ⟨ad1, e1, x1⟩ := Kd.at_int hr0 1 (by omega) (by omega)
    obtain ⟨ad2, e2, x2⟩ := Kd.at_int hr0 2 (by omega) (by omega)
    obtain ⟨ad3, e3, x3⟩ := Kd.at_int hr0 3 (by omega) (by omega)
    obtain rfl : ad = ad1 := (by injection e1)
    obtain rfl : ad = ad2 := (by injection e2)
    obtain rfl : ad = ad3 := (by injection e3)
    have i0 : decide (0 < l0.length) = true := decide_eq_true (by omega)
    have i1 : decide (1 < l0.length) = true := decide_eq_true (by omega)
    have i2 : decide (2 < l0.length) = true := decide_eq_true (by omega)
    have i3 : decide (3 < l0.length) = true := decide_eq_true (by omega)
    simp only [show (1 : Int).toNat = 1 from rfl, show (2 : Int).toNat = 2 from rfl, show (3 : Int).toNat = 3 from rfl, show (0 : Int).toNat = 0 from rfl, Addr.add_zero'] at x0 x1 x2 x3
    simp only [Go.Addr.add, Nat.reduceEqDiff, ↓reduceIte] at x1 x2 x3
    have B := Aside0.mk (⟨b0, b1, b2, b3⟩ : byt _ ∧ byt _ ∧ byt _ ∧ byt _)
    clear hr0 e1 e2 e3 b0 b1 b2 b3 hb h
    go_enter Try.func43, Try.ntmps43
    go_wp2
    repeat (go_quiet (fail); try go_wp2)
    go_ret
    obtain ⟨b0, b1, b2, b3⟩ := B.out
    exact ⟨congrArg (fun x => Ending.returned (Value.int .u32 x)) (le4_raw _ _ _ _ b0 b1 b2 b3), ⟨⟨_, rfl⟩⟩⟩
  · cases h


end Go.Proofs.Ytojoppondgnajaa.PFnHash
