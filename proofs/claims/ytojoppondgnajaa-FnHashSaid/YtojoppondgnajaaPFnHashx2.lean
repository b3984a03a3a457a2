-- Laid by a program of this session over the kit's print (stand-ins: functions proved by hand).
import Derived.Test.YtojoppondgnajaaPFnHashx0
import Derived.Test.YtojoppondgnajaaPFnHashx1
namespace Go.Proofs.Ytojoppondgnajaa.PFnHash
open Go.Proofs.Ytojoppondgnajaa.Aid Go.Proofs.Ytojoppondgnajaa.Xx
open Go.RowKit Go.Proofs.YtojoppondgnajaaW.PrintWords Go.Proofs.YtojoppondgnajaaW.PrintLast Go.Proofs.YtojoppondgnajaaW.PrintMore
attribute [local go_sem] max2_int min2_int max_two min_two max_three min_three max_four min_four   -- for this text's walks alone
set_option linter.unusedVariables false
set_option linter.unusedSimpArgs false

/-! ### pqxxhash_leUint64: function 42, by hand -/
def pqxxhash_leUint64.f (l0 : List Int) : Option (Int) := if 8 ≤ l0.length ∧ bytesB l0 = true then some (le8L l0) else none
set_option maxHeartbeats 2000000 in
theorem pqxxhash_leUint64.calls (A0 : Option Addr) (c0 : Nat) (l0 : List Int) (r : Int) (w : World) (hr0 : Kd.C (Kd.int .u8) w A0 l0.length l0) (hc0 : l0.length ≤ c0) (h : pqxxhash_leUint64.f l0 = some r) :
    Calls Try.prog 42 #[.slice A0 l0.length c0] w fun e w' => e = .returned (.int .u64 r) ∧ Drawn0 w w' := by
  unfold pqxxhash_leUint64.f at h
  split at h
  · rename_i hb
    obtain ⟨hl, hb⟩ := hb
    obtain rfl := Option.some.inj h
    have ce : ∀ W : World, Kd.C (Kd.int .u8) W A0 l0.length l0 → Calls Try.prog 43 #[.slice A0 l0.length c0] W fun e w' => e = .returned (.int .u32 (le4L l0)) ∧ Drawn0 W w' := fun W hW =>
      pqxxhash_leUint32.calls A0 c0 l0 _ W hW hc0 (by unfold pqxxhash_leUint32.f; rw [if_pos ⟨by omega, hb⟩])
    obtain ⟨i8, h8⟩ := Option.map_eq_some_iff.1 (show (Try.prog.info? 5).map (fun i => i.size) = some 1 by kernel_rfl)
    obtain ⟨A4, cut4, hC4⟩ := cutLo (P := Try.prog) 26 5 Try.underlying26 h8.1 h8.2 A0 l0.length c0 .i64 4 4 rfl (by omega) hc0
    obtain ⟨n4, hn4⟩ : ∃ x, x = l0.length - 4 := ⟨_, rfl⟩
    obtain ⟨c4, hc4⟩ : ∃ x, x = c0 - 4 := ⟨_, rfl⟩
    rw [← hn4, ← hc4] at cut4
    rw [← hn4] at hC4
    have hld : (l0.drop 4).length = n4 := by rw [List.length_drop, hn4]
    have cf : ∀ W : World, Kd.C (Kd.int .u8) W A0 l0.length l0 → Calls Try.prog 43 #[.slice A4 n4 c4] W fun e w' => e = .returned (.int .u32 (le4L (l0.drop 4))) ∧ Drawn0 W w' := fun W hW => by
      have hd := hC4 _ _ _ rfl hW
      rw [← hld] at hd ⊢
      exact pqxxhash_leUint32.calls A4 _ (l0.drop 4) _ W hd (by omega) (by unfold pqxxhash_leUint32.f; rw [if_pos ⟨by omega, bytesB_drop hb 4⟩])
    have b1 := le4L_bd hb (by omega)
    have b2 := le4L_bd (bytesB_drop hb 4) (by rw [hld]; omega)
    obtain ⟨ad, rfl, x7⟩ := Kd.at_int hr0 7 (by omega) (by omega)
    have i7 : decide (7 < l0.length) = true := decide_eq_true (by omega)
    simp only [show (7 : Int).toNat = 7 from rfl] at x7
    simp only [Go.Addr.add, Nat.reduceEqDiff, ↓reduceIte] at x7
    have HR := Aside0.mk hr0
    have B := Aside0.mk (⟨b1, b2⟩ : (0 ≤ le4L l0 ∧ _) ∧ (0 ≤ le4L (l0.drop 4) ∧ _))
    have CE := Aside0.mk ce
    have CF := Aside0.mk cf
    clear hr0 hC4 hld ce cf hb h b1 b2 hn4 hc4
    go_enter Try.func42, Try.ntmps42
    go_wp2_with (fail)
    go_quiet (first
      | (go_at_call_of 43 (Value.slice A4 n4 c4); exact quietCall (CF.out _ (Kd.C_drewN HR.out _)))
      | (go_at_call 43; exact quietCall (CE.out _ (Kd.C_drewN HR.out _))))
    go_wp2_with (fail)
    go_ret
    obtain ⟨b1, b2⟩ := B.out
    exact ⟨congrArg (fun x => Ending.returned (Value.int .u64 x)) (le8_raw _ _ b1 b2), ⟨⟨_, rfl⟩⟩⟩
  · cases h


/-! ### pqxxhash_u64: function 33 -/
def pqxxhash_u64.f (l0 : List Int) : Option (Int) := (pqxxhash_leUint64.f l0).bind fun t109 => (some t109)
set_option maxHeartbeats 8000000 in
set_option maxRecDepth 100000 in
theorem pqxxhash_u64.calls (A0 : Option Addr) (c0 : Nat) (l0 : List Int) (r : Int) (w : World) (hr0 : Kd.C (Kd.int .u8) w A0 l0.length l0) (hc0 : l0.length ≤ c0) (h : pqxxhash_u64.f l0 = some r) :
    Calls Try.prog 33 #[.slice A0 l0.length c0] w fun e w' => e = .returned (.int .u64 r) ∧ Drawn0 w w' := by
  have HR0 := Aside0.mk hr0
  have HC0 := Aside0.mk hc0
  clear hr0 hc0
  have H : ((pqxxhash_leUint64.f l0).bind fun t109 => (some t109)) = some r := h
  clear h
  replace H := Option.bind_eq_some_iff.mp H
  obtain ⟨t109, A20, H⟩ := H
  replace H : (some t109) = some r := H
  have A2 := Aside0.mk A20
  clear A20
  obtain rfl := Option.some.inj H
  go_enter Try.func33, Try.ntmps33
  go_wp2_with (first | ((with_reducible refine gate_callee (f := 42) rfl ?_); refine goesL_ (some 4) rfl rfl Try.func42 (by kernel_rfl) rfl #[.slice A0 l0.length c0] rfl (by (try simp only [List.map_toArray, List.map_cons, List.map_nil]); first | done | rfl | (simp only [List.length_drop, List.length_take]; rfl)) ?_; (with_reducible refine (pqxxhash_leUint64.calls _ _ l0 t109 _ ?side1 ?side2 A2.out).mono ?_); (case side1 => repeat (first | exact HR0.out | (with_reducible refine Kd.C_alloc ?_ _) | (with_reducible refine Kd.C_drewN ?_ _) | (with_reducible refine Kd.C_drew ?_))); (case side2 => exact HC0.out); rintro e w' ⟨rfl, ⟨nd, rfl⟩⟩; refine ⟨_, rfl, ?_⟩))
  go_ret
  exact ⟨by first | rfl | (simp; done) | (simp [*]; done), by repeat (first | exact Drawn0.refl _ | apply Drawn0.step)⟩

/-! ### pqxxhash_rol1: function 34 -/
def pqxxhash_rol1.f (a0 : Int) : Option (Int) := (bits_RotateLeft64.f a0 1).bind fun t110 => (some t110)
set_option maxHeartbeats 8000000 in
set_option maxRecDepth 100000 in
theorem pqxxhash_rol1.calls (a0 : Int) (r : Int) (w : World) (h : pqxxhash_rol1.f a0 = some r) :
    Calls Try.prog 34 #[.int .u64 a0] w fun e w' => e = .returned (.int .u64 r) ∧ Drawn0 w w' := by
  have H : ((bits_RotateLeft64.f a0 1).bind fun t110 => (some t110)) = some r := h
  clear h
  replace H := Option.bind_eq_some_iff.mp H
  obtain ⟨t110, A20, H⟩ := H
  replace H : (some t110) = some r := H
  have A2 := Aside0.mk A20
  clear A20
  obtain rfl := Option.some.inj H
  go_enter Try.func34, Try.ntmps34
  go_wp2_with (first | ((with_reducible refine gate_callee (f := 40) rfl ?_); refine goesL_ (some 4) rfl rfl Try.func40 (by kernel_rfl) rfl #[.int .u64 a0, .int .i64 1] rfl (by (try simp only [List.map_toArray, List.map_cons, List.map_nil]); first | done | rfl | (simp only [List.length_drop, List.length_take]; rfl)) ?_; (with_reducible refine (bits_RotateLeft64.calls a0 1 t110 _ A2.out).mono ?_); rintro e w' ⟨rfl, ⟨nd, rfl⟩⟩; refine ⟨_, rfl, ?_⟩))
  go_ret
  exact ⟨by first | rfl | (simp; done) | (simp [*]; done), by repeat (first | exact Drawn0.refl _ | apply Drawn0.step)⟩

/-! ### pqxxhash_rol7: function 35 -/
def pqxxhash_rol7.f (a0 : Int) : Option (Int) := (bits_RotateLeft64.f a0 7).bind fun t111 => (some t111)
set_option maxHeartbeats 8000000 in
set_option maxRecDepth 100000 in
theorem pqxxhash_rol7.calls (a0 : Int) (r : Int) (w : World) (h : pqxxhash_rol7.f a0 = some r) :
    Calls Try.prog 35 #[.int .u64 a0] w fun e w' => e = .returned (.int .u64 r) ∧ Drawn0 w w' := by
  have H : ((bits_RotateLeft64.f a0 7).bind fun t111 => (some t111)) = some r := h
  clear h
  replace H := Option.bind_eq_some_iff.mp H
  obtain ⟨t111, A20, H⟩ := H
  replace H : (some t111) = some r := H
  have A2 := Aside0.mk A20
  clear A20
  obtain rfl := Option.some.inj H
  go_enter Try.func35, Try.ntmps35
  go_wp2_with (first | ((with_reducible refine gate_callee (f := 40) rfl ?_); refine goesL_ (some 4) rfl rfl Try.func40 (by kernel_rfl) rfl #[.int .u64 a0, .int .i64 7] rfl (by (try simp only [List.map_toArray, List.map_cons, List.map_nil]); first | done | rfl | (simp only [List.length_drop, List.length_take]; rfl)) ?_; (with_reducible refine (bits_RotateLeft64.calls a0 7 t111 _ A2.out).mono ?_); rintro e w' ⟨rfl, ⟨nd, rfl⟩⟩; refine ⟨_, rfl, ?_⟩))
  go_ret
  exact ⟨by first | rfl | (simp; done) | (simp [*]; done), by repeat (first | exact Drawn0.refl _ | apply Drawn0.step)⟩

/-! ### pqxxhash_rol12: function 36 -/
def pqxxhash_rol12.f (a0 : Int) : Option (Int) := (bits_RotateLeft64.f a0 12).bind fun t112 => (some t112)
set_option maxHeartbeats 8000000 in
set_option maxRecDepth 100000 in
theorem pqxxhash_rol12.calls (a0 : Int) (r : Int) (w : World) (h : pqxxhash_rol12.f a0 = some r) :
    Calls Try.prog 36 #[.int .u64 a0] w fun e w' => e = .returned (.int .u64 r) ∧ Drawn0 w w' := by
  have H : ((bits_RotateLeft64.f a0 12).bind fun t112 => (some t112)) = some r := h
  clear h
  replace H := Option.bind_eq_some_iff.mp H
  obtain ⟨t112, A20, H⟩ := H
  replace H : (some t112) = some r := H
  have A2 := Aside0.mk A20
  clear A20
  obtain rfl := Option.some.inj H
  go_enter Try.func36, Try.ntmps36
  go_wp2_with (first | ((with_reducible refine gate_callee (f := 40) rfl ?_); refine goesL_ (some 4) rfl rfl Try.func40 (by kernel_rfl) rfl #[.int .u64 a0, .int .i64 12] rfl (by (try simp only [List.map_toArray, List.map_cons, List.map_nil]); first | done | rfl | (simp only [List.length_drop, List.length_take]; rfl)) ?_; (with_reducible refine (bits_RotateLeft64.calls a0 12 t112 _ A2.out).mono ?_); rintro e w' ⟨rfl, ⟨nd, rfl⟩⟩; refine ⟨_, rfl, ?_⟩))
  go_ret
  exact ⟨by first | rfl | (simp; done) | (simp [*]; done), by repeat (first | exact Drawn0.refl _ | apply Drawn0.step)⟩

/-! ### pqxxhash_rol18: function 37 -/
def pqxxhash_rol18.f (a0 : Int) : Option (Int) := (bits_RotateLeft64.f a0 18).bind fun t113 => (some t113)
set_option maxHeartbeats 8000000 in
set_option maxRecDepth 100000 in
theorem pqxxhash_rol18.calls (a0 : Int) (r : Int) (w : World) (h : pqxxhash_rol18.f a0 = some r) :
    Calls Try.prog 37 #[.int .u64 a0] w fun e w' => e = .returned (.int .u64 r) ∧ Drawn0 w w' := by
  have H : ((bits_RotateLeft64.f a0 18).bind fun t113 => (some t113)) = some r := h
  clear h
  replace H := Option.bind_eq_some_iff.mp H
  obtain ⟨t113, A20, H⟩ := H
  replace H : (some t113) = some r := H
  have A2 := Aside0.mk A20
  clear A20
  obtain rfl := Option.some.inj H
  go_enter Try.func37, Try.ntmps37
  go_wp2_with (first | ((with_reducible refine gate_callee (f := 40) rfl ?_); refine goesL_ (some 4) rfl rfl Try.func40 (by kernel_rfl) rfl #[.int .u64 a0, .int .i64 18] rfl (by (try simp only [List.map_toArray, List.map_cons, List.map_nil]); first | done | rfl | (simp only [List.length_drop, List.length_take]; rfl)) ?_; (with_reducible refine (bits_RotateLeft64.calls a0 18 t113 _ A2.out).mono ?_); rintro e w' ⟨rfl, ⟨nd, rfl⟩⟩; refine ⟨_, rfl, ?_⟩))
  go_ret
  exact ⟨by first | rfl | (simp; done) | (simp [*]; done), by repeat (first | exact Drawn0.refl _ | apply Drawn0.step)⟩

/-! ### pqxxhash_mergeRound: function 38 -/
def pqxxhash_mergeRound.f (a0 : Int) (a1 : Int) : Option (Int) := (pqxxhash_round.f 0 a1).bind fun t114 => (some (IntKind.u64.wrap ((IntKind.u64.wrap ((Go.bits .xor .u64 a0 t114) * 11400714785074694791)) + 9650029242287828579)))
set_option maxHeartbeats 8000000 in
set_option maxRecDepth 100000 in
theorem pqxxhash_mergeRound.calls (a0 : Int) (a1 : Int) (r : Int) (w : World) (h : pqxxhash_mergeRound.f a0 a1 = some r) :
    Calls Try.prog 38 #[.int .u64 a0, .int .u64 a1] w fun e w' => e = .returned (.int .u64 r) ∧ Drawn0 w w' := by
  have H : ((pqxxhash_round.f 0 a1).bind fun t114 => (some (IntKind.u64.wrap ((IntKind.u64.wrap ((Go.bits .xor .u64 a0 t114) * 11400714785074694791)) + 9650029242287828579)))) = some r := h
  clear h
  replace H := Option.bind_eq_some_iff.mp H
  obtain ⟨t114, A30, H⟩ := H
  replace H : (some (IntKind.u64.wrap ((IntKind.u64.wrap ((Go.bits .xor .u64 a0 t114) * 11400714785074694791)) + 9650029242287828579))) = some r := H
  have A3 := Aside0.mk A30
  clear A30
  obtain rfl := Option.some.inj H
  go_enter Try.func38, Try.ntmps38
  go_wp2_with (first | ((with_reducible refine gate_callee (f := 31) rfl ?_); refine goesL_ (some 6) rfl rfl Try.func31 (by kernel_rfl) rfl #[.int .u64 0, .int .u64 a1] rfl (by (try simp only [List.map_toArray, List.map_cons, List.map_nil]); first | done | rfl | (simp only [List.length_drop, List.length_take]; rfl)) ?_; (with_reducible refine (pqxxhash_round.calls 0 a1 t114 _ A3.out).mono ?_); rintro e w' ⟨rfl, ⟨nd, rfl⟩⟩; refine ⟨_, rfl, ?_⟩))
  go_ret
  exact ⟨by first | rfl | (simp; done) | (simp [*]; done), by repeat (first | exact Drawn0.refl _ | apply Drawn0.step)⟩

/-! ### pqxxhash_u32: function 39 -/
def pqxxhash_u32.f (l0 : List Int) : Option (Int) := (pqxxhash_leUint32.f l0).bind fun t115 => (some t115)
set_option maxHeartbeats 8000000 in
set_option maxRecDepth 100000 in
theorem pqxxhash_u32.calls (A0 : Option Addr) (c0 : Nat) (l0 : List Int) (r : Int) (w : World) (hr0 : Kd.C (Kd.int .u8) w A0 l0.length l0) (hc0 : l0.length ≤ c0) (h : pqxxhash_u32.f l0 = some r) :
    Calls Try.prog 39 #[.slice A0 l0.length c0] w fun e w' => e = .returned (.int .u32 r) ∧ Drawn0 w w' := by
  have HR0 := Aside0.mk hr0
  have HC0 := Aside0.mk hc0
  clear hr0 hc0
  have H : ((pqxxhash_leUint32.f l0).bind fun t115 => (some t115)) = some r := h
  clear h
  replace H := Option.bind_eq_some_iff.mp H
  obtain ⟨t115, A20, H⟩ := H
  replace H : (some t115) = some r := H
  have A2 := Aside0.mk A20
  clear A20
  obtain rfl := Option.some.inj H
  go_enter Try.func39, Try.ntmps39
  go_wp2_with (first | ((with_reducible refine gate_callee (f := 43) rfl ?_); refine goesL_ (some 4) rfl rfl Try.func43 (by kernel_rfl) rfl #[.slice A0 l0.length c0] rfl (by (try simp only [List.map_toArray, List.map_cons, List.map_nil]); first | done | rfl | (simp only [List.length_drop, List.length_take]; rfl)) ?_; (with_reducible refine (pqxxhash_leUint32.calls _ _ l0 t115 _ ?side1 ?side2 A2.out).mono ?_); (case side1 => repeat (first | exact HR0.out | (with_reducible refine Kd.C_alloc ?_ _) | (with_reducible refine Kd.C_drewN ?_ _) | (with_reducible refine Kd.C_drew ?_))); (case side2 => exact HC0.out); rintro e w' ⟨rfl, ⟨nd, rfl⟩⟩; refine ⟨_, rfl, ?_⟩))
  go_ret
  exact ⟨by first | rfl | (simp; done) | (simp [*]; done), by repeat (first | exact Drawn0.refl _ | apply Drawn0.step)⟩

/-! ### pqxxhash_Sum64: function 23, by hand -/
def pqxxhash_Sum64.f (l0 : List Int) : Option (Int) := if bytesB l0 = true ∧ l0.length ≤ 140737488355328 then some (xxI l0) else none
theorem rot_eq (a : Int) (k : Int) (j : Nat) (hk : k = j) (hj : j < 64) (hb : Go.bits .and .u64 (IntKind.u64.wrap k) 63 = k) : bits_RotateLeft64.f a k = some (rolI a j) := by
  unfold bits_RotateLeft64.f rolI
  rw [hb]
  subst hk
  have h64 : (64 : Int) - (j : Int) = ((64 - j : Nat) : Int) := by omega
  rw [if_pos (by omega), IntWalk.u64_in _ (by omega), if_pos (by omega), h64]
  unfold shl shr
  simp only [Int.toNat_natCast]
  rw [Nat.min_eq_left (show j ≤ IntKind.u64.bits from by show j ≤ 64; omega), Nat.min_eq_left (show 64 - j ≤ IntKind.u64.bits from by show 64 - j ≤ 64; omega)]
theorem rol1_eq (a : Int) : pqxxhash_rol1.f a = some (rolI a 1) := by unfold pqxxhash_rol1.f; rw [rot_eq a 1 1 rfl (by omega) (by decide +kernel)]; rfl
theorem rol1_calls (a : Int) (w : World) : Calls Try.prog 34 #[.int .u64 a] w fun e w' => e = .returned (.int .u64 (rolI a 1)) ∧ Drawn0 w w' := pqxxhash_rol1.calls a _ w (rol1_eq a)
theorem rol7_eq (a : Int) : pqxxhash_rol7.f a = some (rolI a 7) := by unfold pqxxhash_rol7.f; rw [rot_eq a 7 7 rfl (by omega) (by decide +kernel)]; rfl
theorem rol7_calls (a : Int) (w : World) : Calls Try.prog 35 #[.int .u64 a] w fun e w' => e = .returned (.int .u64 (rolI a 7)) ∧ Drawn0 w w' := pqxxhash_rol7.calls a _ w (rol7_eq a)
theorem rol11_eq (a : Int) : pqxxhash_rol11.f a = some (rolI a 11) := by unfold pqxxhash_rol11.f; rw [rot_eq a 11 11 rfl (by omega) (by decide +kernel)]; rfl
theorem rol11_calls (a : Int) (w : World) : Calls Try.prog 29 #[.int .u64 a] w fun e w' => e = .returned (.int .u64 (rolI a 11)) ∧ Drawn0 w w' := pqxxhash_rol11.calls a _ w (rol11_eq a)
theorem rol12_eq (a : Int) : pqxxhash_rol12.f a = some (rolI a 12) := by unfold pqxxhash_rol12.f; rw [rot_eq a 12 12 rfl (by omega) (by decide +kernel)]; rfl
theorem rol12_calls (a : Int) (w : World) : Calls Try.prog 36 #[.int .u64 a] w fun e w' => e = .returned (.int .u64 (rolI a 12)) ∧ Drawn0 w w' := pqxxhash_rol12.calls a _ w (rol12_eq a)
theorem rol18_eq (a : Int) : pqxxhash_rol18.f a = some (rolI a 18) := by unfold pqxxhash_rol18.f; rw [rot_eq a 18 18 rfl (by omega) (by decide +kernel)]; rfl
theorem rol18_calls (a : Int) (w : World) : Calls Try.prog 37 #[.int .u64 a] w fun e w' => e = .returned (.int .u64 (rolI a 18)) ∧ Drawn0 w w' := pqxxhash_rol18.calls a _ w (rol18_eq a)
theorem rol23_eq (a : Int) : pqxxhash_rol23.f a = some (rolI a 23) := by unfold pqxxhash_rol23.f; rw [rot_eq a 23 23 rfl (by omega) (by decide +kernel)]; rfl
theorem rol23_calls (a : Int) (w : World) : Calls Try.prog 30 #[.int .u64 a] w fun e w' => e = .returned (.int .u64 (rolI a 23)) ∧ Drawn0 w w' := pqxxhash_rol23.calls a _ w (rol23_eq a)
theorem rol27_eq (a : Int) : pqxxhash_rol27.f a = some (rolI a 27) := by unfold pqxxhash_rol27.f; rw [rot_eq a 27 27 rfl (by omega) (by decide +kernel)]; rfl
theorem rol27_calls (a : Int) (w : World) : Calls Try.prog 32 #[.int .u64 a] w fun e w' => e = .returned (.int .u64 (rolI a 27)) ∧ Drawn0 w w' := pqxxhash_rol27.calls a _ w (rol27_eq a)
theorem rol31_eq (a : Int) : pqxxhash_rol31.f a = some (rolI a 31) := by unfold pqxxhash_rol31.f; rw [rot_eq a 31 31 rfl (by omega) (by decide +kernel)]; rfl
theorem rol31_calls (a : Int) (w : World) : Calls Try.prog 41 #[.int .u64 a] w fun e w' => e = .returned (.int .u64 (rolI a 31)) ∧ Drawn0 w w' := pqxxhash_rol31.calls a _ w (rol31_eq a)
theorem pround_eq (s v : Int) : pqxxhash_round.f s v = some (rndI s v) := by unfold pqxxhash_round.f; rw [rol31_eq]; rfl
theorem pround_calls (s v : Int) (w : World) : Calls Try.prog 31 #[.int .u64 s, .int .u64 v] w fun e w' => e = .returned (.int .u64 (rndI s v)) ∧ Drawn0 w w' := pqxxhash_round.calls s v _ w (pround_eq s v)
theorem pmerge_eq (h s : Int) : pqxxhash_mergeRound.f h s = some (mergeI h s) := by unfold pqxxhash_mergeRound.f; rw [pround_eq]; rfl
theorem pmerge_calls (s v : Int) (w : World) : Calls Try.prog 38 #[.int .u64 s, .int .u64 v] w fun e w' => e = .returned (.int .u64 (mergeI s v)) ∧ Drawn0 w w' := pqxxhash_mergeRound.calls s v _ w (pmerge_eq s v)
theorem ava_eq (a : Int) : pqxxhash_avalanche.f a = some (avaI a) := rfl
theorem pava_calls (a : Int) (w : World) : Calls Try.prog 28 #[.int .u64 a] w fun e w' => e = .returned (.int .u64 (avaI a)) ∧ Drawn0 w w' := pqxxhash_avalanche.calls a _ w (ava_eq a)
theorem u64N_calls (A : Option Addr) (n c : Nat) (l : List Int) (w : World) (hr : (Kd.int IntKind.u8).C w A n l) (hc : n ≤ c) (hb : bytesB l = true) (h8 : n = 8) :
    Calls Try.prog 33 #[.slice A n c] w fun e w' => e = .returned (.int .u64 (fromLowI l)) ∧ Drawn0 w w' := by
  have hn : l.length = n := hr.1
  subst hn
  refine pqxxhash_u64.calls A c l _ w hr hc ?_
  unfold pqxxhash_u64.f pqxxhash_leUint64.f
  rw [if_pos ⟨by omega, hb⟩]
  have := fromLowI_eight hb (by omega)
  rw [List.take_of_length_le (by omega)] at this
  rw [this]; rfl
theorem u32N_calls (A : Option Addr) (n c : Nat) (l : List Int) (w : World) (hr : (Kd.int IntKind.u8).C w A n l) (hc : n ≤ c) (hb : bytesB l = true) (h4 : n = 4) :
    Calls Try.prog 39 #[.slice A n c] w fun e w' => e = .returned (.int .u32 (fromLowI l)) ∧ Drawn0 w w' := by
  have hn : l.length = n := hr.1
  subst hn
  refine pqxxhash_u32.calls A c l _ w hr hc ?_
  unfold pqxxhash_u32.f pqxxhash_leUint32.f
  rw [if_pos ⟨by omega, hb⟩]
  have := fromLowI_four hb (by omega)
  rw [List.take_of_length_le (by omega)] at this
  rw [this]; rfl
theorem u8inf : ∃ i, Try.prog.info? 5 = some i ∧ i.size = 1 := by
  obtain ⟨i, h, h2⟩ := Option.map_eq_some_iff.1 (show (Try.prog.info? 5).map (fun i => i.size) = some 1 by kernel_rfl)
  exact ⟨i, h, h2⟩
set_option maxHeartbeats 8000000 in
set_option maxRecDepth 100000 in
theorem sum64_calls0 (A0 : Option Addr) (c0 : Nat) (l0 : List Int) (w : World) (hr : (Kd.int IntKind.u8).C w A0 l0.length l0) (hc : l0.length ≤ c0) (hb : bytesB l0 = true) (hbig : l0.length ≤ 140737488355328) :
    Calls Try.prog 23 #[.slice A0 l0.length c0] w fun e w' => e = .returned (.int .u64 (xxI l0)) ∧ Drawn0 w w' := by
  have HS : SlB w (.slice A0 l0.length c0) l0 := ⟨A0, _, c0, rfl, rfl, hc, by omega, hr⟩
  have HY0 := Aside0.mk hb
  clear hr hc hb
  obtain ⟨i8, hi8, hs8⟩ := u8inf
  go_enter Try.func23, Try.ntmps23
  go_upto_if 15 with (fail)
  go_cut [0, 4] (fun v0 v4 wx => ∃ (h : Int) (l : List Int), v4 = .int .u64 h ∧ SlB w v0 l ∧ Aside0 (restI h l0.length l = xxI l0) ∧ Aside0 (bytesB l = true) ∧ Aside0 (l.length ≤ 140737488355328) ∧ Aside0 (Drawn0 w wx))
  case first =>
    by_cases c32 : 32 ≤ l0.length
    · have c1 : decide (32 ≤ (l0.length : Int)) = true := decide_eq_true (by omega)
      rw [c1]
      go_wp2_with (fail)
      go_loopg [0, 5, 6, 7, 8] l0.length (fun kq v0 v5 v6 v7 v8 w' => ∃ (a b c d : Int) (l : List Int), v5 = .int .u64 a ∧ v6 = .int .u64 b ∧ v7 = .int .u64 c ∧ v8 = .int .u64 d ∧ SlB w v0 l ∧ Aside0 (str32 a b c d l (finK l0.length) = xxI l0) ∧ Aside0 (bytesB l = true) ∧ Aside0 (l.length ≤ 140737488355328) ∧ Aside0 (Below w.heap.size w w') ∧ Aside0 (Drawn0 w w') ∧ Aside0 (l.length ≤ kq))
      case atStart =>
        refine ⟨_, _, _, _, l0, rfl, rfl, rfl, rfl, HS, ⟨?_⟩, HY0, ⟨hbig⟩, ⟨Below.refl _ _⟩, ⟨Drawn0.refl _⟩, ⟨Nat.le_refl _⟩⟩
        unfold xxI; rw [if_pos c32]; rfl
      case round =>
        clear HS
        obtain ⟨a, b, c', d, l, rfl, rfl, rfl, rfl, ⟨A, n, c, rfl, hn, hc, hm, hC⟩, HR, HY, HBIG, HB, HD, HK⟩ := hrel
        have HN := Aside0.mk hn
        have HCA := Aside0.mk hC
        have hnb : n ≤ 140737488355328 := by have := HBIG.out; omega
        clear hn hC
        by_cases c32' : 32 ≤ n
        · have cb : decide (32 ≤ (n : Int)) = true := decide_eq_true (by omega)
          obtain ⟨A32, cut32, hC32⟩ := cutMid3 (P := Try.prog) 26 5 Try.underlying26 hi8 hs8 A n c .i64 .i64 .i64 32 n n 32 n n rfl rfl rfl c32' (by omega) (by omega) hc hc
          have hq := hC32 _ _ _ rfl HCA.out
          rw [List.take_of_length_le (show l.length ≤ n by rw [HN.out]; exact Nat.le_refl _)] at hq
          have HC32 := Aside0.mk hq
          have hR := HR.out
          rw [str32_ge (by rw [HN.out]; exact c32')] at hR
          have HR2 := Aside0.mk hR
          clear hC32 hq hR HR
          obtain ⟨A0, cut0, hC0⟩ := cutMid3 (P := Try.prog) 26 5 Try.underlying26 hi8 hs8 A n c .i64 .i64 .i64 0 8 n 0 8 n rfl rfl rfl (by omega) (by omega) (by omega) hc hc
          have HC0 := Aside0.mk (hC0 _ _ _ rfl HCA.out)
          have B0 := Aside0.mk (bytesB_drop (bytesB_take HY.out 8) 0)
          clear hC0
          obtain ⟨A1, cut1, hC1⟩ := cutMid3 (P := Try.prog) 26 5 Try.underlying26 hi8 hs8 A n c .i64 .i64 .i64 8 16 n 8 16 n rfl rfl rfl (by omega) (by omega) (by omega) hc hc
          have HC1 := Aside0.mk (hC1 _ _ _ rfl HCA.out)
          have B1 := Aside0.mk (bytesB_drop (bytesB_take HY.out 16) 8)
          clear hC1
          obtain ⟨A2, cut2, hC2⟩ := cutMid3 (P := Try.prog) 26 5 Try.underlying26 hi8 hs8 A n c .i64 .i64 .i64 16 24 n 16 24 n rfl rfl rfl (by omega) (by omega) (by omega) hc hc
          have HC2 := Aside0.mk (hC2 _ _ _ rfl HCA.out)
          have B2 := Aside0.mk (bytesB_drop (bytesB_take HY.out 24) 16)
          clear hC2
          obtain ⟨A3, cut3, hC3⟩ := cutMid3 (P := Try.prog) 26 5 Try.underlying26 hi8 hs8 A n c .i64 .i64 .i64 24 32 n 24 32 n rfl rfl rfl (by omega) (by omega) (by omega) hc hc
          have HC3 := Aside0.mk (hC3 _ _ _ rfl HCA.out)
          have B3 := Aside0.mk (bytesB_drop (bytesB_take HY.out 32) 24)
          clear hC3
          obtain ⟨c0z, hc0z⟩ : ∃ x, x = n - 0 := ⟨_, rfl⟩
          rw [← hc0z] at cut0
          have C0 := Aside0.mk (show 8 - 0 ≤ c0z by omega)
          clear hc0z
          obtain ⟨c1z, hc1z⟩ : ∃ x, x = n - 8 := ⟨_, rfl⟩
          rw [← hc1z] at cut1
          have C1 := Aside0.mk (show 16 - 8 ≤ c1z by omega)
          clear hc1z
          obtain ⟨c2z, hc2z⟩ : ∃ x, x = n - 16 := ⟨_, rfl⟩
          rw [← hc2z] at cut2
          have C2 := Aside0.mk (show 24 - 16 ≤ c2z by omega)
          clear hc2z
          obtain ⟨c3z, hc3z⟩ : ∃ x, x = n - 24 := ⟨_, rfl⟩
          rw [← hc3z] at cut3
          have C3 := Aside0.mk (show 32 - 24 ≤ c3z by omega)
          clear hc3z
          go_wp2_with (first
            | (go_at_call_of 33 (Value.slice A0 8 c0z); (with_reducible refine (u64N_calls A0 _ _ ((l.take 8).drop 0) _ ?_ ?_ B0.out ?_).mono ?_); (case refine_1 => exact Kd.C_below HC0.out (by repeat (first | (with_reducible first | exact HB.out | apply pw_below_drewN) | exact HB.out))); (case refine_2 => exact C0.out); (case refine_3 => rfl); rintro e w' ⟨rfl, ⟨nd, rfl⟩⟩)
            | (go_at_call_of 33 (Value.slice A1 8 c1z); (with_reducible refine (u64N_calls A1 _ _ ((l.take 16).drop 8) _ ?_ ?_ B1.out ?_).mono ?_); (case refine_1 => exact Kd.C_below HC1.out (by repeat (first | (with_reducible first | exact HB.out | apply pw_below_drewN) | exact HB.out))); (case refine_2 => exact C1.out); (case refine_3 => rfl); rintro e w' ⟨rfl, ⟨nd, rfl⟩⟩)
            | (go_at_call_of 33 (Value.slice A2 8 c2z); (with_reducible refine (u64N_calls A2 _ _ ((l.take 24).drop 16) _ ?_ ?_ B2.out ?_).mono ?_); (case refine_1 => exact Kd.C_below HC2.out (by repeat (first | (with_reducible first | exact HB.out | apply pw_below_drewN) | exact HB.out))); (case refine_2 => exact C2.out); (case refine_3 => rfl); rintro e w' ⟨rfl, ⟨nd, rfl⟩⟩)
            | (go_at_call_of 33 (Value.slice A3 8 c3z); (with_reducible refine (u64N_calls A3 _ _ ((l.take 32).drop 24) _ ?_ ?_ B3.out ?_).mono ?_); (case refine_1 => exact Kd.C_below HC3.out (by repeat (first | (with_reducible first | exact HB.out | apply pw_below_drewN) | exact HB.out))); (case refine_2 => exact C3.out); (case refine_3 => rfl); rintro e w' ⟨rfl, ⟨nd, rfl⟩⟩)
            | (go_at_call 31; (with_reducible refine (pround_calls _ _ _).mono ?_); rintro e w' ⟨rfl, ⟨nd, rfl⟩⟩))
          go_roundg (gk - 1)
          case measure => have := HK.out; have := HN.out; omega
          case rel =>
            refine ⟨_, _, _, _, l.drop 32, rfl, rfl, rfl, rfl, ⟨A32, n - 32, n - 32, rfl, by rw [List.length_drop, HN.out], Nat.le_refl _, by omega, HC32.out⟩, HR2, ⟨bytesB_drop HY.out 32⟩, ⟨by rw [List.length_drop]; have := HBIG.out; omega⟩, ⟨by repeat (first | (with_reducible first | exact HB.out | apply pw_below_drewN) | exact HB.out)⟩, ⟨by repeat (first | exact HD.out | apply Drawn0.step)⟩, ⟨by rw [List.length_drop]; have := HK.out; have := HN.out; omega⟩⟩
        · have cb : decide (32 ≤ (n : Int)) = false := decide_eq_false (by omega)
          go_wp2_with (first
            | (go_at_call 34; (with_reducible refine (rol1_calls _ _).mono ?_); rintro e w' ⟨rfl, ⟨nd, rfl⟩⟩)
            | (go_at_call 35; (with_reducible refine (rol7_calls _ _).mono ?_); rintro e w' ⟨rfl, ⟨nd, rfl⟩⟩)
            | (go_at_call 36; (with_reducible refine (rol12_calls _ _).mono ?_); rintro e w' ⟨rfl, ⟨nd, rfl⟩⟩)
            | (go_at_call 37; (with_reducible refine (rol18_calls _ _).mono ?_); rintro e w' ⟨rfl, ⟨nd, rfl⟩⟩)
            | (go_at_call 38; (with_reducible refine (pmerge_calls _ _ _).mono ?_); rintro e w' ⟨rfl, ⟨nd, rfl⟩⟩))
          go_meet
          have hR := HR.out
          rw [str32_lt (by rw [HN.out]; exact c32')] at hR
          exact ⟨_, l, rfl, ⟨A, n, c, rfl, HN.out, by omega, by omega, HCA.out⟩, ⟨hR⟩, HY, HBIG, ⟨by repeat (first | exact HD.out | apply Drawn0.step)⟩⟩
    · have c1 : decide (32 ≤ (l0.length : Int)) = false := decide_eq_false (by omega)
      go_wp2_with (fail)
      go_meet
      refine ⟨_, l0, rfl, HS, ⟨?_⟩, HY0, ⟨hbig⟩, ⟨Drawn0.refl _⟩⟩
      unfold restI xxI; rw [if_neg (by omega)]
  case rest =>
    clear HS HY0
    obtain ⟨h, l, rfl, ⟨A, n, c, rfl, hn, hc, hm, hC⟩, HR, HY, HBIG, HD⟩ := hcut
    have HN := Aside0.mk hn
    have HCA := Aside0.mk hC
    have hnb : n ≤ 140737488355328 := by have := HBIG.out; omega
    clear hn hC
    go_wp2_with (fail)
    go_loopg [4, 9, 11] n (fun kq v4 v9 v11 w' => ∃ (h : Int) (i : Nat), v4 = .int .u64 h ∧ v9 = .int .i64 i ∧ i ≤ n ∧ Aside0 (tail8 h (l.drop i) = xxI l0) ∧ Aside0 (Drawn0 w w') ∧ Aside0 (n - i ≤ kq))
    case atStart => exact ⟨_, 0, rfl, rfl, Nat.zero_le _, HR, HD, ⟨by omega⟩⟩
    case round =>
      clear HR HD
      obtain ⟨h, i, rfl, rfl, hi, HR, HD, HK⟩ := hrel
      have hld : (l.drop i).length = n - i := by rw [List.length_drop, HN.out]
      by_cases c8 : i + 8 ≤ n
      · have cb : decide ((i : Int) + 8 ≤ (n : Int)) = true := decide_eq_true (by omega)
        obtain ⟨Ai, cuti, hCi⟩ := cutMid3 (P := Try.prog) 26 5 Try.underlying26 hi8 hs8 A n c .i64 .i64 .i64 i ((i : Int) + 8) n i (i + 8) n rfl (by omega) rfl (by omega) c8 (by omega) hc hc
        have h88 : i + 8 - i = 8 := by omega
        have hq := hCi _ _ _ rfl HCA.out
        rw [h88] at cuti hq
        have HCi := Aside0.mk hq
        have Bi := Aside0.mk (bytesB_drop (bytesB_take HY.out (i + 8)) i)
        obtain ⟨ci, hci⟩ : ∃ x, x = n - i := ⟨_, rfl⟩
        rw [← hci] at cuti
        have CI := Aside0.mk (show 8 ≤ ci by omega)
        have hR := HR.out
        rw [tail8_ge (by rw [hld]; omega)] at hR
        have HR2 := Aside0.mk hR
        have hcc : (0 : Int) ≤ i := by omega
        clear hCi hq hR HR hci h88 hld
        go_wp2_with (first
          | (go_at_call 33; (with_reducible refine (u64N_calls Ai _ _ ((l.take (i + 8)).drop i) _ ?_ ?_ Bi.out ?_).mono ?_); (case refine_1 => exact Kd.C_below HCi.out (by exact (HD.out).below)); (case refine_2 => exact CI.out); (case refine_3 => rfl); rintro e w' ⟨rfl, ⟨nd, rfl⟩⟩)
          | (go_at_call 31; (with_reducible refine (pround_calls _ _ _).mono ?_); rintro e w' ⟨rfl, ⟨nd, rfl⟩⟩)
          | (go_at_call 32; (with_reducible refine (rol27_calls _ _).mono ?_); rintro e w' ⟨rfl, ⟨nd, rfl⟩⟩))
        go_roundg (gk - 1)
        case measure => have := HK.out; omega
        case rel =>
          refine ⟨_, i + 8, rfl, by go_num, by omega, ⟨?_⟩, ⟨by repeat (first | exact HD.out | apply Drawn0.step)⟩, ⟨by have := HK.out; omega⟩⟩
          have hR := HR2.out
          rw [List.take_drop, List.drop_drop] at hR
          exact hR
      · have cb : decide ((i : Int) + 8 ≤ (n : Int)) = false := decide_eq_false (by omega)
        have hR := HR.out
        rw [tail8_lt (by rw [hld]; omega)] at hR
        have HR4 := Aside0.mk hR
        clear hR HR
        go_upto_if 107 with (fail)
        go_cut [4, 9] (fun v4 v9 wx => ∃ (h : Int) (i : Nat), v4 = .int .u64 h ∧ v9 = .int .i64 i ∧ i ≤ n ∧ Aside0 (tail1 h (l.drop i) = xxI l0) ∧ Aside0 (Drawn0 w wx))
        case first =>
          by_cases c4 : i + 4 ≤ n
          · have cb4 : decide ((i : Int) + 4 ≤ (n : Int)) = true := decide_eq_true (by omega)
            obtain ⟨Ai, cuti, hCi⟩ := cutMid3 (P := Try.prog) 26 5 Try.underlying26 hi8 hs8 A n c .i64 .i64 .i64 i ((i : Int) + 4) n i (i + 4) n rfl (by omega) rfl (by omega) c4 (by omega) hc hc
            have h44 : i + 4 - i = 4 := by omega
            have hq := hCi _ _ _ rfl HCA.out
            rw [h44] at cuti hq
            have HCi := Aside0.mk hq
            have Bi := Aside0.mk (bytesB_drop (bytesB_take HY.out (i + 4)) i)
            obtain ⟨v0, v1⟩ := fromLowI_bd _ Bi.out (by rw [List.length_drop, List.length_take]; omega)
            have hl4 : ((l.take (i + 4)).drop i).length = 4 := by rw [List.length_drop, List.length_take, HN.out]; omega
            rw [hl4] at v1
            have HV := Aside0.mk (IntWalk.u64_in (fromLowI ((l.take (i + 4)).drop i)) (by omega))
            obtain ⟨ci, hci⟩ : ∃ x, x = n - i := ⟨_, rfl⟩
            rw [← hci] at cuti
            have CI := Aside0.mk (show 4 ≤ ci by omega)
            clear hCi hq hci h44 v0 v1 hl4
            go_wp2_with (first
              | (go_at_call 39; (with_reducible refine (u32N_calls Ai _ _ ((l.take (i + 4)).drop i) _ ?_ ?_ Bi.out ?_).mono ?_); (case refine_1 => exact Kd.C_below HCi.out (by exact (HD.out).below)); (case refine_2 => exact CI.out); (case refine_3 => rfl); rintro e w' ⟨rfl, ⟨nd, rfl⟩⟩)
              | (go_at_call 30; (with_reducible refine (rol23_calls _ _).mono ?_); rintro e w' ⟨rfl, ⟨nd, rfl⟩⟩))
            go_meet
            refine ⟨_, i + 4, rfl, by go_num, by omega, ⟨?_⟩, ⟨by repeat (first | exact HD.out | apply Drawn0.step)⟩⟩
            have hR := HR4.out
            unfold tail4 at hR
            rw [if_pos (by rw [hld]; omega), List.take_drop, List.drop_drop] at hR
            have hV := HV.out
            rw [← hR]
            unfold fourI
            rw [hV]
          · have cb4 : decide ((i : Int) + 4 ≤ (n : Int)) = false := decide_eq_false (by omega)
            go_wp2_with (fail)
            go_meet
            have hR := HR4.out
            unfold tail4 at hR
            rw [if_neg (by rw [hld]; omega)] at hR
            exact ⟨_, i, rfl, rfl, hi, ⟨hR⟩, HD⟩
        case rest =>
          clear HR4 HD hld cb c8 hi
          obtain ⟨h, i, rfl, rfl, hi, HR, HD⟩ := hcut
          go_wp2_with (fail)
          go_loopg [4, 9] n (fun kq v4 v9 w' => ∃ (h : Int) (i : Nat), v4 = .int .u64 h ∧ v9 = .int .i64 i ∧ i ≤ n ∧ Aside0 (tail1 h (l.drop i) = xxI l0) ∧ Aside0 (Drawn0 w w') ∧ Aside0 (n - i ≤ kq))
          case atStart => exact ⟨h, i, rfl, rfl, hi, HR, HD, ⟨by omega⟩⟩
          case round =>
            clear HR HD
            obtain ⟨h, i, rfl, rfl, hi, HR, HD, HK⟩ := hrel
            by_cases ck : i < n
            · have ckb : decide ((i : Int) < (n : Int)) = true := decide_eq_true (by omega)
              obtain ⟨ad, rfl, x0⟩ := Kd.at_int (Kd.C_below HCA.out HD.out.below) i (by omega) (by omega)
              rw [Int.toNat_natCast] at x0
              go_wp2_with (first
                | (go_at_call 29; (with_reducible refine (rol11_calls _ _).mono ?_); rintro e w' ⟨rfl, ⟨nd, rfl⟩⟩))
              go_roundg (gk - 1)
              case measure => have := HK.out; omega
              case rel =>
                refine ⟨_, i + 1, rfl, by go_num, by omega, ⟨?_⟩, ⟨by repeat (first | exact HD.out | apply Drawn0.step)⟩, ⟨by have := HK.out; omega⟩⟩
                have hR := HR.out
                rw [drop_cons l i (by rw [HN.out]; exact ck)] at hR
                exact hR
            · have ckb : decide ((i : Int) < (n : Int)) = false := decide_eq_false (by omega)
              go_wp2_with (first
                | (go_at_call 28; (with_reducible refine (pava_calls _ _).mono ?_); rintro e w' ⟨rfl, ⟨nd, rfl⟩⟩))
              go_ret
              have hR := HR.out
              rw [List.drop_of_length_le (by rw [HN.out]; omega)] at hR
              exact ⟨congrArg (fun x => Ending.returned (Value.int .u64 x)) hR, by repeat (first | exact HD.out | apply Drawn0.step)⟩
theorem pqxxhash_Sum64.calls (A0 : Option Addr) (c0 : Nat) (l0 : List Int) (r : Int) (w : World) (hr0 : Kd.C (Kd.int .u8) w A0 l0.length l0) (hc0 : l0.length ≤ c0) (h : pqxxhash_Sum64.f l0 = some r) :
    Calls Try.prog 23 #[.slice A0 l0.length c0] w fun e w' => e = .returned (.int .u64 r) ∧ Drawn0 w w' := by
  unfold pqxxhash_Sum64.f at h
  split at h
  · rename_i hb
    obtain rfl := Option.some.inj h
    exact sum64_calls0 A0 c0 l0 w hr0 hc0 hb.1 hb.2
  · cases h


/-! ### impl_Hash64: function 13 -/
def impl_Hash64.f (l0 : List Int) : Option (Int) := (some (([] : List Int) : List Int)).bind fun y116 => (if y116.length + l0.length < 140737488355328 then ((pqxxhash_Sum64.f (y116 ++ l0)).bind fun t122 => (some t122)) else (none))
set_option maxHeartbeats 8000000 in
set_option maxRecDepth 100000 in
theorem impl_Hash64.calls (A0 : Option Addr) (c0 : Nat) (l0 : List Int) (r : Int) (w : World) (hr0 : Kd.C (Kd.int .u8) w A0 l0.length l0) (hc0 : l0.length ≤ c0) (h : impl_Hash64.f l0 = some r) :
    Calls Try.prog 13 #[.slice A0 l0.length c0] w fun e w' => e = .returned (.int .u64 r) ∧ Below w.heap.size w w' := by
  have HR0 := Aside0.mk hr0
  have HC0 := Aside0.mk hc0
  clear hr0 hc0
  have HB := Aside0.mk (Below.refl w.heap.size w)
  have H : ((some (([] : List Int) : List Int)).bind fun y116 => (if y116.length + l0.length < 140737488355328 then ((pqxxhash_Sum64.f (y116 ++ l0)).bind fun t122 => (some t122)) else (none))) = some r := h
  clear h
  obtain ⟨y116, hy116⟩ : ∃ y_ : List Int, y_ = (([] : List Int)) := ⟨_, rfl⟩
  replace H : (if y116.length + l0.length < 140737488355328 then ((pqxxhash_Sum64.f (y116 ++ l0)).bind fun t122 => (some t122)) else (none)) = some r := by first | (rw [hy116]; with_reducible exact H) | (have H2_ := (Option.bind_some _ _).symm.trans H; rw [hy116]; with_reducible exact H2_) | (have H2_ := (Option.bind_some _ _).symm.trans H; with_reducible exact H2_) | with_reducible exact H | (rw [hy116]; exact H) | exact H
  have Ny116 := Aside0.mk hy116
  clear hy116
  by_cases c2 : y116.length + l0.length < 140737488355328
  · rw [if_pos c2] at H
    have LMc2 := Aside0.mk c2
    clear c2
    obtain ⟨y119, hy119⟩ : ∃ y_ : List Int, y_ = (y116 ++ l0) := ⟨_, rfl⟩
    replace H : ((pqxxhash_Sum64.f y119).bind fun t122 => (some t122)) = some r := by first | (rw [hy119]; with_reducible exact H) | (have H2_ := (Option.bind_some _ _).symm.trans H; rw [hy119]; with_reducible exact H2_) | (have H2_ := (Option.bind_some _ _).symm.trans H; with_reducible exact H2_) | with_reducible exact H | (rw [hy119]; exact H) | exact H
    have Ny119 := Aside0.mk hy119
    clear hy119
    replace H := Option.bind_eq_some_iff.mp H
    obtain ⟨t122, A30, H⟩ := H
    replace H : (some t122) = some r := H
    have A3 := Aside0.mk A30
    clear A30
    obtain rfl := Option.some.inj H
    go_enter Try.func13, Try.ntmps13
    go_wp2_with (first | ((with_reducible refine gate_dst (N := 3) rfl ?_); refine Kd.R_lit (Kd.int .u8) _ 5 ?hg (N := 3) ?hd (xs := ([] : List Int)) (inner := []) (ok := fun _ => True) (okp := fun _ => True) ?hr ?hp (fun _ hk => hk) trivial (Below.refl _ _) (Nat.le_refl _) (by simp) ?_; (case hd => rfl); (case hg => rfl); (case hr => first | (go_simp; done) | (go_simp; rfl)); (case hp => exact (Reps.none _ _)); intro v117 w4 ho5 hb hg_ hnew_; clear hg_ hnew_; (first | rw [← Ny116.out] at ho5 | (simp only [Int.reduceToNat] at ho5; rw [← Ny116.out] at ho5)); have n0_ := Aside0.mk (Kd.R_lower ho5 (below_size (by repeat (first | (with_reducible first | exact HB.out | apply below_alloc | apply pw_below_drewN | apply below_drew1) | exact HB.out)))); have n1_ := Aside0.mk (below_step (by repeat (first | (with_reducible first | exact HB.out | apply below_alloc | apply pw_below_drewN | apply below_drew1) | exact HB.out)) hb); clear HB; have HO118 := n0_; have HB := n1_; clear n0_ n1_; clear hb ho5) | ((with_reducible refine gate_builtin (b := .append) (xs := #[.tmp 3, .tmp 4]) rfl ?_); at_builtin; refine Kd.R_append_rows (Kd.int .u8) (w0 := w) w.heap.size rfl (.tmp 3) (.tmp 4) 26 5 (.int .u8 0) 1 rfl Try.underlying26 info5 rfl (by decide) (by omega) v117 y116 l0 _ _ _ (fun _ => True) (fun _ => False) rfl rfl ?aO ?aR (fun _ _ h => h) (fun _ h => h.elim) ?aF ?aB ?aS ?aL ?_; (case aR => repeat (first | exact (Kd.C_below HR0.out HB.out) | (with_reducible refine Kd.C_alloc ?_ _) | (with_reducible refine Kd.C_drewN ?_ _) | (with_reducible refine Kd.C_drew ?_))); (case aB => exact (by repeat (first | (with_reducible first | exact HB.out | apply below_alloc | apply pw_below_drewN | apply below_drew1) | exact HB.out))); (case aF => exact (fun _ _ => trivial)); (case aO => exact (by (with_reducible repeat (first | apply Kd.R_alloc | apply Kd.R_drewN | apply Kd.R_drew)); exact HO118.out)); (case aS => exact (below_size (by repeat (first | (with_reducible first | exact HB.out | apply below_alloc | apply pw_below_drewN | apply below_drew1) | exact HB.out)))); (case aL => have := LMc2.out; omega); intro v120 w6 ho hb hg hat; rw [← Ny119.out] at ho; have n0_ := Aside0.mk (hb); have n1_ := Aside0.mk (ho); clear HB; clear HO118; have HB := n0_; have HO121 := n1_; clear n0_ n1_; clear ho hb hg hat; obtain ⟨Ao7, co7, eo7⟩ := Kd.R_slice HO121.out; subst eo7) | ((with_reducible refine gate_callee (f := 23) rfl ?_); refine goesL_ (some 6) rfl rfl Try.func23 (by kernel_rfl) rfl #[.slice Ao7 y119.length co7] rfl (by (try simp only [List.map_toArray, List.map_cons, List.map_nil]); first | done | rfl | (simp only [List.length_drop, List.length_take]; rfl)) ?_; (with_reducible refine (pqxxhash_Sum64.calls _ _ y119 t122 _ ?side1 ?side2 A3.out).mono ?_); (case side1 => repeat (first | exact (Kd.R_reads' HO121.out).2.2 | (with_reducible refine Kd.C_alloc ?_ _) | (with_reducible refine Kd.C_drewN ?_ _) | (with_reducible refine Kd.C_drew ?_))); (case side2 => exact (Kd.R_reads' HO121.out).2.1); rintro e w' ⟨rfl, ⟨nd, rfl⟩⟩; refine ⟨_, rfl, ?_⟩))
    go_ret
    exact ⟨by first | rfl | (simp [errW_none, errW_some] <;> rfl) | (simp [*, errW_none, errW_some] <;> rfl), by repeat (first | (with_reducible first | exact HB.out | apply below_alloc | apply pw_below_drewN | apply below_drew1) | exact HB.out)⟩
  · rw [if_neg c2] at H
    exact absurd H (by simp)

/-! ### laws_FnHash: function 5, by hand -/
/-- one slice in a new box, as a list of one list -/
theorem boxC {W : World} {A : Option Addr} {c : Nat} {l : List Int} (hC : (Kd.int .u8).C W A l.length l) (hc : l.length ≤ c) (t : TypeId) :
    (Kd.slice 5 (Kd.int .u8)).C (W.alloc (.cells #[.slice A l.length c] t)) (some ⟨W.heap.size, 0, none⟩) 1 [l] := by
  refine ⟨rfl, by omega, fun _ => ⟨_, rfl, fun j p hj => ?_⟩⟩
  have hj0 : j = 0 := by
    have := (List.getElem?_eq_some_iff.1 hj).1
    simp at this; exact this
  subst hj0
  have hp : l = p := by simpa using hj
  subst hp
  refine ⟨[.slice A l.length c], rfl, ⟨A, c, rfl, hc, Kd.C_alloc hC _⟩, fun i u hu => ?_⟩
  have hi : i = 0 := by
    have := (List.getElem?_eq_some_iff.1 hu).1
    simp at this; exact this
  subst hi
  have hu' : Value.slice A l.length c = u := by simpa using hu
  subst hu'
  show (W.alloc (.cells #[.slice A l.length c] t)).cell? ⟨W.heap.size, 0, none⟩ = _
  exact (Blk.new W #[.slice A l.length c] t).cell rfl
theorem short_one (l : List Int) (hl : l.length ≤ 2147483647) : spec_Short.f 3 [l] = some (decide (l.length < 100000)) := by
  unfold spec_Short.f
  have e : rd_L1 [l] 0 = l := rfl
  simp only [spec_Short.l0]
  rw [if_pos (by simp), if_pos (by simp), if_pos (by simp), e]
  by_cases h : l.length < 100000
  · rw [if_neg (by omega)]
    have hw : wrap64 (((([l] : List (List Int)).length : Nat) : Int) + (l.length : Int)) = 1 + l.length := by
      rw [IntWalk.wrap64_in _ (by simp; omega)]; simp
    rw [hw, if_neg (by omega), IntWalk.wrap64_in _ (by omega), if_neg (by simp)]
    simp [h]; omega
  · by_cases h2 : (l.length : Int) > 100000
    · rw [if_pos h2]; simp [h]
    · rw [if_neg h2]
      have hw : wrap64 (((([l] : List (List Int)).length : Nat) : Int) + (l.length : Int)) = 1 + l.length := by
        rw [IntWalk.wrap64_in _ (by simp; omega)]; simp
      rw [hw, if_pos (by omega)]; simp [h]
theorem short_box (W : World) (A : Option Addr) (c : Nat) (l : List Int) (hC : (Kd.int .u8).C W A l.length l) (hc : l.length ≤ c) (hl : l.length ≤ 2147483647) (t : TypeId) (b : Bool) (hb : decide (l.length < 100000) = b) :
    Calls Try.prog 12 #[.slice (some ⟨W.heap.size, 0, none⟩) 1 1] (W.alloc (.cells #[.slice A l.length c] t)) fun e w' => e = .returned (.bool b) ∧ Drawn0 (W.alloc (.cells #[.slice A l.length c] t)) w' := by
  subst hb
  exact spec_Short.calls 3 _ 1 [l] _ _ (boxC hC hc t) (Nat.le_refl _) (short_one l hl)
def laws_FnHash.Pure : Prop := True
set_option maxHeartbeats 2000000 in
theorem laws_FnHash.walk (P : laws_FnHash.Pure) (a0 : Option Addr) (len0 cap0 : Nat) (z0 : List Int) (w : World) (w0 : (a0 = none ∧ len0 = 0 ∧ cap0 = 0 ∧ z0 = []) ∨ ∃ x, a0 = some x ∧ len0 ≤ cap0 ∧ cap0 ≤ maxLen ∧ z0.length = cap0 ∧ (∀ i, i < z0.length → w.cell? (x.add i) = some (.int .u8 (z0.getD i 0))) ∧ ∀ n ∈ z0, (Lit.int .u8 n).wf = true) (y0 : len0 * 1 ≤ 140737488351232) :
    Calls Try.prog 5 #[.slice a0 len0 cap0] w fun e w' => e = .returned (.bool true) ∧ Below w.heap.size w w' := by
  obtain ⟨l, rfl, hr1, hm1, hw1, hc1⟩ := ReadsInt.ofRowC w0
  have hC := Kd.C_of_reads (d := (0 : Int)) (h1 := fun _ => rfl) hr1
  have hb : bytesB l = true := bytesB_of fun x hx => byt_of_wf (hw1 x hx)
  have HC : Aside0 ((Kd.int .u8).C w a0 l.length l) := ⟨hC⟩
  have HBY := Aside0.mk hb
  clear w0 hr1 hm1 hw1 hb hC P
  by_cases h1 : 2147483647 < l.length
  · have q1 : decide (2147483647 < (l.length : Int)) = true := decide_eq_true (by omega)
    go_enter Try.func5, Try.ntmps5
    go_wp2
    go_ret
    exact ⟨rfl, Below.refl _ _⟩
  · have q1 : decide (2147483647 < (l.length : Int)) = false := decide_eq_false (by omega)
    have q2 : l.length ≤ 2147483647 := by omega
    by_cases h2 : l.length < 100000
    · have HD := Aside0.mk (decide_eq_true h2)
      have hash : ∀ W, Below w.heap.size w W → Calls Try.prog 13 #[.slice a0 l.length cap0] W fun e w' => e = .returned (.int .u64 (xxI l)) ∧ Below W.heap.size W w' := fun W hW => by
        refine impl_Hash64.calls a0 cap0 l _ W (Kd.C_below HC.out hW) hc1 ?_
        unfold impl_Hash64.f
        simp only [Option.bind_some, List.nil_append, List.length_nil, Nat.zero_add]
        rw [if_pos (by omega)]
        unfold pqxxhash_Sum64.f
        rw [if_pos ⟨HBY.out, by omega⟩]
        rfl
      have HH := Aside0.mk hash
      have hxx : ∀ W, Below w.heap.size w W → Calls Try.prog 11 #[.slice a0 l.length cap0] W fun e w' => e = .returned (.int .u64 (xxI l)) ∧ Below W.heap.size W w' := fun W hW => spec_XX.calls a0 cap0 l _ W (Kd.C_below HC.out hW) hc1 rfl
      have HX := Aside0.mk hxx
      clear hash hxx h2
      have hbox : Aside0 (Below w.heap.size w (w.alloc (.cells #[.slice a0 l.length cap0] 26))) := ⟨(Below.refl _ _).alloc (Nat.le_refl _) _⟩
      go_enter Try.func5, Try.ntmps5
      go_wp2_with (first
        | (go_at_call 12; (with_reducible refine (short_box w a0 cap0 l HC.out hc1 q2 26 true HD.out).mono ?_); rintro e w' ⟨rfl, ⟨nd, rfl⟩⟩)
        | (go_at_call 13; (with_reducible refine (HH.out _ ?_).mono ?_); (case refine_1 => exact pw_below_drewN hbox.out _); rintro e w' ⟨rfl, hb⟩; have HB1 := Aside0.mk ((pw_below_drewN hbox.out nd).trans (hb.mono (by simp))); clear hb)
        | (go_at_call 11; (with_reducible refine (HX.out _ HB1.out).mono ?_); rintro e w' ⟨rfl, hb⟩; have HB2 := Aside0.mk (HB1.out.trans (hb.mono HB1.out.size)); clear hb))
      go_ret
      exact ⟨by first | rfl | simp, HB2.out⟩
    · have HD := Aside0.mk (decide_eq_false h2)
      clear h2
      have hbox : Aside0 (Below w.heap.size w (w.alloc (.cells #[.slice a0 l.length cap0] 26))) := ⟨(Below.refl _ _).alloc (Nat.le_refl _) _⟩
      go_enter Try.func5, Try.ntmps5
      go_wp2_with (first
        | (go_at_call 12; (with_reducible refine (short_box w a0 cap0 l HC.out hc1 q2 26 false HD.out).mono ?_); rintro e w' ⟨rfl, ⟨nd, rfl⟩⟩))
      go_ret
      exact ⟨by first | rfl | simp, pw_below_drewN hbox.out _⟩


end Go.Proofs.Ytojoppondgnajaa.PFnHash
