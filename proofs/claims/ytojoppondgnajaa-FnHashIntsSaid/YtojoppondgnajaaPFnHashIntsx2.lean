-- Laid by a program of this session over the kit's print (stand-ins: functions proved by hand).
import Derived.Test.YtojoppondgnajaaPFnHashIntsx0
import Derived.Test.YtojoppondgnajaaPFnHashIntsx1
namespace Go.Proofs.Ytojoppondgnajaa.PFnHashInts
open Go.Proofs.Ytojoppondgnajaa.Aid Go.Proofs.Ytojoppondgnajaa.Xx
open Go.RowKit Go.Proofs.YtojoppondgnajaaW.PrintWords Go.Proofs.YtojoppondgnajaaW.PrintLast Go.Proofs.YtojoppondgnajaaW.PrintMore
attribute [local go_sem] max2_int min2_int max_two min_two max_three min_three max_four min_four   -- for this text's walks alone
set_option linter.unusedVariables false
set_option linter.unusedSimpArgs false

/-! ### pqxxhash_MultiSum64Uint8: function 24, by hand -/
set_option maxHeartbeats 2000000 in
theorem pqxxhash_MultiSum64Uint8.calls (s : Int → Int) (hs : ∀ x, pqxxhash_Sum64Uint8.f x = some (s x)) (g cap : Nat) (hs0 : List Int) (A1 : Option Addr) (c1 n : Nat) (vs : List Int) (w : World) (hrow : Row w g 25 .u64 hs0) (hn : hs0.length = n) (hnc : n ≤ cap) (hv : vs.length = n) (hr : ReadKeep w g .u8 A1 n vs) (hc1 : n ≤ c1) :
    Calls Try.prog 24 #[.slice (some ⟨g, 0, none⟩) n cap, .slice A1 n c1] w fun e w' => e = .returned (.int .i64 n) ∧ w.grownBy w' (some g) ∧ Row w' g 25 .u64 (vs.map s) := by
  have hmax : n ≤ 9223372036854775807 := Kd.C_max (hr w (grownRefl w _))
  have HR := Aside0.mk hr
  have HROW := Aside0.mk hrow
  have HN := Aside0.mk (⟨hn, hv⟩ : hs0.length = n ∧ vs.length = n)
  have HS := Aside0.mk hs
  obtain ⟨i8, h8⟩ := Option.map_eq_some_iff.1 (show (Try.prog.info? 5).map (fun i => i.size) = some 1 by kernel_rfl)
  obtain ⟨i64, h64⟩ := Option.map_eq_some_iff.1 (show (Try.prog.info? 25).map (fun i => i.size) = some 1 by kernel_rfl)
  obtain ⟨cut1, _⟩ := cutHi (P := Try.prog) 33 25 Try.underlying33 h64.1 (some ⟨g, 0, none⟩) n cap .i64 n n rfl (by omega) hnc
  obtain ⟨cut2, _⟩ := cutHi (P := Try.prog) 26 5 Try.underlying26 h8.1 A1 n c1 .i64 n n rfl (by omega) hc1
  clear hr hrow hn hv hs h8 h64
  have hmn : (if (n : Int) < (n : Int) then (n : Int) else (n : Int)) = n := by simp
  go_enter Try.func24, Try.ntmps24
  go_wp2_with (fail)
  go_loopg [6, 20] n (fun kq v6 v20 w' => ∃ k : Nat, k ≤ n ∧ v20 = .int .i64 k ∧ Aside0 (Row w' g 25 .u64 ((vs.take k).map s ++ hs0.drop k)) ∧ Aside0 (w.grownBy w' (some g)) ∧ Aside0 (n - k ≤ kq))
  case atStart => exact ⟨0, by omega, rfl, by simpa using HROW, ⟨grownRefl w _⟩, ⟨by omega⟩⟩
  case round =>
    clear HROW
    obtain ⟨k, hk, rfl, HROW, HG, HK⟩ := hrel
    by_cases ck : k < n
    · have ckb : decide ((k : Int) < (n : Int)) = true := decide_eq_true (by omega)
      have ckc : decide (k < n) = true := decide_eq_true ck
      have hl : ((vs.take k).map s ++ hs0.drop k).length = n := by obtain ⟨h1, h2⟩ := HN.out; simp; omega
      obtain ⟨ad, rfl, x0⟩ := Kd.at_int (HR.out _ HG.out) k (by omega) (by omega)
      rw [Int.toNat_natCast] at x0
      obtain ⟨old, y0⟩ : ∃ v, wr.cell? ⟨g, k, none⟩ = some v := ⟨_, HROW.out.cell (by omega)⟩
      have f0 := HROW.out.free k
      clear hl
      go_wp2_with (first
        | (go_at_call 17; (with_reducible refine (pqxxhash_Sum64Uint8.calls _ _ _ (HS.out _)).mono ?_); rintro e w' ⟨rfl, ⟨nd, rfl⟩⟩))
      go_roundg (gk - 1)
      case measure => have := HK.out; omega
      case rel =>
        obtain ⟨h1, h2⟩ := HN.out
        refine ⟨k + 1, by omega, by go_num, ⟨?_⟩, ⟨?_⟩, ⟨by have := HK.out; omega⟩⟩
        · have := (HROW.out.drewN nd).set k (s (rd vs k))
          rw [take_set_drop s vs hs0 k (by omega) (by omega)] at this
          exact this
        · exact grownSet (grownDrewN HG.out nd) k _
    · have ckb : decide ((k : Int) < (n : Int)) = false := decide_eq_false (by omega)
      go_wp2_with (fail)
      go_ret
      obtain ⟨h1, h2⟩ := HN.out
      refine ⟨rfl, HG.out, ?_⟩
      have := HROW.out
      rw [List.take_of_length_le (by omega), List.drop_of_length_le (by omega), List.append_nil] at this
      exact this


/-! ### pqxxhash_Sum64Uint16: function 18 -/
def pqxxhash_Sum64Uint16.f (a0 : Int) : Option (Int) := (pqxxhash_rol11.f (Go.bits .xor .u64 2870177450012600263 (IntKind.u64.wrap ((IntKind.u64.wrap (Go.bits .and .u16 a0 255)) * 2870177450012600261)))).bind fun t111 => ((pqxxhash_rol11.f (Go.bits .xor .u64 (IntKind.u64.wrap (t111 * 11400714785074694791)) (IntKind.u64.wrap ((IntKind.u64.wrap (a0 / 256)) * 2870177450012600261)))).bind fun t112 => ((pqxxhash_avalanche.f (IntKind.u64.wrap (t112 * 11400714785074694791))).bind fun t113 => (some t113)))
set_option maxHeartbeats 8000000 in
set_option maxRecDepth 100000 in
theorem pqxxhash_Sum64Uint16.calls (a0 : Int) (r : Int) (w : World) (h : pqxxhash_Sum64Uint16.f a0 = some r) :
    Calls Try.prog 18 #[.int .u16 a0] w fun e w' => e = .returned (.int .u64 r) ∧ Drawn0 w w' := by
  have H : ((pqxxhash_rol11.f (Go.bits .xor .u64 2870177450012600263 (IntKind.u64.wrap ((IntKind.u64.wrap (Go.bits .and .u16 a0 255)) * 2870177450012600261)))).bind fun t111 => ((pqxxhash_rol11.f (Go.bits .xor .u64 (IntKind.u64.wrap (t111 * 11400714785074694791)) (IntKind.u64.wrap ((IntKind.u64.wrap (a0 / 256)) * 2870177450012600261)))).bind fun t112 => ((pqxxhash_avalanche.f (IntKind.u64.wrap (t112 * 11400714785074694791))).bind fun t113 => (some t113)))) = some r := h
  clear h
  replace H := Option.bind_eq_some_iff.mp H
  obtain ⟨t111, A20, H⟩ := H
  replace H : ((pqxxhash_rol11.f (Go.bits .xor .u64 (IntKind.u64.wrap (t111 * 11400714785074694791)) (IntKind.u64.wrap ((IntKind.u64.wrap (a0 / 256)) * 2870177450012600261)))).bind fun t112 => ((pqxxhash_avalanche.f (IntKind.u64.wrap (t112 * 11400714785074694791))).bind fun t113 => (some t113))) = some r := H
  have A2 := Aside0.mk A20
  clear A20
  replace H := Option.bind_eq_some_iff.mp H
  obtain ⟨t112, A30, H⟩ := H
  replace H : ((pqxxhash_avalanche.f (IntKind.u64.wrap (t112 * 11400714785074694791))).bind fun t113 => (some t113)) = some r := H
  have A3 := Aside0.mk A30
  clear A30
  replace H := Option.bind_eq_some_iff.mp H
  obtain ⟨t113, A40, H⟩ := H
  replace H : (some t113) = some r := H
  have A4 := Aside0.mk A40
  clear A40
  obtain rfl := Option.some.inj H
  go_enter Try.func18, Try.ntmps18
  go_wp2_with (first | ((with_reducible refine gate_callee (f := 29) rfl ?_); refine goesL_ (some 11) rfl rfl Try.func29 (by kernel_rfl) rfl #[.int .u64 (Go.bits .xor .u64 2870177450012600263 (IntKind.u64.wrap ((IntKind.u64.wrap (Go.bits .and .u16 a0 255)) * 2870177450012600261)))] rfl (by (try simp only [List.map_toArray, List.map_cons, List.map_nil]); first | done | rfl | (simp only [List.length_drop, List.length_take]; rfl)) ?_; (with_reducible refine (pqxxhash_rol11.calls (Go.bits .xor .u64 2870177450012600263 (IntKind.u64.wrap ((IntKind.u64.wrap (Go.bits .and .u16 a0 255)) * 2870177450012600261))) t111 _ A2.out).mono ?_); rintro e w' ⟨rfl, ⟨nd, rfl⟩⟩; refine ⟨_, rfl, ?_⟩) | ((with_reducible refine gate_callee (f := 29) rfl ?_); refine goesL_ (some 20) rfl rfl Try.func29 (by kernel_rfl) rfl #[.int .u64 (Go.bits .xor .u64 (IntKind.u64.wrap (t111 * 11400714785074694791)) (IntKind.u64.wrap ((IntKind.u64.wrap (a0 / 256)) * 2870177450012600261)))] rfl (by (try simp only [List.map_toArray, List.map_cons, List.map_nil]); first | done | rfl | (simp only [List.length_drop, List.length_take]; rfl)) ?_; (with_reducible refine (pqxxhash_rol11.calls (Go.bits .xor .u64 (IntKind.u64.wrap (t111 * 11400714785074694791)) (IntKind.u64.wrap ((IntKind.u64.wrap (a0 / 256)) * 2870177450012600261))) t112 _ A3.out).mono ?_); rintro e w' ⟨rfl, ⟨nd, rfl⟩⟩; refine ⟨_, rfl, ?_⟩) | ((with_reducible refine gate_callee (f := 28) rfl ?_); refine goesL_ (some 23) rfl rfl Try.func28 (by kernel_rfl) rfl #[.int .u64 (IntKind.u64.wrap (t112 * 11400714785074694791))] rfl (by (try simp only [List.map_toArray, List.map_cons, List.map_nil]); first | done | rfl | (simp only [List.length_drop, List.length_take]; rfl)) ?_; (with_reducible refine (pqxxhash_avalanche.calls (IntKind.u64.wrap (t112 * 11400714785074694791)) t113 _ A4.out).mono ?_); rintro e w' ⟨rfl, ⟨nd, rfl⟩⟩; refine ⟨_, rfl, ?_⟩))
  go_ret
  exact ⟨by first | rfl | (simp; done) | (simp [*]; done), by repeat (first | exact Drawn0.refl _ | apply Drawn0.step)⟩

/-! ### pqxxhash_MultiSum64Uint16: function 25, by hand -/
set_option maxHeartbeats 2000000 in
theorem pqxxhash_MultiSum64Uint16.calls (s : Int → Int) (hs : ∀ x, pqxxhash_Sum64Uint16.f x = some (s x)) (g cap : Nat) (hs0 : List Int) (A1 : Option Addr) (c1 n : Nat) (vs : List Int) (w : World) (hrow : Row w g 25 .u64 hs0) (hn : hs0.length = n) (hnc : n ≤ cap) (hv : vs.length = n) (hr : ReadKeep w g .u16 A1 n vs) (hc1 : n ≤ c1) :
    Calls Try.prog 25 #[.slice (some ⟨g, 0, none⟩) n cap, .slice A1 n c1] w fun e w' => e = .returned (.int .i64 n) ∧ w.grownBy w' (some g) ∧ Row w' g 25 .u64 (vs.map s) := by
  have hmax : n ≤ 9223372036854775807 := Kd.C_max (hr w (grownRefl w _))
  have HR := Aside0.mk hr
  have HROW := Aside0.mk hrow
  have HN := Aside0.mk (⟨hn, hv⟩ : hs0.length = n ∧ vs.length = n)
  have HS := Aside0.mk hs
  obtain ⟨i8, h8⟩ := Option.map_eq_some_iff.1 (show (Try.prog.info? 39).map (fun i => i.size) = some 1 by kernel_rfl)
  obtain ⟨i64, h64⟩ := Option.map_eq_some_iff.1 (show (Try.prog.info? 25).map (fun i => i.size) = some 1 by kernel_rfl)
  obtain ⟨cut1, _⟩ := cutHi (P := Try.prog) 33 25 Try.underlying33 h64.1 (some ⟨g, 0, none⟩) n cap .i64 n n rfl (by omega) hnc
  obtain ⟨cut2, _⟩ := cutHi (P := Try.prog) 48 39 Try.underlying48 h8.1 A1 n c1 .i64 n n rfl (by omega) hc1
  clear hr hrow hn hv hs h8 h64
  have hmn : (if (n : Int) < (n : Int) then (n : Int) else (n : Int)) = n := by simp
  go_enter Try.func25, Try.ntmps25
  go_wp2_with (fail)
  go_loopg [6, 20] n (fun kq v6 v20 w' => ∃ k : Nat, k ≤ n ∧ v20 = .int .i64 k ∧ Aside0 (Row w' g 25 .u64 ((vs.take k).map s ++ hs0.drop k)) ∧ Aside0 (w.grownBy w' (some g)) ∧ Aside0 (n - k ≤ kq))
  case atStart => exact ⟨0, by omega, rfl, by simpa using HROW, ⟨grownRefl w _⟩, ⟨by omega⟩⟩
  case round =>
    clear HROW
    obtain ⟨k, hk, rfl, HROW, HG, HK⟩ := hrel
    by_cases ck : k < n
    · have ckb : decide ((k : Int) < (n : Int)) = true := decide_eq_true (by omega)
      have ckc : decide (k < n) = true := decide_eq_true ck
      have hl : ((vs.take k).map s ++ hs0.drop k).length = n := by obtain ⟨h1, h2⟩ := HN.out; simp; omega
      obtain ⟨ad, rfl, x0⟩ := Kd.at_int (HR.out _ HG.out) k (by omega) (by omega)
      rw [Int.toNat_natCast] at x0
      obtain ⟨old, y0⟩ : ∃ v, wr.cell? ⟨g, k, none⟩ = some v := ⟨_, HROW.out.cell (by omega)⟩
      have f0 := HROW.out.free k
      clear hl
      go_wp2_with (first
        | (go_at_call 18; (with_reducible refine (pqxxhash_Sum64Uint16.calls _ _ _ (HS.out _)).mono ?_); rintro e w' ⟨rfl, ⟨nd, rfl⟩⟩))
      go_roundg (gk - 1)
      case measure => have := HK.out; omega
      case rel =>
        obtain ⟨h1, h2⟩ := HN.out
        refine ⟨k + 1, by omega, by go_num, ⟨?_⟩, ⟨?_⟩, ⟨by have := HK.out; omega⟩⟩
        · have := (HROW.out.drewN nd).set k (s (rd vs k))
          rw [take_set_drop s vs hs0 k (by omega) (by omega)] at this
          exact this
        · exact grownSet (grownDrewN HG.out nd) k _
    · have ckb : decide ((k : Int) < (n : Int)) = false := decide_eq_false (by omega)
      go_wp2_with (fail)
      go_ret
      obtain ⟨h1, h2⟩ := HN.out
      refine ⟨rfl, HG.out, ?_⟩
      have := HROW.out
      rw [List.take_of_length_le (by omega), List.drop_of_length_le (by omega), List.append_nil] at this
      exact this


/-! ### pqxxhash_rol23: function 30 -/
def pqxxhash_rol23.f (a0 : Int) : Option (Int) := (bits_RotateLeft64.f a0 23).bind fun t114 => (some t114)
set_option maxHeartbeats 8000000 in
set_option maxRecDepth 100000 in
theorem pqxxhash_rol23.calls (a0 : Int) (r : Int) (w : World) (h : pqxxhash_rol23.f a0 = some r) :
    Calls Try.prog 30 #[.int .u64 a0] w fun e w' => e = .returned (.int .u64 r) ∧ Drawn0 w w' := by
  have H : ((bits_RotateLeft64.f a0 23).bind fun t114 => (some t114)) = some r := h
  clear h
  replace H := Option.bind_eq_some_iff.mp H
  obtain ⟨t114, A20, H⟩ := H
  replace H : (some t114) = some r := H
  have A2 := Aside0.mk A20
  clear A20
  obtain rfl := Option.some.inj H
  go_enter Try.func30, Try.ntmps30
  go_wp2_with (first | ((with_reducible refine gate_callee (f := 40) rfl ?_); refine goesL_ (some 4) rfl rfl Try.func40 (by kernel_rfl) rfl #[.int .u64 a0, .int .i64 23] rfl (by (try simp only [List.map_toArray, List.map_cons, List.map_nil]); first | done | rfl | (simp only [List.length_drop, List.length_take]; rfl)) ?_; (with_reducible refine (bits_RotateLeft64.calls a0 23 t114 _ A2.out).mono ?_); rintro e w' ⟨rfl, ⟨nd, rfl⟩⟩; refine ⟨_, rfl, ?_⟩))
  go_ret
  exact ⟨by first | rfl | (simp; done) | (simp [*]; done), by repeat (first | exact Drawn0.refl _ | apply Drawn0.step)⟩

/-! ### pqxxhash_Sum64Uint32: function 19 -/
def pqxxhash_Sum64Uint32.f (a0 : Int) : Option (Int) := (pqxxhash_rol23.f (Go.bits .xor .u64 2870177450012600265 (IntKind.u64.wrap ((IntKind.u64.wrap (a0)) * 11400714785074694791)))).bind fun t115 => ((pqxxhash_avalanche.f (IntKind.u64.wrap ((IntKind.u64.wrap (t115 * 14029467366897019727)) + 1609587929392839161))).bind fun t116 => (some t116))
set_option maxHeartbeats 8000000 in
set_option maxRecDepth 100000 in
theorem pqxxhash_Sum64Uint32.calls (a0 : Int) (r : Int) (w : World) (h : pqxxhash_Sum64Uint32.f a0 = some r) :
    Calls Try.prog 19 #[.int .u32 a0] w fun e w' => e = .returned (.int .u64 r) ∧ Drawn0 w w' := by
  have H : ((pqxxhash_rol23.f (Go.bits .xor .u64 2870177450012600265 (IntKind.u64.wrap ((IntKind.u64.wrap (a0)) * 11400714785074694791)))).bind fun t115 => ((pqxxhash_avalanche.f (IntKind.u64.wrap ((IntKind.u64.wrap (t115 * 14029467366897019727)) + 1609587929392839161))).bind fun t116 => (some t116))) = some r := h
  clear h
  replace H := Option.bind_eq_some_iff.mp H
  obtain ⟨t115, A20, H⟩ := H
  replace H : ((pqxxhash_avalanche.f (IntKind.u64.wrap ((IntKind.u64.wrap (t115 * 14029467366897019727)) + 1609587929392839161))).bind fun t116 => (some t116)) = some r := H
  have A2 := Aside0.mk A20
  clear A20
  replace H := Option.bind_eq_some_iff.mp H
  obtain ⟨t116, A30, H⟩ := H
  replace H : (some t116) = some r := H
  have A3 := Aside0.mk A30
  clear A30
  obtain rfl := Option.some.inj H
  go_enter Try.func19, Try.ntmps19
  go_wp2_with (first | ((with_reducible refine gate_callee (f := 30) rfl ?_); refine goesL_ (some 10) rfl rfl Try.func30 (by kernel_rfl) rfl #[.int .u64 (Go.bits .xor .u64 2870177450012600265 (IntKind.u64.wrap ((IntKind.u64.wrap (a0)) * 11400714785074694791)))] rfl (by (try simp only [List.map_toArray, List.map_cons, List.map_nil]); first | done | rfl | (simp only [List.length_drop, List.length_take]; rfl)) ?_; (with_reducible refine (pqxxhash_rol23.calls (Go.bits .xor .u64 2870177450012600265 (IntKind.u64.wrap ((IntKind.u64.wrap (a0)) * 11400714785074694791))) t115 _ A2.out).mono ?_); rintro e w' ⟨rfl, ⟨nd, rfl⟩⟩; refine ⟨_, rfl, ?_⟩) | ((with_reducible refine gate_callee (f := 28) rfl ?_); refine goesL_ (some 13) rfl rfl Try.func28 (by kernel_rfl) rfl #[.int .u64 (IntKind.u64.wrap ((IntKind.u64.wrap (t115 * 14029467366897019727)) + 1609587929392839161))] rfl (by (try simp only [List.map_toArray, List.map_cons, List.map_nil]); first | done | rfl | (simp only [List.length_drop, List.length_take]; rfl)) ?_; (with_reducible refine (pqxxhash_avalanche.calls (IntKind.u64.wrap ((IntKind.u64.wrap (t115 * 14029467366897019727)) + 1609587929392839161)) t116 _ A3.out).mono ?_); rintro e w' ⟨rfl, ⟨nd, rfl⟩⟩; refine ⟨_, rfl, ?_⟩))
  go_ret
  exact ⟨by first | rfl | (simp; done) | (simp [*]; done), by repeat (first | exact Drawn0.refl _ | apply Drawn0.step)⟩

/-! ### pqxxhash_MultiSum64Uint32: function 26, by hand -/
set_option maxHeartbeats 2000000 in
theorem pqxxhash_MultiSum64Uint32.calls (s : Int → Int) (hs : ∀ x, pqxxhash_Sum64Uint32.f x = some (s x)) (g cap : Nat) (hs0 : List Int) (A1 : Option Addr) (c1 n : Nat) (vs : List Int) (w : World) (hrow : Row w g 25 .u64 hs0) (hn : hs0.length = n) (hnc : n ≤ cap) (hv : vs.length = n) (hr : ReadKeep w g .u32 A1 n vs) (hc1 : n ≤ c1) :
    Calls Try.prog 26 #[.slice (some ⟨g, 0, none⟩) n cap, .slice A1 n c1] w fun e w' => e = .returned (.int .i64 n) ∧ w.grownBy w' (some g) ∧ Row w' g 25 .u64 (vs.map s) := by
  have hmax : n ≤ 9223372036854775807 := Kd.C_max (hr w (grownRefl w _))
  have HR := Aside0.mk hr
  have HROW := Aside0.mk hrow
  have HN := Aside0.mk (⟨hn, hv⟩ : hs0.length = n ∧ vs.length = n)
  have HS := Aside0.mk hs
  obtain ⟨i8, h8⟩ := Option.map_eq_some_iff.1 (show (Try.prog.info? 41).map (fun i => i.size) = some 1 by kernel_rfl)
  obtain ⟨i64, h64⟩ := Option.map_eq_some_iff.1 (show (Try.prog.info? 25).map (fun i => i.size) = some 1 by kernel_rfl)
  obtain ⟨cut1, _⟩ := cutHi (P := Try.prog) 33 25 Try.underlying33 h64.1 (some ⟨g, 0, none⟩) n cap .i64 n n rfl (by omega) hnc
  obtain ⟨cut2, _⟩ := cutHi (P := Try.prog) 50 41 Try.underlying50 h8.1 A1 n c1 .i64 n n rfl (by omega) hc1
  clear hr hrow hn hv hs h8 h64
  have hmn : (if (n : Int) < (n : Int) then (n : Int) else (n : Int)) = n := by simp
  go_enter Try.func26, Try.ntmps26
  go_wp2_with (fail)
  go_loopg [6, 20] n (fun kq v6 v20 w' => ∃ k : Nat, k ≤ n ∧ v20 = .int .i64 k ∧ Aside0 (Row w' g 25 .u64 ((vs.take k).map s ++ hs0.drop k)) ∧ Aside0 (w.grownBy w' (some g)) ∧ Aside0 (n - k ≤ kq))
  case atStart => exact ⟨0, by omega, rfl, by simpa using HROW, ⟨grownRefl w _⟩, ⟨by omega⟩⟩
  case round =>
    clear HROW
    obtain ⟨k, hk, rfl, HROW, HG, HK⟩ := hrel
    by_cases ck : k < n
    · have ckb : decide ((k : Int) < (n : Int)) = true := decide_eq_true (by omega)
      have ckc : decide (k < n) = true := decide_eq_true ck
      have hl : ((vs.take k).map s ++ hs0.drop k).length = n := by obtain ⟨h1, h2⟩ := HN.out; simp; omega
      obtain ⟨ad, rfl, x0⟩ := Kd.at_int (HR.out _ HG.out) k (by omega) (by omega)
      rw [Int.toNat_natCast] at x0
      obtain ⟨old, y0⟩ : ∃ v, wr.cell? ⟨g, k, none⟩ = some v := ⟨_, HROW.out.cell (by omega)⟩
      have f0 := HROW.out.free k
      clear hl
      go_wp2_with (first
        | (go_at_call 19; (with_reducible refine (pqxxhash_Sum64Uint32.calls _ _ _ (HS.out _)).mono ?_); rintro e w' ⟨rfl, ⟨nd, rfl⟩⟩))
      go_roundg (gk - 1)
      case measure => have := HK.out; omega
      case rel =>
        obtain ⟨h1, h2⟩ := HN.out
        refine ⟨k + 1, by omega, by go_num, ⟨?_⟩, ⟨?_⟩, ⟨by have := HK.out; omega⟩⟩
        · have := (HROW.out.drewN nd).set k (s (rd vs k))
          rw [take_set_drop s vs hs0 k (by omega) (by omega)] at this
          exact this
        · exact grownSet (grownDrewN HG.out nd) k _
    · have ckb : decide ((k : Int) < (n : Int)) = false := decide_eq_false (by omega)
      go_wp2_with (fail)
      go_ret
      obtain ⟨h1, h2⟩ := HN.out
      refine ⟨rfl, HG.out, ?_⟩
      have := HROW.out
      rw [List.take_of_length_le (by omega), List.drop_of_length_le (by omega), List.append_nil] at this
      exact this


/-! ### pqxxhash_rol31: function 41 -/
def pqxxhash_rol31.f (a0 : Int) : Option (Int) := (bits_RotateLeft64.f a0 31).bind fun t117 => (some t117)
set_option maxHeartbeats 8000000 in
set_option maxRecDepth 100000 in
theorem pqxxhash_rol31.calls (a0 : Int) (r : Int) (w : World) (h : pqxxhash_rol31.f a0 = some r) :
    Calls Try.prog 41 #[.int .u64 a0] w fun e w' => e = .returned (.int .u64 r) ∧ Drawn0 w w' := by
  have H : ((bits_RotateLeft64.f a0 31).bind fun t117 => (some t117)) = some r := h
  clear h
  replace H := Option.bind_eq_some_iff.mp H
  obtain ⟨t117, A20, H⟩ := H
  replace H : (some t117) = some r := H
  have A2 := Aside0.mk A20
  clear A20
  obtain rfl := Option.some.inj H
  go_enter Try.func41, Try.ntmps41
  go_wp2_with (first | ((with_reducible refine gate_callee (f := 40) rfl ?_); refine goesL_ (some 4) rfl rfl Try.func40 (by kernel_rfl) rfl #[.int .u64 a0, .int .i64 31] rfl (by (try simp only [List.map_toArray, List.map_cons, List.map_nil]); first | done | rfl | (simp only [List.length_drop, List.length_take]; rfl)) ?_; (with_reducible refine (bits_RotateLeft64.calls a0 31 t117 _ A2.out).mono ?_); rintro e w' ⟨rfl, ⟨nd, rfl⟩⟩; refine ⟨_, rfl, ?_⟩))
  go_ret
  exact ⟨by first | rfl | (simp; done) | (simp [*]; done), by repeat (first | exact Drawn0.refl _ | apply Drawn0.step)⟩

/-! ### pqxxhash_round: function 31 -/
def pqxxhash_round.f (a0 : Int) (a1 : Int) : Option (Int) := (pqxxhash_rol31.f (IntKind.u64.wrap (a0 + (IntKind.u64.wrap (a1 * 14029467366897019727))))).bind fun t118 => (some (IntKind.u64.wrap (t118 * 11400714785074694791)))
set_option maxHeartbeats 8000000 in
set_option maxRecDepth 100000 in
theorem pqxxhash_round.calls (a0 : Int) (a1 : Int) (r : Int) (w : World) (h : pqxxhash_round.f a0 a1 = some r) :
    Calls Try.prog 31 #[.int .u64 a0, .int .u64 a1] w fun e w' => e = .returned (.int .u64 r) ∧ Drawn0 w w' := by
  have H : ((pqxxhash_rol31.f (IntKind.u64.wrap (a0 + (IntKind.u64.wrap (a1 * 14029467366897019727))))).bind fun t118 => (some (IntKind.u64.wrap (t118 * 11400714785074694791)))) = some r := h
  clear h
  replace H := Option.bind_eq_some_iff.mp H
  obtain ⟨t118, A30, H⟩ := H
  replace H : (some (IntKind.u64.wrap (t118 * 11400714785074694791))) = some r := H
  have A3 := Aside0.mk A30
  clear A30
  obtain rfl := Option.some.inj H
  go_enter Try.func31, Try.ntmps31
  go_wp2_with (first | ((with_reducible refine gate_callee (f := 41) rfl ?_); refine goesL_ (some 10) rfl rfl Try.func41 (by kernel_rfl) rfl #[.int .u64 (IntKind.u64.wrap (a0 + (IntKind.u64.wrap (a1 * 14029467366897019727))))] rfl (by (try simp only [List.map_toArray, List.map_cons, List.map_nil]); first | done | rfl | (simp only [List.length_drop, List.length_take]; rfl)) ?_; (with_reducible refine (pqxxhash_rol31.calls (IntKind.u64.wrap (a0 + (IntKind.u64.wrap (a1 * 14029467366897019727)))) t118 _ A3.out).mono ?_); rintro e w' ⟨rfl, ⟨nd, rfl⟩⟩; refine ⟨_, rfl, ?_⟩))
  go_ret
  exact ⟨by first | rfl | (simp; done) | (simp [*]; done), by repeat (first | exact Drawn0.refl _ | apply Drawn0.step)⟩

/-! ### pqxxhash_rol27: function 32 -/
def pqxxhash_rol27.f (a0 : Int) : Option (Int) := (bits_RotateLeft64.f a0 27).bind fun t119 => (some t119)
set_option maxHeartbeats 8000000 in
set_option maxRecDepth 100000 in
theorem pqxxhash_rol27.calls (a0 : Int) (r : Int) (w : World) (h : pqxxhash_rol27.f a0 = some r) :
    Calls Try.prog 32 #[.int .u64 a0] w fun e w' => e = .returned (.int .u64 r) ∧ Drawn0 w w' := by
  have H : ((bits_RotateLeft64.f a0 27).bind fun t119 => (some t119)) = some r := h
  clear h
  replace H := Option.bind_eq_some_iff.mp H
  obtain ⟨t119, A20, H⟩ := H
  replace H : (some t119) = some r := H
  have A2 := Aside0.mk A20
  clear A20
  obtain rfl := Option.some.inj H
  go_enter Try.func32, Try.ntmps32
  go_wp2_with (first | ((with_reducible refine gate_callee (f := 40) rfl ?_); refine goesL_ (some 4) rfl rfl Try.func40 (by kernel_rfl) rfl #[.int .u64 a0, .int .i64 27] rfl (by (try simp only [List.map_toArray, List.map_cons, List.map_nil]); first | done | rfl | (simp only [List.length_drop, List.length_take]; rfl)) ?_; (with_reducible refine (bits_RotateLeft64.calls a0 27 t119 _ A2.out).mono ?_); rintro e w' ⟨rfl, ⟨nd, rfl⟩⟩; refine ⟨_, rfl, ?_⟩))
  go_ret
  exact ⟨by first | rfl | (simp; done) | (simp [*]; done), by repeat (first | exact Drawn0.refl _ | apply Drawn0.step)⟩

/-! ### pqxxhash_Sum64Uint64: function 20 -/
def pqxxhash_Sum64Uint64.f (a0 : Int) : Option (Int) := (pqxxhash_round.f 0 a0).bind fun t120 => ((pqxxhash_rol27.f (Go.bits .xor .u64 2870177450012600269 t120)).bind fun t121 => ((pqxxhash_avalanche.f (IntKind.u64.wrap ((IntKind.u64.wrap (t121 * 11400714785074694791)) + 9650029242287828579))).bind fun t122 => (some t122)))
set_option maxHeartbeats 8000000 in
set_option maxRecDepth 100000 in
theorem pqxxhash_Sum64Uint64.calls (a0 : Int) (r : Int) (w : World) (h : pqxxhash_Sum64Uint64.f a0 = some r) :
    Calls Try.prog 20 #[.int .u64 a0] w fun e w' => e = .returned (.int .u64 r) ∧ Drawn0 w w' := by
  have H : ((pqxxhash_round.f 0 a0).bind fun t120 => ((pqxxhash_rol27.f (Go.bits .xor .u64 2870177450012600269 t120)).bind fun t121 => ((pqxxhash_avalanche.f (IntKind.u64.wrap ((IntKind.u64.wrap (t121 * 11400714785074694791)) + 9650029242287828579))).bind fun t122 => (some t122)))) = some r := h
  clear h
  replace H := Option.bind_eq_some_iff.mp H
  obtain ⟨t120, A20, H⟩ := H
  replace H : ((pqxxhash_rol27.f (Go.bits .xor .u64 2870177450012600269 t120)).bind fun t121 => ((pqxxhash_avalanche.f (IntKind.u64.wrap ((IntKind.u64.wrap (t121 * 11400714785074694791)) + 9650029242287828579))).bind fun t122 => (some t122))) = some r := H
  have A2 := Aside0.mk A20
  clear A20
  replace H := Option.bind_eq_some_iff.mp H
  obtain ⟨t121, A30, H⟩ := H
  replace H : ((pqxxhash_avalanche.f (IntKind.u64.wrap ((IntKind.u64.wrap (t121 * 11400714785074694791)) + 9650029242287828579))).bind fun t122 => (some t122)) = some r := H
  have A3 := Aside0.mk A30
  clear A30
  replace H := Option.bind_eq_some_iff.mp H
  obtain ⟨t122, A40, H⟩ := H
  replace H : (some t122) = some r := H
  have A4 := Aside0.mk A40
  clear A40
  obtain rfl := Option.some.inj H
  go_enter Try.func20, Try.ntmps20
  go_wp2_with (first | ((with_reducible refine gate_callee (f := 31) rfl ?_); refine goesL_ (some 6) rfl rfl Try.func31 (by kernel_rfl) rfl #[.int .u64 0, .int .u64 a0] rfl (by (try simp only [List.map_toArray, List.map_cons, List.map_nil]); first | done | rfl | (simp only [List.length_drop, List.length_take]; rfl)) ?_; (with_reducible refine (pqxxhash_round.calls 0 a0 t120 _ A2.out).mono ?_); rintro e w' ⟨rfl, ⟨nd, rfl⟩⟩; refine ⟨_, rfl, ?_⟩) | ((with_reducible refine gate_callee (f := 32) rfl ?_); refine goesL_ (some 9) rfl rfl Try.func32 (by kernel_rfl) rfl #[.int .u64 (Go.bits .xor .u64 2870177450012600269 t120)] rfl (by (try simp only [List.map_toArray, List.map_cons, List.map_nil]); first | done | rfl | (simp only [List.length_drop, List.length_take]; rfl)) ?_; (with_reducible refine (pqxxhash_rol27.calls (Go.bits .xor .u64 2870177450012600269 t120) t121 _ A3.out).mono ?_); rintro e w' ⟨rfl, ⟨nd, rfl⟩⟩; refine ⟨_, rfl, ?_⟩) | ((with_reducible refine gate_callee (f := 28) rfl ?_); refine goesL_ (some 12) rfl rfl Try.func28 (by kernel_rfl) rfl #[.int .u64 (IntKind.u64.wrap ((IntKind.u64.wrap (t121 * 11400714785074694791)) + 9650029242287828579))] rfl (by (try simp only [List.map_toArray, List.map_cons, List.map_nil]); first | done | rfl | (simp only [List.length_drop, List.length_take]; rfl)) ?_; (with_reducible refine (pqxxhash_avalanche.calls (IntKind.u64.wrap ((IntKind.u64.wrap (t121 * 11400714785074694791)) + 9650029242287828579)) t122 _ A4.out).mono ?_); rintro e w' ⟨rfl, ⟨nd, rfl⟩⟩; refine ⟨_, rfl, ?_⟩))
  go_ret
  exact ⟨by first | rfl | (simp; done) | (simp [*]; done), by repeat (first | exact Drawn0.refl _ | apply Drawn0.step)⟩

/-! ### pqxxhash_MultiSum64Uint64: function 27, by hand -/
set_option maxHeartbeats 2000000 in
theorem pqxxhash_MultiSum64Uint64.calls (s : Int → Int) (hs : ∀ x, pqxxhash_Sum64Uint64.f x = some (s x)) (g cap : Nat) (hs0 : List Int) (A1 : Option Addr) (c1 n : Nat) (vs : List Int) (w : World) (hrow : Row w g 25 .u64 hs0) (hn : hs0.length = n) (hnc : n ≤ cap) (hv : vs.length = n) (hr : ReadKeep w g .u64 A1 n vs) (hc1 : n ≤ c1) :
    Calls Try.prog 27 #[.slice (some ⟨g, 0, none⟩) n cap, .slice A1 n c1] w fun e w' => e = .returned (.int .i64 n) ∧ w.grownBy w' (some g) ∧ Row w' g 25 .u64 (vs.map s) := by
  have hmax : n ≤ 9223372036854775807 := Kd.C_max (hr w (grownRefl w _))
  have HR := Aside0.mk hr
  have HROW := Aside0.mk hrow
  have HN := Aside0.mk (⟨hn, hv⟩ : hs0.length = n ∧ vs.length = n)
  have HS := Aside0.mk hs
  obtain ⟨i8, h8⟩ := Option.map_eq_some_iff.1 (show (Try.prog.info? 25).map (fun i => i.size) = some 1 by kernel_rfl)
  obtain ⟨i64, h64⟩ := Option.map_eq_some_iff.1 (show (Try.prog.info? 25).map (fun i => i.size) = some 1 by kernel_rfl)
  obtain ⟨cut1, _⟩ := cutHi (P := Try.prog) 33 25 Try.underlying33 h64.1 (some ⟨g, 0, none⟩) n cap .i64 n n rfl (by omega) hnc
  obtain ⟨cut2, _⟩ := cutHi (P := Try.prog) 33 25 Try.underlying33 h8.1 A1 n c1 .i64 n n rfl (by omega) hc1
  clear hr hrow hn hv hs h8 h64
  have hmn : (if (n : Int) < (n : Int) then (n : Int) else (n : Int)) = n := by simp
  go_enter Try.func27, Try.ntmps27
  go_wp2_with (fail)
  go_loopg [6, 20] n (fun kq v6 v20 w' => ∃ k : Nat, k ≤ n ∧ v20 = .int .i64 k ∧ Aside0 (Row w' g 25 .u64 ((vs.take k).map s ++ hs0.drop k)) ∧ Aside0 (w.grownBy w' (some g)) ∧ Aside0 (n - k ≤ kq))
  case atStart => exact ⟨0, by omega, rfl, by simpa using HROW, ⟨grownRefl w _⟩, ⟨by omega⟩⟩
  case round =>
    clear HROW
    obtain ⟨k, hk, rfl, HROW, HG, HK⟩ := hrel
    by_cases ck : k < n
    · have ckb : decide ((k : Int) < (n : Int)) = true := decide_eq_true (by omega)
      have ckc : decide (k < n) = true := decide_eq_true ck
      have hl : ((vs.take k).map s ++ hs0.drop k).length = n := by obtain ⟨h1, h2⟩ := HN.out; simp; omega
      obtain ⟨ad, rfl, x0⟩ := Kd.at_int (HR.out _ HG.out) k (by omega) (by omega)
      rw [Int.toNat_natCast] at x0
      obtain ⟨old, y0⟩ : ∃ v, wr.cell? ⟨g, k, none⟩ = some v := ⟨_, HROW.out.cell (by omega)⟩
      have f0 := HROW.out.free k
      clear hl
      go_wp2_with (first
        | (go_at_call 20; (with_reducible refine (pqxxhash_Sum64Uint64.calls _ _ _ (HS.out _)).mono ?_); rintro e w' ⟨rfl, ⟨nd, rfl⟩⟩))
      go_roundg (gk - 1)
      case measure => have := HK.out; omega
      case rel =>
        obtain ⟨h1, h2⟩ := HN.out
        refine ⟨k + 1, by omega, by go_num, ⟨?_⟩, ⟨?_⟩, ⟨by have := HK.out; omega⟩⟩
        · have := (HROW.out.drewN nd).set k (s (rd vs k))
          rw [take_set_drop s vs hs0 k (by omega) (by omega)] at this
          exact this
        · exact grownSet (grownDrewN HG.out nd) k _
    · have ckb : decide ((k : Int) < (n : Int)) = false := decide_eq_false (by omega)
      go_wp2_with (fail)
      go_ret
      obtain ⟨h1, h2⟩ := HN.out
      refine ⟨rfl, HG.out, ?_⟩
      have := HROW.out
      rw [List.take_of_length_le (by omega), List.drop_of_length_le (by omega), List.append_nil] at this
      exact this


/-! ### impl_HashInts: function 15, by hand -/
theorem rot_eq (a : Int) (k : Int) (j : Nat) (hk : k = j) (hj : j < 64) (hb : Go.bits .and .u64 (IntKind.u64.wrap k) 63 = k) : bits_RotateLeft64.f a k = some (rolI a j) := by
  unfold bits_RotateLeft64.f rolI
  rw [hb]
  subst hk
  have h64 : (64 : Int) - (j : Int) = ((64 - j : Nat) : Int) := by omega
  rw [if_pos (by omega), IntWalk.u64_in _ (by omega), if_pos (by omega), h64]
  unfold shl shr
  simp only [Int.toNat_natCast]
  rw [Nat.min_eq_left (show j ≤ IntKind.u64.bits from by show j ≤ 64; omega), Nat.min_eq_left (show 64 - j ≤ IntKind.u64.bits from by show 64 - j ≤ 64; omega)]
theorem rol11_eq (a : Int) : pqxxhash_rol11.f a = some (rolI a 11) := by unfold pqxxhash_rol11.f; rw [rot_eq a 11 11 rfl (by omega) (by decide +kernel)]; rfl
theorem rol23_eq (a : Int) : pqxxhash_rol23.f a = some (rolI a 23) := by unfold pqxxhash_rol23.f; rw [rot_eq a 23 23 rfl (by omega) (by decide +kernel)]; rfl
theorem rol27_eq (a : Int) : pqxxhash_rol27.f a = some (rolI a 27) := by unfold pqxxhash_rol27.f; rw [rot_eq a 27 27 rfl (by omega) (by decide +kernel)]; rfl
theorem rol31_eq (a : Int) : pqxxhash_rol31.f a = some (rolI a 31) := by unfold pqxxhash_rol31.f; rw [rot_eq a 31 31 rfl (by omega) (by decide +kernel)]; rfl
theorem pround_eq (s v : Int) : pqxxhash_round.f s v = some (rndI s v) := by unfold pqxxhash_round.f; rw [rol31_eq]; rfl
theorem ava_eq (a : Int) : pqxxhash_avalanche.f a = some (avaI a) := rfl
def sum8 (x : Int) : Int := (pqxxhash_Sum64Uint8.f x).getD 0
def sum16 (x : Int) : Int := (pqxxhash_Sum64Uint16.f x).getD 0
def sum32 (x : Int) : Int := (pqxxhash_Sum64Uint32.f x).getD 0
def sum64 (x : Int) : Int := (pqxxhash_Sum64Uint64.f x).getD 0
theorem sum8_eq (x : Int) : pqxxhash_Sum64Uint8.f x = some (sum8 x) := by unfold sum8 pqxxhash_Sum64Uint8.f; simp only [rol11_eq, ava_eq, Option.bind_some, Option.getD_some]
theorem sum16_eq (x : Int) : pqxxhash_Sum64Uint16.f x = some (sum16 x) := by unfold sum16 pqxxhash_Sum64Uint16.f; simp only [rol11_eq, ava_eq, Option.bind_some, Option.getD_some]
theorem sum32_eq (x : Int) : pqxxhash_Sum64Uint32.f x = some (sum32 x) := by unfold sum32 pqxxhash_Sum64Uint32.f; simp only [rol23_eq, ava_eq, Option.bind_some, Option.getD_some]
theorem sum64_eq (x : Int) : pqxxhash_Sum64Uint64.f x = some (sum64 x) := by unfold sum64 pqxxhash_Sum64Uint64.f; simp only [pround_eq, rol27_eq, ava_eq, Option.bind_some, Option.getD_some]
theorem infoU8 : (Try.prog.info? 5).map (fun i => (i.zero, i.size, i.bytes)) = some (some (.int .u8 0), 1, 1) := by kernel_rfl
theorem infoU16 : (Try.prog.info? 39).map (fun i => (i.zero, i.size, i.bytes)) = some (some (.int .u16 0), 1, 2) := by kernel_rfl
theorem infoU32 : (Try.prog.info? 41).map (fun i => (i.zero, i.size, i.bytes)) = some (some (.int .u32 0), 1, 4) := by kernel_rfl
theorem infoU64 : (Try.prog.info? 25).map (fun i => (i.zero, i.size, i.bytes)) = some (some (.int .u64 0), 1, 8) := by kernel_rfl
def hintsI (a0 : Int) (l : List Int) : List Int :=
  if a0 = 1 then l.map (fun n => sum8 (n % 256)) else if a0 = 2 then l.map (fun n => sum16 (IntKind.u16.wrap n)) else if a0 = 4 then l.map (fun n => sum32 (n % 4294967296)) else l.map sum64
def impl_HashInts.f (a0 : Int) (l0 : List Int) : Option (List Int) := if l0.length ≤ 1000000000 then some (hintsI a0 l0) else none
set_option maxHeartbeats 4000000 in
theorem hints8 (A1 : Option Addr) (c1 : Nat) (l1 : List Int) (w : World) (hr1 : Kd.C (Kd.int .u64) w A1 l1.length l1) (hc1 : l1.length ≤ c1) (hl : l1.length ≤ 1000000000) :
    Calls Try.prog 15 #[.int .i64 1, .slice A1 l1.length c1] w fun e w' => ∃ v0_ : Value, e = .returned (v0_) ∧ Kd.R (Kd.int .u64) 25 w' w.heap.size (fun _ => True) v0_ (l1.map (fun n => sum8 (n % 256))) ∧ Below w.heap.size w w' := by
  have HC := Aside0.mk hr1
  have hmk := print_make (P := Try.prog) 33 25 .u64 8 Try.underlying33 infoU64 (by decide) l1.length (by omega)
  clear hr1
  go_enter Try.func15, Try.ntmps15
  go_wp2_with (fail)
  have HROW := Aside0.mk (madeRow w 25 .u64 l1.length)
  have HB := Aside0.mk ((Below.refl w.heap.size w).alloc (Nat.le_refl _) (.cells (madeCells #[.int .u64 0] l1.length) 25))
  have hsz : w.heap.size + 1 ≤ (w.alloc (.cells (madeCells #[.int .u64 0] l1.length) 25)).heap.size := HROW.out.lt
  generalize w.alloc (.cells (madeCells #[.int .u64 0] l1.length) 25) = wm at *
  clear hmk
  go_loopg [6, 8, 23] l1.length (fun kq v6 v8 v23 w' => ∃ k : Nat, k ≤ l1.length ∧ v23 = .int .i64 k ∧ Aside0 (Own w' (w.heap.size + 1) 5 .u8 v6 ((l1.take k).map fun n => n % 256)) ∧ Aside0 (Below (w.heap.size + 1) wm w') ∧ Aside0 (l1.length - k ≤ kq))
  case atStart => exact ⟨0, by omega, rfl, ⟨Own.nil _ _ _ _⟩, ⟨Below.refl _ _⟩, ⟨by omega⟩⟩
  case round =>
    obtain ⟨k, hk, rfl, HO, HBm, HK⟩ := hrel
    by_cases ck : k < l1.length
    · have ckb : decide ((k : Int) < (l1.length : Int)) = true := decide_eq_true (by omega)
      have ckc : decide (k < l1.length) = true := decide_eq_true ck
      obtain ⟨ad, rfl, x0⟩ := Kd.at_int (Kd.C_below HC.out (HB.out.trans (HBm.out.mono (by omega)))) k (by omega) (by omega)
      rw [Int.toNat_natCast] at x0
      go_wp2_with (first
        | (at_builtin; refine appendOwn (w0 := wm) (w.heap.size + 1) rfl (.tmp 27) (.tmp 30) 26 5 .u8 1 rfl Try.underlying26 infoU8 (by decide) u6 _ ((rd l1 k) % 256) rfl rfl HO.out HBm.out ?hb ?hl ?_; (case hb => exact Nat.le_trans hsz HBm.out.size); (case hl => simp; omega); intro v1 w1 ho hb hg; have HO1 := Aside0.mk ho; have HB1 := Aside0.mk hb; clear ho hb hg HO HBm x0))
      go_roundg (gk - 1)
      case measure => have := HK.out; omega
      case rel =>
        refine ⟨k + 1, by omega, by go_num, ⟨?_⟩, HB1, ⟨by have := HK.out; omega⟩⟩
        rw [List.take_succ_eq_append_getElem ck, List.map_append]
        have e : rd l1 k = l1[k] := by simp [rd, List.getD_eq_getElem?_getD, List.getElem?_eq_getElem ck]
        rw [← e]
        exact HO1.out
    · have ckb : decide ((k : Int) < (l1.length : Int)) = false := decide_eq_false (by omega)
      have hO := HO.out
      rw [List.take_of_length_le (by omega)] at hO
      obtain ⟨A, c, rfl, hc, hR⟩ := hO.keep (g := w.heap.size) (by omega)
      rw [List.length_map] at hc hR
      have hlm : ((l1.map fun n => n % 256)).length = l1.length := List.length_map ..
      have HR := Aside0.mk hR
      have HLM := Aside0.mk hlm
      clear hR hlm hO
      have HROW2 := Aside0.mk (HROW.out.below HBm.out (by omega))
      obtain ⟨i64, h64⟩ := Option.map_eq_some_iff.1 (show (Try.prog.info? 25).map (fun i => i.size) = some 1 by kernel_rfl)
      obtain ⟨cut1, _⟩ := cutHi (P := Try.prog) 33 25 Try.underlying33 h64.1 (some ⟨w.heap.size, 0, none⟩) l1.length l1.length .i64 l1.length l1.length rfl (by omega) (by omega)
      simp only [List.length_map]
      go_wp2_with (first
        | (go_at_call 24; (with_reducible refine (pqxxhash_MultiSum64Uint8.calls sum8 sum8_eq w.heap.size _ _ A c _ _ _ HROW2.out ?m1 ?m2 ?m3 HR.out ?m4).mono ?_); (case m1 => simp); (case m2 => omega); (case m3 => exact HLM.out); (case m4 => omega); rintro e w' ⟨rfl, hg, hrow⟩; have HG := Aside0.mk hg; have HW := Aside0.mk hrow; clear hg hrow))
      go_ret
      have hb2 := belowGrown (HB.out.trans (HBm.out.mono (by omega))) HG.out (Nat.le_refl _)
      have hown := HW.out.toOwn (base := w.heap.size) (n := l1.length) (Nat.le_refl _) (by simp) (by simp; omega)
      rw [List.take_of_length_le (by simp), List.map_map] at hown
      simp only [List.length_map] at hown
      exact ⟨_, rfl, hown.toR, hb2⟩
set_option maxHeartbeats 4000000 in
theorem hints16 (A1 : Option Addr) (c1 : Nat) (l1 : List Int) (w : World) (hr1 : Kd.C (Kd.int .u64) w A1 l1.length l1) (hc1 : l1.length ≤ c1) (hl : l1.length ≤ 1000000000) :
    Calls Try.prog 15 #[.int .i64 2, .slice A1 l1.length c1] w fun e w' => ∃ v0_ : Value, e = .returned (v0_) ∧ Kd.R (Kd.int .u64) 25 w' w.heap.size (fun _ => True) v0_ (l1.map (fun n => sum16 (IntKind.u16.wrap n))) ∧ Below w.heap.size w w' := by
  have HC := Aside0.mk hr1
  have hmk := print_make (P := Try.prog) 33 25 .u64 8 Try.underlying33 infoU64 (by decide) l1.length (by omega)
  clear hr1
  go_enter Try.func15, Try.ntmps15
  go_wp2_with (fail)
  have HROW := Aside0.mk (madeRow w 25 .u64 l1.length)
  have HB := Aside0.mk ((Below.refl w.heap.size w).alloc (Nat.le_refl _) (.cells (madeCells #[.int .u64 0] l1.length) 25))
  have hsz : w.heap.size + 1 ≤ (w.alloc (.cells (madeCells #[.int .u64 0] l1.length) 25)).heap.size := HROW.out.lt
  generalize w.alloc (.cells (madeCells #[.int .u64 0] l1.length) 25) = wm at *
  clear hmk
  go_loopg [9, 11, 42] l1.length (fun kq v9 v11 v42 w' => ∃ k : Nat, k ≤ l1.length ∧ v42 = .int .i64 k ∧ Aside0 (Own w' (w.heap.size + 1) 39 .u16 v9 ((l1.take k).map fun n => IntKind.u16.wrap n)) ∧ Aside0 (Below (w.heap.size + 1) wm w') ∧ Aside0 (l1.length - k ≤ kq))
  case atStart => exact ⟨0, by omega, rfl, ⟨Own.nil _ _ _ _⟩, ⟨Below.refl _ _⟩, ⟨by omega⟩⟩
  case round =>
    obtain ⟨k, hk, rfl, HO, HBm, HK⟩ := hrel
    by_cases ck : k < l1.length
    · have ckb : decide ((k : Int) < (l1.length : Int)) = true := decide_eq_true (by omega)
      have ckc : decide (k < l1.length) = true := decide_eq_true ck
      obtain ⟨ad, rfl, x0⟩ := Kd.at_int (Kd.C_below HC.out (HB.out.trans (HBm.out.mono (by omega)))) k (by omega) (by omega)
      rw [Int.toNat_natCast] at x0
      go_wp2_with (first
        | (at_builtin; refine appendOwn (w0 := wm) (w.heap.size + 1) rfl (.tmp 46) (.tmp 49) 48 39 .u16 2 rfl Try.underlying48 infoU16 (by decide) u9 _ (IntKind.u16.wrap (rd l1 k)) rfl rfl HO.out HBm.out ?hb ?hl ?_; (case hb => exact Nat.le_trans hsz HBm.out.size); (case hl => simp; omega); intro v1 w1 ho hb hg; have HO1 := Aside0.mk ho; have HB1 := Aside0.mk hb; clear ho hb hg HO HBm x0))
      go_roundg (gk - 1)
      case measure => have := HK.out; omega
      case rel =>
        refine ⟨k + 1, by omega, by go_num, ⟨?_⟩, HB1, ⟨by have := HK.out; omega⟩⟩
        rw [List.take_succ_eq_append_getElem ck, List.map_append]
        have e : rd l1 k = l1[k] := by simp [rd, List.getD_eq_getElem?_getD, List.getElem?_eq_getElem ck]
        rw [← e]
        exact HO1.out
    · have ckb : decide ((k : Int) < (l1.length : Int)) = false := decide_eq_false (by omega)
      have hO := HO.out
      rw [List.take_of_length_le (by omega)] at hO
      obtain ⟨A, c, rfl, hc, hR⟩ := hO.keep (g := w.heap.size) (by omega)
      rw [List.length_map] at hc hR
      have hlm : ((l1.map fun n => IntKind.u16.wrap n)).length = l1.length := List.length_map ..
      have HR := Aside0.mk hR
      have HLM := Aside0.mk hlm
      clear hR hlm hO
      have HROW2 := Aside0.mk (HROW.out.below HBm.out (by omega))
      obtain ⟨i64, h64⟩ := Option.map_eq_some_iff.1 (show (Try.prog.info? 25).map (fun i => i.size) = some 1 by kernel_rfl)
      obtain ⟨cut1, _⟩ := cutHi (P := Try.prog) 33 25 Try.underlying33 h64.1 (some ⟨w.heap.size, 0, none⟩) l1.length l1.length .i64 l1.length l1.length rfl (by omega) (by omega)
      simp only [List.length_map]
      go_wp2_with (first
        | (go_at_call 25; (with_reducible refine (pqxxhash_MultiSum64Uint16.calls sum16 sum16_eq w.heap.size _ _ A c _ _ _ HROW2.out ?m1 ?m2 ?m3 HR.out ?m4).mono ?_); (case m1 => simp); (case m2 => omega); (case m3 => exact HLM.out); (case m4 => omega); rintro e w' ⟨rfl, hg, hrow⟩; have HG := Aside0.mk hg; have HW := Aside0.mk hrow; clear hg hrow))
      go_ret
      have hb2 := belowGrown (HB.out.trans (HBm.out.mono (by omega))) HG.out (Nat.le_refl _)
      have hown := HW.out.toOwn (base := w.heap.size) (n := l1.length) (Nat.le_refl _) (by simp) (by simp; omega)
      rw [List.take_of_length_le (by simp), List.map_map] at hown
      simp only [List.length_map] at hown
      exact ⟨_, rfl, hown.toR, hb2⟩
set_option maxHeartbeats 4000000 in
theorem hints32 (A1 : Option Addr) (c1 : Nat) (l1 : List Int) (w : World) (hr1 : Kd.C (Kd.int .u64) w A1 l1.length l1) (hc1 : l1.length ≤ c1) (hl : l1.length ≤ 1000000000) :
    Calls Try.prog 15 #[.int .i64 4, .slice A1 l1.length c1] w fun e w' => ∃ v0_ : Value, e = .returned (v0_) ∧ Kd.R (Kd.int .u64) 25 w' w.heap.size (fun _ => True) v0_ (l1.map (fun n => sum32 (n % 4294967296))) ∧ Below w.heap.size w w' := by
  have HC := Aside0.mk hr1
  have hmk := print_make (P := Try.prog) 33 25 .u64 8 Try.underlying33 infoU64 (by decide) l1.length (by omega)
  clear hr1
  go_enter Try.func15, Try.ntmps15
  go_wp2_with (fail)
  have HROW := Aside0.mk (madeRow w 25 .u64 l1.length)
  have HB := Aside0.mk ((Below.refl w.heap.size w).alloc (Nat.le_refl _) (.cells (madeCells #[.int .u64 0] l1.length) 25))
  have hsz : w.heap.size + 1 ≤ (w.alloc (.cells (madeCells #[.int .u64 0] l1.length) 25)).heap.size := HROW.out.lt
  generalize w.alloc (.cells (madeCells #[.int .u64 0] l1.length) 25) = wm at *
  clear hmk
  go_loopg [12, 14, 61] l1.length (fun kq v12 v14 v61 w' => ∃ k : Nat, k ≤ l1.length ∧ v61 = .int .i64 k ∧ Aside0 (Own w' (w.heap.size + 1) 41 .u32 v12 ((l1.take k).map fun n => n % 4294967296)) ∧ Aside0 (Below (w.heap.size + 1) wm w') ∧ Aside0 (l1.length - k ≤ kq))
  case atStart => exact ⟨0, by omega, rfl, ⟨Own.nil _ _ _ _⟩, ⟨Below.refl _ _⟩, ⟨by omega⟩⟩
  case round =>
    obtain ⟨k, hk, rfl, HO, HBm, HK⟩ := hrel
    by_cases ck : k < l1.length
    · have ckb : decide ((k : Int) < (l1.length : Int)) = true := decide_eq_true (by omega)
      have ckc : decide (k < l1.length) = true := decide_eq_true ck
      obtain ⟨ad, rfl, x0⟩ := Kd.at_int (Kd.C_below HC.out (HB.out.trans (HBm.out.mono (by omega)))) k (by omega) (by omega)
      rw [Int.toNat_natCast] at x0
      go_wp2_with (first
        | (at_builtin; refine appendOwn (w0 := wm) (w.heap.size + 1) rfl (.tmp 65) (.tmp 68) 50 41 .u32 4 rfl Try.underlying50 infoU32 (by decide) u12 _ ((rd l1 k) % 4294967296) rfl rfl HO.out HBm.out ?hb ?hl ?_; (case hb => exact Nat.le_trans hsz HBm.out.size); (case hl => simp; omega); intro v1 w1 ho hb hg; have HO1 := Aside0.mk ho; have HB1 := Aside0.mk hb; clear ho hb hg HO HBm x0))
      go_roundg (gk - 1)
      case measure => have := HK.out; omega
      case rel =>
        refine ⟨k + 1, by omega, by go_num, ⟨?_⟩, HB1, ⟨by have := HK.out; omega⟩⟩
        rw [List.take_succ_eq_append_getElem ck, List.map_append]
        have e : rd l1 k = l1[k] := by simp [rd, List.getD_eq_getElem?_getD, List.getElem?_eq_getElem ck]
        rw [← e]
        exact HO1.out
    · have ckb : decide ((k : Int) < (l1.length : Int)) = false := decide_eq_false (by omega)
      have hO := HO.out
      rw [List.take_of_length_le (by omega)] at hO
      obtain ⟨A, c, rfl, hc, hR⟩ := hO.keep (g := w.heap.size) (by omega)
      rw [List.length_map] at hc hR
      have hlm : ((l1.map fun n => n % 4294967296)).length = l1.length := List.length_map ..
      have HR := Aside0.mk hR
      have HLM := Aside0.mk hlm
      clear hR hlm hO
      have HROW2 := Aside0.mk (HROW.out.below HBm.out (by omega))
      obtain ⟨i64, h64⟩ := Option.map_eq_some_iff.1 (show (Try.prog.info? 25).map (fun i => i.size) = some 1 by kernel_rfl)
      obtain ⟨cut1, _⟩ := cutHi (P := Try.prog) 33 25 Try.underlying33 h64.1 (some ⟨w.heap.size, 0, none⟩) l1.length l1.length .i64 l1.length l1.length rfl (by omega) (by omega)
      simp only [List.length_map]
      go_wp2_with (first
        | (go_at_call 26; (with_reducible refine (pqxxhash_MultiSum64Uint32.calls sum32 sum32_eq w.heap.size _ _ A c _ _ _ HROW2.out ?m1 ?m2 ?m3 HR.out ?m4).mono ?_); (case m1 => simp); (case m2 => omega); (case m3 => exact HLM.out); (case m4 => omega); rintro e w' ⟨rfl, hg, hrow⟩; have HG := Aside0.mk hg; have HW := Aside0.mk hrow; clear hg hrow))
      go_ret
      have hb2 := belowGrown (HB.out.trans (HBm.out.mono (by omega))) HG.out (Nat.le_refl _)
      have hown := HW.out.toOwn (base := w.heap.size) (n := l1.length) (Nat.le_refl _) (by simp) (by simp; omega)
      rw [List.take_of_length_le (by simp), List.map_map] at hown
      simp only [List.length_map] at hown
      exact ⟨_, rfl, hown.toR, hb2⟩
set_option maxHeartbeats 4000000 in
theorem hints64 (a0 : Int) (h1 : a0 ≠ 1) (h2 : a0 ≠ 2) (h4 : a0 ≠ 4) (A1 : Option Addr) (c1 : Nat) (l1 : List Int) (w : World) (hr1 : Kd.C (Kd.int .u64) w A1 l1.length l1) (hc1 : l1.length ≤ c1) (hl : l1.length ≤ 1000000000) :
    Calls Try.prog 15 #[.int .i64 a0, .slice A1 l1.length c1] w fun e w' => ∃ v0_ : Value, e = .returned (v0_) ∧ Kd.R (Kd.int .u64) 25 w' w.heap.size (fun _ => True) v0_ (l1.map sum64) ∧ Below w.heap.size w w' := by
  have q1 : (a0 == 1) = false := beq_eq_false_iff_ne.2 h1
  have q2 : (a0 == 2) = false := beq_eq_false_iff_ne.2 h2
  have q4 : (a0 == 4) = false := beq_eq_false_iff_ne.2 h4
  have HC := Aside0.mk hr1
  have hmk := print_make (P := Try.prog) 33 25 .u64 8 Try.underlying33 infoU64 (by decide) l1.length (by omega)
  clear hr1 h1 h2 h4
  have HROW := Aside0.mk (madeRow w 25 .u64 l1.length)
  have HB := Aside0.mk ((Below.refl w.heap.size w).alloc (Nat.le_refl _) (.cells (madeCells #[.int .u64 0] l1.length) 25))
  obtain ⟨wm, hwm⟩ : ∃ wm, wm = w.alloc (.cells (madeCells #[.int .u64 0] l1.length) 25) := ⟨_, rfl⟩
  rw [← hwm] at HROW HB
  have HWM := Aside0.mk hwm
  have hsz : wm.heap.size = w.heap.size + 1 := by rw [hwm]; simp
  have HSZ := Aside0.mk hsz
  clear hwm hsz
  obtain ⟨i64, h64⟩ := Option.map_eq_some_iff.1 (show (Try.prog.info? 25).map (fun i => i.size) = some 1 by kernel_rfl)
  obtain ⟨cut1, _⟩ := cutHi (P := Try.prog) 33 25 Try.underlying33 h64.1 (some ⟨w.heap.size, 0, none⟩) l1.length l1.length .i64 l1.length l1.length rfl (by omega) (by omega)
  clear h64
  go_enter Try.func15, Try.ntmps15
  go_wp2_with (first
    | (at_builtin; rw [← HWM.out]; refine appendRead (w0 := wm) (w.heap.size + 1) rfl (.tmp 78) (.tmp 79) 33 25 .u64 8 rfl Try.underlying33 infoU64 (by decide) _ [] A1 l1.length c1 l1 rfl rfl ?ho ?hb ?hbb ?hc ?hl ?_; (case ho => rw [← HSZ.out]; exact Own.empty wm _ _ _ (Nat.le_refl _)); (case hb => rw [← HSZ.out]; exact (Below.refl _ _).alloc (Nat.le_refl _) _); (case hbb => simp [HSZ.out]); (case hc => exact Kd.C_alloc (Kd.C_below HC.out HB.out) _); (case hl => simp; omega); intro v1 w1 ho hb hg; have HO1 := Aside0.mk ho; have HB1 := Aside0.mk hb; clear ho hb hg; rw [List.nil_append] at HO1; obtain ⟨A, c, rfl, hc, hR⟩ := HO1.out.keep (g := w.heap.size) (by omega); have HR := Aside0.mk hR; clear hR; have HROW2 := Aside0.mk (HROW.out.below HB1.out (by omega)))
    | (go_at_call 27; (with_reducible refine (pqxxhash_MultiSum64Uint64.calls sum64 sum64_eq w.heap.size _ _ A c _ _ _ HROW2.out ?m1 ?m2 ?m3 HR.out ?m4).mono ?_); (case m1 => simp); (case m2 => omega); (case m3 => rfl); (case m4 => omega); rintro e w' ⟨rfl, hg, hrow⟩; have HG := Aside0.mk hg; have HW := Aside0.mk hrow; clear hg hrow))
  go_ret
  have hb2 := belowGrown (HB.out.trans (HB1.out.mono (by omega))) HG.out (Nat.le_refl _)
  have hown := HW.out.toOwn (base := w.heap.size) (n := l1.length) (Nat.le_refl _) (by simp) (by simp; omega)
  rw [List.take_of_length_le (by simp)] at hown
  simp only [List.length_map] at hown
  exact ⟨_, rfl, hown.toR, hb2⟩
theorem hintsI.calls0 : ∀ (a0 : Int) (A1 : Option Addr) (c1 : Nat) (l1 : List Int) (w : World), Kd.C (Kd.int .u64) w A1 l1.length l1 → l1.length ≤ c1 → l1.length ≤ 1000000000 →
    Calls Try.prog 15 #[.int .i64 a0, .slice A1 l1.length c1] w fun e w' => ∃ v0_ : Value, e = .returned (v0_) ∧ Kd.R (Kd.int .u64) 25 w' w.heap.size (fun _ => True) v0_ (hintsI a0 l1) ∧ Below w.heap.size w w' := by
  intro a0 A1 c1 l1 w hr hc hl
  unfold hintsI
  by_cases h1 : a0 = 1
  · subst h1; rw [if_pos rfl]; exact hints8 A1 c1 l1 w hr hc hl
  · by_cases h2 : a0 = 2
    · subst h2; rw [if_neg h1, if_pos rfl]; exact hints16 A1 c1 l1 w hr hc hl
    · by_cases h4 : a0 = 4
      · subst h4; rw [if_neg h1, if_neg h2, if_pos rfl]; exact hints32 A1 c1 l1 w hr hc hl
      · rw [if_neg h1, if_neg h2, if_neg h4]; exact hints64 a0 h1 h2 h4 A1 c1 l1 w hr hc hl
theorem impl_HashInts.calls (a0 : Int) (A1 : Option Addr) (c1 : Nat) (l1 : List Int) (r : List Int) (w : World) (hr1 : Kd.C (Kd.int .u64) w A1 l1.length l1) (hc1 : l1.length ≤ c1) (h : impl_HashInts.f a0 l1 = some r) :
    Calls Try.prog 15 #[.int .i64 a0, .slice A1 l1.length c1] w fun e w' => ∃ v0_ : Value, e = .returned (v0_) ∧ Kd.R (Kd.int .u64) 25 w' w.heap.size (fun _ => True) v0_ r ∧ Below w.heap.size w w' := by
  unfold impl_HashInts.f at h
  split at h
  · rename_i hl
    obtain rfl := Option.some.inj h
    exact hintsI.calls0 a0 A1 c1 l1 w hr1 hc1 hl
  · cases h


/-! ### laws_FnHashInts: function 6 -/
def laws_FnHashInts.l0 : Nat → Int → List Int → List Int → List Int → Int → Int → Option (Bool)
  | 0, _, _, _, _, _, _ => none
  | k + 1, x5, x6, x7, x20, x21, x22 => if x22 < x21 then (if 0 ≤ x22 then (if x22 < (x20.length : Int) then ((spec_Low.f k x5 (rd x20 x22)).bind fun t124 => ((spec_FromLow.f k t124).bind fun t127 => (if x6.length < 17592186044416 then ((spec_XX.f t124).bind fun t131 => (if x7.length < 17592186044416 then (laws_FnHashInts.l0 k x5 (x6 ++ [t127]) (x7 ++ [t131]) x20 x21 (wrap64 (x22 + 1))) else (none))) else (none)))) else (none)) else (none)) else ((impl_HashInts.f x5 x6).bind fun t135 => ((spec_SameNumbers_uint64.f k t135 x7).bind fun t138 => (some t138)))
def laws_FnHashInts.f (k : Nat) (a0 : Int) (l1 : List Int) : Option (Bool) := if (l1.length : Int) > 2147483647 then (some true) else (if (l1.length : Int) > 100000 then (some true) else (if 0 ≤ (Go.bits .and .i64 a0 3) then (laws_FnHashInts.l0 k (shl .i64 1 (Go.bits .and .i64 a0 3)) ([] : List Int) ([] : List Int) l1 (l1.length : Int) 0) else (none)))
theorem laws_FnHashInts.mono_l : ∀ k, (∀ y0 y1 y2 y3 y4 y5, LeO (laws_FnHashInts.l0 k y0 y1 y2 y3 y4 y5) (laws_FnHashInts.l0 (k + 1) y0 y1 y2 y3 y4 y5))
  | 0 => fun _ _ _ _ _ _ r h => by simp [laws_FnHashInts.l0] at h
  | k + 1 => by
    have ih0 := laws_FnHashInts.mono_l k
    · intro y0 y1 y2 y3 y4 y5
      unfold laws_FnHashInts.l0
      repeat' first
      | (with_reducible exact ih0 _ _ _ _ _ _)
      | (with_reducible exact spec_FromLow.mono _ _)
      | (with_reducible exact spec_Low.mono _ _ _)
      | (with_reducible exact spec_SameNumbers_uint64.mono _ _ _)
      | (with_reducible exact LeO.refl _)
      | (with_reducible exact LeO.none _)
      | (with_reducible refine LeO.ite ?_ ?_)
      | (with_reducible refine LeO.bind ?_ (fun _ => ?_))
      | exact ih0 _ _ _ _ _ _
      | exact spec_FromLow.mono _ _
      | exact spec_Low.mono _ _ _
      | exact spec_SameNumbers_uint64.mono _ _ _
      | exact LeO.none _
      | refine LeO.ite ?_ ?_
      | refine LeO.bind ?_ (fun _ => ?_)
theorem laws_FnHashInts.mono : ∀ a0 a1 k, LeO (laws_FnHashInts.f k a0 a1) (laws_FnHashInts.f (k + 1) a0 a1) := by
  intro a0 a1 k
  have ih0 := laws_FnHashInts.mono_l k
  unfold laws_FnHashInts.f
  repeat' first
      | (with_reducible exact ih0 _ _ _ _ _ _)
      | (with_reducible exact spec_FromLow.mono _ _)
      | (with_reducible exact spec_Low.mono _ _ _)
      | (with_reducible exact spec_SameNumbers_uint64.mono _ _ _)
      | (with_reducible exact LeO.refl _)
      | (with_reducible exact LeO.none _)
      | (with_reducible refine LeO.ite ?_ ?_)
      | (with_reducible refine LeO.bind ?_ (fun _ => ?_))
      | exact ih0 _ _ _ _ _ _
      | exact spec_FromLow.mono _ _
      | exact spec_Low.mono _ _ _
      | exact spec_SameNumbers_uint64.mono _ _ _
      | exact LeO.none _
      | refine LeO.ite ?_ ?_
      | refine LeO.bind ?_ (fun _ => ?_)
set_option maxHeartbeats 8000000 in
set_option maxRecDepth 100000 in
theorem laws_FnHashInts.calls (k : Nat) (a0 : Int) (A1 : Option Addr) (c1 : Nat) (l1 : List Int) (r : Bool) (w : World) (hr1 : Kd.C (Kd.int .u64) w A1 l1.length l1) (hc1 : l1.length ≤ c1) (h : laws_FnHashInts.f k a0 l1 = some r) :
    Calls Try.prog 6 #[.int .i64 a0, .slice A1 l1.length c1] w fun e w' => e = .returned (.bool r) ∧ Below w.heap.size w w' := by
  have HR1 := Aside0.mk hr1
  have HC1 := Aside0.mk hc1
  clear hr1 hc1
  have HB := Aside0.mk (Below.refl w.heap.size w)
  have H : (if (l1.length : Int) > 2147483647 then (some true) else (if (l1.length : Int) > 100000 then (some true) else (if 0 ≤ (Go.bits .and .i64 a0 3) then (laws_FnHashInts.l0 k (shl .i64 1 (Go.bits .and .i64 a0 3)) ([] : List Int) ([] : List Int) l1 (l1.length : Int) 0) else (none)))) = some r := h
  clear h
  by_cases c3 : (l1.length : Int) > 2147483647
  · rw [if_pos c3] at H
    have c3b0 : decide (2147483647 < (l1.length : Int)) = true := decide_eq_true c3
    have c3b1 : decide (2147483647 < l1.length) = true := decide_eq_true (by omega)
    clear c3
    obtain rfl := Option.some.inj H
    go_enter Try.func6, Try.ntmps6
    go_wp2
    go_ret
    exact ⟨by first | rfl | (simp [errW_none, errW_some] <;> rfl) | (simp [*, errW_none, errW_some] <;> rfl), by repeat (first | (with_reducible first | exact HB.out | apply below_alloc | apply pw_below_drewN | apply below_drew1) | exact HB.out)⟩
  · rw [if_neg c3] at H
    have c3b0 : decide (2147483647 < (l1.length : Int)) = false := decide_eq_false c3
    have c3b1 : decide (2147483647 < l1.length) = false := decide_eq_false (by omega)
    clear c3
    by_cases c4 : (l1.length : Int) > 100000
    · rw [if_pos c4] at H
      have c4b0 : decide (100000 < (l1.length : Int)) = true := decide_eq_true c4
      have c4b1 : decide (100000 < l1.length) = true := decide_eq_true (by omega)
      clear c4
      obtain rfl := Option.some.inj H
      go_enter Try.func6, Try.ntmps6
      go_wp2
      go_ret
      exact ⟨by first | rfl | (simp [errW_none, errW_some] <;> rfl) | (simp [*, errW_none, errW_some] <;> rfl), by repeat (first | (with_reducible first | exact HB.out | apply below_alloc | apply pw_below_drewN | apply below_drew1) | exact HB.out)⟩
    · rw [if_neg c4] at H
      have c4b0 : decide (100000 < (l1.length : Int)) = false := decide_eq_false c4
      have c4b1 : decide (100000 < l1.length) = false := decide_eq_false (by omega)
      clear c4
      by_cases c5 : 0 ≤ (Go.bits .and .i64 a0 3)
      · rw [if_pos c5] at H
        have c5b0 := eq_true c5
        have c5b1 : decide (0 ≤ (Go.bits .and .i64 a0 3)) = true := decide_eq_true c5
        clear c5
        obtain ⟨ji6, hji6⟩ : ∃ j_ : Int, (shl .i64 1 (Go.bits .and .i64 a0 3)) = j_ := ⟨_, rfl⟩
        replace H : (laws_FnHashInts.l0 k ji6 ([] : List Int) ([] : List Int) l1 (l1.length : Int) 0) = some r := by first | (rw [hji6] at H; exact H) | (simp only [hji6] at H ⊢; exact H)
        have hji6_ : (IntKind.i64.wrap (1 * 2 ^ min (Go.bits .and .i64 a0 3).toNat 64)) = ji6 := hji6
        have hji6z : (Go.bits .and .i64 a0 3) ≤ 64 → (IntKind.i64.wrap (1 * 2 ^ (Go.bits .and .i64 a0 3).toNat)) = ji6 := shl_small hji6
        have hji6u : (IntKind.i64.wrap (2 ^ min (Go.bits .and .i64 a0 3).toNat 64)) = ji6 := by have h_ := hji6_; rw [Int.one_mul] at h_; exact h_
        have hji6v : (Go.bits .and .i64 a0 3) ≤ 64 → (IntKind.i64.wrap (2 ^ (Go.bits .and .i64 a0 3).toNat)) = ji6 := fun hle_ => by have h_ := hji6z hle_; rw [Int.one_mul] at h_; exact h_
        have hji6y : (wrap64 (1 * 2 ^ min (Go.bits .and .i64 a0 3).toNat 64)) = ji6 := (i64_w _).symm.trans hji6_
        have hji6x : (Go.bits .and .i64 a0 3) ≤ 64 → (wrap64 (1 * 2 ^ (Go.bits .and .i64 a0 3).toNat)) = ji6 := fun h_ => (i64_w _).symm.trans (hji6z h_)
        have H' := Aside0.mk H
        clear H
        go_enter Try.func6, Try.ntmps6
        go_wp2
        go_loopg [6, 7, 22] k (fun kq v6 v7 v22 w' => ∃ (x6_1 : List Int) (x7_1 : List Int) (x22_1 : Int), v22 = .int .i64 x22_1 ∧ Aside0 (laws_FnHashInts.l0 kq ji6 x6_1 x7_1 l1 (l1.length : Int) x22_1 = some r) ∧ Aside0 (kq ≤ k) ∧ Aside0 (Kd.R (Kd.int .u64) 25 w' w.heap.size (fun k_ => some k_ ≠ (v7 : Value).ownBlock) v6 x6_1) ∧ Aside0 (Kd.R (Kd.int .u64) 25 w' w.heap.size (fun k_ => some k_ ≠ (v6 : Value).ownBlock) v7 x7_1) ∧ Aside0 (Below w.heap.size w w'))
        case atStart => exact ⟨(([] : List Int)), (([] : List Int)), (0), (by first | rfl | (simp; done) | (simp [*]; done)), H', ⟨Nat.le_refl _⟩, ⟨by first | exact Kd.R_nil _ _ _ _ _ | exact Kd.N_nil _ _ _ _ _ | exact Kd.V_nil _ _ _ _ _ | exact Kd.Q_nil _ _ _ _ _ | exact Kd.S_nil _ _ _ _ _⟩, ⟨by first | exact Kd.R_nil _ _ _ _ _ | exact Kd.N_nil _ _ _ _ _ | exact Kd.V_nil _ _ _ _ _ | exact Kd.Q_nil _ _ _ _ _ | exact Kd.S_nil _ _ _ _ _⟩, ⟨by repeat (first | (with_reducible first | exact HB.out | apply below_alloc | apply pw_below_drewN | apply below_drew1) | exact HB.out)⟩⟩
        case round =>
          clear H'
          try clear c1
          try clear p2
          try clear c3
          try clear c3b0
          try clear c3b1
          try clear c4
          try clear c4b0
          try clear c4b1
          try clear c5
          try clear c5b0
          try clear c5b1
          try clear c6
          try clear p6
          obtain ⟨x6_1, x7_1, x22_1, rfl, HA, HK1, HO_6, HO_7, HB⟩ := hrel
          cases gk with
          | zero => exact absurd HA.out (by simp [laws_FnHashInts.l0])
          | succ k1 =>
            have H := HA.out
            clear HA
            simp only [laws_FnHashInts.l0] at H
            by_cases c7 : x22_1 < (l1.length : Int)
            · rw [if_pos c7] at H
              have c7b0 : decide (x22_1 < (l1.length : Int)) = true := decide_eq_true c7
              clear c7
              by_cases c8 : 0 ≤ x22_1
              · rw [if_pos c8] at H
                have c8b0 : decide (0 ≤ x22_1) = true := decide_eq_true c8
                clear c8
                by_cases c9 : x22_1 < (l1.length : Int)
                · rw [if_pos c9] at H
                  have c9b0 : decide (x22_1 < (l1.length : Int)) = true := decide_eq_true c9
                  clear c9
                  replace H := Option.bind_eq_some_iff.mp H
                  obtain ⟨t124, A100, H⟩ := H
                  replace H : ((spec_FromLow.f k1 t124).bind fun t127 => (if x6_1.length < 17592186044416 then ((spec_XX.f t124).bind fun t131 => (if x7_1.length < 17592186044416 then (laws_FnHashInts.l0 k1 ji6 (x6_1 ++ [t127]) (x7_1 ++ [t131]) l1 (l1.length : Int) (wrap64 (x22_1 + 1))) else (none))) else (none))) = some r := H
                  have A10 := Aside0.mk A100
                  clear A100
                  replace H := Option.bind_eq_some_iff.mp H
                  obtain ⟨t127, A110, H⟩ := H
                  replace H : (if x6_1.length < 17592186044416 then ((spec_XX.f t124).bind fun t131 => (if x7_1.length < 17592186044416 then (laws_FnHashInts.l0 k1 ji6 (x6_1 ++ [t127]) (x7_1 ++ [t131]) l1 (l1.length : Int) (wrap64 (x22_1 + 1))) else (none))) else (none)) = some r := H
                  have A11 := Aside0.mk A110
                  clear A110
                  by_cases c12 : x6_1.length < 17592186044416
                  · rw [if_pos c12] at H
                    have LMc12 := Aside0.mk c12
                    clear c12
                    obtain ⟨y128, hy128⟩ : ∃ y_ : List Int, y_ = (x6_1 ++ [t127]) := ⟨_, rfl⟩
                    replace H : ((spec_XX.f t124).bind fun t131 => (if x7_1.length < 17592186044416 then (laws_FnHashInts.l0 k1 ji6 y128 (x7_1 ++ [t131]) l1 (l1.length : Int) (wrap64 (x22_1 + 1))) else (none))) = some r := by first | (rw [hy128]; with_reducible exact H) | (have H2_ := (Option.bind_some _ _).symm.trans H; rw [hy128]; with_reducible exact H2_) | (have H2_ := (Option.bind_some _ _).symm.trans H; with_reducible exact H2_) | with_reducible exact H | (rw [hy128]; exact H) | exact H
                    have Ny128 := Aside0.mk hy128
                    clear hy128
                    replace H := Option.bind_eq_some_iff.mp H
                    obtain ⟨t131, A130, H⟩ := H
                    replace H : (if x7_1.length < 17592186044416 then (laws_FnHashInts.l0 k1 ji6 y128 (x7_1 ++ [t131]) l1 (l1.length : Int) (wrap64 (x22_1 + 1))) else (none)) = some r := H
                    have A13 := Aside0.mk A130
                    clear A130
                    by_cases c14 : x7_1.length < 17592186044416
                    · rw [if_pos c14] at H
                      have LMc14 := Aside0.mk c14
                      clear c14
                      obtain ⟨y132, hy132⟩ : ∃ y_ : List Int, y_ = (x7_1 ++ [t131]) := ⟨_, rfl⟩
                      replace H : (laws_FnHashInts.l0 k1 ji6 y128 y132 l1 (l1.length : Int) (wrap64 (x22_1 + 1))) = some r := by first | (rw [hy132]; with_reducible exact H) | (have H2_ := (Option.bind_some _ _).symm.trans H; rw [hy132]; with_reducible exact H2_) | (have H2_ := (Option.bind_some _ _).symm.trans H; with_reducible exact H2_) | with_reducible exact H | (rw [hy132]; exact H) | exact H
                      have Ny132 := Aside0.mk hy132
                      clear hy132
                      have H' := Aside0.mk H
                      clear H
                      have p123 : 0 ≤ (x22_1 : Int) := of_decide_eq_true (by first | (with_reducible assumption) | assumption)
                      have q123 : x22_1 < (l1.length : Int) := of_decide_eq_true (by first | (with_reducible assumption) | assumption)
                      obtain ⟨ad123, e123, hx123_0⟩ := Kd.at_int HR1.out x22_1 p123 q123
                      cases e123
                      replace hx123_0 := (HB.out.cell (World.block_lt_of_cell? w _ hx123_0)).trans hx123_0
                      replace p123 := eq_true p123
                      replace q123 := eq_true q123
                      go_wp2_with (first | ((with_reducible refine gate_callee (f := 8) rfl ?_); refine goesL_ (some 28) rfl rfl Try.func8 (by kernel_rfl) rfl #[.int .i64 ji6, .int .u64 (rd l1 x22_1)] rfl (by (try simp only [List.map_toArray, List.map_cons, List.map_nil]); first | done | (simp only [hji6]; rfl) | rfl | (simp only [List.length_drop, List.length_take]; rfl)) ?_; (with_reducible refine (spec_Low.calls k1 ji6 (rd l1 x22_1) t124 _ A10.out).mono ?_); rintro e w15 ⟨v125, rfl, ho0, hb⟩; refine ⟨_, rfl, ?_⟩; have n0_ := Aside0.mk (Kd.R_below (by (with_reducible repeat (first | apply Kd.R_alloc | apply Kd.R_drewN | apply Kd.R_drew)); exact HO_6.out) hb); have n1_ := Aside0.mk (Kd.R_below (by (with_reducible repeat (first | apply Kd.R_alloc | apply Kd.R_drewN | apply Kd.R_drew)); exact HO_7.out) hb); have n2_ := Aside0.mk (Kd.R_lower ho0 (below_size (by repeat (first | (with_reducible first | exact HB.out | apply below_alloc | apply pw_below_drewN | apply below_drew1) | exact HB.out)))); have n3_ := Aside0.mk (below_step (by repeat (first | (with_reducible first | exact HB.out | apply below_alloc | apply pw_below_drewN | apply below_drew1) | exact HB.out)) hb); clear HO_6; clear HO_7; clear HB; have HO_6 := n0_; have HO_7 := n1_; have HO126 := n2_; have HB := n3_; clear n0_ n1_ n2_ n3_; (try clear hb); (try clear hb2); (try clear hk); (try clear hi); (try clear ho0); obtain ⟨Ao16, co16, eo16⟩ := Kd.R_slice HO126.out; subst eo16) | ((with_reducible refine gate_callee (f := 10) rfl ?_); refine goesL_ (some 31) rfl rfl Try.func10 (by kernel_rfl) rfl #[.slice Ao16 t124.length co16] rfl (by (try simp only [List.map_toArray, List.map_cons, List.map_nil]); first | done | rfl | (simp only [List.length_drop, List.length_take]; rfl)) ?_; (with_reducible refine (spec_FromLow.calls k1 _ _ t124 t127 _ ?side1 ?side2 A11.out).mono ?_); (case side1 => repeat (first | exact (Kd.R_reads' HO126.out).2.2 | (with_reducible refine Kd.C_alloc ?_ _) | (with_reducible refine Kd.C_drewN ?_ _) | (with_reducible refine Kd.C_drew ?_))); (case side2 => exact (Kd.R_reads' HO126.out).2.1); rintro e w' ⟨rfl, ⟨nd, rfl⟩⟩; refine ⟨_, rfl, ?_⟩) | ((with_reducible refine gate_builtin (b := .append) (xs := #[.tmp 29, .tmp 32]) rfl ?_); at_builtin; refine Kd.R_append (Kd.int .u64) (w0 := w) w.heap.size rfl (.tmp 29) (.tmp 32) 33 25 (.int .u64 0) 8 rfl Try.underlying33 info25 rfl (by decide) (by omega) u6 x6_1 t127 [.int .u64 t127] (fun k_ => some k_ ≠ (u7 : Value).ownBlock) (fun _ => False) rfl rfl ?aP (fun _ hk => hk.elim) ?aF ?aO ?aB ?aS ?aL ?_; (case aP => exact rfl); (case aB => exact (by repeat (first | (with_reducible first | exact HB.out | apply below_alloc | apply pw_below_drewN | apply below_drew1) | exact HB.out))); (case aF => exact (fun k_ hk => Kd.fresh' (Kd.R_lt (by (with_reducible repeat (first | apply Kd.R_alloc | apply Kd.R_drewN | apply Kd.R_drew)); exact HO_7.out)) k_ hk)); (case aO => exact (by (with_reducible repeat (first | apply Kd.R_alloc | apply Kd.R_drewN | apply Kd.R_drew)); exact HO_6.out)); (case aS => exact (below_size (by repeat (first | (with_reducible first | exact HB.out | apply below_alloc | apply pw_below_drewN | apply below_drew1) | exact HB.out)))); (case aL => have := LMc12.out; omega); intro v129 w17 ho hb hg hat; rw [← Ny128.out] at ho; have n0_ := Aside0.mk (Kd.R_after (ok := (fun _ => True)) (by (with_reducible repeat (first | apply Kd.R_alloc | apply Kd.R_drewN | apply Kd.R_drew)); exact Kd.R_mono HO_7.out (fun _ hk => ⟨trivial, hk⟩)) hg hat); have n1_ := Aside0.mk (Kd.R_over' (by (with_reducible repeat (first | apply Kd.R_alloc | apply Kd.R_drewN | apply Kd.R_drew)); exact HO126.out) (Kd.R_typed (by (with_reducible repeat (first | apply Kd.R_alloc | apply Kd.R_drewN | apply Kd.R_drew)); exact HO_6.out)) (by decide) hg); have n2_ := Aside0.mk (hb); have n3_ := Aside0.mk (ho); clear HO_7; clear HO126; clear HB; clear HO_6; have HO_7 := n0_; have HO126 := n1_; have HB := n2_; have HO130 := n3_; clear n0_ n1_ n2_ n3_; clear ho hb hg hat) | ((with_reducible refine gate_callee (f := 11) rfl ?_); refine goesL_ (some 36) rfl rfl Try.func11 (by kernel_rfl) rfl #[.slice Ao16 t124.length co16] rfl (by (try simp only [List.map_toArray, List.map_cons, List.map_nil]); first | done | rfl | (simp only [List.length_drop, List.length_take]; rfl)) ?_; (with_reducible refine (spec_XX.calls _ _ t124 t131 _ ?side1 ?side2 A13.out).mono ?_); (case side1 => repeat (first | exact (Kd.R_reads' HO126.out).2.2 | (with_reducible refine Kd.C_alloc ?_ _) | (with_reducible refine Kd.C_drewN ?_ _) | (with_reducible refine Kd.C_drew ?_))); (case side2 => exact (Kd.R_reads' HO126.out).2.1); rintro e w18 ⟨rfl, hb⟩; refine ⟨_, rfl, ?_⟩; have n0_ := Aside0.mk (Kd.R_below (by (with_reducible repeat (first | apply Kd.R_alloc | apply Kd.R_drewN | apply Kd.R_drew)); exact HO_7.out) hb); have n1_ := Aside0.mk (Kd.R_below (by (with_reducible repeat (first | apply Kd.R_alloc | apply Kd.R_drewN | apply Kd.R_drew)); exact HO126.out) hb); have n2_ := Aside0.mk (Kd.R_below (by (with_reducible repeat (first | apply Kd.R_alloc | apply Kd.R_drewN | apply Kd.R_drew)); exact HO130.out) hb); have n3_ := Aside0.mk (below_step (by repeat (first | (with_reducible first | exact HB.out | apply below_alloc | apply pw_below_drewN | apply below_drew1) | exact HB.out)) hb); clear HO_7; clear HO126; clear HO130; clear HB; have HO_7 := n0_; have HO126 := n1_; have HO130 := n2_; have HB := n3_; clear n0_ n1_ n2_ n3_; (try clear hb); (try clear hb2); (try clear hk); (try clear hi)) | ((with_reducible refine gate_builtin (b := .append) (xs := #[.tmp 34, .tmp 37]) rfl ?_); at_builtin; refine Kd.R_append (Kd.int .u64) (w0 := w) w.heap.size rfl (.tmp 34) (.tmp 37) 33 25 (.int .u64 0) 8 rfl Try.underlying33 info25 rfl (by decide) (by omega) u7 x7_1 t131 [.int .u64 t131] (fun k_ => some k_ ≠ (v129 : Value).ownBlock) (fun _ => False) rfl rfl ?aP (fun _ hk => hk.elim) ?aF ?aO ?aB ?aS ?aL ?_; (case aP => exact rfl); (case aB => exact (by repeat (first | (with_reducible first | exact HB.out | apply below_alloc | apply pw_below_drewN | apply below_drew1) | exact HB.out))); (case aF => exact (fun k_ hk => Kd.fresh' (Kd.R_lt (by (with_reducible repeat (first | apply Kd.R_alloc | apply Kd.R_drewN | apply Kd.R_drew)); exact HO130.out)) k_ hk)); (case aO => exact (by (with_reducible repeat (first | apply Kd.R_alloc | apply Kd.R_drewN | apply Kd.R_drew)); exact Kd.R_mono HO_7.out (fun _ hk => hk.2))); (case aS => exact (below_size (by repeat (first | (with_reducible first | exact HB.out | apply below_alloc | apply pw_below_drewN | apply below_drew1) | exact HB.out)))); (case aL => have := LMc14.out; omega); intro v133 w19 ho hb hg hat; rw [← Ny132.out] at ho; have n0_ := Aside0.mk (Kd.R_over' (by (with_reducible repeat (first | apply Kd.R_alloc | apply Kd.R_drewN | apply Kd.R_drew)); exact HO126.out) (Kd.R_typed (by (with_reducible repeat (first | apply Kd.R_alloc | apply Kd.R_drewN | apply Kd.R_drew)); exact HO_7.out)) (by decide) hg); have n1_ := Aside0.mk (Kd.R_after (ok := (fun _ => True)) (by (with_reducible repeat (first | apply Kd.R_alloc | apply Kd.R_drewN | apply Kd.R_drew)); exact Kd.R_mono HO130.out (fun _ hk => ⟨trivial, hk⟩)) hg hat); have n2_ := Aside0.mk (hb); have n3_ := Aside0.mk (ho); clear HO126; clear HO130; clear HB; clear HO_7; have HO126 := n0_; have HO130 := n1_; have HB := n2_; have HO134 := n3_; clear n0_ n1_ n2_ n3_; clear ho hb hg hat))
                      go_roundg k1
                      case measure => have := HK1.out; omega
                      case rel => exact ⟨(y128), (y132), (wrap64 (x22_1 + 1)), (by first | rfl | (simp; done) | (simp [*]; done)), H', ⟨by have := HK1.out; omega⟩, ⟨by (with_reducible repeat (first | apply Kd.R_alloc | apply Kd.R_drewN | apply Kd.R_drew)); exact Kd.R_mono HO130.out (fun _ hk => hk.2)⟩, ⟨by (with_reducible repeat (first | apply Kd.R_alloc | apply Kd.R_drewN | apply Kd.R_drew)); exact HO134.out⟩, ⟨by repeat (first | (with_reducible first | exact HB.out | apply below_alloc | apply pw_below_drewN | apply below_drew1) | exact HB.out)⟩⟩
                    · rw [if_neg c14] at H
                      exact absurd H (by simp)
                  · rw [if_neg c12] at H
                    exact absurd H (by simp)
                · rw [if_neg c9] at H
                  exact absurd H (by simp)
              · rw [if_neg c8] at H
                exact absurd H (by simp)
            · rw [if_neg c7] at H
              have c7b0 : decide (x22_1 < (l1.length : Int)) = false := decide_eq_false c7
              clear c7
              replace H := Option.bind_eq_some_iff.mp H
              obtain ⟨t135, A200, H⟩ := H
              replace H : ((spec_SameNumbers_uint64.f k1 t135 x7_1).bind fun t138 => (some t138)) = some r := H
              have A20 := Aside0.mk A200
              clear A200
              replace H := Option.bind_eq_some_iff.mp H
              obtain ⟨t138, A210, H⟩ := H
              replace H : (some t138) = some r := H
              have A21 := Aside0.mk A210
              clear A210
              obtain rfl := Option.some.inj H
              obtain ⟨Ao22, co22, eo22⟩ := Kd.R_slice HO_6.out
              subst eo22
              go_wp2_with (first | ((with_reducible refine gate_callee (f := 15) rfl ?_); refine goesL_ (some 42) rfl rfl Try.func15 (by kernel_rfl) rfl #[.int .i64 ji6, .slice Ao22 x6_1.length co22] rfl (by (try simp only [List.map_toArray, List.map_cons, List.map_nil]); first | done | (simp only [hji6]; rfl) | rfl | (simp only [List.length_drop, List.length_take]; rfl)) ?_; (with_reducible refine (impl_HashInts.calls ji6 _ _ x6_1 t135 _ ?side1 ?side2 A20.out).mono ?_); (case side1 => repeat (first | exact (Kd.R_reads' HO_6.out).2.2 | (with_reducible refine Kd.C_alloc ?_ _) | (with_reducible refine Kd.C_drewN ?_ _) | (with_reducible refine Kd.C_drew ?_))); (case side2 => exact (Kd.R_reads' HO_6.out).2.1); rintro e w23 ⟨v136, rfl, ho0, hb⟩; refine ⟨_, rfl, ?_⟩; have n0_ := Aside0.mk (Kd.R_elder' (by (with_reducible repeat (first | apply Kd.R_alloc | apply Kd.R_drewN | apply Kd.R_drew)); exact HO_6.out) (Kd.R_base ho0) hb); have n1_ := Aside0.mk (Kd.R_elder' (by (with_reducible repeat (first | apply Kd.R_alloc | apply Kd.R_drewN | apply Kd.R_drew)); exact HO_7.out) (Kd.R_base ho0) hb); have n2_ := Aside0.mk (Kd.R_lower (Kd.R_new' (Kd.R_new' ho0 (Kd.R_lt (by (with_reducible repeat (first | apply Kd.R_alloc | apply Kd.R_drewN | apply Kd.R_drew)); exact HO_6.out))) (Kd.R_lt (by (with_reducible repeat (first | apply Kd.R_alloc | apply Kd.R_drewN | apply Kd.R_drew)); exact HO_7.out))) (below_size (by repeat (first | (with_reducible first | exact HB.out | apply below_alloc | apply pw_below_drewN | apply below_drew1) | exact HB.out)))); have n3_ := Aside0.mk (below_step (by repeat (first | (with_reducible first | exact HB.out | apply below_alloc | apply pw_below_drewN | apply below_drew1) | exact HB.out)) hb); clear HO_6; clear HO_7; clear HB; have HO_6 := n0_; have HO_7 := n1_; have HO137 := n2_; have HB := n3_; clear n0_ n1_ n2_ n3_; (try clear hb); (try clear hb2); (try clear hk); (try clear hi); (try clear ho0); obtain ⟨Ao24, co24, eo24⟩ := Kd.R_slice HO137.out; subst eo24; obtain ⟨Ao25, co25, eo25⟩ := Kd.R_slice HO_7.out; subst eo25) | ((with_reducible refine gate_callee (f := 14) rfl ?_); refine goesL_ (some 44) rfl rfl Try.func14 (by kernel_rfl) rfl #[.slice Ao24 t135.length co24, .slice Ao25 x7_1.length co25] rfl (by (try simp only [List.map_toArray, List.map_cons, List.map_nil]); first | done | rfl | (simp only [List.length_drop, List.length_take]; rfl)) ?_; (with_reducible refine (spec_SameNumbers_uint64.calls k1 _ _ t135 _ _ x7_1 t138 _ ?side1 ?side2 ?side3 ?side4 A21.out).mono ?_); (case side1 => repeat (first | exact (Kd.R_reads' HO137.out).2.2 | (with_reducible refine Kd.C_alloc ?_ _) | (with_reducible refine Kd.C_drewN ?_ _) | (with_reducible refine Kd.C_drew ?_))); (case side2 => exact (Kd.R_reads' HO137.out).2.1); (case side3 => repeat (first | exact (Kd.R_reads' HO_7.out).2.2 | (with_reducible refine Kd.C_alloc ?_ _) | (with_reducible refine Kd.C_drewN ?_ _) | (with_reducible refine Kd.C_drew ?_))); (case side4 => exact (Kd.R_reads' HO_7.out).2.1); rintro e w' ⟨rfl, ⟨nd, rfl⟩⟩; refine ⟨_, rfl, ?_⟩))
              go_ret
              exact ⟨by first | rfl | (simp [errW_none, errW_some] <;> rfl) | (simp only [← hji6]; first | rfl | (simp [errW_none, errW_some] <;> rfl)) | (simp [*, errW_none, errW_some] <;> rfl), by repeat (first | (with_reducible first | exact HB.out | apply below_alloc | apply pw_below_drewN | apply below_drew1) | exact HB.out)⟩
      · rw [if_neg c5] at H
        exact absurd H (by simp)

/-- THE ONE PURE STATEMENT of laws_FnHashInts: yours. -/
def laws_FnHashInts.Pure : Prop := ∀ (a0 : Int) (l1 : List Int), (Lit.int .i64 a0).wf = true → l1.length ≤ maxLen → l1.length * 8 ≤ 140737488351232 → (∀ x ∈ l1, (Lit.int .u64 x).wf = true) → ∃ k, laws_FnHashInts.f k a0 l1 = some true
theorem laws_FnHashInts.walk (P : laws_FnHashInts.Pure) (a0 : Int) (a1 : Option Addr) (len1 cap1 : Nat) (z1 : List Int) (w : World) (w0 : (Lit.int .i64 a0).wf = true) (w1 : (a1 = none ∧ len1 = 0 ∧ cap1 = 0 ∧ z1 = []) ∨ ∃ x, a1 = some x ∧ len1 ≤ cap1 ∧ cap1 ≤ maxLen ∧ z1.length = cap1 ∧ (∀ i, i < z1.length → w.cell? (x.add i) = some (.int .u64 (z1.getD i 0))) ∧ ∀ n ∈ z1, (Lit.int .u64 n).wf = true) (y1 : len1 * 8 ≤ 140737488351232) :
    Calls Try.prog 6 #[.int .i64 a0, .slice a1 len1 cap1] w fun e w' => e = .returned (.bool true) ∧ Below w.heap.size w w' := by
  obtain ⟨l1, rfl, hr1, hm1, hw1, hc1⟩ := ReadsInt.ofRowC w1
  obtain ⟨k, h⟩ := P a0 l1 w0 hm1 y1 hw1
  refine (laws_FnHashInts.calls k a0 _ _ l1 true w (Kd.C_of_reads (d := (0 : Int)) (h1 := fun _ => rfl) hr1) hc1 h).mono ?_
  rintro e w' ⟨rfl, hd⟩
  exact ⟨rfl, hd⟩

end Go.Proofs.Ytojoppondgnajaa.PFnHashInts
