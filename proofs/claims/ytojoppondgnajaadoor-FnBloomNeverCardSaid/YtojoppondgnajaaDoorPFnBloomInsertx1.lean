-- Laid by a program of this session over the kit's print (stand-ins: functions proved by hand).
import Derived.Test.YtojoppondgnajaaDoorPFnBloomInsertx0
namespace Go.Proofs.YtojoppondgnajaaDoor.PFnBloomInsert
open Go.Proofs.YtojoppondgnajaaDoor.Aid
open Go.RowKit Go.Proofs.YtojoppondgnajaaDoorW.PrintWords Go.Proofs.YtojoppondgnajaaDoorW.PrintLast Go.Proofs.YtojoppondgnajaaDoorW.PrintMore
attribute [local go_sem] max2_int min2_int max_two min_two max_three min_three max_four min_four   -- for this text's walks alone
set_option linter.unusedVariables false
set_option linter.unusedSimpArgs false

/-! ### spec_IsFilter: function 7 -/
def spec_IsFilter.f (l0 : List Int) : Option (Bool) := if (l0.length : Int) > 0 then (if ((l0.length : Int) % 32) = 0 then (some (decide ((l0.length : Int) ≤ 100000))) else (some false)) else (some false)
set_option maxHeartbeats 8000000 in
set_option maxRecDepth 100000 in
theorem spec_IsFilter.calls (A0 : Option Addr) (c0 : Nat) (l0 : List Int) (r : Bool) (w : World) (hr0 : Kd.C (Kd.int .u8) w A0 l0.length l0) (hc0 : l0.length ≤ c0) (h : spec_IsFilter.f l0 = some r) :
    Calls Tryd.prog 7 #[.slice A0 l0.length c0] w fun e w' => e = .returned (.bool r) ∧ Drawn0 w w' := by
  have HR0 := Aside0.mk hr0
  have HC0 := Aside0.mk hc0
  clear hr0 hc0
  have H : (if (l0.length : Int) > 0 then (if ((l0.length : Int) % 32) = 0 then (some (decide ((l0.length : Int) ≤ 100000))) else (some false)) else (some false)) = some r := h
  clear h
  by_cases c2 : (l0.length : Int) > 0
  · rw [if_pos c2] at H
    have c2b0 : decide (0 < (l0.length : Int)) = true := decide_eq_true c2
    have c2b1 : decide (0 < l0.length) = true := decide_eq_true (by omega)
    clear c2
    by_cases c3 : ((l0.length : Int) % 32) = 0
    · rw [if_pos c3] at H
      have c3b0 : (((l0.length : Int) % 32) == 0) = true := beq_iff_eq.mpr c3
      have c3b1 : (((l0.length : Int) % 32) != 0) = false := bne_eq_false_iff_eq.mpr c3
      clear c3
      obtain rfl := Option.some.inj H
      go_enter Tryd.func7, Tryd.ntmps7
      go_wp2
      go_ret
      exact ⟨by first | rfl | (simp; done) | (simp [*]; done), by repeat (first | exact Drawn0.refl _ | apply Drawn0.step)⟩
    · rw [if_neg c3] at H
      have c3b0 : (((l0.length : Int) % 32) == 0) = false := beq_eq_false_iff_ne.mpr c3
      have c3b1 : (((l0.length : Int) % 32) != 0) = true := bne_iff_ne.mpr c3
      obtain rfl := Option.some.inj H
      go_enter Tryd.func7, Tryd.ntmps7
      go_wp2
      go_ret
      exact ⟨by first | rfl | (simp; done) | (simp [*]; done), by repeat (first | exact Drawn0.refl _ | apply Drawn0.step)⟩
  · rw [if_neg c2] at H
    have c2b0 : decide (0 < (l0.length : Int)) = false := decide_eq_false c2
    have c2b1 : decide (0 < l0.length) = false := decide_eq_false (by omega)
    clear c2
    obtain rfl := Option.some.inj H
    go_enter Tryd.func7, Tryd.ntmps7
    go_wp2
    go_ret
    exact ⟨by first | rfl | (simp; done) | (simp [*]; done), by repeat (first | exact Drawn0.refl _ | apply Drawn0.step)⟩

-- NOT PRINTED: function 22 (spec_salt)

-- NOT PRINTED: function 16 (spec_places)

-- NOT PRINTED: function 10 (spec_Inserted)

/-! ### spec_Same: function 11 -/
def spec_Same.f (l0 : List Int) (l1 : List Int) : Option (Bool) := some ((strOfNums l0).toList == (strOfNums l1).toList)
set_option maxHeartbeats 8000000 in
set_option maxRecDepth 100000 in
theorem spec_Same.calls (A0 : Option Addr) (c0 : Nat) (l0 : List Int) (A1 : Option Addr) (c1 : Nat) (l1 : List Int) (r : Bool) (w : World) (hr0 : Kd.C (Kd.int .u8) w A0 l0.length l0) (hc0 : l0.length ≤ c0) (hr1 : Kd.C (Kd.int .u8) w A1 l1.length l1) (hc1 : l1.length ≤ c1) (h : spec_Same.f l0 l1 = some r) :
    Calls Tryd.prog 11 #[.slice A0 l0.length c0, .slice A1 l1.length c1] w fun e w' => e = .returned (.bool r) ∧ Drawn0 w w' := by
  have HR0 := Aside0.mk hr0
  have HC0 := Aside0.mk hc0
  clear hr0 hc0
  have HR1 := Aside0.mk hr1
  have HC1 := Aside0.mk hc1
  clear hr1 hc1
  have H : (some ((strOfNums l0).toList == (strOfNums l1).toList)) = some r := h
  clear h
  obtain rfl := Option.some.inj H
  have hcv3 := Kd.C_string (P := Tryd.prog) (A := A0) (c := c0) Tryd.underlying22 Tryd.underlying5 Tryd.underlying9 HR0.out
  have hcv4 := Kd.C_string (P := Tryd.prog) (A := A1) (c := c1) Tryd.underlying22 Tryd.underlying5 Tryd.underlying9 HR1.out
  go_enter Tryd.func11, Tryd.ntmps11
  go_wp2
  go_ret
  exact ⟨by first | rfl | (simp; done) | (simp [*]; done), by repeat (first | exact Drawn0.refl _ | apply Drawn0.step)⟩

/-! ### pqbloom_leUint32: function 26, by hand -/
def pqbloom_leUint32.f (l0 : List Int) : Option (Int) := if 4 ≤ l0.length ∧ bytesB l0 = true then some (le4L l0) else none
set_option maxHeartbeats 2000000 in
theorem pqbloom_leUint32.calls (A0 : Option Addr) (c0 : Nat) (l0 : List Int) (r : Int) (w : World) (hr0 : Kd.C (Kd.int .u8) w A0 l0.length l0) (hc0 : l0.length ≤ c0) (h : pqbloom_leUint32.f l0 = some r) :
    Calls Tryd.prog 26 #[.slice A0 l0.length c0] w fun e w' => e = .returned (.int .u32 r) ∧ Drawn0 w w' := by
  unfold pqbloom_leUint32.f at h
  split at h
  · rename_i hb
    obtain ⟨hl, hb⟩ := hb
    obtain rfl := Option.some.inj h
    have b0 := bytesB_rd hb (i := 0) (k := 0) rfl (by omega)
    have b1 := bytesB_rd hb (i := 1) (k := 1) rfl (by omega)
    have b2 := bytesB_rd hb (i := 2) (k := 2) rfl (by omega)
    have b3 := bytesB_rd hb (i := 3) (k := 3) rfl (by omega)
    obtain ⟨ad, rfl, x0⟩ := Kd.at_int hr0 0 (by omega) (by omega)
    obtain ⟨ad1, e1, x1⟩ := Kd.at_int hr0 1 (by omega) (by omega)
    obtain ⟨ad2, e2, x2⟩ := Kd.at_int hr0 2 (by omega) (by omega)
    obtain ⟨ad3, e3, x3⟩ := Kd.at_int hr0 3 (by omega) (by omega)
    obtain rfl : ad = ad1 := (by injection e1)
    obtain rfl : ad = ad2 := (by injection e2)
    obtain rfl : ad = ad3 := (by injection e3)
    have i0 : decide (0 < l0.length) = true := decide_eq_true (by omega)
    have i1 : decide (1 < l0.length) = true := decide_eq_true (by omega)
    have i2 : decide (2 < l0.length) = true := decide_eq_true (by omega)
    have i3 : decide (3 < l0.length) = true := decide_eq_true (by omega)
    simp only [show (1 : Int).toNat = 1 from rfl, show (2 : Int).toNat = 2 from rfl, show (3 : Int).toNat = 3 from rfl, show (0 : Int).toNat = 0 from rfl, Addr.add_zero'] at x0 x1 x2 x3
    simp only [Go.Addr.add, Nat.reduceEqDiff, ↓reduceIte] at x1 x2 x3
    have B := Aside0.mk (⟨b0, b1, b2, b3⟩ : byt _ ∧ byt _ ∧ byt _ ∧ byt _)
    clear hr0 e1 e2 e3 b0 b1 b2 b3 hb h
    go_enter Tryd.func26, Tryd.ntmps26
    go_wp2
    repeat (go_quiet (fail); try go_wp2)
    go_ret
    obtain ⟨b0, b1, b2, b3⟩ := B.out
    exact ⟨congrArg (fun x => Ending.returned (Value.int .u32 x)) (le4_raw _ _ _ _ b0 b1 b2 b3), ⟨⟨_, rfl⟩⟩⟩
  · cases h


-- NOT PRINTED: function 20 (pqbloom_blockOf)

-- NOT PRINTED: function 14 (pqbloom_MakeSplitBlockFilter)

/-! ### pqbloom_fasthash1x64: function 27 -/
def pqbloom_fasthash1x64.f (a0 : Int) (a1 : Int) : Option (Int) := some ((IntKind.u64.wrap ((a0 / 4294967296) * (IntKind.u64.wrap (a1)))) / 4294967296)
set_option maxHeartbeats 8000000 in
set_option maxRecDepth 100000 in
theorem pqbloom_fasthash1x64.calls (a0 : Int) (a1 : Int) (r : Int) (w : World) (h : pqbloom_fasthash1x64.f a0 a1 = some r) :
    Calls Tryd.prog 27 #[.int .u64 a0, .int .i32 a1] w fun e w' => e = .returned (.int .u64 r) ∧ Drawn0 w w' := by
  have H : (some ((IntKind.u64.wrap ((a0 / 4294967296) * (IntKind.u64.wrap (a1)))) / 4294967296)) = some r := h
  clear h
  obtain rfl := Option.some.inj H
  go_enter Tryd.func27, Tryd.ntmps27
  go_wp2
  go_ret
  exact ⟨by first | rfl | (simp; done) | (simp [*]; done), by repeat (first | exact Drawn0.refl _ | apply Drawn0.step)⟩

-- NOT PRINTED: function 33 (pqbloom_Word_set)

-- NOT PRINTED: function 31 (pqbloom_mask)

/-! ### pqbloom_Word_has: function 32, by hand -/
def pqbloom_Word_has.f (a0 a1 : Int) : Option Bool := none


-- NOT PRINTED: function 29 (pqbloom_Block_Insert)

-- NOT PRINTED: function 23 (pqbloom_filterInsert)

-- NOT PRINTED: function 17 (pqbloom_SplitBlockFilter_Insert)

/-! ### pqbloom_lePutUint32: function 30, by hand -/
set_option maxHeartbeats 2000000 in
theorem pqbloom_lePutUint32.calls (g o n c : Nat) (t : TypeId) (xs : List Int) (v : Int) (w : World) (hrow : Row w g t .u8 xs) (hn : 4 ≤ n) (ho : o + 4 ≤ xs.length) (hv0 : 0 ≤ v) (hv1 : v < 4294967296) :
    Calls Tryd.prog 30 #[.slice (some ⟨g, o, none⟩) n c, .int .u32 v] w fun e w' => e = .returned (.tuple #[]) ∧ w.grownBy w' (some g) ∧ Row w' g t .u8 (put4 xs o v) := by
  have HR := Aside0.mk hrow
  have x3 := hrow.cell (j := o + 3) (by omega)
  have x0 := hrow.cell (j := o) (by omega)
  have x1 := hrow.cell (j := o + 1) (by omega)
  have x2 := hrow.cell (j := o + 2) (by omega)
  have f0 := hrow.free o
  have f1 := hrow.free (o + 1)
  have f2 := hrow.free (o + 2)
  have f3 := hrow.free (o + 3)
  have i0 : decide (0 < n) = true := decide_eq_true (by omega)
  have i1 : decide (1 < n) = true := decide_eq_true (by omega)
  have i2 : decide (2 < n) = true := decide_eq_true (by omega)
  have i3 : decide (3 < n) = true := decide_eq_true (by omega)
  clear hrow
  go_enter Tryd.func30, Tryd.ntmps30
  go_wp2
  go_end0
  refine ⟨rfl, grownSet (grownSet (grownSet (grownSet (grownRefl w _) o _) (o + 1) _) (o + 2) _) (o + 3) _, ?_⟩
  have e : v / 16777216 = v / 16777216 % 256 := by omega
  rw [e]
  exact (((HR.out.set o (v % 256)).set (o + 1) (v / 256 % 256)).set (o + 2) (v / 65536 % 256)).set (o + 3) (v / 16777216 % 256)


-- NOT PRINTED: function 24 (pqbloom_Block_Bytes)

-- NOT PRINTED: function 18 (pqbloom_SplitBlockFilter_Bytes)

-- NOT PRINTED: function 12 (impl_Insert)

-- NOT PRINTED: function 25 (pqbloom_filterInsertBulk)

-- NOT PRINTED: function 19 (pqbloom_SplitBlockFilter_InsertBulk)

-- NOT PRINTED: function 13 (impl_InsertBulk)

-- NOT PRINTED: function 4 (laws_FnBloomInsert)

end Go.Proofs.YtojoppondgnajaaDoor.PFnBloomInsert
