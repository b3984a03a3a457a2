import Derived.Test.YtigmcdpjlkgocaaProg
import Derived.Test.YtigmcdpjlkgocaaLst
/-! Words of four and of eight bytes, the low ones first, read and written. -/
namespace Go.Proofs.Ytigmcdpjlkgocaa.Le
open Go.Proofs.Ytigmcdpjlkgocaa.Lst Go.Proofs.Ytigmcdpjlkgocaa.Aid Go.RowKit Go.Proofs.YtigmcdpjlkgocaaW.PrintWords Go.Proofs.YtigmcdpjlkgocaaW.PrintLast Go.Proofs.YtigmcdpjlkgocaaW.PrintMore
set_option linter.unusedVariables false
set_option linter.unusedSimpArgs false
theorem h8 : ∃ i, (Try.prog.info? 5) = some i ∧ i.size = 1 := Option.map_eq_some_iff.1 (show (Try.prog.info? 5).map (fun i => i.size) = some 1 by kernel_rfl)
def put8 (xs : List Int) (o : Nat) (v : Int) : List Int := put4 (put4 xs o (v % 4294967296)) (o + 4) (v / 4294967296)
theorem put8_length (xs : List Int) (o : Nat) (v : Int) : (put8 xs o v).length = xs.length := by simp [put8, put4_length]
/-! ### many words, one behind the other -/
def p4 (xs : List Int) (n : Nat) : Nat → List Int
  | 0 => List.replicate (4 * n) 0
  | k + 1 => put4 (p4 xs n k) (4 * k) (rd xs (k : Nat))
theorem p4_length (xs : List Int) (n k : Nat) : (p4 xs n k).length = 4 * n := by
  induction k with
  | zero => simp [p4]
  | succ k ih => simp [p4, put4_length, ih]
theorem rd_p4 (xs : List Int) (n k i : Nat) (hk : k ≤ n) : rd (p4 xs n k) (i : Nat) = if i < 4 * k then rd xs (i / 4 : Nat) / 256 ^ (i % 4) % 256 else 0 := by
  induction k with
  | zero =>
    rw [if_neg (by omega)]
    show rd (List.replicate (4 * n) 0) (i : Nat) = 0
    unfold rd
    rw [Int.toNat_natCast, List.getD_eq_getElem?_getD, List.getElem?_replicate]
    split <;> rfl
  | succ k ih =>
    show rd (put4 (p4 xs n k) (4 * k) (rd xs (k : Nat))) (i : Nat) = _
    rw [rd_put4 _ _ _ _ (by rw [p4_length]; omega), ih (by omega)]
    by_cases h3 : i = 4 * k + 3
    · rw [if_pos h3, if_pos (by omega), show i / 4 = k by omega, show i % 4 = 3 by omega]; rfl
    rw [if_neg h3]
    by_cases h2 : i = 4 * k + 2
    · rw [if_pos h2, if_pos (by omega), show i / 4 = k by omega, show i % 4 = 2 by omega]; rfl
    rw [if_neg h2]
    by_cases h1 : i = 4 * k + 1
    · rw [if_pos h1, if_pos (by omega), show i / 4 = k by omega, show i % 4 = 1 by omega]; rfl
    rw [if_neg h1]
    by_cases h0 : i = 4 * k
    · rw [if_pos h0, if_pos (by omega), show i / 4 = k by omega, show i % 4 = 0 by omega]; simp
    rw [if_neg h0]
    by_cases h : i < 4 * k
    · rw [if_pos h, if_pos (by omega)]
    · rw [if_neg h, if_neg (by omega)]

set_option maxHeartbeats 2000000 in
theorem pqplain_lePutUint32.calls (g o n c : Nat) (t : TypeId) (xs : List Int) (v : Int) (w : World) (hrow : Row w g t .u8 xs) (hn : 4 ≤ n) (ho : o + 4 ≤ xs.length) (hv0 : 0 ≤ v) (hv1 : v < 4294967296) :
    Calls Try.prog 49 #[.slice (some ⟨g, o, none⟩) n c, .int .u32 v] w fun e w' => e = .returned (.tuple #[]) ∧ w.grownBy w' (some g) ∧ Row w' g t .u8 (put4 xs o v) := by
  have HR := Aside0.mk hrow
  have x3 := hrow.cell (j := o + 3) (by omega)
  have x0 := hrow.cell (j := o) (by omega)
  have x1 := hrow.cell (j := o + 1) (by omega)
  have x2 := hrow.cell (j := o + 2) (by omega)
  have f0 := hrow.free o
  have f1 := hrow.free (o + 1)
  have f2 := hrow.free (o + 2)
  have f3 := hrow.free (o + 3)
  have i0 : decide (0 < n) = true := decide_eq_true (by omega)
  have i1 : decide (1 < n) = true := decide_eq_true (by omega)
  have i2 : decide (2 < n) = true := decide_eq_true (by omega)
  have i3 : decide (3 < n) = true := decide_eq_true (by omega)
  clear hrow
  go_enter Try.func49, Try.ntmps49
  go_wp2
  go_end0
  refine ⟨rfl, grownSet (grownSet (grownSet (grownSet (grownRefl w _) o _) (o + 1) _) (o + 2) _) (o + 3) _, ?_⟩
  have e : v / 16777216 = v / 16777216 % 256 := by omega
  rw [e]
  exact (((HR.out.set o (v % 256)).set (o + 1) (v / 256 % 256)).set (o + 2) (v / 65536 % 256)).set (o + 3) (v / 16777216 % 256)
set_option maxHeartbeats 2000000 in
theorem pqplain_lePutUint64.calls (g o n c : Nat) (t : TypeId) (xs : List Int) (v : Int) (w : World) (hrow : Row w g t .u8 xs) (hn : 8 ≤ n) (hnc : n ≤ c) (ho : o + 8 ≤ xs.length) (hv0 : 0 ≤ v) (hv1 : v < 18446744073709551616) :
    Calls Try.prog 35 #[.slice (some ⟨g, o, none⟩) n c, .int .u64 v] w fun e w' => e = .returned (.tuple #[]) ∧ w.grownBy w' (some g) ∧ Row w' g t .u8 (put8 xs o v) := by
  have HR := Aside0.mk hrow
  have x7 := hrow.cell (j := o + 7) (by omega)
  have i7 : decide (7 < n) = true := decide_eq_true (by omega)
  obtain ⟨i8, h8⟩ := h8
  have cut4 := cutOff (P := Try.prog) 23 5 Try.underlying23 h8.1 h8.2 g o n c .i64 4 4 rfl (by omega) hnc (by omega)
  obtain ⟨n4, hn4⟩ : ∃ x, x = n - 4 := ⟨_, rfl⟩
  obtain ⟨c4, hc4⟩ : ∃ x, x = c - 4 := ⟨_, rfl⟩
  rw [← hn4, ← hc4] at cut4
  have hn4' : 4 ≤ n4 := by omega
  have F1 := Aside0.mk (pqplain_lePutUint32.calls g o n c t xs (v % 4294967296) w hrow (by omega) (by omega) (by omega) (by omega))
  have F2 : Aside0 (∀ w2, Row w2 g t .u8 (put4 xs o (v % 4294967296)) → Calls Try.prog 49 #[.slice (some ⟨g, o + 4, none⟩) n4 c4, .int .u32 (v / 4294967296)] w2 fun e w' => e = .returned (.tuple #[]) ∧ w2.grownBy w' (some g) ∧ Row w' g t .u8 (put8 xs o v)) :=
    ⟨fun w2 h2 => pqplain_lePutUint32.calls g (o + 4) n4 c4 t _ (v / 4294967296) w2 h2 hn4' (by rw [put4_length]; omega) (by omega) (by omega)⟩
  clear hrow hn4 hc4
  go_enter Try.func35, Try.ntmps35
  go_wp2_with (go_at_call 49; (first
    | ((with_reducible refine F1.out.mono ?_); rintro e w2 ⟨rfl, hg, hr⟩; have HG := Aside0.mk hg; have HM := Aside0.mk hr; clear hg hr)
    | ((with_reducible refine (F2.out _ HM.out).mono ?_); rintro e w3 ⟨rfl, hg, hr⟩; have HG2 := Aside0.mk hg; have HM2 := Aside0.mk hr; clear hg hr)))
  go_end0
  exact ⟨rfl, grownTrans HG.out HG2.out, HM2.out⟩
def pqsplit_leUint32.f (l0 : List Int) : Option (Int) := if 4 ≤ l0.length ∧ bytesB l0 = true then some (le4L l0) else none
set_option maxHeartbeats 2000000 in
theorem pqsplit_leUint32.calls (A0 : Option Addr) (c0 : Nat) (l0 : List Int) (r : Int) (w : World) (hr0 : Kd.C (Kd.int .u8) w A0 l0.length l0) (hc0 : l0.length ≤ c0) (h : pqsplit_leUint32.f l0 = some r) :
    Calls Try.prog 108 #[.slice A0 l0.length c0] w fun e w' => e = .returned (.int .u32 r) ∧ Drawn0 w w' := by
  unfold pqsplit_leUint32.f at h
  split at h
  · rename_i hb
    obtain ⟨hl, hb⟩ := hb
    obtain rfl := Option.some.inj h
    have b0 := bytesB_rd hb (i := 0) (k := 0) rfl (by omega)
    have b1 := bytesB_rd hb (i := 1) (k := 1) rfl (by omega)
    have b2 := bytesB_rd hb (i := 2) (k := 2) rfl (by omega)
    have b3 := bytesB_rd hb (i := 3) (k := 3) rfl (by omega)
    obtain ⟨ad, rfl, x0⟩ := Kd.at_int hr0 0 (by omega) (by omega)
    obtain ⟨ad1, e1, x1⟩ := Kd.at_int hr0 1 (by omega) (by omega)
    obtain ⟨ad2, e2, x2⟩ := Kd.at_int hr0 2 (by omega) (by omega)
    obtain ⟨ad3, e3, x3⟩ := Kd.at_int hr0 3 (by omega) (by omega)
    obtain rfl : ad = ad1 := (by injection e1)
    obtain rfl : ad = ad2 := (by injection e2)
    obtain rfl : ad = ad3 := (by injection e3)
    have i0 : decide (0 < l0.length) = true := decide_eq_true (by omega)
    have i1 : decide (1 < l0.length) = true := decide_eq_true (by omega)
    have i2 : decide (2 < l0.length) = true := decide_eq_true (by omega)
    have i3 : decide (3 < l0.length) = true := decide_eq_true (by omega)
    simp only [show (1 : Int).toNat = 1 from rfl, show (2 : Int).toNat = 2 from rfl, show (3 : Int).toNat = 3 from rfl, show (0 : Int).toNat = 0 from rfl, Addr.add_zero'] at x0 x1 x2 x3
    simp only [Go.Addr.add, Nat.reduceEqDiff, ↓reduceIte] at x1 x2 x3
    have B := Aside0.mk (⟨b0, b1, b2, b3⟩ : byt _ ∧ byt _ ∧ byt _ ∧ byt _)
    clear hr0 e1 e2 e3 b0 b1 b2 b3 hb h
    go_enter Try.func108, Try.ntmps108
    go_wp2
    repeat (go_quiet (fail); try go_wp2)
    go_ret
    obtain ⟨b0, b1, b2, b3⟩ := B.out
    exact ⟨congrArg (fun x => Ending.returned (Value.int .u32 x)) (le4_raw _ _ _ _ b0 b1 b2 b3), ⟨⟨_, rfl⟩⟩⟩
  · cases h
theorem pqsplit_leUint32.calls' (A : Option Addr) (n c : Nat) (l : List Int) (w : World) (hC : (Kd.int .u8).C w A n l) (hc : n ≤ c) (hn : 4 ≤ n) (hb : bytesB l = true) :
    Calls Try.prog 108 #[.slice A n c] w fun e w' => e = .returned (.int .u32 (le4L l)) ∧ Drawn0 w w' := by
  have hl : l.length = n := hC.1
  subst hl
  exact pqsplit_leUint32.calls A c l _ w hC hc (by unfold pqsplit_leUint32.f; rw [if_pos ⟨hn, hb⟩])
def pqsplit_leUint64.f (l0 : List Int) : Option (Int) := if 8 ≤ l0.length ∧ bytesB l0 = true then some (le8L l0) else none
set_option maxHeartbeats 2000000 in
theorem pqsplit_leUint64.calls (A0 : Option Addr) (c0 : Nat) (l0 : List Int) (r : Int) (w : World) (hr0 : Kd.C (Kd.int .u8) w A0 l0.length l0) (hc0 : l0.length ≤ c0) (h : pqsplit_leUint64.f l0 = some r) :
    Calls Try.prog 102 #[.slice A0 l0.length c0] w fun e w' => e = .returned (.int .u64 r) ∧ Drawn0 w w' := by
  unfold pqsplit_leUint64.f at h
  split at h
  · rename_i hb
    obtain ⟨hl, hb⟩ := hb
    obtain rfl := Option.some.inj h
    have ce : ∀ W : World, Kd.C (Kd.int .u8) W A0 l0.length l0 → Calls Try.prog 108 #[.slice A0 l0.length c0] W fun e w' => e = .returned (.int .u32 (le4L l0)) ∧ Drawn0 W w' := fun W hW =>
      pqsplit_leUint32.calls A0 c0 l0 _ W hW hc0 (by unfold pqsplit_leUint32.f; rw [if_pos ⟨by omega, hb⟩])
    obtain ⟨i8, h8⟩ := Option.map_eq_some_iff.1 (show (Try.prog.info? 5).map (fun i => i.size) = some 1 by kernel_rfl)
    obtain ⟨A4, cut4, hC4⟩ := cutLo (P := Try.prog) 23 5 Try.underlying23 h8.1 h8.2 A0 l0.length c0 .i64 4 4 rfl (by omega) hc0
    obtain ⟨n4, hn4⟩ : ∃ x, x = l0.length - 4 := ⟨_, rfl⟩
    obtain ⟨c4, hc4⟩ : ∃ x, x = c0 - 4 := ⟨_, rfl⟩
    rw [← hn4, ← hc4] at cut4
    rw [← hn4] at hC4
    have hld : (l0.drop 4).length = n4 := by rw [List.length_drop, hn4]
    have cf : ∀ W : World, Kd.C (Kd.int .u8) W A0 l0.length l0 → Calls Try.prog 108 #[.slice A4 n4 c4] W fun e w' => e = .returned (.int .u32 (le4L (l0.drop 4))) ∧ Drawn0 W w' := fun W hW => by
      have hd := hC4 _ _ _ rfl hW
      rw [← hld] at hd ⊢
      exact pqsplit_leUint32.calls A4 _ (l0.drop 4) _ W hd (by omega) (by unfold pqsplit_leUint32.f; rw [if_pos ⟨by omega, bytesB_drop hb 4⟩])
    have b1 := le4L_bd hb (by omega)
    have b2 := le4L_bd (bytesB_drop hb 4) (by rw [hld]; omega)
    obtain ⟨ad, rfl, x7⟩ := Kd.at_int hr0 7 (by omega) (by omega)
    have i7 : decide (7 < l0.length) = true := decide_eq_true (by omega)
    simp only [show (7 : Int).toNat = 7 from rfl] at x7
    simp only [Go.Addr.add, Nat.reduceEqDiff, ↓reduceIte] at x7
    have HR := Aside0.mk hr0
    have B := Aside0.mk (⟨b1, b2⟩ : (0 ≤ le4L l0 ∧ _) ∧ (0 ≤ le4L (l0.drop 4) ∧ _))
    have CE := Aside0.mk ce
    have CF := Aside0.mk cf
    clear hr0 hC4 hld ce cf hb h b1 b2 hn4 hc4
    go_enter Try.func102, Try.ntmps102
    go_wp2_with (fail)
    go_quiet (first
      | (go_at_call_of 108 (Value.slice A4 n4 c4); exact quietCall (CF.out _ (Kd.C_drewN HR.out _)))
      | (go_at_call 108; exact quietCall (CE.out _ (Kd.C_drewN HR.out _))))
    go_wp2_with (fail)
    go_ret
    obtain ⟨b1, b2⟩ := B.out
    exact ⟨congrArg (fun x => Ending.returned (Value.int .u64 x)) (le8_raw _ _ b1 b2), ⟨⟨_, rfl⟩⟩⟩
  · cases h
theorem pqsplit_leUint64.calls' (A : Option Addr) (n c : Nat) (l : List Int) (w : World) (hC : (Kd.int .u8).C w A n l) (hc : n ≤ c) (hn : 8 ≤ n) (hb : bytesB l = true) :
    Calls Try.prog 102 #[.slice A n c] w fun e w' => e = .returned (.int .u64 (le8L l)) ∧ Drawn0 w w' := by
  have hl : l.length = n := hC.1
  subst hl
  exact pqsplit_leUint64.calls A c l _ w hC hc (by unfold pqsplit_leUint64.f; rw [if_pos ⟨hn, hb⟩])
set_option maxHeartbeats 2000000 in
theorem pqsplit_lePutUint32.calls (g o n c : Nat) (t : TypeId) (xs : List Int) (v : Int) (w : World) (hrow : Row w g t .u8 xs) (hn : 4 ≤ n) (ho : o + 4 ≤ xs.length) (hv0 : 0 ≤ v) (hv1 : v < 4294967296) :
    Calls Try.prog 74 #[.slice (some ⟨g, o, none⟩) n c, .int .u32 v] w fun e w' => e = .returned (.tuple #[]) ∧ w.grownBy w' (some g) ∧ Row w' g t .u8 (put4 xs o v) := by
  have HR := Aside0.mk hrow
  have x3 := hrow.cell (j := o + 3) (by omega)
  have x0 := hrow.cell (j := o) (by omega)
  have x1 := hrow.cell (j := o + 1) (by omega)
  have x2 := hrow.cell (j := o + 2) (by omega)
  have f0 := hrow.free o
  have f1 := hrow.free (o + 1)
  have f2 := hrow.free (o + 2)
  have f3 := hrow.free (o + 3)
  have i0 : decide (0 < n) = true := decide_eq_true (by omega)
  have i1 : decide (1 < n) = true := decide_eq_true (by omega)
  have i2 : decide (2 < n) = true := decide_eq_true (by omega)
  have i3 : decide (3 < n) = true := decide_eq_true (by omega)
  clear hrow
  go_enter Try.func74, Try.ntmps74
  go_wp2
  go_end0
  refine ⟨rfl, grownSet (grownSet (grownSet (grownSet (grownRefl w _) o _) (o + 1) _) (o + 2) _) (o + 3) _, ?_⟩
  have e : v / 16777216 = v / 16777216 % 256 := by omega
  rw [e]
  exact (((HR.out.set o (v % 256)).set (o + 1) (v / 256 % 256)).set (o + 2) (v / 65536 % 256)).set (o + 3) (v / 16777216 % 256)
set_option maxHeartbeats 2000000 in
theorem pqsplit_lePutUint64.calls (g o n c : Nat) (t : TypeId) (xs : List Int) (v : Int) (w : World) (hrow : Row w g t .u8 xs) (hn : 8 ≤ n) (hnc : n ≤ c) (ho : o + 8 ≤ xs.length) (hv0 : 0 ≤ v) (hv1 : v < 18446744073709551616) :
    Calls Try.prog 58 #[.slice (some ⟨g, o, none⟩) n c, .int .u64 v] w fun e w' => e = .returned (.tuple #[]) ∧ w.grownBy w' (some g) ∧ Row w' g t .u8 (put8 xs o v) := by
  have HR := Aside0.mk hrow
  have x7 := hrow.cell (j := o + 7) (by omega)
  have i7 : decide (7 < n) = true := decide_eq_true (by omega)
  obtain ⟨i8, h8⟩ := h8
  have cut4 := cutOff (P := Try.prog) 23 5 Try.underlying23 h8.1 h8.2 g o n c .i64 4 4 rfl (by omega) hnc (by omega)
  obtain ⟨n4, hn4⟩ : ∃ x, x = n - 4 := ⟨_, rfl⟩
  obtain ⟨c4, hc4⟩ : ∃ x, x = c - 4 := ⟨_, rfl⟩
  rw [← hn4, ← hc4] at cut4
  have hn4' : 4 ≤ n4 := by omega
  have F1 := Aside0.mk (pqsplit_lePutUint32.calls g o n c t xs (v % 4294967296) w hrow (by omega) (by omega) (by omega) (by omega))
  have F2 : Aside0 (∀ w2, Row w2 g t .u8 (put4 xs o (v % 4294967296)) → Calls Try.prog 74 #[.slice (some ⟨g, o + 4, none⟩) n4 c4, .int .u32 (v / 4294967296)] w2 fun e w' => e = .returned (.tuple #[]) ∧ w2.grownBy w' (some g) ∧ Row w' g t .u8 (put8 xs o v)) :=
    ⟨fun w2 h2 => pqsplit_lePutUint32.calls g (o + 4) n4 c4 t _ (v / 4294967296) w2 h2 hn4' (by rw [put4_length]; omega) (by omega) (by omega)⟩
  clear hrow hn4 hc4
  go_enter Try.func58, Try.ntmps58
  go_wp2_with (go_at_call 74; (first
    | ((with_reducible refine F1.out.mono ?_); rintro e w2 ⟨rfl, hg, hr⟩; have HG := Aside0.mk hg; have HM := Aside0.mk hr; clear hg hr)
    | ((with_reducible refine (F2.out _ HM.out).mono ?_); rintro e w3 ⟨rfl, hg, hr⟩; have HG2 := Aside0.mk hg; have HM2 := Aside0.mk hr; clear hg hr)))
  go_end0
  exact ⟨rfl, grownTrans HG.out HG2.out, HM2.out⟩
set_option maxHeartbeats 2000000 in
theorem pqrle_lePutUint32.calls (g o n c : Nat) (t : TypeId) (xs : List Int) (v : Int) (w : World) (hrow : Row w g t .u8 xs) (hn : 4 ≤ n) (ho : o + 4 ≤ xs.length) (hv0 : 0 ≤ v) (hv1 : v < 4294967296) :
    Calls Try.prog 94 #[.slice (some ⟨g, o, none⟩) n c, .int .u32 v] w fun e w' => e = .returned (.tuple #[]) ∧ w.grownBy w' (some g) ∧ Row w' g t .u8 (put4 xs o v) := by
  have HR := Aside0.mk hrow
  have x3 := hrow.cell (j := o + 3) (by omega)
  have x0 := hrow.cell (j := o) (by omega)
  have x1 := hrow.cell (j := o + 1) (by omega)
  have x2 := hrow.cell (j := o + 2) (by omega)
  have f0 := hrow.free o
  have f1 := hrow.free (o + 1)
  have f2 := hrow.free (o + 2)
  have f3 := hrow.free (o + 3)
  have i0 : decide (0 < n) = true := decide_eq_true (by omega)
  have i1 : decide (1 < n) = true := decide_eq_true (by omega)
  have i2 : decide (2 < n) = true := decide_eq_true (by omega)
  have i3 : decide (3 < n) = true := decide_eq_true (by omega)
  clear hrow
  go_enter Try.func94, Try.ntmps94
  go_wp2
  go_end0
  refine ⟨rfl, grownSet (grownSet (grownSet (grownSet (grownRefl w _) o _) (o + 1) _) (o + 2) _) (o + 3) _, ?_⟩
  have e : v / 16777216 = v / 16777216 % 256 := by omega
  rw [e]
  exact (((HR.out.set o (v % 256)).set (o + 1) (v / 256 % 256)).set (o + 2) (v / 65536 % 256)).set (o + 3) (v / 16777216 % 256)
def pqdelta_leUint32.f (l0 : List Int) : Option (Int) := if 4 ≤ l0.length ∧ bytesB l0 = true then some (le4L l0) else none
set_option maxHeartbeats 2000000 in
theorem pqdelta_leUint32.calls (A0 : Option Addr) (c0 : Nat) (l0 : List Int) (r : Int) (w : World) (hr0 : Kd.C (Kd.int .u8) w A0 l0.length l0) (hc0 : l0.length ≤ c0) (h : pqdelta_leUint32.f l0 = some r) :
    Calls Try.prog 103 #[.slice A0 l0.length c0] w fun e w' => e = .returned (.int .u32 r) ∧ Drawn0 w w' := by
  unfold pqdelta_leUint32.f at h
  split at h
  · rename_i hb
    obtain ⟨hl, hb⟩ := hb
    obtain rfl := Option.some.inj h
    have b0 := bytesB_rd hb (i := 0) (k := 0) rfl (by omega)
    have b1 := bytesB_rd hb (i := 1) (k := 1) rfl (by omega)
    have b2 := bytesB_rd hb (i := 2) (k := 2) rfl (by omega)
    have b3 := bytesB_rd hb (i := 3) (k := 3) rfl (by omega)
    obtain ⟨ad, rfl, x0⟩ := Kd.at_int hr0 0 (by omega) (by omega)
    obtain ⟨ad1, e1, x1⟩ := Kd.at_int hr0 1 (by omega) (by omega)
    obtain ⟨ad2, e2, x2⟩ := Kd.at_int hr0 2 (by omega) (by omega)
    obtain ⟨ad3, e3, x3⟩ := Kd.at_int hr0 3 (by omega) (by omega)
    obtain rfl : ad = ad1 := (by injection e1)
    obtain rfl : ad = ad2 := (by injection e2)
    obtain rfl : ad = ad3 := (by injection e3)
    have i0 : decide (0 < l0.length) = true := decide_eq_true (by omega)
    have i1 : decide (1 < l0.length) = true := decide_eq_true (by omega)
    have i2 : decide (2 < l0.length) = true := decide_eq_true (by omega)
    have i3 : decide (3 < l0.length) = true := decide_eq_true (by omega)
    simp only [show (1 : Int).toNat = 1 from rfl, show (2 : Int).toNat = 2 from rfl, show (3 : Int).toNat = 3 from rfl, show (0 : Int).toNat = 0 from rfl, Addr.add_zero'] at x0 x1 x2 x3
    simp only [Go.Addr.add, Nat.reduceEqDiff, ↓reduceIte] at x1 x2 x3
    have B := Aside0.mk (⟨b0, b1, b2, b3⟩ : byt _ ∧ byt _ ∧ byt _ ∧ byt _)
    clear hr0 e1 e2 e3 b0 b1 b2 b3 hb h
    go_enter Try.func103, Try.ntmps103
    go_wp2
    repeat (go_quiet (fail); try go_wp2)
    go_ret
    obtain ⟨b0, b1, b2, b3⟩ := B.out
    exact ⟨congrArg (fun x => Ending.returned (Value.int .u32 x)) (le4_raw _ _ _ _ b0 b1 b2 b3), ⟨⟨_, rfl⟩⟩⟩
  · cases h
theorem pqdelta_leUint32.calls' (A : Option Addr) (n c : Nat) (l : List Int) (w : World) (hC : (Kd.int .u8).C w A n l) (hc : n ≤ c) (hn : 4 ≤ n) (hb : bytesB l = true) :
    Calls Try.prog 103 #[.slice A n c] w fun e w' => e = .returned (.int .u32 (le4L l)) ∧ Drawn0 w w' := by
  have hl : l.length = n := hC.1
  subst hl
  exact pqdelta_leUint32.calls A c l _ w hC hc (by unfold pqdelta_leUint32.f; rw [if_pos ⟨hn, hb⟩])
def pqdelta_leUint64.f (l0 : List Int) : Option (Int) := if 8 ≤ l0.length ∧ bytesB l0 = true then some (le8L l0) else none
set_option maxHeartbeats 2000000 in
theorem pqdelta_leUint64.calls (A0 : Option Addr) (c0 : Nat) (l0 : List Int) (r : Int) (w : World) (hr0 : Kd.C (Kd.int .u8) w A0 l0.length l0) (hc0 : l0.length ≤ c0) (h : pqdelta_leUint64.f l0 = some r) :
    Calls Try.prog 100 #[.slice A0 l0.length c0] w fun e w' => e = .returned (.int .u64 r) ∧ Drawn0 w w' := by
  unfold pqdelta_leUint64.f at h
  split at h
  · rename_i hb
    obtain ⟨hl, hb⟩ := hb
    obtain rfl := Option.some.inj h
    have ce : ∀ W : World, Kd.C (Kd.int .u8) W A0 l0.length l0 → Calls Try.prog 103 #[.slice A0 l0.length c0] W fun e w' => e = .returned (.int .u32 (le4L l0)) ∧ Drawn0 W w' := fun W hW =>
      pqdelta_leUint32.calls A0 c0 l0 _ W hW hc0 (by unfold pqdelta_leUint32.f; rw [if_pos ⟨by omega, hb⟩])
    obtain ⟨i8, h8⟩ := Option.map_eq_some_iff.1 (show (Try.prog.info? 5).map (fun i => i.size) = some 1 by kernel_rfl)
    obtain ⟨A4, cut4, hC4⟩ := cutLo (P := Try.prog) 23 5 Try.underlying23 h8.1 h8.2 A0 l0.length c0 .i64 4 4 rfl (by omega) hc0
    obtain ⟨n4, hn4⟩ : ∃ x, x = l0.length - 4 := ⟨_, rfl⟩
    obtain ⟨c4, hc4⟩ : ∃ x, x = c0 - 4 := ⟨_, rfl⟩
    rw [← hn4, ← hc4] at cut4
    rw [← hn4] at hC4
    have hld : (l0.drop 4).length = n4 := by rw [List.length_drop, hn4]
    have cf : ∀ W : World, Kd.C (Kd.int .u8) W A0 l0.length l0 → Calls Try.prog 103 #[.slice A4 n4 c4] W fun e w' => e = .returned (.int .u32 (le4L (l0.drop 4))) ∧ Drawn0 W w' := fun W hW => by
      have hd := hC4 _ _ _ rfl hW
      rw [← hld] at hd ⊢
      exact pqdelta_leUint32.calls A4 _ (l0.drop 4) _ W hd (by omega) (by unfold pqdelta_leUint32.f; rw [if_pos ⟨by omega, bytesB_drop hb 4⟩])
    have b1 := le4L_bd hb (by omega)
    have b2 := le4L_bd (bytesB_drop hb 4) (by rw [hld]; omega)
    obtain ⟨ad, rfl, x7⟩ := Kd.at_int hr0 7 (by omega) (by omega)
    have i7 : decide (7 < l0.length) = true := decide_eq_true (by omega)
    simp only [show (7 : Int).toNat = 7 from rfl] at x7
    simp only [Go.Addr.add, Nat.reduceEqDiff, ↓reduceIte] at x7
    have HR := Aside0.mk hr0
    have B := Aside0.mk (⟨b1, b2⟩ : (0 ≤ le4L l0 ∧ _) ∧ (0 ≤ le4L (l0.drop 4) ∧ _))
    have CE := Aside0.mk ce
    have CF := Aside0.mk cf
    clear hr0 hC4 hld ce cf hb h b1 b2 hn4 hc4
    go_enter Try.func100, Try.ntmps100
    go_wp2_with (fail)
    go_quiet (first
      | (go_at_call_of 103 (Value.slice A4 n4 c4); exact quietCall (CF.out _ (Kd.C_drewN HR.out _)))
      | (go_at_call 103; exact quietCall (CE.out _ (Kd.C_drewN HR.out _))))
    go_wp2_with (fail)
    go_ret
    obtain ⟨b1, b2⟩ := B.out
    exact ⟨congrArg (fun x => Ending.returned (Value.int .u64 x)) (le8_raw _ _ b1 b2), ⟨⟨_, rfl⟩⟩⟩
  · cases h
theorem pqdelta_leUint64.calls' (A : Option Addr) (n c : Nat) (l : List Int) (w : World) (hC : (Kd.int .u8).C w A n l) (hc : n ≤ c) (hn : 8 ≤ n) (hb : bytesB l = true) :
    Calls Try.prog 100 #[.slice A n c] w fun e w' => e = .returned (.int .u64 (le8L l)) ∧ Drawn0 w w' := by
  have hl : l.length = n := hC.1
  subst hl
  exact pqdelta_leUint64.calls A c l _ w hC hc (by unfold pqdelta_leUint64.f; rw [if_pos ⟨hn, hb⟩])
set_option maxHeartbeats 2000000 in
theorem pqdelta_lePutUint32.calls (g o n c : Nat) (t : TypeId) (xs : List Int) (v : Int) (w : World) (hrow : Row w g t .u8 xs) (hn : 4 ≤ n) (ho : o + 4 ≤ xs.length) (hv0 : 0 ≤ v) (hv1 : v < 4294967296) :
    Calls Try.prog 104 #[.slice (some ⟨g, o, none⟩) n c, .int .u32 v] w fun e w' => e = .returned (.tuple #[]) ∧ w.grownBy w' (some g) ∧ Row w' g t .u8 (put4 xs o v) := by
  have HR := Aside0.mk hrow
  have x3 := hrow.cell (j := o + 3) (by omega)
  have x0 := hrow.cell (j := o) (by omega)
  have x1 := hrow.cell (j := o + 1) (by omega)
  have x2 := hrow.cell (j := o + 2) (by omega)
  have f0 := hrow.free o
  have f1 := hrow.free (o + 1)
  have f2 := hrow.free (o + 2)
  have f3 := hrow.free (o + 3)
  have i0 : decide (0 < n) = true := decide_eq_true (by omega)
  have i1 : decide (1 < n) = true := decide_eq_true (by omega)
  have i2 : decide (2 < n) = true := decide_eq_true (by omega)
  have i3 : decide (3 < n) = true := decide_eq_true (by omega)
  clear hrow
  go_enter Try.func104, Try.ntmps104
  go_wp2
  go_end0
  refine ⟨rfl, grownSet (grownSet (grownSet (grownSet (grownRefl w _) o _) (o + 1) _) (o + 2) _) (o + 3) _, ?_⟩
  have e : v / 16777216 = v / 16777216 % 256 := by omega
  rw [e]
  exact (((HR.out.set o (v % 256)).set (o + 1) (v / 256 % 256)).set (o + 2) (v / 65536 % 256)).set (o + 3) (v / 16777216 % 256)
set_option maxHeartbeats 2000000 in
theorem pqdelta_lePutUint64.calls (g o n c : Nat) (t : TypeId) (xs : List Int) (v : Int) (w : World) (hrow : Row w g t .u8 xs) (hn : 8 ≤ n) (hnc : n ≤ c) (ho : o + 8 ≤ xs.length) (hv0 : 0 ≤ v) (hv1 : v < 18446744073709551616) :
    Calls Try.prog 101 #[.slice (some ⟨g, o, none⟩) n c, .int .u64 v] w fun e w' => e = .returned (.tuple #[]) ∧ w.grownBy w' (some g) ∧ Row w' g t .u8 (put8 xs o v) := by
  have HR := Aside0.mk hrow
  have x7 := hrow.cell (j := o + 7) (by omega)
  have i7 : decide (7 < n) = true := decide_eq_true (by omega)
  obtain ⟨i8, h8⟩ := h8
  have cut4 := cutOff (P := Try.prog) 23 5 Try.underlying23 h8.1 h8.2 g o n c .i64 4 4 rfl (by omega) hnc (by omega)
  obtain ⟨n4, hn4⟩ : ∃ x, x = n - 4 := ⟨_, rfl⟩
  obtain ⟨c4, hc4⟩ : ∃ x, x = c - 4 := ⟨_, rfl⟩
  rw [← hn4, ← hc4] at cut4
  have hn4' : 4 ≤ n4 := by omega
  have F1 := Aside0.mk (pqdelta_lePutUint32.calls g o n c t xs (v % 4294967296) w hrow (by omega) (by omega) (by omega) (by omega))
  have F2 : Aside0 (∀ w2, Row w2 g t .u8 (put4 xs o (v % 4294967296)) → Calls Try.prog 104 #[.slice (some ⟨g, o + 4, none⟩) n4 c4, .int .u32 (v / 4294967296)] w2 fun e w' => e = .returned (.tuple #[]) ∧ w2.grownBy w' (some g) ∧ Row w' g t .u8 (put8 xs o v)) :=
    ⟨fun w2 h2 => pqdelta_lePutUint32.calls g (o + 4) n4 c4 t _ (v / 4294967296) w2 h2 hn4' (by rw [put4_length]; omega) (by omega) (by omega)⟩
  clear hrow hn4 hc4
  go_enter Try.func101, Try.ntmps101
  go_wp2_with (go_at_call 104; (first
    | ((with_reducible refine F1.out.mono ?_); rintro e w2 ⟨rfl, hg, hr⟩; have HG := Aside0.mk hg; have HM := Aside0.mk hr; clear hg hr)
    | ((with_reducible refine (F2.out _ HM.out).mono ?_); rintro e w3 ⟨rfl, hg, hr⟩; have HG2 := Aside0.mk hg; have HM2 := Aside0.mk hr; clear hg hr)))
  go_end0
  exact ⟨rfl, grownTrans HG.out HG2.out, HM2.out⟩
end Go.Proofs.Ytigmcdpjlkgocaa.Le
