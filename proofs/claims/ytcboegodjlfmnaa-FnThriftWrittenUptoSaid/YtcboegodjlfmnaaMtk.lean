import Derived.Test.YtcboegodjlfmnaaProg
import Derived.Test.YtcboegodjlfmnaaLst
/-! Walks of small functions on lists of numbers: the low bytes of a number, numbers made wide, comparisons. -/
namespace Go.Proofs.Ytcboegodjlfmnaa.Num
open Go.Proofs.Ytcboegodjlfmnaa.Lst Go.Proofs.Ytcboegodjlfmnaa.Aid Go.RowKit Go.Proofs.YtcboegodjlfmnaaW.PrintWords Go.Proofs.YtcboegodjlfmnaaW.PrintLast Go.Proofs.YtcboegodjlfmnaaW.PrintMore
set_option linter.unusedVariables false
set_option linter.unusedSimpArgs false

def u64B (x : Int) : Prop := 0 ≤ x ∧ x < 18446744073709551616
def u64L (hs : List Int) : Prop := ∀ x ∈ hs, u64B x
theorem u64_of_wf {x : Int} (h : (Lit.int .u64 x).wf = true) : u64B x := by
  have := wf_bd h
  have e1 : IntKind.u64.min = 0 := by decide +kernel
  have e2 : IntKind.u64.max = 18446744073709551615 := by decide +kernel
  unfold u64B; omega
theorem infoU8 : (Try.prog.info? 5).map (fun i => (i.zero, i.size, i.bytes)) = some (some (.int .u8 0), 1, 1) := by kernel_rfl
/-! ### the low bytes of a number -/
def lowL (k : Nat) (x : Int) : List Int := (List.range k).map fun i => x / 256 ^ i % 256
theorem lowL_length (k : Nat) (x : Int) : (lowL k x).length = k := by simp [lowL]
theorem lowL_succ (k : Nat) (x : Int) : lowL (k + 1) x = lowL k x ++ [x / 256 ^ k % 256] := by simp [lowL, List.range_succ]
theorem div_step (x y : Int) (j : Nat) (h : y = x / 256 ^ j) : y / 256 = x / 256 ^ (j + 1) := by
  rw [h, Int.pow_succ, Int.ediv_ediv_of_nonneg (Int.pow_nonneg (by decide))]
set_option maxHeartbeats 4000000 in
theorem low_calls (k : Nat) (x : Int) (hk : k ≤ 8) (hx : u64B x) (w : World) :
    Calls Try.prog 27 #[.int .i64 k, .int .u64 x] w fun e w' => ∃ v, e = .returned v ∧ Own w' w.heap.size 5 .u8 v (lowL k x) ∧ Below w.heap.size w w' := by
  have HX := Aside0.mk hx
  clear hx
  go_enter Try.func27, Try.ntmps27
  go_wp2_with (fail)
  go_loopg [1, 5, 7] k (fun kq v1 v5 v7 w' => ∃ (j : Nat) (y : Int), j ≤ k ∧ v7 = .int .i64 j ∧ v1 = .int .u64 y ∧ (0 ≤ y ∧ y < 18446744073709551616) ∧ Aside0 (y = x / 256 ^ j) ∧ Aside0 (Own w' w.heap.size 5 .u8 v5 (lowL j x)) ∧ Aside0 (Below w.heap.size w w') ∧ Aside0 (k - j ≤ kq))
  case atStart => exact ⟨0, x, by omega, rfl, rfl, HX.out, ⟨by simp⟩, ⟨Own.nil _ _ _ _⟩, ⟨Below.refl _ _⟩, ⟨by omega⟩⟩
  case round =>
    obtain ⟨j, y, hj, rfl, rfl, hy, HY, HO, HB, HK⟩ := hrel
    obtain ⟨hy0, hy1⟩ := hy
    by_cases cj : j < k
    · have cjb : decide ((j : Int) < k) = true := decide_eq_true (by omega)
      go_wp2_with (first
        | (at_builtin; refine appendOwn (w0 := w) w.heap.size rfl (.tmp 9) (.tmp 12) 23 5 .u8 1 rfl Try.underlying23 infoU8 (by decide) u5 _ _ rfl rfl HO.out HB.out ?hb ?hl ?_; (case hb => exact HB.out.size); (case hl => rw [lowL_length]; omega); intro v1 w1 ho hb hg; have HO1 := Aside0.mk ho; have HB1 := Aside0.mk hb; clear ho hb hg))
      go_roundg (gk - 1)
      case measure => have := HK.out; omega
      case rel =>
        refine ⟨j + 1, y / 256, by omega, by go_num, rfl, by omega, ⟨div_step x y j HY.out⟩, ⟨?_⟩, HB1, ⟨by have := HK.out; omega⟩⟩
        rw [lowL_succ, ← HY.out]; exact HO1.out
    · obtain rfl : j = k := by omega
      have cjb : decide ((j : Int) < j) = false := decide_eq_false (by omega)
      go_wp2_with (fail)
      go_ret
      exact ⟨_, rfl, HO.out, HB.out⟩
/-! ### numbers, each in so many low bytes -/
def enLowL (k : Nat) (l : List Int) : List Int := l.flatMap (lowL k)
theorem enLowL_take (k : Nat) (l : List Int) (j : Nat) (hj : j < l.length) : enLowL k (l.take (j + 1)) = enLowL k (l.take j) ++ lowL k (rd l (j : Nat)) := by
  unfold enLowL
  rw [List.take_succ_eq_append_getElem hj, List.flatMap_append, rd_nat _ _ hj]; simp
theorem enLowL_length (k : Nat) (l : List Int) : (enLowL k l).length = l.length * k := by
  unfold enLowL
  induction l with
  | nil => simp
  | cons x l ih => rw [List.flatMap_cons, List.length_append, ih, lowL_length, List.length_cons, Nat.succ_mul]; omega
theorem rd_lowL (k : Nat) (x : Int) (i : Nat) (hi : i < k) : rd (lowL k x) (i : Nat) = x / 256 ^ i % 256 := by
  rw [rd_nat _ _ (by rw [lowL_length]; exact hi)]; simp [lowL]
theorem rd_enLowL (k : Nat) (hk : 0 < k) (l : List Int) (i : Nat) (hi : i < l.length * k) : rd (enLowL k l) (i : Nat) = rd l (i / k : Nat) / 256 ^ (i % k) % 256 := by
  induction l generalizing i with
  | nil => simp at hi
  | cons x l ih =>
    show rd (lowL k x ++ enLowL k l) (i : Nat) = _
    rw [rd_append, lowL_length]
    by_cases h : i < k
    · rw [if_pos h, rd_lowL _ _ _ h, Nat.div_eq_of_lt h, Nat.mod_eq_of_lt h]; rfl
    · have h2 : i - k < l.length * k := by
        rw [List.length_cons, Nat.succ_mul] at hi; omega
      have h3 : i / k = (i - k) / k + 1 := by
        have := Nat.add_div_right (i - k) hk
        rw [Nat.sub_add_cancel (by omega)] at this
        omega
      have h4 : i % k = (i - k) % k := by
        rw [Nat.mod_eq_sub_mod (by omega)]
      rw [if_neg h, ih _ h2, h3, h4]
      congr 2
/-! ### numbers made wide -/
theorem infoU64 : (Try.prog.info? 31).map (fun i => (i.zero, i.size, i.bytes)) = some (some (.int .u64 0), 1, 8) := by kernel_rfl
def wideI (W : Nat) (x : Int) : Int := x % 2 ^ W
def wideL (W : Nat) (l : List Int) : List Int := l.map (wideI W)
theorem and32_val (y : Int) : Go.bits .and .u64 (y % 18446744073709551616) 4294967295 = y % 2 ^ 32 := by
  have := bits_mask .u64 64 (by decide) (fun n h0 h1 => by rw [IntKind.wrap_u64]; omega) 32 (by decide) (y % 18446744073709551616) (by omega) (by omega)
  rw [show ((2 : Int) ^ 32 - 1) = 4294967295 by decide] at this
  rw [this]; omega
/-! ### comparisons of equal lists -/
theorem drawnTrans {a b c : World} (h : Drawn0 a b) (k : Drawn0 b c) : Drawn0 a c := by
  obtain ⟨⟨n, rfl⟩⟩ := h
  obtain ⟨⟨m, rfl⟩⟩ := k
  exact ⟨⟨n + m, by rw [World.drewN_drewN]⟩⟩
set_option maxHeartbeats 4000000 in
theorem same_calls (A0 A1 : Option Addr) (n c0 c1 : Nat) (l : List Int) (w : World) (h0 : (Kd.int .u8).C w A0 n l) (h1 : (Kd.int .u8).C w A1 n l) :
    Calls Try.prog 19 #[.slice A0 n c0, .slice A1 n c1] w fun e w' => e = .returned (.bool true) ∧ Drawn0 w w' := by
  have hn : l.length = n := h0.1
  subst hn
  have hcv3 := Kd.C_string (P := Try.prog) (A := A0) (c := c0) Try.underlying23 Try.underlying5 Try.underlying9 h0
  have hcv4 := Kd.C_string (P := Try.prog) (A := A1) (c := c1) Try.underlying23 Try.underlying5 Try.underlying9 h1
  clear h0 h1
  go_enter Try.func19, Try.ntmps19
  go_wp2
  go_ret
  exact ⟨by first | rfl | (simp; done) | (simp [*]; done), by repeat (first | exact Drawn0.refl _ | apply Drawn0.step)⟩
set_option maxHeartbeats 4000000 in
theorem enBytes_calls (A0 A1 : Option Addr) (n c0 c1 : Nat) (l : List Int) (w : World) (h0 : (Kd.int .u8).C w A0 n l) (h1 : (Kd.int .u8).C w A1 n l) :
    Calls Try.prog 12 #[.slice A0 n c0, .bool true, .slice A1 n c1] w fun e w' => e = .returned (.bool true) ∧ Drawn0 w w' := by
  have HF := Aside0.mk (same_calls A0 A1 n c0 c1 l w h0 h1)
  clear h0 h1
  go_enter Try.func12, Try.ntmps12
  go_wp2_with (first | (go_at_call 19; (with_reducible refine HF.out.mono ?_); rintro e w' ⟨rfl, ⟨nd, rfl⟩⟩))
  go_ret
  exact ⟨rfl, ⟨nd, rfl⟩⟩
end Go.Proofs.Ytcboegodjlfmnaa.Num

/-! Words of four and of eight bytes, the low ones first, read and written. -/
namespace Go.Proofs.Ytcboegodjlfmnaa.Le
open Go.Proofs.Ytcboegodjlfmnaa.Lst Go.Proofs.Ytcboegodjlfmnaa.Aid Go.RowKit Go.Proofs.YtcboegodjlfmnaaW.PrintWords Go.Proofs.YtcboegodjlfmnaaW.PrintLast Go.Proofs.YtcboegodjlfmnaaW.PrintMore
set_option linter.unusedVariables false
set_option linter.unusedSimpArgs false
theorem h8 : ∃ i, (Try.prog.info? 5) = some i ∧ i.size = 1 := Option.map_eq_some_iff.1 (show (Try.prog.info? 5).map (fun i => i.size) = some 1 by kernel_rfl)
def put8 (xs : List Int) (o : Nat) (v : Int) : List Int := put4 (put4 xs o (v % 4294967296)) (o + 4) (v / 4294967296)
theorem put8_length (xs : List Int) (o : Nat) (v : Int) : (put8 xs o v).length = xs.length := by simp [put8, put4_length]
/-! ### many words, one behind the other -/
def p4 (xs : List Int) (n : Nat) : Nat → List Int
  | 0 => List.replicate (4 * n) 0
  | k + 1 => put4 (p4 xs n k) (4 * k) (rd xs (k : Nat))
theorem p4_length (xs : List Int) (n k : Nat) : (p4 xs n k).length = 4 * n := by
  induction k with
  | zero => simp [p4]
  | succ k ih => simp [p4, put4_length, ih]
theorem rd_p4 (xs : List Int) (n k i : Nat) (hk : k ≤ n) : rd (p4 xs n k) (i : Nat) = if i < 4 * k then rd xs (i / 4 : Nat) / 256 ^ (i % 4) % 256 else 0 := by
  induction k with
  | zero =>
    rw [if_neg (by omega)]
    show rd (List.replicate (4 * n) 0) (i : Nat) = 0
    unfold rd
    rw [Int.toNat_natCast, List.getD_eq_getElem?_getD, List.getElem?_replicate]
    split <;> rfl
  | succ k ih =>
    show rd (put4 (p4 xs n k) (4 * k) (rd xs (k : Nat))) (i : Nat) = _
    rw [rd_put4 _ _ _ _ (by rw [p4_length]; omega), ih (by omega)]
    by_cases h3 : i = 4 * k + 3
    · rw [if_pos h3, if_pos (by omega), show i / 4 = k by omega, show i % 4 = 3 by omega]; rfl
    rw [if_neg h3]
    by_cases h2 : i = 4 * k + 2
    · rw [if_pos h2, if_pos (by omega), show i / 4 = k by omega, show i % 4 = 2 by omega]; rfl
    rw [if_neg h2]
    by_cases h1 : i = 4 * k + 1
    · rw [if_pos h1, if_pos (by omega), show i / 4 = k by omega, show i % 4 = 1 by omega]; rfl
    rw [if_neg h1]
    by_cases h0 : i = 4 * k
    · rw [if_pos h0, if_pos (by omega), show i / 4 = k by omega, show i % 4 = 0 by omega]; simp
    rw [if_neg h0]
    by_cases h : i < 4 * k
    · rw [if_pos h, if_pos (by omega)]
    · rw [if_neg h, if_neg (by omega)]

def pqthrift_leUint32.f (l0 : List Int) : Option (Int) := if 4 ≤ l0.length ∧ bytesB l0 = true then some (le4L l0) else none
set_option maxHeartbeats 2000000 in
theorem pqthrift_leUint32.calls (A0 : Option Addr) (c0 : Nat) (l0 : List Int) (r : Int) (w : World) (hr0 : Kd.C (Kd.int .u8) w A0 l0.length l0) (hc0 : l0.length ≤ c0) (h : pqthrift_leUint32.f l0 = some r) :
    Calls Try.prog 86 #[.slice A0 l0.length c0] w fun e w' => e = .returned (.int .u32 r) ∧ Drawn0 w w' := by
  unfold pqthrift_leUint32.f at h
  split at h
  · rename_i hb
    obtain ⟨hl, hb⟩ := hb
    obtain rfl := Option.some.inj h
    have b0 := bytesB_rd hb (i := 0) (k := 0) rfl (by omega)
    have b1 := bytesB_rd hb (i := 1) (k := 1) rfl (by omega)
    have b2 := bytesB_rd hb (i := 2) (k := 2) rfl (by omega)
    have b3 := bytesB_rd hb (i := 3) (k := 3) rfl (by omega)
    obtain ⟨ad, rfl, x0⟩ := Kd.at_int hr0 0 (by omega) (by omega)
    obtain ⟨ad1, e1, x1⟩ := Kd.at_int hr0 1 (by omega) (by omega)
    obtain ⟨ad2, e2, x2⟩ := Kd.at_int hr0 2 (by omega) (by omega)
    obtain ⟨ad3, e3, x3⟩ := Kd.at_int hr0 3 (by omega) (by omega)
    obtain rfl : ad = ad1 := (by injection e1)
    obtain rfl : ad = ad2 := (by injection e2)
    obtain rfl : ad = ad3 := (by injection e3)
    have i0 : decide (0 < l0.length) = true := decide_eq_true (by omega)
    have i1 : decide (1 < l0.length) = true := decide_eq_true (by omega)
    have i2 : decide (2 < l0.length) = true := decide_eq_true (by omega)
    have i3 : decide (3 < l0.length) = true := decide_eq_true (by omega)
    simp only [show (1 : Int).toNat = 1 from rfl, show (2 : Int).toNat = 2 from rfl, show (3 : Int).toNat = 3 from rfl, show (0 : Int).toNat = 0 from rfl, Addr.add_zero'] at x0 x1 x2 x3
    simp only [Go.Addr.add, Nat.reduceEqDiff, ↓reduceIte] at x1 x2 x3
    have B := Aside0.mk (⟨b0, b1, b2, b3⟩ : byt _ ∧ byt _ ∧ byt _ ∧ byt _)
    clear hr0 e1 e2 e3 b0 b1 b2 b3 hb h
    go_enter Try.func86, Try.ntmps86
    go_wp2
    repeat (go_quiet (fail); try go_wp2)
    go_ret
    obtain ⟨b0, b1, b2, b3⟩ := B.out
    exact ⟨congrArg (fun x => Ending.returned (Value.int .u32 x)) (le4_raw _ _ _ _ b0 b1 b2 b3), ⟨⟨_, rfl⟩⟩⟩
  · cases h
theorem pqthrift_leUint32.calls' (A : Option Addr) (n c : Nat) (l : List Int) (w : World) (hC : (Kd.int .u8).C w A n l) (hc : n ≤ c) (hn : 4 ≤ n) (hb : bytesB l = true) :
    Calls Try.prog 86 #[.slice A n c] w fun e w' => e = .returned (.int .u32 (le4L l)) ∧ Drawn0 w w' := by
  have hl : l.length = n := hC.1
  subst hl
  exact pqthrift_leUint32.calls A c l _ w hC hc (by unfold pqthrift_leUint32.f; rw [if_pos ⟨hn, hb⟩])
def pqthrift_leUint64.f (l0 : List Int) : Option (Int) := if 8 ≤ l0.length ∧ bytesB l0 = true then some (le8L l0) else none
set_option maxHeartbeats 2000000 in
theorem pqthrift_leUint64.calls (A0 : Option Addr) (c0 : Nat) (l0 : List Int) (r : Int) (w : World) (hr0 : Kd.C (Kd.int .u8) w A0 l0.length l0) (hc0 : l0.length ≤ c0) (h : pqthrift_leUint64.f l0 = some r) :
    Calls Try.prog 83 #[.slice A0 l0.length c0] w fun e w' => e = .returned (.int .u64 r) ∧ Drawn0 w w' := by
  unfold pqthrift_leUint64.f at h
  split at h
  · rename_i hb
    obtain ⟨hl, hb⟩ := hb
    obtain rfl := Option.some.inj h
    have ce : ∀ W : World, Kd.C (Kd.int .u8) W A0 l0.length l0 → Calls Try.prog 86 #[.slice A0 l0.length c0] W fun e w' => e = .returned (.int .u32 (le4L l0)) ∧ Drawn0 W w' := fun W hW =>
      pqthrift_leUint32.calls A0 c0 l0 _ W hW hc0 (by unfold pqthrift_leUint32.f; rw [if_pos ⟨by omega, hb⟩])
    obtain ⟨i8, h8⟩ := Option.map_eq_some_iff.1 (show (Try.prog.info? 5).map (fun i => i.size) = some 1 by kernel_rfl)
    obtain ⟨A4, cut4, hC4⟩ := cutLo (P := Try.prog) 23 5 Try.underlying23 h8.1 h8.2 A0 l0.length c0 .i64 4 4 rfl (by omega) hc0
    obtain ⟨n4, hn4⟩ : ∃ x, x = l0.length - 4 := ⟨_, rfl⟩
    obtain ⟨c4, hc4⟩ : ∃ x, x = c0 - 4 := ⟨_, rfl⟩
    rw [← hn4, ← hc4] at cut4
    rw [← hn4] at hC4
    have hld : (l0.drop 4).length = n4 := by rw [List.length_drop, hn4]
    have cf : ∀ W : World, Kd.C (Kd.int .u8) W A0 l0.length l0 → Calls Try.prog 86 #[.slice A4 n4 c4] W fun e w' => e = .returned (.int .u32 (le4L (l0.drop 4))) ∧ Drawn0 W w' := fun W hW => by
      have hd := hC4 _ _ _ rfl hW
      rw [← hld] at hd ⊢
      exact pqthrift_leUint32.calls A4 _ (l0.drop 4) _ W hd (by omega) (by unfold pqthrift_leUint32.f; rw [if_pos ⟨by omega, bytesB_drop hb 4⟩])
    have b1 := le4L_bd hb (by omega)
    have b2 := le4L_bd (bytesB_drop hb 4) (by rw [hld]; omega)
    obtain ⟨ad, rfl, x7⟩ := Kd.at_int hr0 7 (by omega) (by omega)
    have i7 : decide (7 < l0.length) = true := decide_eq_true (by omega)
    simp only [show (7 : Int).toNat = 7 from rfl] at x7
    simp only [Go.Addr.add, Nat.reduceEqDiff, ↓reduceIte] at x7
    have HR := Aside0.mk hr0
    have B := Aside0.mk (⟨b1, b2⟩ : (0 ≤ le4L l0 ∧ _) ∧ (0 ≤ le4L (l0.drop 4) ∧ _))
    have CE := Aside0.mk ce
    have CF := Aside0.mk cf
    clear hr0 hC4 hld ce cf hb h b1 b2 hn4 hc4
    go_enter Try.func83, Try.ntmps83
    go_wp2_with (fail)
    go_quiet (first
      | (go_at_call_of 86 (Value.slice A4 n4 c4); exact quietCall (CF.out _ (Kd.C_drewN HR.out _)))
      | (go_at_call 86; exact quietCall (CE.out _ (Kd.C_drewN HR.out _))))
    go_wp2_with (fail)
    go_ret
    obtain ⟨b1, b2⟩ := B.out
    exact ⟨congrArg (fun x => Ending.returned (Value.int .u64 x)) (le8_raw _ _ b1 b2), ⟨⟨_, rfl⟩⟩⟩
  · cases h
theorem pqthrift_leUint64.calls' (A : Option Addr) (n c : Nat) (l : List Int) (w : World) (hC : (Kd.int .u8).C w A n l) (hc : n ≤ c) (hn : 8 ≤ n) (hb : bytesB l = true) :
    Calls Try.prog 83 #[.slice A n c] w fun e w' => e = .returned (.int .u64 (le8L l)) ∧ Drawn0 w w' := by
  have hl : l.length = n := hC.1
  subst hl
  exact pqthrift_leUint64.calls A c l _ w hC hc (by unfold pqthrift_leUint64.f; rw [if_pos ⟨hn, hb⟩])
set_option maxHeartbeats 2000000 in
theorem pqthrift_lePutUint32.calls (g o n c : Nat) (t : TypeId) (xs : List Int) (v : Int) (w : World) (hrow : Row w g t .u8 xs) (hn : 4 ≤ n) (ho : o + 4 ≤ xs.length) (hv0 : 0 ≤ v) (hv1 : v < 4294967296) :
    Calls Try.prog 113 #[.slice (some ⟨g, o, none⟩) n c, .int .u32 v] w fun e w' => e = .returned (.tuple #[]) ∧ w.grownBy w' (some g) ∧ Row w' g t .u8 (put4 xs o v) := by
  have HR := Aside0.mk hrow
  have x3 := hrow.cell (j := o + 3) (by omega)
  have x0 := hrow.cell (j := o) (by omega)
  have x1 := hrow.cell (j := o + 1) (by omega)
  have x2 := hrow.cell (j := o + 2) (by omega)
  have f0 := hrow.free o
  have f1 := hrow.free (o + 1)
  have f2 := hrow.free (o + 2)
  have f3 := hrow.free (o + 3)
  have i0 : decide (0 < n) = true := decide_eq_true (by omega)
  have i1 : decide (1 < n) = true := decide_eq_true (by omega)
  have i2 : decide (2 < n) = true := decide_eq_true (by omega)
  have i3 : decide (3 < n) = true := decide_eq_true (by omega)
  clear hrow
  go_enter Try.func113, Try.ntmps113
  go_wp2
  go_end0
  refine ⟨rfl, grownSet (grownSet (grownSet (grownSet (grownRefl w _) o _) (o + 1) _) (o + 2) _) (o + 3) _, ?_⟩
  have e : v / 16777216 = v / 16777216 % 256 := by omega
  rw [e]
  exact (((HR.out.set o (v % 256)).set (o + 1) (v / 256 % 256)).set (o + 2) (v / 65536 % 256)).set (o + 3) (v / 16777216 % 256)
set_option maxHeartbeats 2000000 in
theorem pqthrift_lePutUint64.calls (g o n c : Nat) (t : TypeId) (xs : List Int) (v : Int) (w : World) (hrow : Row w g t .u8 xs) (hn : 8 ≤ n) (hnc : n ≤ c) (ho : o + 8 ≤ xs.length) (hv0 : 0 ≤ v) (hv1 : v < 18446744073709551616) :
    Calls Try.prog 108 #[.slice (some ⟨g, o, none⟩) n c, .int .u64 v] w fun e w' => e = .returned (.tuple #[]) ∧ w.grownBy w' (some g) ∧ Row w' g t .u8 (put8 xs o v) := by
  have HR := Aside0.mk hrow
  have x7 := hrow.cell (j := o + 7) (by omega)
  have i7 : decide (7 < n) = true := decide_eq_true (by omega)
  obtain ⟨i8, h8⟩ := h8
  have cut4 := cutOff (P := Try.prog) 23 5 Try.underlying23 h8.1 h8.2 g o n c .i64 4 4 rfl (by omega) hnc (by omega)
  obtain ⟨n4, hn4⟩ : ∃ x, x = n - 4 := ⟨_, rfl⟩
  obtain ⟨c4, hc4⟩ : ∃ x, x = c - 4 := ⟨_, rfl⟩
  rw [← hn4, ← hc4] at cut4
  have hn4' : 4 ≤ n4 := by omega
  have F1 := Aside0.mk (pqthrift_lePutUint32.calls g o n c t xs (v % 4294967296) w hrow (by omega) (by omega) (by omega) (by omega))
  have F2 : Aside0 (∀ w2, Row w2 g t .u8 (put4 xs o (v % 4294967296)) → Calls Try.prog 113 #[.slice (some ⟨g, o + 4, none⟩) n4 c4, .int .u32 (v / 4294967296)] w2 fun e w' => e = .returned (.tuple #[]) ∧ w2.grownBy w' (some g) ∧ Row w' g t .u8 (put8 xs o v)) :=
    ⟨fun w2 h2 => pqthrift_lePutUint32.calls g (o + 4) n4 c4 t _ (v / 4294967296) w2 h2 hn4' (by rw [put4_length]; omega) (by omega) (by omega)⟩
  clear hrow hn4 hc4
  go_enter Try.func108, Try.ntmps108
  go_wp2_with (go_at_call 113; (first
    | ((with_reducible refine F1.out.mono ?_); rintro e w2 ⟨rfl, hg, hr⟩; have HG := Aside0.mk hg; have HM := Aside0.mk hr; clear hg hr)
    | ((with_reducible refine (F2.out _ HM.out).mono ?_); rintro e w3 ⟨rfl, hg, hr⟩; have HG2 := Aside0.mk hg; have HM2 := Aside0.mk hr; clear hg hr)))
  go_end0
  exact ⟨rfl, grownTrans HG.out HG2.out, HM2.out⟩
end Go.Proofs.Ytcboegodjlfmnaa.Le

/-! Rows and own slices of elements of one cell, whatever the element's spelling (floats). -/
namespace Go.Proofs.Ytcboegodjlfmnaa.Owe
open Go.Proofs.Ytcboegodjlfmnaa.Lst Go.Proofs.Ytcboegodjlfmnaa.Aid Go.RowKit Go.Proofs.YtcboegodjlfmnaaW.PrintWords Go.Proofs.YtcboegodjlfmnaaW.PrintLast Go.Proofs.YtcboegodjlfmnaaW.PrintMore
set_option linter.unusedVariables false
set_option linter.unusedSimpArgs false
section
variable {α : Type}
structure RowE (enc : α → Value) (w : World) (g : Nat) (t : TypeId) (xs : List α) : Prop where
  mk :: (out : Blk w g (encs enc xs).toArray t)
namespace RowE
variable {enc : α → Value} {w w1 : World} {g t : Nat} {xs : List α}
theorem cell (h : RowE enc w g t xs) {j : Nat} {x : α} (hj : xs[j]? = some x) : w.cell? ⟨g, j, none⟩ = some (enc x) := by
  refine h.out.cell ?_
  simp [encs, hj]
theorem free (h : RowE enc w g t xs) (j : Nat) : w.frozen? ⟨g, j, none⟩ = false := h.out.free j
theorem set (h : RowE enc w g t xs) (j : Nat) (x : α) : RowE enc (w.setCell ⟨g, j, none⟩ (enc x)) g t (xs.set j x) := by
  refine ⟨?_⟩
  have := h.out.set j (enc x)
  have e : (encs enc (xs.set j x)).toArray = (encs enc xs).toArray.setIfInBounds j (enc x) := by
    simp [encs, List.map_set]
  rw [e]; exact this
theorem drewN (h : RowE enc w g t xs) (n : Nat) : RowE enc (w.drewN n) g t xs := ⟨h.out.drewN n⟩
theorem below (h : RowE enc w g t xs) {B : Nat} (hb : Below B w w1) (hg : g < B) : RowE enc w1 g t xs := ⟨h.out.below hb hg⟩
theorem lt (h : RowE enc w g t xs) : g < w.heap.size := h.out.lt
theorem grown (h : RowE enc w g t xs) {row : Option Nat} (hg : w.grownBy w1 row) (hne : some g ≠ row) : RowE enc w1 g t xs := ⟨⟨(hg.block g h.lt hne).trans h.out.out⟩⟩
theorem alloc (h : RowE enc w g t xs) (o : Obj) : RowE enc (w.alloc o) g t xs := ⟨h.out.alloc o⟩
theorem far (h : RowE enc w g t xs) {p : Addr} (hp : g ≠ p.block) (u : Value) : RowE enc (w.setCell p u) g t xs := ⟨h.out.far hp u⟩
end RowE
structure OwnE (enc : α → Value) (w : World) (base t : Nat) (v : Value) (xs : List α) : Prop where
  mk :: (out : w.ownsRow base t 1 v xs.length (encs enc xs))
namespace OwnE
variable {enc : α → Value} {w w1 : World} {base t : Nat} {v : Value} {xs : List α}
theorem nil (enc : α → Value) (w : World) (base t : Nat) : OwnE enc w base t (.slice none 0 0) [] := ⟨own_nil w base t 1⟩
theorem alloc (h : OwnE enc w base t v xs) (o : Obj) : OwnE enc (w.alloc o) base t v xs := ⟨h.out.alloc o⟩
theorem grown (h : OwnE enc w base t v xs) {row : Option Nat} (hg : w.grownBy w1 row) (hne : v.ownBlock = none ∨ v.ownBlock ≠ row) : OwnE enc w1 base t v xs := ⟨own_other h.out hg hne⟩
theorem below (h : OwnE enc w base t v xs) (hb : Below w.heap.size w w1) : OwnE enc w1 base t v xs := ⟨pw_own_below h.out hb⟩
theorem drewN (h : OwnE enc w base t v xs) (n : Nat) : OwnE enc (w.drewN n) base t v xs := h.below (drewN_below w n)
theorem empty (enc : α → Value) (w : World) (base t : Nat) (hb : base ≤ w.heap.size) : OwnE enc (w.alloc (.cells #[] t)) base t (.slice (some ⟨w.heap.size, 0, none⟩) 0 0) [] :=
  ⟨⟨rfl, .inr ⟨w.heap.size, 0, #[], rfl, hb, heap_alloc_new w _, Nat.le_refl _, by simp [maxLen], rfl, rfl⟩⟩⟩
theorem read (h : OwnE enc w base t v xs) (h1 : ∀ x, (enc x).oneCell' = true) : ∃ A c, v = .slice A xs.length c ∧ xs.length ≤ c ∧ (Kd.scalar enc h1).C w A xs.length xs := by
  rcases h.out.2 with ⟨rfl, h0⟩ | ⟨g, c, cur, rfl, hb, hh, hn, hm, hs, ht⟩
  · have : xs = [] := List.eq_nil_of_length_eq_zero h0
    subst this
    exact ⟨none, 0, rfl, Nat.le_refl _, rfl, by simp, fun h => by simp at h⟩
  · refine ⟨_, c, rfl, hn, rfl, by simp only [maxLen] at hm; omega, fun hp => ⟨_, rfl, fun j p hj => ⟨[enc p], rfl, rfl, fun i u hu => ?_⟩⟩⟩
    have hjl : j < xs.length := (List.getElem?_eq_some_iff.1 hj).1
    have hi : i = 0 := by
      have := (List.getElem?_eq_some_iff.1 hu).1
      simp at this; exact this
    subst hi
    have hu' : enc p = u := by simpa using hu
    subst hu'
    have h1 : cur[j]? = some (enc p) := by
      have h2 : (cur.toList.take (xs.length * 1))[j]? = (encs enc xs)[j]? := by rw [ht]
      rw [List.getElem?_take, if_pos (by omega)] at h2
      rw [← Array.getElem?_toList, h2]
      simp [encs, hj]
    show w.cell? ((⟨g, 0, none⟩ : Addr).add (j * 1 + 0)) = _
    by_cases h0 : j = 0
    · subst h0; simp [Addr.add, World.cell?, hh, h1]
    · simp [Addr.add, h0, World.cell?, hh, h1]
end OwnE
theorem RowE.toOwn {enc : α → Value} {w : World} {g t : Nat} {xs : List α} (h : RowE enc w g t xs) {base : Nat} (hb : base ≤ g) (hm : xs.length ≤ 9223372036854775807) : OwnE enc w base t (.slice (some ⟨g, 0, none⟩) xs.length xs.length) xs := by
  refine ⟨⟨by simp [encs], .inr ⟨g, xs.length, (encs enc xs).toArray, rfl, hb, h.out.out, Nat.le_refl _, by simpa [maxLen] using hm, by simp [encs], by simp [encs, List.take_of_length_le]⟩⟩⟩
theorem madeRowE (enc : α → Value) (d : α) (w : World) (t : TypeId) (n : Nat) : RowE enc (w.alloc (.cells (madeCells #[enc d] n) t)) w.heap.size t (List.replicate n d) := by
  have e : madeCells #[enc d] n = (encs enc (List.replicate n d)).toArray := by
    apply Array.ext
    · simp [size_madeCells, encs]
    · intro i h1 h2
      simp [madeCells, encs, Nat.mod_one]
  rw [e]; exact ⟨Blk.new _ _ _⟩
end
section
variable {α : Type} {P : Program} {ops : Array Oper} {rest : List Oper} {o : Oper} {a : Act} {Q : Exit → Act → World → Prop}
/-- append(v, y): behind 'at_builtin' -/
theorem appendOneE {w0 W : World} (enc : α → Value) (base : Nat) (hgd : o.guard = none) (s x : Operand) (t e : TypeId) (z : Value) (bytes : Nat)
    (ho : o.op = .call { callee := .builtin .append, args := #[s, x], argTypes := #[t, t] })
    (ht : P.underlying t = some (.slice e)) (hinfo : (P.info? e).map (fun i => (i.zero, i.size, i.bytes)) = some (some z, 1, bytes)) (hz : z.cells.size = 1) (hb0 : 0 < bytes)
    (v : Value) (xs : List α) (y : α) (hs : a.eval s = v) (hx : a.eval x = .slice (some ⟨W.heap.size, 0, none⟩) 1 1) (h1 : (enc y).oneCell' = true)
    (HO : OwnE enc W base e v xs) (HB : Below base w0 W) (hbase : base ≤ W.heap.size) (hl : (xs.length + 1) * bytes ≤ 140737488355328)
    (h : ∀ v1 w1, OwnE enc w1 base e v1 (xs ++ [y]) → Below base w0 w1 → W.grownBy w1 v.ownBlock → wpList P ops Q rest (a.put o.dst v1) w1) :
    wpList P ops Q (o :: rest) a (W.alloc (.cells #[enc y] e)) :=
  print_append_of enc base hgd s x t e z bytes ho ht hinfo hz hb0 v xs y hs hx h1 HO.out HB hbase hl fun v1 w1 ho hb hg _ => h v1 w1 ⟨ho⟩ hb hg
end
end Go.Proofs.Ytcboegodjlfmnaa.Owe

/-! Floating-point numbers by their bits. -/
namespace Go.Proofs.Ytcboegodjlfmnaa.Flt
open Go.Proofs.Ytcboegodjlfmnaa.Le Go.Proofs.Ytcboegodjlfmnaa.Num Go.Proofs.Ytcboegodjlfmnaa.Owe Go.Proofs.Ytcboegodjlfmnaa.Lst Go.Proofs.Ytcboegodjlfmnaa.Aid Go.RowKit Go.Proofs.YtcboegodjlfmnaaW.PrintWords Go.Proofs.YtcboegodjlfmnaaW.PrintLast Go.Proofs.YtcboegodjlfmnaaW.PrintMore
set_option linter.unusedVariables false
set_option linter.unusedSimpArgs false
def f32 (n : Int) : Value := .float .f32 n.toNat
def f64 (n : Int) : Value := .float .f64 n.toNat
theorem f32_one (n : Int) : (f32 n).oneCell' = true := rfl
theorem f64_one (n : Int) : (f64 n).oneCell' = true := rfl
theorem float64bits_run (n : Int) (hn : 0 ≤ n) : ∀ W : World, (callFunc 31 #[f64 n]).run Try.prog W = .ok (.value (.int .u64 n)) W := by
  intro W
  rw [run_callFunc_extern (fn := Try.f31) Try.func31 (by kernel_rfl) (by kernel_rfl) (by kernel_rfl) (e := Extern.MathFloatBits.float64bits) (by kernel_rfl)]
  have e : ((n.toNat : Nat) : Int) = n := Int.toNat_of_nonneg hn
  change (Sem.run Try.prog (pure (.int .u64 ((n.toNat : Nat) : Int) : Value)) W).andThen _ = _
  rw [e]; rfl
theorem float64frombits_run (n : Int) (hn : 0 ≤ n) : ∀ W : World, (callFunc 35 #[.int .u64 n]).run Try.prog W = .ok (.value (f64 n)) W := by
  intro W
  rw [run_callFunc_extern (fn := Try.f35) Try.func35 (by kernel_rfl) (by kernel_rfl) (by kernel_rfl) (e := Extern.MathFloatBits.float64frombits) (by kernel_rfl)]
  have e : ((n.toNat : Nat) : Int) = n := Int.toNat_of_nonneg hn
  change (Sem.run Try.prog (pure (.float .f64 n.toNat : Value)) W).andThen _ = _
  rfl
end Go.Proofs.Ytcboegodjlfmnaa.Flt

/-! Streams of bytes: plain lemmas. -/
namespace Go.Proofs.Ytcboegodjlfmnaa.Str
open Go.Proofs.Ytcboegodjlfmnaa.Num Go.Proofs.Ytcboegodjlfmnaa.Le Go.Proofs.Ytcboegodjlfmnaa.Lst Go.Proofs.Ytcboegodjlfmnaa.Aid Go.RowKit Go.Proofs.YtcboegodjlfmnaaW.PrintWords Go.Proofs.YtcboegodjlfmnaaW.PrintLast Go.Proofs.YtcboegodjlfmnaaW.PrintMore
set_option linter.unusedVariables false
set_option linter.unusedSimpArgs false
def setsK (b : Nat → Int) (n k : Nat) (xs : List Int) : Nat → List Int
  | 0 => xs
  | s + 1 => (setsK b n k xs s).set (s * n + k) (b s)
theorem setsK_length (b : Nat → Int) (n k : Nat) (xs : List Int) (S : Nat) : (setsK b n k xs S).length = xs.length := by
  induction S with
  | zero => rfl
  | succ S ih => simp [setsK, ih]
theorem quot_eq {n k S : Nat} (hk : k < n) : (S * n + k) / n = S ∧ (S * n + k) % n = k := by
  constructor
  · rw [Nat.add_comm, Nat.add_mul_div_right _ _ (by omega), Nat.div_eq_of_lt hk, Nat.zero_add]
  · rw [Nat.add_comm, Nat.add_mul_mod_self_right, Nat.mod_eq_of_lt hk]
theorem rd_setsK (b : Nat → Int) (n k : Nat) (xs : List Int) (hk : k < n) (S : Nat) (hS : S * n ≤ xs.length) (i : Nat) :
    rd (setsK b n k xs S) (i : Nat) = if i < S * n ∧ i % n = k then b (i / n) else rd xs (i : Nat) := by
  induction S with
  | zero => rw [if_neg (by omega)]; rfl
  | succ S ih =>
    have hS2 : S * n + n ≤ xs.length := by rw [Nat.succ_mul] at hS; exact hS
    show rd ((setsK b n k xs S).set (S * n + k) (b S)) (i : Nat) = _
    rw [rd_set _ _ _ _ (by rw [setsK_length]; omega), ih (by omega), Nat.succ_mul]
    obtain ⟨q1, q2⟩ := quot_eq (S := S) hk
    by_cases h : i = S * n + k
    · subst h
      rw [if_pos rfl, if_pos ⟨by omega, q2⟩, q1]
    · rw [if_neg h]
      by_cases h2 : i < S * n ∧ i % n = k
      · rw [if_pos h2, if_pos ⟨by omega, h2.2⟩]
      · rw [if_neg h2, if_neg]
        rintro ⟨h3, h4⟩
        have h5 : ¬ i < S * n := fun h => h2 ⟨h, h4⟩
        have h6 := Nat.div_add_mod i n
        have h7 : i / n = S := by
          have a1 : i / n < S + 1 := (Nat.div_lt_iff_lt_mul (by omega)).2 (by rw [Nat.succ_mul]; exact h3)
          have a2 : S ≤ i / n := (Nat.le_div_iff_mul_le (by omega)).2 (by omega)
          omega
        rw [h7, h4, Nat.mul_comm] at h6
        exact h h6.symm
def strP (b : Nat → Nat → Int) (n m S k : Nat) : List Int := (List.range m).map fun i => if i < S * n ∧ i % n < k then b (i % n) (i / n) else 0
theorem strP_length (b : Nat → Nat → Int) (n m S k : Nat) : (strP b n m S k).length = m := by simp [strP]
theorem rd_strP (b : Nat → Nat → Int) (n m S k i : Nat) (hi : i < m) : rd (strP b n m S k) (i : Nat) = if i < S * n ∧ i % n < k then b (i % n) (i / n) else 0 := by
  simp [rd, strP, List.getD_eq_getElem?_getD, hi]
theorem strP_zero (b : Nat → Nat → Int) (n m S : Nat) : strP b n m S 0 = List.replicate m 0 := by
  apply List.ext_getElem
  · simp [strP]
  · intro i h1 h2; simp [strP]
theorem strP_set (b : Nat → Nat → Int) (n m S k : Nat) (hk : k < n) (hS : S * n ≤ m) : setsK (b k) n k (strP b n m S k) S = strP b n m S (k + 1) := by
  refine rd_ext (by rw [setsK_length, strP_length, strP_length]) fun i hi => ?_
  rw [setsK_length, strP_length] at hi
  rw [rd_setsK _ _ _ _ hk _ (by rw [strP_length]; exact hS), rd_strP _ _ _ _ _ _ hi, rd_strP _ _ _ _ _ _ hi]
  by_cases h : i < S * n
  · by_cases h2 : i % n = k
    · rw [if_pos ⟨h, h2⟩, if_pos ⟨h, by omega⟩, h2]
    · rw [if_neg (fun h3 => h2 h3.2)]
      by_cases h3 : i % n < k
      · rw [if_pos ⟨h, h3⟩, if_pos ⟨h, by omega⟩]
      · rw [if_neg (fun h4 => h3 h4.2), if_neg (fun h4 => by have := h4.2; omega)]
  · rw [if_neg (fun h4 => h h4.1), if_neg (fun h4 => h h4.1), if_neg (fun h4 => h h4.1)]
theorem strP_full (b : Nat → Nat → Int) (n m S : Nat) (hn : 0 < n) (hS : S * n ≤ m) : (strP b n m S n).take (S * n) = (List.range (S * n)).map fun i => b (i % n) (i / n) := by
  apply List.ext_getElem
  · simp [strP]; omega
  · intro i h1 h2
    have h3 : i < S * n := by simpa using h2
    simp [strP, h3, Nat.mod_lt i hn]
def streamsL (k : Nat) (bs : List Int) : List Int := (List.range bs.length).map fun i => rd bs (i % (bs.length / k) * k + i / (bs.length / k) : Nat)
theorem streamsL_length (k : Nat) (bs : List Int) : (streamsL k bs).length = bs.length := by simp [streamsL]
theorem streams_enLow (k : Nat) (hk : 0 < k) (l : List Int) : streamsL k (enLowL k l) = (List.range (k * l.length)).map fun i => rd l (i % l.length : Nat) / 256 ^ (i / l.length) % 256 := by
  have hl : (enLowL k l).length = k * l.length := by rw [enLowL_length, Nat.mul_comm]
  have hq : k * l.length / k = l.length := Nat.mul_div_cancel_left _ hk
  apply List.ext_getElem
  · simp [streamsL, hl]
  · intro i h1 h2
    have hi : i < k * l.length := by simpa using h2
    have hn : 0 < l.length := by
      rcases Nat.eq_zero_or_pos l.length with h | h
      · rw [h] at hi; omega
      · exact h
    have h3 : i % l.length < l.length := Nat.mod_lt _ hn
    have h4 : i / l.length < k := (Nat.div_lt_iff_lt_mul hn).2 hi
    obtain ⟨q1, q2⟩ := quot_eq (n := k) (k := i / l.length) (S := i % l.length) h4
    have h5 : i % l.length * k + i / l.length < l.length * k := by
      have : i % l.length * k + k ≤ l.length * k := by
        rw [← Nat.succ_mul]; exact Nat.mul_le_mul_right _ h3
      omega
    simp only [streamsL, List.getElem_map, List.getElem_range, hl, hq]
    rw [rd_enLowL k hk l _ h5, q1, q2]
theorem le4_bytes (x : Int) (h0 : 0 ≤ x) (h1 : x < 4294967296) : le4 (x % 256) (x / 256 % 256) (x / 65536 % 256) (x / 16777216 % 256) = x := by
  unfold le4; omega
end Go.Proofs.Ytcboegodjlfmnaa.Str

/-! Walks of the package of streams: numbers of 32 bits. -/
namespace Go.Proofs.Ytcboegodjlfmnaa.Spl
open Go.Proofs.Ytcboegodjlfmnaa.Str Go.Proofs.Ytcboegodjlfmnaa.Flt Go.Proofs.Ytcboegodjlfmnaa.Owe Go.Proofs.Ytcboegodjlfmnaa.Num Go.Proofs.Ytcboegodjlfmnaa.Le Go.Proofs.Ytcboegodjlfmnaa.Lst Go.Proofs.Ytcboegodjlfmnaa.Aid Go.RowKit Go.Proofs.YtcboegodjlfmnaaW.PrintWords Go.Proofs.YtcboegodjlfmnaaW.PrintLast Go.Proofs.YtcboegodjlfmnaaW.PrintMore
set_option linter.unusedVariables false
set_option linter.unusedSimpArgs false
def u32B (x : Int) : Prop := 0 ≤ x ∧ x < 4294967296
def u32L (hs : List Int) : Prop := ∀ x ∈ hs, u32B x
theorem u32_of_wf {x : Int} (h : (Lit.int .u32 x).wf = true) : u32B x := by
  have := wf_bd h
  have e1 : IntKind.u32.min = 0 := by decide +kernel
  have e2 : IntKind.u32.max = 4294967295 := by decide +kernel
  unfold u32B; omega
theorem at_f32 {w : World} {A : Option Addr} {n : Nat} {xs : List Int} (h : (Kd.scalar f32 f32_one).C w A n xs) (i : Int) (h0 : 0 ≤ i) (h1 : i < n) : ∃ ad, A = some ad ∧ w.cell? (ad.add i.toNat) = some (f32 (rd xs i)) :=
  ReadsOf.at_ (Kd.reads_of_C (enc := f32) (d := (0 : Int)) (h1 := f32_one) h) i h0 h1
/-! ### more cuts, makes -/
theorem cutAtMid {P : Program} (t e : TypeId) {i : TypeInfo} (ht : P.underlying t = some (.slice e)) (hi : P.info? e = some i) (hsz : i.size = 1) (g n c : Nat) (kl kh : IntKind) (lo hi' : Int) (l h : Nat) (hlo : lo = l) (hhi : hi' = h) (h0 : l ≤ h) (h1 : h ≤ n) (hc : n ≤ c) (hl : l < c) :
    ∀ W : World, (Instr.slice t (.slice (some ⟨g, 0, none⟩) n c) (some (.int kl lo)) (some (.int kh hi')) none).run P W = .ok (.slice (some ⟨g, l, none⟩) (h - l) (c - l)) W := by
  intro W
  subst hlo hhi
  have := cut_mid t e kl kh ht hi 1 hsz (some ⟨g, 0, none⟩) n c l h (by omega) (by omega) (by omega) hc W
  have hne : ¬ c = l := by omega
  by_cases h0 : l = 0
  · subst h0; simpa [hne, Addr.add] using this
  · simpa [hne, Addr.add, h0] using this
theorem make1 {P : Program} (t e : TypeId) (z : Value) (bytes : Nat) (ht : P.underlying t = some (.slice e)) (hinfo : (P.info? e).map (fun i => (i.zero, i.size, i.bytes)) = some (some z, 1, bytes)) (hz : z.cells = #[z])
    (m c : Nat) (hmc : m ≤ c) (hn : c * bytes ≤ 281474976710656) (hm : c ≤ 281474976710656) :
    ∀ W : World, (Instr.makeSlice t (.int .i64 (m : Int)) (.int .i64 (c : Int))).run P W = .ok (.slice (some ⟨W.heap.size, 0, none⟩) m c) (W.alloc (.cells (madeCells #[z] c) e)) := by
  intro W
  obtain ⟨i, hi, hzz⟩ := Option.map_eq_some_iff.1 hinfo
  simp only [Prod.mk.injEq] at hzz
  obtain ⟨h1, h2, h3⟩ := hzz
  have h4 : (i.bytes : Int) * (c : Int) ≤ 281474976710656 := by
    rw [h3]
    have : ((c * bytes : Nat) : Int) ≤ 281474976710656 := by omega
    rwa [Int.natCast_mul, Int.mul_comm] at this
  have hr := run_make (P := P) W t e i z ht hi h1 .i64 .i64 m c (by omega) (by omega) h4 (by omega)
  simp only [Int.toNat_natCast, h2, hz, Nat.mul_one] at hr
  exact hr
theorem infoU32 : (Try.prog.info? 164).map (fun i => (i.zero, i.size, i.bytes)) = some (some (.int .u32 0), 1, 4) := by kernel_rfl
/-- word j of bytes -/
def wd4 (bs : List Int) (j : Nat) : Int := le4L (bs.drop (4 * j))
theorem wd4_bd {bs : List Int} (hb : bytesB bs = true) {j : Nat} (hj : 4 * j + 4 ≤ bs.length) : 0 ≤ wd4 bs j ∧ wd4 bs j < 4294967296 := le4L_bd (bytesB_drop hb _) (by rw [List.length_drop]; omega)
theorem wd4_rd (bs : List Int) (j : Nat) : wd4 bs j = le4 (rd bs (4 * j : Nat)) (rd bs (4 * j + 1 : Nat)) (rd bs (4 * j + 2 : Nat)) (rd bs (4 * j + 3 : Nat)) := by
  unfold wd4 le4L
  have h0 := rd_drop bs (4 * j) 0
  have h1 := rd_drop bs (4 * j) 1
  have h2 := rd_drop bs (4 * j) 2
  have h3 := rd_drop bs (4 * j) 3
  rw [Nat.add_zero] at h0
  rw [← h0, ← h1, ← h2, ← h3]; rfl
theorem wd4_p4 (l : List Int) (n j : Nat) (hu : u32L l) (hn : l.length = n) (hj : j < n) : wd4 (p4 l n n) j = rd l (j : Nat) := by
  have hb : u32B (rd l (j : Nat)) := hu _ (rd_mem (by omega))
  rw [wd4_rd, rd_p4 _ _ _ _ (Nat.le_refl _), rd_p4 _ _ _ _ (Nat.le_refl _), rd_p4 _ _ _ _ (Nat.le_refl _), rd_p4 _ _ _ _ (Nat.le_refl _),
    if_pos (by omega), if_pos (by omega), if_pos (by omega), if_pos (by omega),
    show 4 * j / 4 = j by omega, show (4 * j + 1) / 4 = j by omega, show (4 * j + 2) / 4 = j by omega, show (4 * j + 3) / 4 = j by omega,
    show 4 * j % 4 = 0 by omega, show (4 * j + 1) % 4 = 1 by omega, show (4 * j + 2) % 4 = 2 by omega, show (4 * j + 3) % 4 = 3 by omega]
  have := le4_bytes _ hb.1 hb.2
  simpa using this
theorem p4_bytes (l : List Int) (n k : Nat) (hk : k ≤ n) : bytesB (p4 l n k) = true := by
  apply bytesB_of
  intro x hx
  obtain ⟨i, hi, rfl⟩ := List.getElem_of_mem hx
  rw [← rd_nat _ _ hi, rd_p4 _ _ _ _ hk]
  split
  · exact ⟨Int.emod_nonneg _ (by decide), Int.emod_lt_of_pos _ (by decide)⟩
  · exact ⟨by omega, by omega⟩
end Go.Proofs.Ytcboegodjlfmnaa.Spl

/-! Words of eight bytes, plain lemmas; rows of floats of 64 bits; append of a list that is read. -/
namespace Go.Proofs.Ytcboegodjlfmnaa.Wrd
open Go.Proofs.Ytcboegodjlfmnaa.Spl Go.Proofs.Ytcboegodjlfmnaa.Str Go.Proofs.Ytcboegodjlfmnaa.Flt Go.Proofs.Ytcboegodjlfmnaa.Owe Go.Proofs.Ytcboegodjlfmnaa.Num Go.Proofs.Ytcboegodjlfmnaa.Le Go.Proofs.Ytcboegodjlfmnaa.Lst Go.Proofs.Ytcboegodjlfmnaa.Aid Go.RowKit Go.Proofs.YtcboegodjlfmnaaW.PrintWords Go.Proofs.YtcboegodjlfmnaaW.PrintLast Go.Proofs.YtcboegodjlfmnaaW.PrintMore
set_option linter.unusedVariables false
set_option linter.unusedSimpArgs false
theorem at_f64 {w : World} {A : Option Addr} {n : Nat} {xs : List Int} (h : (Kd.scalar f64 f64_one).C w A n xs) (i : Int) (h0 : 0 ≤ i) (h1 : i < n) : ∃ ad, A = some ad ∧ w.cell? (ad.add i.toNat) = some (f64 (rd xs i)) :=
  ReadsOf.at_ (Kd.reads_of_C (enc := f64) (d := (0 : Int)) (h1 := f64_one) h) i h0 h1
theorem p4_enLow (ws : List Int) (n : Nat) (hn : ws.length = n) : p4 ws n n = enLowL 4 ws := by
  refine rd_ext (by rw [p4_length, enLowL_length, hn, Nat.mul_comm]) fun i hi => ?_
  rw [p4_length] at hi
  rw [rd_p4 _ _ _ _ (Nat.le_refl _), if_pos hi, rd_enLowL 4 (by omega) ws i (by omega)]
/-! ### eight bytes -/
theorem p256 : (256 : Int) ^ 0 = 1 ∧ (256 : Int) ^ 1 = 256 ∧ (256 : Int) ^ 2 = 65536 ∧ (256 : Int) ^ 3 = 16777216 ∧ (256 : Int) ^ 4 = 4294967296 ∧ (256 : Int) ^ 5 = 1099511627776 ∧ (256 : Int) ^ 6 = 281474976710656 ∧ (256 : Int) ^ 7 = 72057594037927936 := by decide
theorem rd_put8 (xs : List Int) (o i : Nat) (v : Int) (ho : o + 8 ≤ xs.length) : rd (put8 xs o v) (i : Nat) = if o ≤ i ∧ i < o + 8 then v / 256 ^ (i - o) % 256 else rd xs (i : Nat) := by
  obtain ⟨e0, e1, e2, e3, e4, e5, e6, e7⟩ := p256
  unfold put8
  rw [rd_put4 _ _ _ _ (by rw [put4_length]; omega), rd_put4 _ _ _ _ (by omega)]
  by_cases h : o ≤ i ∧ i < o + 8
  · rw [if_pos h]
    obtain ⟨j, hj, rfl⟩ : ∃ j, j < 8 ∧ i = o + j := ⟨i - o, by omega, by omega⟩
    rw [Nat.add_sub_cancel_left]
    rcases (show j = 0 ∨ j = 1 ∨ j = 2 ∨ j = 3 ∨ j = 4 ∨ j = 5 ∨ j = 6 ∨ j = 7 by omega) with rfl | rfl | rfl | rfl | rfl | rfl | rfl | rfl
    · rw [if_neg (by omega), if_neg (by omega), if_neg (by omega), if_neg (by omega), if_neg (by omega), if_neg (by omega), if_neg (by omega), if_pos (by omega), e0]; omega
    · rw [if_neg (by omega), if_neg (by omega), if_neg (by omega), if_neg (by omega), if_neg (by omega), if_neg (by omega), if_pos (by omega), e1]; omega
    · rw [if_neg (by omega), if_neg (by omega), if_neg (by omega), if_neg (by omega), if_neg (by omega), if_pos (by omega), e2]; omega
    · rw [if_neg (by omega), if_neg (by omega), if_neg (by omega), if_neg (by omega), if_pos (by omega), e3]; omega
    · rw [if_neg (by omega), if_neg (by omega), if_neg (by omega), if_pos (by omega), e4]
    · rw [if_neg (by omega), if_neg (by omega), if_pos (by omega), e5]; omega
    · rw [if_neg (by omega), if_pos (by omega), e6]; omega
    · rw [if_pos (by omega), e7]; omega
  · rw [if_neg h, if_neg (by omega), if_neg (by omega), if_neg (by omega), if_neg (by omega), if_neg (by omega), if_neg (by omega), if_neg (by omega), if_neg (by omega)]
def p8 (xs : List Int) (n : Nat) : Nat → List Int
  | 0 => List.replicate (8 * n) 0
  | k + 1 => put8 (p8 xs n k) (8 * k) (rd xs (k : Nat))
theorem p8_length (xs : List Int) (n k : Nat) : (p8 xs n k).length = 8 * n := by
  induction k with
  | zero => simp [p8]
  | succ k ih => simp [p8, put8_length, ih]
theorem rd_p8 (xs : List Int) (n k i : Nat) (hk : k ≤ n) : rd (p8 xs n k) (i : Nat) = if i < 8 * k then rd xs (i / 8 : Nat) / 256 ^ (i % 8) % 256 else 0 := by
  induction k with
  | zero =>
    rw [if_neg (by omega)]
    show rd (List.replicate (8 * n) 0) (i : Nat) = 0
    unfold rd
    rw [Int.toNat_natCast, List.getD_eq_getElem?_getD, List.getElem?_replicate]
    split <;> rfl
  | succ k ih =>
    show rd (put8 (p8 xs n k) (8 * k) (rd xs (k : Nat))) (i : Nat) = _
    rw [rd_put8 _ _ _ _ (by rw [p8_length]; omega), ih (by omega)]
    by_cases h : 8 * k ≤ i ∧ i < 8 * k + 8
    · rw [if_pos h, if_pos (by omega), show i / 8 = k by omega, show i % 8 = i - 8 * k by omega]
    · rw [if_neg h]
      by_cases h2 : i < 8 * k
      · rw [if_pos h2, if_pos (by omega)]
      · rw [if_neg h2, if_neg (by omega)]
theorem p8_bytes (l : List Int) (n k : Nat) (hk : k ≤ n) : bytesB (p8 l n k) = true := by
  apply bytesB_of
  intro x hx
  obtain ⟨i, hi, rfl⟩ := List.getElem_of_mem hx
  rw [← rd_nat _ _ hi, rd_p8 _ _ _ _ hk]
  split
  · exact ⟨Int.emod_nonneg _ (by decide), Int.emod_lt_of_pos _ (by decide)⟩
  · exact ⟨by omega, by omega⟩
theorem p8_enLow (ws : List Int) (n : Nat) (hn : ws.length = n) : p8 ws n n = enLowL 8 ws := by
  refine rd_ext (by rw [p8_length, enLowL_length, hn, Nat.mul_comm]) fun i hi => ?_
  rw [p8_length] at hi
  rw [rd_p8 _ _ _ _ (Nat.le_refl _), if_pos hi, rd_enLowL 8 (by omega) ws i (by omega)]
def le8 (a b c d e f g h : Int) : Int := le4 a b c d + le4 e f g h * 4294967296
theorem le8_bd (a b c d e f g h : Int) (ha : byt a) (hb : byt b) (hc : byt c) (hd : byt d) (he : byt e) (hf : byt f) (hg : byt g) (hh : byt h) : 0 ≤ le8 a b c d e f g h ∧ le8 a b c d e f g h < 18446744073709551616 := by
  have h1 := le4_bd a b c d ha hb hc hd
  have h2 := le4_bd e f g h he hf hg hh
  unfold le8; omega
theorem le8_bytes (x : Int) (h0 : 0 ≤ x) (h1 : x < 18446744073709551616) : le8 (x % 256) (x / 256 % 256) (x / 65536 % 256) (x / 16777216 % 256) (x / 4294967296 % 256) (x / 1099511627776 % 256) (x / 281474976710656 % 256) (x / 72057594037927936 % 256) = x := by
  have a := le4_bytes (x % 4294967296) (by omega) (by omega)
  have b := le4_bytes (x / 4294967296) (by omega) (by omega)
  rw [show x % 4294967296 % 256 = x % 256 by omega, show x % 4294967296 / 256 % 256 = x / 256 % 256 by omega, show x % 4294967296 / 65536 % 256 = x / 65536 % 256 by omega, show x % 4294967296 / 16777216 % 256 = x / 16777216 % 256 by omega] at a
  rw [show x / 4294967296 / 256 % 256 = x / 1099511627776 % 256 by omega, show x / 4294967296 / 65536 % 256 = x / 281474976710656 % 256 by omega, show x / 4294967296 / 16777216 % 256 = x / 72057594037927936 % 256 by omega] at b
  unfold le8
  rw [a, b]; omega
def wd8 (bs : List Int) (j : Nat) : Int := le8L (bs.drop (8 * j))
theorem wd8_rd (bs : List Int) (j : Nat) : wd8 bs j = le8 (rd bs (8 * j : Nat)) (rd bs (8 * j + 1 : Nat)) (rd bs (8 * j + 2 : Nat)) (rd bs (8 * j + 3 : Nat)) (rd bs (8 * j + 4 : Nat)) (rd bs (8 * j + 5 : Nat)) (rd bs (8 * j + 6 : Nat)) (rd bs (8 * j + 7 : Nat)) := by
  unfold wd8 le8L le4L le8
  rw [List.drop_drop]
  have h0 := rd_drop bs (8 * j) 0
  have h1 := rd_drop bs (8 * j) 1
  have h2 := rd_drop bs (8 * j) 2
  have h3 := rd_drop bs (8 * j) 3
  have h4 := rd_drop bs (8 * j + 4) 0
  have h5 := rd_drop bs (8 * j + 4) 1
  have h6 := rd_drop bs (8 * j + 4) 2
  have h7 := rd_drop bs (8 * j + 4) 3
  rw [Nat.add_zero] at h0 h4
  rw [show 8 * j + 4 + 1 = 8 * j + 5 by omega] at h5
  rw [show 8 * j + 4 + 2 = 8 * j + 6 by omega] at h6
  rw [show 8 * j + 4 + 3 = 8 * j + 7 by omega] at h7
  rw [← h0, ← h1, ← h2, ← h3, ← h4, ← h5, ← h6, ← h7]; rfl
theorem wd8_bd {bs : List Int} (hb : bytesB bs = true) {j : Nat} (hj : 8 * j + 8 ≤ bs.length) : 0 ≤ wd8 bs j ∧ wd8 bs j < 18446744073709551616 := by
  rw [wd8_rd]
  exact le8_bd _ _ _ _ _ _ _ _ (bytesB_rd hb rfl (by omega)) (bytesB_rd hb rfl (by omega)) (bytesB_rd hb rfl (by omega)) (bytesB_rd hb rfl (by omega)) (bytesB_rd hb rfl (by omega)) (bytesB_rd hb rfl (by omega)) (bytesB_rd hb rfl (by omega)) (bytesB_rd hb rfl (by omega))
theorem wd8_p8 (l : List Int) (n j : Nat) (hu : u64L l) (hn : l.length = n) (hj : j < n) : wd8 (p8 l n n) j = rd l (j : Nat) := by
  have hb : u64B (rd l (j : Nat)) := hu _ (rd_mem (by omega))
  have r : ∀ s, s < 8 → rd (p8 l n n) (8 * j + s : Nat) = rd l (j : Nat) / 256 ^ s % 256 := fun s hs => by
    rw [rd_p8 _ _ _ _ (Nat.le_refl _), if_pos (by omega), show (8 * j + s) / 8 = j by omega, show (8 * j + s) % 8 = s by omega]
  have r0 := r 0 (by omega)
  rw [Nat.add_zero] at r0
  rw [wd8_rd, r0, r 1 (by omega), r 2 (by omega), r 3 (by omega), r 4 (by omega), r 5 (by omega), r 6 (by omega), r 7 (by omega)]
  have := le8_bytes _ hb.1 hb.2
  obtain ⟨e0, e1, e2, e3, e4, e5, e6, e7⟩ := p256
  rw [e0, e1, e2, e3, e4, e5, e6, e7, Int.ediv_one]
  exact this
/-! ### what stands in low bytes is read back -/
theorem wd4_enLow (l : List Int) (j : Nat) (hu : u32L l) (hj : j < l.length) : wd4 (enLowL 4 l) j = rd l (j : Nat) := by
  rw [← p4_enLow l _ rfl]; exact wd4_p4 l _ j hu rfl hj
theorem wd8_enLow (l : List Int) (j : Nat) (hu : u64L l) (hj : j < l.length) : wd8 (enLowL 8 l) j = rd l (j : Nat) := by
  rw [← p8_enLow l _ rfl]; exact wd8_p8 l _ j hu rfl hj
theorem enLow_bytes (k : Nat) (l : List Int) : bytesB (enLowL k l) = true := by
  apply bytesB_of
  intro x hx
  simp only [enLowL, List.mem_flatMap, lowL, List.mem_map] at hx
  obtain ⟨_, _, _, _, rfl⟩ := hx
  exact ⟨Int.emod_nonneg _ (by decide), Int.emod_lt_of_pos _ (by decide)⟩
/-! ### appending a list that is read, whatever the spelling of its elements -/
section
variable {α : Type} {P : Program} {ops : Array Oper} {rest : List Oper} {o : Oper} {a : Act} {Q : Exit → Act → World → Prop}
theorem C_cellsE {W : World} {enc : α → Value} {h1 : ∀ x, (enc x).oneCell' = true} {ad : Addr} {m : Nat} {ys : List α} (h : (Kd.scalar enc h1).C W (some ad) m ys) : ∀ j u, (encs enc ys)[j]? = some u → W.cell? (ad.add j) = some u := by
  intro j u hj
  have hjl : j < ys.length := by
    have := (List.getElem?_eq_some_iff.1 hj).1
    simpa [encs] using this
  obtain ⟨ad', e, hc⟩ := h.2.2 (by have := h.1; omega)
  injection e with e
  subst e
  obtain ⟨cs, hcs, h2, h3⟩ := hc j ys[j] (by simp [hjl])
  have e2 : u = enc ys[j] := by
    have : (encs enc ys)[j]? = some (enc ys[j]) := by simp [encs, hjl]
    rw [this] at hj
    exact (Option.some.inj hj).symm
  subst e2
  have h2' : cs = [enc ys[j]] := h2
  have := h3 0 (enc ys[j]) (by rw [h2']; rfl)
  have e3 : j * (Kd.scalar enc h1).sz + 0 = j := Nat.mul_one j
  rw [e3] at this
  exact this
/-- append(v, ys...): behind 'at_builtin' -/
theorem appendReadE {w0 W : World} (enc : α → Value) (h1 : ∀ x, (enc x).oneCell' = true) (base : Nat) (hgd : o.guard = none) (s x : Operand) (t e : TypeId) (z : Value) (bytes : Nat)
    (ho : o.op = .call { callee := .builtin .append, args := #[s, x], argTypes := #[t, t] })
    (ht : P.underlying t = some (.slice e)) (hinfo : (P.info? e).map (fun i => (i.zero, i.size, i.bytes)) = some (some z, 1, bytes)) (hz : z.cells.size = 1) (hb0 : 0 < bytes)
    (v : Value) (xs : List α) (A : Option Addr) (m c : Nat) (ys : List α) (hs : a.eval s = v) (hx : a.eval x = .slice A m c)
    (HO : OwnE enc W base e v xs) (HB : Below base w0 W) (hbase : base ≤ W.heap.size) (hC : (Kd.scalar enc h1).C W A m ys) (hl : (xs.length + m) * bytes ≤ 140737488355328)
    (h : ∀ v1 w1, OwnE enc w1 base e v1 (xs ++ ys) → Below base w0 w1 → W.grownBy w1 v.ownBlock → wpList P ops Q rest (a.put o.dst v1) w1) :
    wpList P ops Q (o :: rest) a W := by
  obtain ⟨i0, hi, hzz⟩ := Option.map_eq_some_iff.1 hinfo
  simp only [Prod.mk.injEq] at hzz
  obtain ⟨hz0, hz1, hz2⟩ := hzz
  have hm : ys.length = m := hC.1
  have hlen : xs.length + m ≤ 140737488355328 := Nat.le_trans (Nat.le_mul_of_pos_right _ hb0) hl
  have key : ∀ v1 w1, w1.ownsRow base e 1 v1 (xs.length + m) (encs enc xs ++ encs enc ys) → W.grownBy w1 v.ownBlock → wpList P ops Q rest (a.put o.dst v1) w1 := by
    intro v1 w1 h1 hg
    refine h v1 w1 ⟨?_⟩ (HB.grown hg hbase (own_base HO.out)) hg
    have e : encs enc (xs ++ ys) = encs enc xs ++ encs enc ys := by simp [encs]
    rw [List.length_append, hm, e]; exact h1
  rcases A with _ | ad
  · have h0 : m = 0 := by
      rcases Nat.eq_zero_or_pos m with h0 | h0
      · exact h0
      · obtain ⟨ad, h', _⟩ := hC.2.2 h0
        cases h'
    subst h0
    obtain rfl : ys = [] := List.eq_nil_of_length_eq_zero hm
    have hk := key v W (by simpa [encs] using HO.out) (grownRefl W _)
    refine wpList_plain hgd fun K hK => ?_
    have hrun : (Builtin.append_ #[t, t] o.type #[v, .slice none 0 c]).run P W = .ok v W := by
      rcases HO.out.2 with ⟨rfl, _⟩ | ⟨g, cap, cur, rfl, _, _, hnc, _⟩
      · simp [Builtin.append_, run_underlying ht, sizeOf, typeInfo, hi, Builtin.lenOf, Builtin.firstCells]
      · simp [Builtin.append_, run_underlying ht, sizeOf, typeInfo, hi, Builtin.lenOf, Builtin.firstCells, hnc, storeCells]
    unfold Oper.wp
    simp [execOp, ho, resolve, invoke, builtin, hs, hx, hrun, Result.andThen]
    exact hK _ _ hk
  · exact wpList_append_own W hgd s x t ho base e i0 z 1 bytes ht hi hz0 hz1 hz2 hz (by omega) v xs.length (encs enc xs) hs HO.out ad m c (encs enc ys) hx (by simp [encs, hm]) (C_cellsE hC) (by intro u hu; simp [encs] at hu; obtain ⟨q, _, rfl⟩ := hu; exact h1 q) (by simp only [maxLen]; omega) hl hbase
      (fun v1 w1 h1 hg _ => key v1 w1 h1 hg)
end
end Go.Proofs.Ytcboegodjlfmnaa.Wrd
