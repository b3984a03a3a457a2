import Derived.Test.YtcboegodjlfmnaaDoorProg
import Derived.Test.YtcboegodjlfmnaaDoorSlLst
namespace Go.Proofs.YtcboegodjlfmnaaDoor.Num
open Go.Proofs.YtcboegodjlfmnaaDoor.Lst Go.Proofs.YtcboegodjlfmnaaDoor.Aid Go.RowKit Go.Proofs.YtcboegodjlfmnaaDoorW.PrintWords Go.Proofs.YtcboegodjlfmnaaDoorW.PrintLast Go.Proofs.YtcboegodjlfmnaaDoorW.PrintMore
set_option linter.unusedVariables false
set_option linter.unusedSimpArgs false

def u64B (x : Int) : Prop := 0 ≤ x ∧ x < 18446744073709551616
theorem infoU8 : (Tryd.prog.info? 5).map (fun i => (i.zero, i.size, i.bytes)) = some (some (.int .u8 0), 1, 1) := by kernel_rfl
def lowL (k : Nat) (x : Int) : List Int := (List.range k).map fun i => x / 256 ^ i % 256
theorem lowL_length (k : Nat) (x : Int) : (lowL k x).length = k := by simp [lowL]
theorem lowL_succ (k : Nat) (x : Int) : lowL (k + 1) x = lowL k x ++ [x / 256 ^ k % 256] := by simp [lowL, List.range_succ]
theorem div_step (x y : Int) (j : Nat) (h : y = x / 256 ^ j) : y / 256 = x / 256 ^ (j + 1) := by
  rw [h, Int.pow_succ, Int.ediv_ediv_of_nonneg (Int.pow_nonneg (by decide))]
set_option maxHeartbeats 4000000 in
theorem low_calls (k : Nat) (x : Int) (hk : k ≤ 8) (hx : u64B x) (w : World) :
    Calls Tryd.prog 24 #[.int .i64 k, .int .u64 x] w fun e w' => ∃ v, e = .returned v ∧ Own w' w.heap.size 5 .u8 v (lowL k x) ∧ Below w.heap.size w w' := by
  have HX := Aside0.mk hx
  clear hx
  go_enter Tryd.func24, Tryd.ntmps24
  go_wp2_with (fail)
  go_loopg [1, 5, 7] k (fun kq v1 v5 v7 w' => ∃ (j : Nat) (y : Int), j ≤ k ∧ v7 = .int .i64 j ∧ v1 = .int .u64 y ∧ (0 ≤ y ∧ y < 18446744073709551616) ∧ Aside0 (y = x / 256 ^ j) ∧ Aside0 (Own w' w.heap.size 5 .u8 v5 (lowL j x)) ∧ Aside0 (Below w.heap.size w w') ∧ Aside0 (k - j ≤ kq))
  case atStart => exact ⟨0, x, by omega, rfl, rfl, HX.out, ⟨by simp⟩, ⟨Own.nil _ _ _ _⟩, ⟨Below.refl _ _⟩, ⟨by omega⟩⟩
  case round =>
    obtain ⟨j, y, hj, rfl, rfl, hy, HY, HO, HB, HK⟩ := hrel
    obtain ⟨hy0, hy1⟩ := hy
    by_cases cj : j < k
    · have cjb : decide ((j : Int) < k) = true := decide_eq_true (by omega)
      go_wp2_with (first
        | (at_builtin; refine appendOwn (w0 := w) w.heap.size rfl (.tmp 9) (.tmp 12) 23 5 .u8 1 rfl Tryd.underlying23 infoU8 (by decide) u5 _ _ rfl rfl HO.out HB.out ?hb ?hl ?_; (case hb => exact HB.out.size); (case hl => rw [lowL_length]; omega); intro v1 w1 ho hb hg; have HO1 := Aside0.mk ho; have HB1 := Aside0.mk hb; clear ho hb hg))
      go_roundg (gk - 1)
      case measure => have := HK.out; omega
      case rel =>
        refine ⟨j + 1, y / 256, by omega, by go_num, rfl, by omega, ⟨div_step x y j HY.out⟩, ⟨?_⟩, HB1, ⟨by have := HK.out; omega⟩⟩
        rw [lowL_succ, ← HY.out]; exact HO1.out
    · obtain rfl : j = k := by omega
      have cjb : decide ((j : Int) < j) = false := decide_eq_false (by omega)
      go_wp2_with (fail)
      go_ret
      exact ⟨_, rfl, HO.out, HB.out⟩
set_option maxHeartbeats 4000000 in
theorem same_calls (A0 A1 : Option Addr) (n c0 c1 : Nat) (l : List Int) (w : World) (h0 : (Kd.int .u8).C w A0 n l) (h1 : (Kd.int .u8).C w A1 n l) :
    Calls Tryd.prog 30 #[.slice A0 n c0, .slice A1 n c1] w fun e w' => e = .returned (.bool true) ∧ Drawn0 w w' := by
  have hn : l.length = n := h0.1
  subst hn
  have hcv3 := Kd.C_string (P := Tryd.prog) (A := A0) (c := c0) Tryd.underlying23 Tryd.underlying5 Tryd.underlying9 h0
  have hcv4 := Kd.C_string (P := Tryd.prog) (A := A1) (c := c1) Tryd.underlying23 Tryd.underlying5 Tryd.underlying9 h1
  clear h0 h1
  go_enter Tryd.func30, Tryd.ntmps30
  go_wp2
  go_ret
  exact ⟨by first | rfl | (simp; done) | (simp [*]; done), by repeat (first | exact Drawn0.refl _ | apply Drawn0.step)⟩
end Go.Proofs.YtcboegodjlfmnaaDoor.Num

namespace Go.Proofs.YtcboegodjlfmnaaDoor.Le
open Go.Proofs.YtcboegodjlfmnaaDoor.Lst Go.Proofs.YtcboegodjlfmnaaDoor.Aid Go.RowKit Go.Proofs.YtcboegodjlfmnaaDoorW.PrintWords Go.Proofs.YtcboegodjlfmnaaDoorW.PrintLast Go.Proofs.YtcboegodjlfmnaaDoorW.PrintMore
set_option linter.unusedVariables false
set_option linter.unusedSimpArgs false
theorem h8 : ∃ i, (Tryd.prog.info? 5) = some i ∧ i.size = 1 := Option.map_eq_some_iff.1 (show (Tryd.prog.info? 5).map (fun i => i.size) = some 1 by kernel_rfl)
def put8 (xs : List Int) (o : Nat) (v : Int) : List Int := put4 (put4 xs o (v % 4294967296)) (o + 4) (v / 4294967296)
def p4 (xs : List Int) (n : Nat) : Nat → List Int
  | 0 => List.replicate (4 * n) 0
  | k + 1 => put4 (p4 xs n k) (4 * k) (rd xs (k : Nat))
def pqthrift_leUint32.f (l0 : List Int) : Option (Int) := if 4 ≤ l0.length ∧ bytesB l0 = true then some (le4L l0) else none
set_option maxHeartbeats 2000000 in
theorem pqthrift_leUint32.calls (A0 : Option Addr) (c0 : Nat) (l0 : List Int) (r : Int) (w : World) (hr0 : Kd.C (Kd.int .u8) w A0 l0.length l0) (hc0 : l0.length ≤ c0) (h : pqthrift_leUint32.f l0 = some r) :
    Calls Tryd.prog 115 #[.slice A0 l0.length c0] w fun e w' => e = .returned (.int .u32 r) ∧ Drawn0 w w' := by
  unfold pqthrift_leUint32.f at h
  split at h
  · rename_i hb
    obtain ⟨hl, hb⟩ := hb
    obtain rfl := Option.some.inj h
    have b0 := bytesB_rd hb (i := 0) (k := 0) rfl (by omega)
    have b1 := bytesB_rd hb (i := 1) (k := 1) rfl (by omega)
    have b2 := bytesB_rd hb (i := 2) (k := 2) rfl (by omega)
    have b3 := bytesB_rd hb (i := 3) (k := 3) rfl (by omega)
    obtain ⟨ad, rfl, x0⟩ := Kd.at_int hr0 0 (by omega) (by omega)
    obtain ⟨ad1, e1, x1⟩ := Kd.at_int hr0 1 (by omega) (by omega)
    obtain ⟨ad2, e2, x2⟩ := Kd.at_int hr0 2 (by omega) (by omega)
    obtain ⟨ad3, e3, x3⟩ := Kd.at_int hr0 3 (by omega) (by omega)
    obtain rfl : ad = ad1 := (by injection e1)
    obtain rfl : ad = ad2 := (by injection e2)
    obtain rfl : ad = ad3 := (by injection e3)
    have i0 : decide (0 < l0.length) = true := decide_eq_true (by omega)
    have i1 : decide (1 < l0.length) = true := decide_eq_true (by omega)
    have i2 : decide (2 < l0.length) = true := decide_eq_true (by omega)
    have i3 : decide (3 < l0.length) = true := decide_eq_true (by omega)
    simp only [show (1 : Int).toNat = 1 from rfl, show (2 : Int).toNat = 2 from rfl, show (3 : Int).toNat = 3 from rfl, show (0 : Int).toNat = 0 from rfl, Addr.add_zero'] at x0 x1 x2 x3
    simp only [Go.Addr.add, Nat.reduceEqDiff, ↓reduceIte] at x1 x2 x3
    have B := Aside0.mk (⟨b0, b1, b2, b3⟩ : byt _ ∧ byt _ ∧ byt _ ∧ byt _)
    clear hr0 e1 e2 e3 b0 b1 b2 b3 hb h
    go_enter Tryd.func115, Tryd.ntmps115
    go_wp2
    repeat (go_quiet (fail); try go_wp2)
    go_ret
    obtain ⟨b0, b1, b2, b3⟩ := B.out
    exact ⟨congrArg (fun x => Ending.returned (Value.int .u32 x)) (le4_raw _ _ _ _ b0 b1 b2 b3), ⟨⟨_, rfl⟩⟩⟩
  · cases h
theorem pqthrift_leUint32.calls' (A : Option Addr) (n c : Nat) (l : List Int) (w : World) (hC : (Kd.int .u8).C w A n l) (hc : n ≤ c) (hn : 4 ≤ n) (hb : bytesB l = true) :
    Calls Tryd.prog 115 #[.slice A n c] w fun e w' => e = .returned (.int .u32 (le4L l)) ∧ Drawn0 w w' := by
  have hl : l.length = n := hC.1
  subst hl
  exact pqthrift_leUint32.calls A c l _ w hC hc (by unfold pqthrift_leUint32.f; rw [if_pos ⟨hn, hb⟩])
def pqthrift_leUint64.f (l0 : List Int) : Option (Int) := if 8 ≤ l0.length ∧ bytesB l0 = true then some (le8L l0) else none
set_option maxHeartbeats 2000000 in
theorem pqthrift_leUint64.calls (A0 : Option Addr) (c0 : Nat) (l0 : List Int) (r : Int) (w : World) (hr0 : Kd.C (Kd.int .u8) w A0 l0.length l0) (hc0 : l0.length ≤ c0) (h : pqthrift_leUint64.f l0 = some r) :
    Calls Tryd.prog 112 #[.slice A0 l0.length c0] w fun e w' => e = .returned (.int .u64 r) ∧ Drawn0 w w' := by
  unfold pqthrift_leUint64.f at h
  split at h
  · rename_i hb
    obtain ⟨hl, hb⟩ := hb
    obtain rfl := Option.some.inj h
    have ce : ∀ W : World, Kd.C (Kd.int .u8) W A0 l0.length l0 → Calls Tryd.prog 115 #[.slice A0 l0.length c0] W fun e w' => e = .returned (.int .u32 (le4L l0)) ∧ Drawn0 W w' := fun W hW =>
      pqthrift_leUint32.calls A0 c0 l0 _ W hW hc0 (by unfold pqthrift_leUint32.f; rw [if_pos ⟨by omega, hb⟩])
    obtain ⟨i8, h8⟩ := Option.map_eq_some_iff.1 (show (Tryd.prog.info? 5).map (fun i => i.size) = some 1 by kernel_rfl)
    obtain ⟨A4, cut4, hC4⟩ := cutLo (P := Tryd.prog) 23 5 Tryd.underlying23 h8.1 h8.2 A0 l0.length c0 .i64 4 4 rfl (by omega) hc0
    obtain ⟨n4, hn4⟩ : ∃ x, x = l0.length - 4 := ⟨_, rfl⟩
    obtain ⟨c4, hc4⟩ : ∃ x, x = c0 - 4 := ⟨_, rfl⟩
    rw [← hn4, ← hc4] at cut4
    rw [← hn4] at hC4
    have hld : (l0.drop 4).length = n4 := by rw [List.length_drop, hn4]
    have cf : ∀ W : World, Kd.C (Kd.int .u8) W A0 l0.length l0 → Calls Tryd.prog 115 #[.slice A4 n4 c4] W fun e w' => e = .returned (.int .u32 (le4L (l0.drop 4))) ∧ Drawn0 W w' := fun W hW => by
      have hd := hC4 _ _ _ rfl hW
      rw [← hld] at hd ⊢
      exact pqthrift_leUint32.calls A4 _ (l0.drop 4) _ W hd (by omega) (by unfold pqthrift_leUint32.f; rw [if_pos ⟨by omega, bytesB_drop hb 4⟩])
    have b1 := le4L_bd hb (by omega)
    have b2 := le4L_bd (bytesB_drop hb 4) (by rw [hld]; omega)
    obtain ⟨ad, rfl, x7⟩ := Kd.at_int hr0 7 (by omega) (by omega)
    have i7 : decide (7 < l0.length) = true := decide_eq_true (by omega)
    simp only [show (7 : Int).toNat = 7 from rfl] at x7
    simp only [Go.Addr.add, Nat.reduceEqDiff, ↓reduceIte] at x7
    have HR := Aside0.mk hr0
    have B := Aside0.mk (⟨b1, b2⟩ : (0 ≤ le4L l0 ∧ _) ∧ (0 ≤ le4L (l0.drop 4) ∧ _))
    have CE := Aside0.mk ce
    have CF := Aside0.mk cf
    clear hr0 hC4 hld ce cf hb h b1 b2 hn4 hc4
    go_enter Tryd.func112, Tryd.ntmps112
    go_wp2_with (fail)
    go_quiet (first
      | (go_at_call_of 115 (Value.slice A4 n4 c4); exact quietCall (CF.out _ (Kd.C_drewN HR.out _)))
      | (go_at_call 115; exact quietCall (CE.out _ (Kd.C_drewN HR.out _))))
    go_wp2_with (fail)
    go_ret
    obtain ⟨b1, b2⟩ := B.out
    exact ⟨congrArg (fun x => Ending.returned (Value.int .u64 x)) (le8_raw _ _ b1 b2), ⟨⟨_, rfl⟩⟩⟩
  · cases h
theorem pqthrift_leUint64.calls' (A : Option Addr) (n c : Nat) (l : List Int) (w : World) (hC : (Kd.int .u8).C w A n l) (hc : n ≤ c) (hn : 8 ≤ n) (hb : bytesB l = true) :
    Calls Tryd.prog 112 #[.slice A n c] w fun e w' => e = .returned (.int .u64 (le8L l)) ∧ Drawn0 w w' := by
  have hl : l.length = n := hC.1
  subst hl
  exact pqthrift_leUint64.calls A c l _ w hC hc (by unfold pqthrift_leUint64.f; rw [if_pos ⟨hn, hb⟩])
set_option maxHeartbeats 2000000 in
theorem pqthrift_lePutUint32.calls (g o n c : Nat) (t : TypeId) (xs : List Int) (v : Int) (w : World) (hrow : Row w g t .u8 xs) (hn : 4 ≤ n) (ho : o + 4 ≤ xs.length) (hv0 : 0 ≤ v) (hv1 : v < 4294967296) :
    Calls Tryd.prog 142 #[.slice (some ⟨g, o, none⟩) n c, .int .u32 v] w fun e w' => e = .returned (.tuple #[]) ∧ w.grownBy w' (some g) ∧ Row w' g t .u8 (put4 xs o v) := by
  have HR := Aside0.mk hrow
  have x3 := hrow.cell (j := o + 3) (by omega)
  have x0 := hrow.cell (j := o) (by omega)
  have x1 := hrow.cell (j := o + 1) (by omega)
  have x2 := hrow.cell (j := o + 2) (by omega)
  have f0 := hrow.free o
  have f1 := hrow.free (o + 1)
  have f2 := hrow.free (o + 2)
  have f3 := hrow.free (o + 3)
  have i0 : decide (0 < n) = true := decide_eq_true (by omega)
  have i1 : decide (1 < n) = true := decide_eq_true (by omega)
  have i2 : decide (2 < n) = true := decide_eq_true (by omega)
  have i3 : decide (3 < n) = true := decide_eq_true (by omega)
  clear hrow
  go_enter Tryd.func142, Tryd.ntmps142
  go_wp2
  go_end0
  refine ⟨rfl, grownSet (grownSet (grownSet (grownSet (grownRefl w _) o _) (o + 1) _) (o + 2) _) (o + 3) _, ?_⟩
  have e : v / 16777216 = v / 16777216 % 256 := by omega
  rw [e]
  exact (((HR.out.set o (v % 256)).set (o + 1) (v / 256 % 256)).set (o + 2) (v / 65536 % 256)).set (o + 3) (v / 16777216 % 256)
set_option maxHeartbeats 2000000 in
theorem pqthrift_lePutUint64.calls (g o n c : Nat) (t : TypeId) (xs : List Int) (v : Int) (w : World) (hrow : Row w g t .u8 xs) (hn : 8 ≤ n) (hnc : n ≤ c) (ho : o + 8 ≤ xs.length) (hv0 : 0 ≤ v) (hv1 : v < 18446744073709551616) :
    Calls Tryd.prog 137 #[.slice (some ⟨g, o, none⟩) n c, .int .u64 v] w fun e w' => e = .returned (.tuple #[]) ∧ w.grownBy w' (some g) ∧ Row w' g t .u8 (put8 xs o v) := by
  have HR := Aside0.mk hrow
  have x7 := hrow.cell (j := o + 7) (by omega)
  have i7 : decide (7 < n) = true := decide_eq_true (by omega)
  obtain ⟨i8, h8⟩ := h8
  have cut4 := cutOff (P := Tryd.prog) 23 5 Tryd.underlying23 h8.1 h8.2 g o n c .i64 4 4 rfl (by omega) hnc (by omega)
  obtain ⟨n4, hn4⟩ : ∃ x, x = n - 4 := ⟨_, rfl⟩
  obtain ⟨c4, hc4⟩ : ∃ x, x = c - 4 := ⟨_, rfl⟩
  rw [← hn4, ← hc4] at cut4
  have hn4' : 4 ≤ n4 := by omega
  have F1 := Aside0.mk (pqthrift_lePutUint32.calls g o n c t xs (v % 4294967296) w hrow (by omega) (by omega) (by omega) (by omega))
  have F2 : Aside0 (∀ w2, Row w2 g t .u8 (put4 xs o (v % 4294967296)) → Calls Tryd.prog 142 #[.slice (some ⟨g, o + 4, none⟩) n4 c4, .int .u32 (v / 4294967296)] w2 fun e w' => e = .returned (.tuple #[]) ∧ w2.grownBy w' (some g) ∧ Row w' g t .u8 (put8 xs o v)) :=
    ⟨fun w2 h2 => pqthrift_lePutUint32.calls g (o + 4) n4 c4 t _ (v / 4294967296) w2 h2 hn4' (by rw [put4_length]; omega) (by omega) (by omega)⟩
  clear hrow hn4 hc4
  go_enter Tryd.func137, Tryd.ntmps137
  go_wp2_with (go_at_call 142; (first
    | ((with_reducible refine F1.out.mono ?_); rintro e w2 ⟨rfl, hg, hr⟩; have HG := Aside0.mk hg; have HM := Aside0.mk hr; clear hg hr)
    | ((with_reducible refine (F2.out _ HM.out).mono ?_); rintro e w3 ⟨rfl, hg, hr⟩; have HG2 := Aside0.mk hg; have HM2 := Aside0.mk hr; clear hg hr)))
  go_end0
  exact ⟨rfl, grownTrans HG.out HG2.out, HM2.out⟩
end Go.Proofs.YtcboegodjlfmnaaDoor.Le

namespace Go.Proofs.YtcboegodjlfmnaaDoor.Owe
open Go.Proofs.YtcboegodjlfmnaaDoor.Lst Go.Proofs.YtcboegodjlfmnaaDoor.Aid Go.RowKit Go.Proofs.YtcboegodjlfmnaaDoorW.PrintWords Go.Proofs.YtcboegodjlfmnaaDoorW.PrintLast Go.Proofs.YtcboegodjlfmnaaDoorW.PrintMore
set_option linter.unusedVariables false
set_option linter.unusedSimpArgs false
section
variable {α : Type}
structure RowE (enc : α → Value) (w : World) (g : Nat) (t : TypeId) (xs : List α) : Prop where
  mk :: (out : Blk w g (encs enc xs).toArray t)
namespace RowE
variable {enc : α → Value} {w w1 : World} {g t : Nat} {xs : List α}
theorem cell (h : RowE enc w g t xs) {j : Nat} {x : α} (hj : xs[j]? = some x) : w.cell? ⟨g, j, none⟩ = some (enc x) := by
  refine h.out.cell ?_
  simp [encs, hj]
theorem free (h : RowE enc w g t xs) (j : Nat) : w.frozen? ⟨g, j, none⟩ = false := h.out.free j
theorem set (h : RowE enc w g t xs) (j : Nat) (x : α) : RowE enc (w.setCell ⟨g, j, none⟩ (enc x)) g t (xs.set j x) := by
  refine ⟨?_⟩
  have := h.out.set j (enc x)
  have e : (encs enc (xs.set j x)).toArray = (encs enc xs).toArray.setIfInBounds j (enc x) := by
    simp [encs, List.map_set]
  rw [e]; exact this
theorem drewN (h : RowE enc w g t xs) (n : Nat) : RowE enc (w.drewN n) g t xs := ⟨h.out.drewN n⟩
theorem below (h : RowE enc w g t xs) {B : Nat} (hb : Below B w w1) (hg : g < B) : RowE enc w1 g t xs := ⟨h.out.below hb hg⟩
theorem lt (h : RowE enc w g t xs) : g < w.heap.size := h.out.lt
theorem grown (h : RowE enc w g t xs) {row : Option Nat} (hg : w.grownBy w1 row) (hne : some g ≠ row) : RowE enc w1 g t xs := ⟨⟨(hg.block g h.lt hne).trans h.out.out⟩⟩
theorem alloc (h : RowE enc w g t xs) (o : Obj) : RowE enc (w.alloc o) g t xs := ⟨h.out.alloc o⟩
theorem far (h : RowE enc w g t xs) {p : Addr} (hp : g ≠ p.block) (u : Value) : RowE enc (w.setCell p u) g t xs := ⟨h.out.far hp u⟩
end RowE
structure OwnE (enc : α → Value) (w : World) (base t : Nat) (v : Value) (xs : List α) : Prop where
  mk :: (out : w.ownsRow base t 1 v xs.length (encs enc xs))
namespace OwnE
variable {enc : α → Value} {w w1 : World} {base t : Nat} {v : Value} {xs : List α}
theorem nil (enc : α → Value) (w : World) (base t : Nat) : OwnE enc w base t (.slice none 0 0) [] := ⟨own_nil w base t 1⟩
theorem alloc (h : OwnE enc w base t v xs) (o : Obj) : OwnE enc (w.alloc o) base t v xs := ⟨h.out.alloc o⟩
theorem grown (h : OwnE enc w base t v xs) {row : Option Nat} (hg : w.grownBy w1 row) (hne : v.ownBlock = none ∨ v.ownBlock ≠ row) : OwnE enc w1 base t v xs := ⟨own_other h.out hg hne⟩
theorem below (h : OwnE enc w base t v xs) (hb : Below w.heap.size w w1) : OwnE enc w1 base t v xs := ⟨pw_own_below h.out hb⟩
theorem drewN (h : OwnE enc w base t v xs) (n : Nat) : OwnE enc (w.drewN n) base t v xs := h.below (drewN_below w n)
theorem empty (enc : α → Value) (w : World) (base t : Nat) (hb : base ≤ w.heap.size) : OwnE enc (w.alloc (.cells #[] t)) base t (.slice (some ⟨w.heap.size, 0, none⟩) 0 0) [] :=
  ⟨⟨rfl, .inr ⟨w.heap.size, 0, #[], rfl, hb, heap_alloc_new w _, Nat.le_refl _, by simp [maxLen], rfl, rfl⟩⟩⟩
theorem read (h : OwnE enc w base t v xs) (h1 : ∀ x, (enc x).oneCell' = true) : ∃ A c, v = .slice A xs.length c ∧ xs.length ≤ c ∧ (Kd.scalar enc h1).C w A xs.length xs := by
  rcases h.out.2 with ⟨rfl, h0⟩ | ⟨g, c, cur, rfl, hb, hh, hn, hm, hs, ht⟩
  · have : xs = [] := List.eq_nil_of_length_eq_zero h0
    subst this
    exact ⟨none, 0, rfl, Nat.le_refl _, rfl, by simp, fun h => by simp at h⟩
  · refine ⟨_, c, rfl, hn, rfl, by simp only [maxLen] at hm; omega, fun hp => ⟨_, rfl, fun j p hj => ⟨[enc p], rfl, rfl, fun i u hu => ?_⟩⟩⟩
    have hjl : j < xs.length := (List.getElem?_eq_some_iff.1 hj).1
    have hi : i = 0 := by
      have := (List.getElem?_eq_some_iff.1 hu).1
      simp at this; exact this
    subst hi
    have hu' : enc p = u := by simpa using hu
    subst hu'
    have h1 : cur[j]? = some (enc p) := by
      have h2 : (cur.toList.take (xs.length * 1))[j]? = (encs enc xs)[j]? := by rw [ht]
      rw [List.getElem?_take, if_pos (by omega)] at h2
      rw [← Array.getElem?_toList, h2]
      simp [encs, hj]
    show w.cell? ((⟨g, 0, none⟩ : Addr).add (j * 1 + 0)) = _
    by_cases h0 : j = 0
    · subst h0; simp [Addr.add, World.cell?, hh, h1]
    · simp [Addr.add, h0, World.cell?, hh, h1]
end OwnE
theorem RowE.toOwn {enc : α → Value} {w : World} {g t : Nat} {xs : List α} (h : RowE enc w g t xs) {base : Nat} (hb : base ≤ g) (hm : xs.length ≤ 9223372036854775807) : OwnE enc w base t (.slice (some ⟨g, 0, none⟩) xs.length xs.length) xs := by
  refine ⟨⟨by simp [encs], .inr ⟨g, xs.length, (encs enc xs).toArray, rfl, hb, h.out.out, Nat.le_refl _, by simpa [maxLen] using hm, by simp [encs], by simp [encs, List.take_of_length_le]⟩⟩⟩
end
section
variable {α : Type} {P : Program} {ops : Array Oper} {rest : List Oper} {o : Oper} {a : Act} {Q : Exit → Act → World → Prop}
end
end Go.Proofs.YtcboegodjlfmnaaDoor.Owe

namespace Go.Proofs.YtcboegodjlfmnaaDoor.Flt
open Go.Proofs.YtcboegodjlfmnaaDoor.Le Go.Proofs.YtcboegodjlfmnaaDoor.Num Go.Proofs.YtcboegodjlfmnaaDoor.Owe Go.Proofs.YtcboegodjlfmnaaDoor.Lst Go.Proofs.YtcboegodjlfmnaaDoor.Aid Go.RowKit Go.Proofs.YtcboegodjlfmnaaDoorW.PrintWords Go.Proofs.YtcboegodjlfmnaaDoorW.PrintLast Go.Proofs.YtcboegodjlfmnaaDoorW.PrintMore
set_option linter.unusedVariables false
set_option linter.unusedSimpArgs false
def f64 (n : Int) : Value := .float .f64 n.toNat
theorem float64bits_run (n : Int) (hn : 0 ≤ n) : ∀ W : World, (callFunc 36 #[f64 n]).run Tryd.prog W = .ok (.value (.int .u64 n)) W := by
  intro W
  rw [run_callFunc_extern (fn := Tryd.f36) Tryd.func36 (by kernel_rfl) (by kernel_rfl) (by kernel_rfl) (e := Extern.MathFloatBits.float64bits) (by kernel_rfl)]
  have e : ((n.toNat : Nat) : Int) = n := Int.toNat_of_nonneg hn
  change (Sem.run Tryd.prog (pure (.int .u64 ((n.toNat : Nat) : Int) : Value)) W).andThen _ = _
  rw [e]; rfl
theorem float64frombits_run (n : Int) (hn : 0 ≤ n) : ∀ W : World, (callFunc 43 #[.int .u64 n]).run Tryd.prog W = .ok (.value (f64 n)) W := by
  intro W
  rw [run_callFunc_extern (fn := Tryd.f43) Tryd.func43 (by kernel_rfl) (by kernel_rfl) (by kernel_rfl) (e := Extern.MathFloatBits.float64frombits) (by kernel_rfl)]
  have e : ((n.toNat : Nat) : Int) = n := Int.toNat_of_nonneg hn
  change (Sem.run Tryd.prog (pure (.float .f64 n.toNat : Value)) W).andThen _ = _
  rfl
end Go.Proofs.YtcboegodjlfmnaaDoor.Flt

namespace Go.Proofs.YtcboegodjlfmnaaDoor.Str
open Go.Proofs.YtcboegodjlfmnaaDoor.Num Go.Proofs.YtcboegodjlfmnaaDoor.Le Go.Proofs.YtcboegodjlfmnaaDoor.Lst Go.Proofs.YtcboegodjlfmnaaDoor.Aid Go.RowKit Go.Proofs.YtcboegodjlfmnaaDoorW.PrintWords Go.Proofs.YtcboegodjlfmnaaDoorW.PrintLast Go.Proofs.YtcboegodjlfmnaaDoorW.PrintMore
set_option linter.unusedVariables false
set_option linter.unusedSimpArgs false
end Go.Proofs.YtcboegodjlfmnaaDoor.Str

namespace Go.Proofs.YtcboegodjlfmnaaDoor.Spl
open Go.Proofs.YtcboegodjlfmnaaDoor.Str Go.Proofs.YtcboegodjlfmnaaDoor.Flt Go.Proofs.YtcboegodjlfmnaaDoor.Owe Go.Proofs.YtcboegodjlfmnaaDoor.Num Go.Proofs.YtcboegodjlfmnaaDoor.Le Go.Proofs.YtcboegodjlfmnaaDoor.Lst Go.Proofs.YtcboegodjlfmnaaDoor.Aid Go.RowKit Go.Proofs.YtcboegodjlfmnaaDoorW.PrintWords Go.Proofs.YtcboegodjlfmnaaDoorW.PrintLast Go.Proofs.YtcboegodjlfmnaaDoorW.PrintMore
set_option linter.unusedVariables false
set_option linter.unusedSimpArgs false
end Go.Proofs.YtcboegodjlfmnaaDoor.Spl

namespace Go.Proofs.YtcboegodjlfmnaaDoor.Wrd
open Go.Proofs.YtcboegodjlfmnaaDoor.Spl Go.Proofs.YtcboegodjlfmnaaDoor.Str Go.Proofs.YtcboegodjlfmnaaDoor.Flt Go.Proofs.YtcboegodjlfmnaaDoor.Owe Go.Proofs.YtcboegodjlfmnaaDoor.Num Go.Proofs.YtcboegodjlfmnaaDoor.Le Go.Proofs.YtcboegodjlfmnaaDoor.Lst Go.Proofs.YtcboegodjlfmnaaDoor.Aid Go.RowKit Go.Proofs.YtcboegodjlfmnaaDoorW.PrintWords Go.Proofs.YtcboegodjlfmnaaDoorW.PrintLast Go.Proofs.YtcboegodjlfmnaaDoorW.PrintMore
set_option linter.unusedVariables false
set_option linter.unusedSimpArgs false
def p8 (xs : List Int) (n : Nat) : Nat → List Int
  | 0 => List.replicate (8 * n) 0
  | k + 1 => put8 (p8 xs n k) (8 * k) (rd xs (k : Nat))
section
variable {α : Type} {P : Program} {ops : Array Oper} {rest : List Oper} {o : Oper} {a : Act} {Q : Exit → Act → World → Prop}
end
end Go.Proofs.YtcboegodjlfmnaaDoor.Wrd
