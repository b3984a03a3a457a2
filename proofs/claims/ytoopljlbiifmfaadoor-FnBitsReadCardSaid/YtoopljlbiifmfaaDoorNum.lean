import Derived.Test.YtoopljlbiifmfaaDoorProg
import Derived.Test.YtoopljlbiifmfaaDoorLst
/-! Walks of small functions on lists of numbers: the low bytes of a number, numbers made wide, comparisons. -/
namespace Go.Proofs.YtoopljlbiifmfaaDoor.Num
open Go.Proofs.YtoopljlbiifmfaaDoor.Lst Go.Proofs.YtoopljlbiifmfaaDoor.Aid Go.RowKit Go.Proofs.YtoopljlbiifmfaaDoorW.PrintWords Go.Proofs.YtoopljlbiifmfaaDoorW.PrintLast Go.Proofs.YtoopljlbiifmfaaDoorW.PrintMore
set_option linter.unusedVariables false
set_option linter.unusedSimpArgs false

def u64B (x : Int) : Prop := 0 ≤ x ∧ x < 18446744073709551616
def u64L (hs : List Int) : Prop := ∀ x ∈ hs, u64B x
theorem u64_of_wf {x : Int} (h : (Lit.int .u64 x).wf = true) : u64B x := by
  have := wf_bd h
  have e1 : IntKind.u64.min = 0 := by decide +kernel
  have e2 : IntKind.u64.max = 18446744073709551615 := by decide +kernel
  unfold u64B; omega
theorem infoU8 : (Tryd.prog.info? 5).map (fun i => (i.zero, i.size, i.bytes)) = some (some (.int .u8 0), 1, 1) := by kernel_rfl
/-! ### the low bytes of a number -/
def lowL (k : Nat) (x : Int) : List Int := (List.range k).map fun i => x / 256 ^ i % 256
theorem lowL_length (k : Nat) (x : Int) : (lowL k x).length = k := by simp [lowL]
theorem lowL_succ (k : Nat) (x : Int) : lowL (k + 1) x = lowL k x ++ [x / 256 ^ k % 256] := by simp [lowL, List.range_succ]
theorem div_step (x y : Int) (j : Nat) (h : y = x / 256 ^ j) : y / 256 = x / 256 ^ (j + 1) := by
  rw [h, Int.pow_succ, Int.ediv_ediv_of_nonneg (Int.pow_nonneg (by decide))]
set_option maxHeartbeats 4000000 in
theorem low_calls (k : Nat) (x : Int) (hk : k ≤ 8) (hx : u64B x) (w : World) :
    Calls Tryd.prog 17 #[.int .i64 k, .int .u64 x] w fun e w' => ∃ v, e = .returned v ∧ Own w' w.heap.size 5 .u8 v (lowL k x) ∧ Below w.heap.size w w' := by
  have HX := Aside0.mk hx
  clear hx
  go_enter Tryd.func17, Tryd.ntmps17
  go_wp2_with (fail)
  go_loopg [1, 5, 7] k (fun kq v1 v5 v7 w' => ∃ (j : Nat) (y : Int), j ≤ k ∧ v7 = .int .i64 j ∧ v1 = .int .u64 y ∧ (0 ≤ y ∧ y < 18446744073709551616) ∧ Aside0 (y = x / 256 ^ j) ∧ Aside0 (Own w' w.heap.size 5 .u8 v5 (lowL j x)) ∧ Aside0 (Below w.heap.size w w') ∧ Aside0 (k - j ≤ kq))
  case atStart => exact ⟨0, x, by omega, rfl, rfl, HX.out, ⟨by simp⟩, ⟨Own.nil _ _ _ _⟩, ⟨Below.refl _ _⟩, ⟨by omega⟩⟩
  case round =>
    obtain ⟨j, y, hj, rfl, rfl, hy, HY, HO, HB, HK⟩ := hrel
    obtain ⟨hy0, hy1⟩ := hy
    by_cases cj : j < k
    · have cjb : decide ((j : Int) < k) = true := decide_eq_true (by omega)
      go_wp2_with (first
        | (at_builtin; refine appendOwn (w0 := w) w.heap.size rfl (.tmp 9) (.tmp 12) 25 5 .u8 1 rfl Tryd.underlying25 infoU8 (by decide) u5 _ _ rfl rfl HO.out HB.out ?hb ?hl ?_; (case hb => exact HB.out.size); (case hl => rw [lowL_length]; omega); intro v1 w1 ho hb hg; have HO1 := Aside0.mk ho; have HB1 := Aside0.mk hb; clear ho hb hg))
      go_roundg (gk - 1)
      case measure => have := HK.out; omega
      case rel =>
        refine ⟨j + 1, y / 256, by omega, by go_num, rfl, by omega, ⟨div_step x y j HY.out⟩, ⟨?_⟩, HB1, ⟨by have := HK.out; omega⟩⟩
        rw [lowL_succ, ← HY.out]; exact HO1.out
    · obtain rfl : j = k := by omega
      have cjb : decide ((j : Int) < j) = false := decide_eq_false (by omega)
      go_wp2_with (fail)
      go_ret
      exact ⟨_, rfl, HO.out, HB.out⟩
/-! ### numbers, each in so many low bytes -/
def enLowL (k : Nat) (l : List Int) : List Int := l.flatMap (lowL k)
theorem enLowL_take (k : Nat) (l : List Int) (j : Nat) (hj : j < l.length) : enLowL k (l.take (j + 1)) = enLowL k (l.take j) ++ lowL k (rd l (j : Nat)) := by
  unfold enLowL
  rw [List.take_succ_eq_append_getElem hj, List.flatMap_append, rd_nat _ _ hj]; simp
theorem enLowL_length (k : Nat) (l : List Int) : (enLowL k l).length = l.length * k := by
  unfold enLowL
  induction l with
  | nil => simp
  | cons x l ih => rw [List.flatMap_cons, List.length_append, ih, lowL_length, List.length_cons, Nat.succ_mul]; omega
theorem rd_lowL (k : Nat) (x : Int) (i : Nat) (hi : i < k) : rd (lowL k x) (i : Nat) = x / 256 ^ i % 256 := by
  rw [rd_nat _ _ (by rw [lowL_length]; exact hi)]; simp [lowL]
theorem rd_enLowL (k : Nat) (hk : 0 < k) (l : List Int) (i : Nat) (hi : i < l.length * k) : rd (enLowL k l) (i : Nat) = rd l (i / k : Nat) / 256 ^ (i % k) % 256 := by
  induction l generalizing i with
  | nil => simp at hi
  | cons x l ih =>
    show rd (lowL k x ++ enLowL k l) (i : Nat) = _
    rw [rd_append, lowL_length]
    by_cases h : i < k
    · rw [if_pos h, rd_lowL _ _ _ h, Nat.div_eq_of_lt h, Nat.mod_eq_of_lt h]; rfl
    · have h2 : i - k < l.length * k := by
        rw [List.length_cons, Nat.succ_mul] at hi; omega
      have h3 : i / k = (i - k) / k + 1 := by
        have := Nat.add_div_right (i - k) hk
        rw [Nat.sub_add_cancel (by omega)] at this
        omega
      have h4 : i % k = (i - k) % k := by
        rw [Nat.mod_eq_sub_mod (by omega)]
      rw [if_neg h, ih _ h2, h3, h4]
      congr 2
/-! ### numbers made wide -/
theorem infoU64 : (Tryd.prog.info? 32).map (fun i => (i.zero, i.size, i.bytes)) = some (some (.int .u64 0), 1, 8) := by kernel_rfl
def wideI (W : Nat) (x : Int) : Int := x % 2 ^ W
def wideL (W : Nat) (l : List Int) : List Int := l.map (wideI W)
theorem and32_val (y : Int) : Go.bits .and .u64 (y % 18446744073709551616) 4294967295 = y % 2 ^ 32 := by
  have := bits_mask .u64 64 (by decide) (fun n h0 h1 => by rw [IntKind.wrap_u64]; omega) 32 (by decide) (y % 18446744073709551616) (by omega) (by omega)
  rw [show ((2 : Int) ^ 32 - 1) = 4294967295 by decide] at this
  rw [this]; omega
set_option maxHeartbeats 4000000 in
theorem wide_int32_calls (A : Option Addr) (n c : Nat) (l : List Int) (w : World) (hC : (Kd.int .i32).C w A n l) (hc : n ≤ c) (hn : n ≤ 2147483647) (hwf : ∀ x ∈ l, (Lit.int .i32 x).wf = true) :
    Calls Tryd.prog 33 #[.int .i64 32, .slice A n c] w fun e w' => ∃ v, e = .returned v ∧ Own w' w.heap.size 32 .u64 v (wideL 32 l) ∧ Below w.heap.size w w' := by
  have HLN : Aside0 (l.length = n) := ⟨hC.1⟩
  have HC := Aside0.mk hC
  have HWF := Aside0.mk hwf
  have hmk := print_make (P := Tryd.prog) 27 32 .u64 8 Tryd.underlying27 infoU64 (by decide) n (by omega)
  clear hC hwf
  go_enter Tryd.func33, Tryd.ntmps33
  go_wp2_with (fail)
  have HR : Aside0 (Row (w.alloc (.cells (madeCells #[.int .u64 0] n) 32)) w.heap.size 32 .u64 (partI (fun i : Nat => wideI 32 (rd l (i : Nat))) n 0)) := ⟨by rw [partI_zero]; exact madeRow w 32 .u64 n⟩
  have HB : Aside0 (Below w.heap.size w (w.alloc (.cells (madeCells #[.int .u64 0] n) 32))) := ⟨(Below.refl _ _).alloc (Nat.le_refl _) _⟩
  generalize w.alloc (.cells (madeCells #[.int .u64 0] n) 32) = wm at *
  go_loopg [6, 7, 13] n (fun kq v6 v7 v13 w' => ∃ (j : Nat), j ≤ n ∧ v13 = .int .i64 j ∧ Aside0 (Row w' w.heap.size 32 .u64 (partI (fun i : Nat => wideI 32 (rd l (i : Nat))) n j)) ∧ Aside0 (Below w.heap.size w w') ∧ Aside0 (n - j ≤ kq))
  case atStart => exact ⟨0, by omega, rfl, HR, HB, ⟨by omega⟩⟩
  case round =>
    clear HR HB
    obtain ⟨j, hj, rfl, HR, HB, HK⟩ := hrel
    by_cases cj : j < n
    · have cjb : decide ((j : Int) < n) = true := decide_eq_true (by omega)
      obtain ⟨ad, ead, hcell⟩ := Kd.at_int (Kd.C_below HC.out HB.out) (j : Int) (by omega) (by omega)
      rw [Int.toNat_natCast] at hcell
      obtain ⟨y, hy⟩ : ∃ y, rd l (j : Int) = y := ⟨_, rfl⟩
      rw [hy] at hcell
      have hyw := HWF.out y (by rw [← hy]; exact rd_mem (by rw [HLN.out]; exact cj))
      have hyb := wf_bd hyw
      have e1 : IntKind.i32.min = -2147483648 := by decide +kernel
      have e2 : IntKind.i32.max = 2147483647 := by decide +kernel
      rw [e1, e2] at hyb
      obtain ⟨hy0, hy1⟩ := hyb
      have HY := Aside0.mk hy
      have rc := HR.out.cell (j := j) (by rw [partI_length]; exact cj)
      have rf := HR.out.free j
      rw [rd_partI _ _ _ _ cj, if_neg (by omega)] at rc
      clear hy hyw e1 e2
      subst ead
      have hw1 : IntKind.u64.wrap y = y % 18446744073709551616 := by rw [IntKind.wrap_u64]
      go_wp2_with (fail)
      have HR2 := Aside0.mk (HR.out.set j (y % 18446744073709551616))
      have HB2 : Aside0 (Below w.heap.size w (wr.setCell ⟨w.heap.size, j, none⟩ (.int .u64 (y % 18446744073709551616)))) := ⟨Below.setCell (p := ⟨w.heap.size, j, none⟩) HB.out (Nat.le_refl _) _⟩
      have rc2 := HR2.out.cell (j := j) (by rw [List.length_set, partI_length]; exact cj)
      have rf2 := HR2.out.free j
      rw [rd_set _ _ _ _ (by rw [partI_length]; exact cj), if_pos rfl] at rc2
      generalize wr.setCell ⟨w.heap.size, j, none⟩ (.int .u64 (y % 18446744073709551616)) = ws at *
      have HV := Aside0.mk (and32_val y)
      refine region_tail 9 (by kernel_rfl) (by kernel_rfl) ?_
      simp only [List.take_succ_cons, List.take_zero, List.drop_succ_cons, List.drop_zero]
      repeat (quiet_step ((fail)))
      refine wpQuiet_nil ?_
      rintro _ ⟨nq, rfl⟩
      go_wp2_with (fail)
      rw [HV.out]
      go_roundg (gk - 1)
      case measure => have := HK.out; omega
      case rel =>
        refine ⟨j + 1, by omega, by go_num, ⟨?_⟩, ⟨Below.setCell (p := ⟨w.heap.size, j, none⟩) (HB2.out.trans ((drewN_below ws nq).mono HB2.out.size)) (Nat.le_refl _) _⟩, ⟨by have := HK.out; omega⟩⟩
        have := (HR2.out.drewN nq).set j (y % 2 ^ 32)
        rw [List.set_set] at this
        have HW : wideI 32 (rd l (j : Nat)) = y % 2 ^ 32 := by rw [HY.out]; rfl
        rw [← HW] at this
        rw [← HW]
        have e := partI_set (fun i : Nat => wideI 32 (rd l (i : Nat))) n j
        rw [e] at this
        exact this
    · obtain rfl : j = n := by omega
      have cjb : decide ((j : Int) < j) = false := decide_eq_false (by omega)
      go_wp2_with (fail)
      go_ret
      have := HR.out.toOwn (base := w.heap.size) (n := j) (Nat.le_refl _) (by rw [partI_length]; omega) (by rw [partI_length]; omega)
      rw [partI_length, partI_full, map_range_rd (wideI 32) l j HLN.out, List.take_of_length_le (by rw [List.length_map, HLN.out]; omega)] at this
      exact ⟨_, rfl, this, HB.out⟩
/-! ### comparisons of equal lists -/
theorem drawnTrans {a b c : World} (h : Drawn0 a b) (k : Drawn0 b c) : Drawn0 a c := by
  obtain ⟨⟨n, rfl⟩⟩ := h
  obtain ⟨⟨m, rfl⟩⟩ := k
  exact ⟨⟨n + m, by rw [World.drewN_drewN]⟩⟩
set_option maxHeartbeats 4000000 in
theorem same_calls (A0 A1 : Option Addr) (n c0 c1 : Nat) (l : List Int) (w : World) (h0 : (Kd.int .u8).C w A0 n l) (h1 : (Kd.int .u8).C w A1 n l) :
    Calls Tryd.prog 28 #[.slice A0 n c0, .slice A1 n c1] w fun e w' => e = .returned (.bool true) ∧ Drawn0 w w' := by
  have hn : l.length = n := h0.1
  subst hn
  have hcv3 := Kd.C_string (P := Tryd.prog) (A := A0) (c := c0) Tryd.underlying25 Tryd.underlying5 Tryd.underlying9 h0
  have hcv4 := Kd.C_string (P := Tryd.prog) (A := A1) (c := c1) Tryd.underlying25 Tryd.underlying5 Tryd.underlying9 h1
  clear h0 h1
  go_enter Tryd.func28, Tryd.ntmps28
  go_wp2
  go_ret
  exact ⟨by first | rfl | (simp; done) | (simp [*]; done), by repeat (first | exact Drawn0.refl _ | apply Drawn0.step)⟩
set_option maxHeartbeats 4000000 in
theorem enBytes_calls (A0 A1 : Option Addr) (n c0 c1 : Nat) (l : List Int) (w : World) (h0 : (Kd.int .u8).C w A0 n l) (h1 : (Kd.int .u8).C w A1 n l) :
    Calls Tryd.prog 22 #[.slice A0 n c0, .bool true, .slice A1 n c1] w fun e w' => e = .returned (.bool true) ∧ Drawn0 w w' := by
  have HF := Aside0.mk (same_calls A0 A1 n c0 c1 l w h0 h1)
  clear h0 h1
  go_enter Tryd.func22, Tryd.ntmps22
  go_wp2_with (first | (go_at_call 28; (with_reducible refine HF.out.mono ?_); rintro e w' ⟨rfl, ⟨nd, rfl⟩⟩))
  go_ret
  exact ⟨rfl, ⟨nd, rfl⟩⟩
set_option maxHeartbeats 4000000 in
theorem sameNumbers_uint64_calls (A0 A1 : Option Addr) (n c0 c1 : Nat) (l : List Int) (w : World) (h0 : (Kd.int .u64).C w A0 n l) (h1 : (Kd.int .u64).C w A1 n l) (hn : n ≤ 2147483647) :
    Calls Tryd.prog 18 #[.slice A0 n c0, .slice A1 n c1] w fun e w' => e = .returned (.bool true) ∧ Drawn0 w w' := by
  have H0 := Aside0.mk h0
  have H1 := Aside0.mk h1
  clear h0 h1
  go_enter Tryd.func18, Tryd.ntmps18
  go_wp2_with (fail)
  go_loopg [5, 13] n (fun kq v5 v13 w' => ∃ (j : Nat), j ≤ n ∧ v13 = .int .i64 j ∧ Aside0 (Drawn0 w w') ∧ Aside0 (n - j ≤ kq))
  case atStart => exact ⟨0, by omega, rfl, ⟨Drawn0.refl _⟩, ⟨by omega⟩⟩
  case round =>
    obtain ⟨j, hj, rfl, HD, HK⟩ := hrel
    by_cases cj : j < n
    · have cjb : decide ((j : Int) < n) = true := decide_eq_true (by omega)
      obtain ⟨ad0, ead0, hcell0⟩ := Kd.at_int (Kd.C_below H0.out HD.out.below) (j : Int) (by omega) (by omega)
      obtain ⟨ad1, ead1, hcell1⟩ := Kd.at_int (Kd.C_below H1.out HD.out.below) (j : Int) (by omega) (by omega)
      rw [Int.toNat_natCast] at hcell0 hcell1
      obtain ⟨y, hy⟩ : ∃ y, rd l (j : Int) = y := ⟨_, rfl⟩
      rw [hy] at hcell0 hcell1
      clear hy
      subst ead0 ead1
      have qi1 : (j < n) = True := eq_true cj
      have qi2 : ((j : Int) < (n : Int)) = True := eq_true (by omega)
      have qi3 : (0 ≤ (j : Int)) = True := eq_true (by omega)
      go_wp2_with (first | go_quiet (fail))
      go_roundg (gk - 1)
      case measure => have := HK.out; omega
      case rel => exact ⟨j + 1, by omega, by go_num, ⟨drawnTrans HD.out ⟨⟨_, rfl⟩⟩⟩, ⟨by have := HK.out; omega⟩⟩
    · obtain rfl : j = n := by omega
      have cjb : decide ((j : Int) < j) = false := decide_eq_false (by omega)
      go_wp2_with (fail)
      go_ret
      exact ⟨rfl, HD.out⟩
set_option maxHeartbeats 4000000 in
theorem sameNumbers_int32_calls (A0 A1 : Option Addr) (n c0 c1 : Nat) (l : List Int) (w : World) (h0 : (Kd.int .i32).C w A0 n l) (h1 : (Kd.int .i32).C w A1 n l) (hn : n ≤ 2147483647) :
    Calls Tryd.prog 30 #[.slice A0 n c0, .slice A1 n c1] w fun e w' => e = .returned (.bool true) ∧ Drawn0 w w' := by
  have H0 := Aside0.mk h0
  have H1 := Aside0.mk h1
  clear h0 h1
  go_enter Tryd.func30, Tryd.ntmps30
  go_wp2_with (fail)
  go_loopg [5, 13] n (fun kq v5 v13 w' => ∃ (j : Nat), j ≤ n ∧ v13 = .int .i64 j ∧ Aside0 (Drawn0 w w') ∧ Aside0 (n - j ≤ kq))
  case atStart => exact ⟨0, by omega, rfl, ⟨Drawn0.refl _⟩, ⟨by omega⟩⟩
  case round =>
    obtain ⟨j, hj, rfl, HD, HK⟩ := hrel
    by_cases cj : j < n
    · have cjb : decide ((j : Int) < n) = true := decide_eq_true (by omega)
      obtain ⟨ad0, ead0, hcell0⟩ := Kd.at_int (Kd.C_below H0.out HD.out.below) (j : Int) (by omega) (by omega)
      obtain ⟨ad1, ead1, hcell1⟩ := Kd.at_int (Kd.C_below H1.out HD.out.below) (j : Int) (by omega) (by omega)
      rw [Int.toNat_natCast] at hcell0 hcell1
      obtain ⟨y, hy⟩ : ∃ y, rd l (j : Int) = y := ⟨_, rfl⟩
      rw [hy] at hcell0 hcell1
      clear hy
      subst ead0 ead1
      have qi1 : (j < n) = True := eq_true cj
      have qi2 : ((j : Int) < (n : Int)) = True := eq_true (by omega)
      have qi3 : (0 ≤ (j : Int)) = True := eq_true (by omega)
      go_wp2_with (first | go_quiet (fail))
      go_roundg (gk - 1)
      case measure => have := HK.out; omega
      case rel => exact ⟨j + 1, by omega, by go_num, ⟨drawnTrans HD.out ⟨⟨_, rfl⟩⟩⟩, ⟨by have := HK.out; omega⟩⟩
    · obtain rfl : j = n := by omega
      have cjb : decide ((j : Int) < j) = false := decide_eq_false (by omega)
      go_wp2_with (fail)
      go_ret
      exact ⟨rfl, HD.out⟩
end Go.Proofs.YtoopljlbiifmfaaDoor.Num
