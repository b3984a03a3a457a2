import Derived.Test.YtigmcdpjlkgocaaProg
import Derived.Test.YtigmcdpjlkgocaaLst
/-! Walks of small functions on lists of numbers: the low bytes of a number, numbers made wide, comparisons. -/
namespace Go.Proofs.Ytigmcdpjlkgocaa.Num
open Go.Proofs.Ytigmcdpjlkgocaa.Lst Go.Proofs.Ytigmcdpjlkgocaa.Aid Go.RowKit Go.Proofs.YtigmcdpjlkgocaaW.PrintWords Go.Proofs.YtigmcdpjlkgocaaW.PrintLast Go.Proofs.YtigmcdpjlkgocaaW.PrintMore
set_option linter.unusedVariables false
set_option linter.unusedSimpArgs false

def u64B (x : Int) : Prop := 0 ≤ x ∧ x < 18446744073709551616
def u64L (hs : List Int) : Prop := ∀ x ∈ hs, u64B x
theorem u64_of_wf {x : Int} (h : (Lit.int .u64 x).wf = true) : u64B x := by
  have := wf_bd h
  have e1 : IntKind.u64.min = 0 := by decide +kernel
  have e2 : IntKind.u64.max = 18446744073709551615 := by decide +kernel
  unfold u64B; omega
theorem infoU8 : (Try.prog.info? 5).map (fun i => (i.zero, i.size, i.bytes)) = some (some (.int .u8 0), 1, 1) := by kernel_rfl
/-! ### the low bytes of a number -/
def lowL (k : Nat) (x : Int) : List Int := (List.range k).map fun i => x / 256 ^ i % 256
theorem lowL_length (k : Nat) (x : Int) : (lowL k x).length = k := by simp [lowL]
theorem lowL_succ (k : Nat) (x : Int) : lowL (k + 1) x = lowL k x ++ [x / 256 ^ k % 256] := by simp [lowL, List.range_succ]
theorem div_step (x y : Int) (j : Nat) (h : y = x / 256 ^ j) : y / 256 = x / 256 ^ (j + 1) := by
  rw [h, Int.pow_succ, Int.ediv_ediv_of_nonneg (Int.pow_nonneg (by decide))]
/-! ### numbers, each in so many low bytes -/
def enLowL (k : Nat) (l : List Int) : List Int := l.flatMap (lowL k)
theorem enLowL_take (k : Nat) (l : List Int) (j : Nat) (hj : j < l.length) : enLowL k (l.take (j + 1)) = enLowL k (l.take j) ++ lowL k (rd l (j : Nat)) := by
  unfold enLowL
  rw [List.take_succ_eq_append_getElem hj, List.flatMap_append, rd_nat _ _ hj]; simp
theorem enLowL_length (k : Nat) (l : List Int) : (enLowL k l).length = l.length * k := by
  unfold enLowL
  induction l with
  | nil => simp
  | cons x l ih => rw [List.flatMap_cons, List.length_append, ih, lowL_length, List.length_cons, Nat.succ_mul]; omega
theorem rd_lowL (k : Nat) (x : Int) (i : Nat) (hi : i < k) : rd (lowL k x) (i : Nat) = x / 256 ^ i % 256 := by
  rw [rd_nat _ _ (by rw [lowL_length]; exact hi)]; simp [lowL]
theorem rd_enLowL (k : Nat) (hk : 0 < k) (l : List Int) (i : Nat) (hi : i < l.length * k) : rd (enLowL k l) (i : Nat) = rd l (i / k : Nat) / 256 ^ (i % k) % 256 := by
  induction l generalizing i with
  | nil => simp at hi
  | cons x l ih =>
    show rd (lowL k x ++ enLowL k l) (i : Nat) = _
    rw [rd_append, lowL_length]
    by_cases h : i < k
    · rw [if_pos h, rd_lowL _ _ _ h, Nat.div_eq_of_lt h, Nat.mod_eq_of_lt h]; rfl
    · have h2 : i - k < l.length * k := by
        rw [List.length_cons, Nat.succ_mul] at hi; omega
      have h3 : i / k = (i - k) / k + 1 := by
        have := Nat.add_div_right (i - k) hk
        rw [Nat.sub_add_cancel (by omega)] at this
        omega
      have h4 : i % k = (i - k) % k := by
        rw [Nat.mod_eq_sub_mod (by omega)]
      rw [if_neg h, ih _ h2, h3, h4]
      congr 2
/-! ### numbers made wide -/
theorem infoU64 : (Try.prog.info? 52).map (fun i => (i.zero, i.size, i.bytes)) = some (some (.int .u64 0), 1, 8) := by kernel_rfl
def wideI (W : Nat) (x : Int) : Int := x % 2 ^ W
def wideL (W : Nat) (l : List Int) : List Int := l.map (wideI W)
theorem and32_val (y : Int) : Go.bits .and .u64 (y % 18446744073709551616) 4294967295 = y % 2 ^ 32 := by
  have := bits_mask .u64 64 (by decide) (fun n h0 h1 => by rw [IntKind.wrap_u64]; omega) 32 (by decide) (y % 18446744073709551616) (by omega) (by omega)
  rw [show ((2 : Int) ^ 32 - 1) = 4294967295 by decide] at this
  rw [this]; omega
/-! ### comparisons of equal lists -/
theorem drawnTrans {a b c : World} (h : Drawn0 a b) (k : Drawn0 b c) : Drawn0 a c := by
  obtain ⟨⟨n, rfl⟩⟩ := h
  obtain ⟨⟨m, rfl⟩⟩ := k
  exact ⟨⟨n + m, by rw [World.drewN_drewN]⟩⟩
set_option maxHeartbeats 4000000 in
theorem same_calls (A0 A1 : Option Addr) (n c0 c1 : Nat) (l : List Int) (w : World) (h0 : (Kd.int .u8).C w A0 n l) (h1 : (Kd.int .u8).C w A1 n l) :
    Calls Try.prog 28 #[.slice A0 n c0, .slice A1 n c1] w fun e w' => e = .returned (.bool true) ∧ Drawn0 w w' := by
  have hn : l.length = n := h0.1
  subst hn
  have hcv3 := Kd.C_string (P := Try.prog) (A := A0) (c := c0) Try.underlying23 Try.underlying5 Try.underlying9 h0
  have hcv4 := Kd.C_string (P := Try.prog) (A := A1) (c := c1) Try.underlying23 Try.underlying5 Try.underlying9 h1
  clear h0 h1
  go_enter Try.func28, Try.ntmps28
  go_wp2
  go_ret
  exact ⟨by first | rfl | (simp; done) | (simp [*]; done), by repeat (first | exact Drawn0.refl _ | apply Drawn0.step)⟩
set_option maxHeartbeats 4000000 in
theorem sameNumbers_int64_calls (A0 A1 : Option Addr) (n c0 c1 : Nat) (l : List Int) (w : World) (h0 : (Kd.int .i64).C w A0 n l) (h1 : (Kd.int .i64).C w A1 n l) (hn : n ≤ 2147483647) :
    Calls Try.prog 9 #[.slice A0 n c0, .slice A1 n c1] w fun e w' => e = .returned (.bool true) ∧ Drawn0 w w' := by
  have H0 := Aside0.mk h0
  have H1 := Aside0.mk h1
  clear h0 h1
  go_enter Try.func9, Try.ntmps9
  go_wp2_with (fail)
  go_loopg [5, 13] n (fun kq v5 v13 w' => ∃ (j : Nat), j ≤ n ∧ v13 = .int .i64 j ∧ Aside0 (Drawn0 w w') ∧ Aside0 (n - j ≤ kq))
  case atStart => exact ⟨0, by omega, rfl, ⟨Drawn0.refl _⟩, ⟨by omega⟩⟩
  case round =>
    obtain ⟨j, hj, rfl, HD, HK⟩ := hrel
    by_cases cj : j < n
    · have cjb : decide ((j : Int) < n) = true := decide_eq_true (by omega)
      obtain ⟨ad0, ead0, hcell0⟩ := Kd.at_int (Kd.C_below H0.out HD.out.below) (j : Int) (by omega) (by omega)
      obtain ⟨ad1, ead1, hcell1⟩ := Kd.at_int (Kd.C_below H1.out HD.out.below) (j : Int) (by omega) (by omega)
      rw [Int.toNat_natCast] at hcell0 hcell1
      obtain ⟨y, hy⟩ : ∃ y, rd l (j : Int) = y := ⟨_, rfl⟩
      rw [hy] at hcell0 hcell1
      clear hy
      subst ead0 ead1
      have qi1 : (j < n) = True := eq_true cj
      have qi2 : ((j : Int) < (n : Int)) = True := eq_true (by omega)
      have qi3 : (0 ≤ (j : Int)) = True := eq_true (by omega)
      go_wp2_with (first | go_quiet (fail))
      go_roundg (gk - 1)
      case measure => have := HK.out; omega
      case rel => exact ⟨j + 1, by omega, by go_num, ⟨drawnTrans HD.out ⟨⟨_, rfl⟩⟩⟩, ⟨by have := HK.out; omega⟩⟩
    · obtain rfl : j = n := by omega
      have cjb : decide ((j : Int) < j) = false := decide_eq_false (by omega)
      go_wp2_with (fail)
      go_ret
      exact ⟨rfl, HD.out⟩
end Go.Proofs.Ytigmcdpjlkgocaa.Num
