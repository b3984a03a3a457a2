import Derived.Test.YtkefklemcoehmaaGreatDoorProg
import Derived.Test.YtkefklemcoehmaaGreatDoorLst
/-! Walks of small functions on lists of numbers: the low bytes of a number, numbers made wide, comparisons. -/
namespace Go.Proofs.YtkefklemcoehmaaGreatDoor.Num
open Go.Proofs.YtkefklemcoehmaaGreatDoor.Lst Go.Proofs.YtkefklemcoehmaaGreatDoor.Aid Go.RowKit Go.Proofs.YtkefklemcoehmaaGreatDoorW.PrintWords Go.Proofs.YtkefklemcoehmaaGreatDoorW.PrintLast Go.Proofs.YtkefklemcoehmaaGreatDoorW.PrintMore
set_option linter.unusedVariables false
set_option linter.unusedSimpArgs false

def u64B (x : Int) : Prop := 0 ≤ x ∧ x < 18446744073709551616
def u64L (hs : List Int) : Prop := ∀ x ∈ hs, u64B x
theorem u64_of_wf {x : Int} (h : (Lit.int .u64 x).wf = true) : u64B x := by
  have := wf_bd h
  have e1 : IntKind.u64.min = 0 := by decide +kernel
  have e2 : IntKind.u64.max = 18446744073709551615 := by decide +kernel
  unfold u64B; omega
theorem infoU8 : (Tryz.prog.info? 5).map (fun i => (i.zero, i.size, i.bytes)) = some (some (.int .u8 0), 1, 1) := by kernel_rfl
/-! ### the low bytes of a number -/
def lowL (k : Nat) (x : Int) : List Int := (List.range k).map fun i => x / 256 ^ i % 256
theorem lowL_length (k : Nat) (x : Int) : (lowL k x).length = k := by simp [lowL]
theorem lowL_succ (k : Nat) (x : Int) : lowL (k + 1) x = lowL k x ++ [x / 256 ^ k % 256] := by simp [lowL, List.range_succ]
theorem div_step (x y : Int) (j : Nat) (h : y = x / 256 ^ j) : y / 256 = x / 256 ^ (j + 1) := by
  rw [h, Int.pow_succ, Int.ediv_ediv_of_nonneg (Int.pow_nonneg (by decide))]
/-! ### numbers, each in so many low bytes -/
def enLowL (k : Nat) (l : List Int) : List Int := l.flatMap (lowL k)
theorem enLowL_take (k : Nat) (l : List Int) (j : Nat) (hj : j < l.length) : enLowL k (l.take (j + 1)) = enLowL k (l.take j) ++ lowL k (rd l (j : Nat)) := by
  unfold enLowL
  rw [List.take_succ_eq_append_getElem hj, List.flatMap_append, rd_nat _ _ hj]; simp
theorem enLowL_length (k : Nat) (l : List Int) : (enLowL k l).length = l.length * k := by
  unfold enLowL
  induction l with
  | nil => simp
  | cons x l ih => rw [List.flatMap_cons, List.length_append, ih, lowL_length, List.length_cons, Nat.succ_mul]; omega
theorem rd_lowL (k : Nat) (x : Int) (i : Nat) (hi : i < k) : rd (lowL k x) (i : Nat) = x / 256 ^ i % 256 := by
  rw [rd_nat _ _ (by rw [lowL_length]; exact hi)]; simp [lowL]
theorem rd_enLowL (k : Nat) (hk : 0 < k) (l : List Int) (i : Nat) (hi : i < l.length * k) : rd (enLowL k l) (i : Nat) = rd l (i / k : Nat) / 256 ^ (i % k) % 256 := by
  induction l generalizing i with
  | nil => simp at hi
  | cons x l ih =>
    show rd (lowL k x ++ enLowL k l) (i : Nat) = _
    rw [rd_append, lowL_length]
    by_cases h : i < k
    · rw [if_pos h, rd_lowL _ _ _ h, Nat.div_eq_of_lt h, Nat.mod_eq_of_lt h]; rfl
    · have h2 : i - k < l.length * k := by
        rw [List.length_cons, Nat.succ_mul] at hi; omega
      have h3 : i / k = (i - k) / k + 1 := by
        have := Nat.add_div_right (i - k) hk
        rw [Nat.sub_add_cancel (by omega)] at this
        omega
      have h4 : i % k = (i - k) % k := by
        rw [Nat.mod_eq_sub_mod (by omega)]
      rw [if_neg h, ih _ h2, h3, h4]
      congr 2
/-! ### numbers made wide -/
theorem infoU64 : (Tryz.prog.info? 95).map (fun i => (i.zero, i.size, i.bytes)) = some (some (.int .u64 0), 1, 8) := by kernel_rfl
def wideI (W : Nat) (x : Int) : Int := x % 2 ^ W
def wideL (W : Nat) (l : List Int) : List Int := l.map (wideI W)
theorem and32_val (y : Int) : Go.bits .and .u64 (y % 18446744073709551616) 4294967295 = y % 2 ^ 32 := by
  have := bits_mask .u64 64 (by decide) (fun n h0 h1 => by rw [IntKind.wrap_u64]; omega) 32 (by decide) (y % 18446744073709551616) (by omega) (by omega)
  rw [show ((2 : Int) ^ 32 - 1) = 4294967295 by decide] at this
  rw [this]; omega
/-! ### comparisons of equal lists -/
theorem drawnTrans {a b c : World} (h : Drawn0 a b) (k : Drawn0 b c) : Drawn0 a c := by
  obtain ⟨⟨n, rfl⟩⟩ := h
  obtain ⟨⟨m, rfl⟩⟩ := k
  exact ⟨⟨n + m, by rw [World.drewN_drewN]⟩⟩
end Go.Proofs.YtkefklemcoehmaaGreatDoor.Num
