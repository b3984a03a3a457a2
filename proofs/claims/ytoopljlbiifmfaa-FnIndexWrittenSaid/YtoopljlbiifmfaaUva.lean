import Derived.Test.YtoopljlbiifmfaaRle
import Derived.ArgAppend
/-! Reading: numbers in groups of 7 bits; filling; groups of bytes. -/
namespace Go.Proofs.Ytoopljlbiifmfaa.Uva
open Go.Proofs.Ytoopljlbiifmfaa.Rle Go.Proofs.Ytoopljlbiifmfaa.Run Go.Proofs.Ytoopljlbiifmfaa.Rlp Go.Proofs.Ytoopljlbiifmfaa.Rlb Go.Proofs.Ytoopljlbiifmfaa.Buf Go.Proofs.Ytoopljlbiifmfaa.Fit Go.Proofs.Ytoopljlbiifmfaa.Bit Go.Proofs.Ytoopljlbiifmfaa.Wrd Go.Proofs.Ytoopljlbiifmfaa.Spl Go.Proofs.Ytoopljlbiifmfaa.Str Go.Proofs.Ytoopljlbiifmfaa.Flt Go.Proofs.Ytoopljlbiifmfaa.Owe Go.Proofs.Ytoopljlbiifmfaa.Num Go.Proofs.Ytoopljlbiifmfaa.Le Go.Proofs.Ytoopljlbiifmfaa.Lst Go.Proofs.Ytoopljlbiifmfaa.Aid Go.RowKit Go.Proofs.YtoopljlbiifmfaaW.PrintWords Go.Proofs.YtoopljlbiifmfaaW.PrintLast Go.Proofs.YtoopljlbiifmfaaW.PrintMore
set_option linter.unusedVariables false
set_option linter.unusedSimpArgs false
theorem Front.pushes {g C t : Nat} {k : IntKind} : ∀ (ys : List Int) {w : World} {xs : List Int}, Front w g C t k xs → xs.length + ys.length ≤ C → ∀ o, o = xs.length → Front (w.setCells g o (nums k ys)) g C t k (xs ++ ys) ∧ w.grownBy (w.setCells g o (nums k ys)) (some g)
  | [], w, xs, h, _, o, _ => ⟨by rw [List.append_nil]; exact h, grownRefl w _⟩
  | y :: ys, w, xs, h, hl, o, ho => by
    have h1 := h.push (by simp at hl; omega) y o ho
    obtain ⟨h2, h3⟩ := Front.pushes ys h1 (by simp at hl ⊢; omega) (o + 1) (by rw [List.length_append, ho]; rfl)
    rw [List.append_assoc] at h2
    exact ⟨h2, (grownSet (grownRefl w _) o _).trans h3⟩
theorem or_high (acc b s : Nat) (h : acc < 2 ^ s) (h1 : acc < 18446744073709551616) (h2 : b * 2 ^ s < 18446744073709551616) : bits .or .u64 (acc : Int) ((b * 2 ^ s : Nat) : Int) = ((acc + b * 2 ^ s : Nat) : Int) := by
  rw [u64_or_nat _ _ h1 h2]
  congr 1
  rw [Nat.or_comm, Nat.mul_comm, ← Nat.two_pow_add_eq_or_of_lt h]
  omega
theorem or_high' (acc b s : Nat) (h : acc < 2 ^ s) (h1 : acc < 18446744073709551616) (h2 : b * 2 ^ s < 18446744073709551616) : bits .or .u64 (acc : Int) (IntKind.u64.wrap ((b : Int) * 2 ^ s)) = ((acc + b * 2 ^ s : Nat) : Int) := by
  have e : (b : Int) * 2 ^ s = ((b * 2 ^ s : Nat) : Int) := by push_cast; rfl
  rw [e, IntWalk.u64_in _ (by omega), or_high acc b s h h1 h2]
theorem and127 (y : Nat) : bits .and .u8 ((y % 128 + 128 : Nat) : Int) 127 = ((y % 128 : Nat) : Int) := by
  rw [show (127 : Int) = ((2 ^ 7 - 1 : Nat) : Int) by decide, u8_and_nat _ _ (by omega) (by decide), Nat.and_two_pow_sub_one_eq_mod]
  congr 1; omega
theorem varL_head (bs rest : List Int) (i y : Nat) (h : bs.drop i = varL y ++ rest) : rd bs (i : Nat) = if y < 128 then (y : Int) else ((y % 128 + 128 : Nat) : Int) := by
  have e := rd_drop bs i 0
  rw [Nat.add_zero, h] at e
  rw [← e]
  by_cases c : y < 128
  · rw [if_pos c, varL_lo c]; rfl
  · rw [if_neg c, varL_hi c]; rfl
theorem varL_tail (bs rest : List Int) (i y : Nat) (h : bs.drop i = varL y ++ rest) (c : ¬ y < 128) : bs.drop (i + 1) = varL (y / 128) ++ rest := by
  rw [varL_hi c] at h
  rw [← List.drop_drop, h]; rfl
theorem small5 (acc y i x : Nat) (hx : x < 34359738368) (h : acc + y * 2 ^ (7 * i) = x) (hi : i ≤ 4) (hy : ¬ y < 128) : i < 4 := by
  rcases Nat.lt_or_ge i 4 with h4 | h4
  · exact h4
  · obtain rfl : i = 4 := by omega
    rw [show (2 : Nat) ^ (7 * 4) = 268435456 by decide] at h
    omega
/-! ### groups of bytes: unpacking -/
theorem rd_over (l : List Int) (i : Nat) (h : l.length ≤ i) : rd l (i : Nat) = 0 := by
  unfold rd
  rw [Int.toNat_natCast, List.getD_eq_getElem?_getD, List.getElem?_eq_none h]; rfl
theorem pad_rd (bs : List Int) (o b k : Nat) (hb : b ≤ 8) (hk : k < b) (hl : o + b ≤ bs.length) : rd ((bs.drop o).take b ++ List.replicate (8 - b) 0) (k : Nat) = rd bs (o + k : Nat) := by
  rw [rd_append, if_pos (by rw [List.length_take, List.length_drop]; omega)]
  rw [rd_nat _ _ (by rw [List.length_take, List.length_drop]; omega), rd_nat _ _ (by omega)]
  simp
theorem unpk (bs : List Int) (hB : bytesB bs = true) (b r q X : Nat) (hb1 : 1 ≤ b) (hb : b ≤ 8) (hq : q < 8) (hl : r * b + b ≤ bs.length) (hX : le8L ((bs.drop (r * b)).take b ++ List.replicate (8 - b) 0) = (X : Int)) :
    X / 2 ^ (q * b) % 2 ^ b = valLo bs b ((8 * r + q) * b) := by
  refine eq_bitsN (Nat.mod_lt _ (Nat.two_pow_pos b)) fun p hp => ?_
  rw [Nat.testBit_mod_two_pow, Nat.testBit_div_two_pow, decide_eq_true hp, Bool.true_and]
  have hqb : q * b + b ≤ 8 * b := by rw [← Nat.succ_mul]; exact Nat.mul_le_mul_right b hq
  have hYB : bytesB ((bs.drop (r * b)).take b ++ List.replicate (8 - b) 0) = true := bytesB_of fun x hx => by
    rcases List.mem_append.1 hx with h | h
    · exact bytesB_mem (bytesB_take (bytesB_drop hB _) _) x h
    · have := List.eq_of_mem_replicate h
      rw [this]; unfold byt; omega
  have hw := wd8_bit _ hYB 0 (p + q * b) (by omega)
  have e : wd8 ((bs.drop (r * b)).take b ++ List.replicate (8 - b) 0) 0 = (X : Int) := by
    rw [← hX]; unfold wd8; rw [Nat.mul_zero, List.drop_zero]
  rw [e, Int.toNat_natCast, Nat.mul_zero, Nat.zero_add] at hw
  rw [hw, pad_rd bs (r * b) b ((p + q * b) / 8) hb (by omega) hl]
  unfold bitLo
  have e2 : (8 * r + q) * b + p = 8 * (r * b) + (p + q * b) := by rw [Nat.add_mul, Nat.mul_assoc]; omega
  rw [e2, Nat.mul_add_div (by omega), Nat.mul_add_mod]
end Go.Proofs.Ytoopljlbiifmfaa.Uva
