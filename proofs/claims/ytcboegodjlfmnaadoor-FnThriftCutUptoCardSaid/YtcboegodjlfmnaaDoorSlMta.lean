import Derived.Test.YtcboegodjlfmnaaDoorSlMtk
import Derived.Laws.BitsAllLaws
import Derived.Laws.CopyOwn
import Derived.ArgAppend
namespace Go.Proofs.YtcboegodjlfmnaaDoor.Bit
open Go.RowKit Go.Proofs.YtcboegodjlfmnaaDoorW.PrintWords Go.Proofs.YtcboegodjlfmnaaDoorW.PrintLast Go.Proofs.YtcboegodjlfmnaaDoorW.PrintMore Go.Proofs.YtcboegodjlfmnaaDoor.Wrd Go.Proofs.YtcboegodjlfmnaaDoor.Num Go.Proofs.YtcboegodjlfmnaaDoor.Le Go.Proofs.YtcboegodjlfmnaaDoor.Lst Go.Proofs.YtcboegodjlfmnaaDoor.Aid
set_option linter.unusedVariables false
set_option linter.unusedSimpArgs false
theorem bit_high {x w q : Nat} (hx : x < 2 ^ w) (hq : w ≤ q) : x.testBit q = false := Nat.testBit_lt_two_pow (Nat.lt_of_lt_of_le hx (Nat.pow_le_pow_right (by omega) hq))
end Go.Proofs.YtcboegodjlfmnaaDoor.Bit

namespace Go.Proofs.YtcboegodjlfmnaaDoor.Fit
open Go.Proofs.YtcboegodjlfmnaaDoor.Bit Go.Proofs.YtcboegodjlfmnaaDoor.Wrd Go.Proofs.YtcboegodjlfmnaaDoor.Spl Go.Proofs.YtcboegodjlfmnaaDoor.Str Go.Proofs.YtcboegodjlfmnaaDoor.Flt Go.Proofs.YtcboegodjlfmnaaDoor.Owe Go.Proofs.YtcboegodjlfmnaaDoor.Num Go.Proofs.YtcboegodjlfmnaaDoor.Le Go.Proofs.YtcboegodjlfmnaaDoor.Lst Go.Proofs.YtcboegodjlfmnaaDoor.Aid Go.RowKit Go.Proofs.YtcboegodjlfmnaaDoorW.PrintWords Go.Proofs.YtcboegodjlfmnaaDoorW.PrintLast Go.Proofs.YtcboegodjlfmnaaDoorW.PrintMore
set_option linter.unusedVariables false
set_option linter.unusedSimpArgs false
theorem Own.lower {w : World} {base base' t : Nat} {k : IntKind} {v : Value} {xs : List Int} (h : Own w base t k v xs) (hb : base' ≤ base) : Own w base' t k v xs := by
  obtain ⟨h1, h2 | ⟨g, c, cur, e, hg, r⟩⟩ := h.out
  · exact ⟨⟨h1, .inl h2⟩⟩
  · exact ⟨⟨h1, .inr ⟨g, c, cur, e, Nat.le_trans hb hg, r⟩⟩⟩
end Go.Proofs.YtcboegodjlfmnaaDoor.Fit

namespace Go.Proofs.YtcboegodjlfmnaaDoor.Buf
open Go.Proofs.YtcboegodjlfmnaaDoor.Fit Go.Proofs.YtcboegodjlfmnaaDoor.Bit Go.Proofs.YtcboegodjlfmnaaDoor.Wrd Go.Proofs.YtcboegodjlfmnaaDoor.Spl Go.Proofs.YtcboegodjlfmnaaDoor.Str Go.Proofs.YtcboegodjlfmnaaDoor.Flt Go.Proofs.YtcboegodjlfmnaaDoor.Owe Go.Proofs.YtcboegodjlfmnaaDoor.Num Go.Proofs.YtcboegodjlfmnaaDoor.Le Go.Proofs.YtcboegodjlfmnaaDoor.Lst Go.Proofs.YtcboegodjlfmnaaDoor.Aid Go.RowKit Go.Proofs.YtcboegodjlfmnaaDoorW.PrintWords Go.Proofs.YtcboegodjlfmnaaDoorW.PrintLast Go.Proofs.YtcboegodjlfmnaaDoorW.PrintMore
set_option linter.unusedVariables false
set_option linter.unusedSimpArgs false
structure Front (w : World) (g C t : Nat) (k : IntKind) (xs : List Int) : Prop where
  mk :: (out : ∃ cs : Array Value, Blk w g cs t ∧ cs.size = C ∧ xs.length ≤ C ∧ ∀ j : Nat, j < xs.length → cs[j]? = some (.int k (rd xs (j : Nat))))
namespace Front
variable {w : World} {g C t : Nat} {k : IntKind} {xs : List Int}
theorem cell (h : Front w g C t k xs) (j : Nat) (hj : j < C) : ∃ v, w.cell? ⟨g, j, none⟩ = some v := by
  obtain ⟨cs, hb, hc, _, _⟩ := h.out
  exact ⟨cs[j], hb.cell (Array.getElem?_eq_getElem (by rw [hc]; exact hj))⟩
theorem at' (h : Front w g C t k xs) (j : Nat) (hj : j < xs.length) : w.cell? ⟨g, j, none⟩ = some (.int k (rd xs (j : Nat))) := by
  obtain ⟨cs, hb, hc, _, hx⟩ := h.out
  exact hb.cell (hx j hj)
theorem free (h : Front w g C t k xs) (j : Nat) : w.frozen? ⟨g, j, none⟩ = false := by obtain ⟨cs, hb, _⟩ := h.out; exact hb.free j
theorem lt (h : Front w g C t k xs) : g < w.heap.size := by obtain ⟨cs, hb, _⟩ := h.out; exact hb.lt
theorem push (h : Front w g C t k xs) (hl : xs.length < C) (y : Int) (o : Nat) (ho : o = xs.length) : Front (w.setCell ⟨g, o, none⟩ (.int k y)) g C t k (xs ++ [y]) := by
  subst ho
  obtain ⟨cs, hb, hc, hle, hx⟩ := h.out
  refine ⟨_, hb.set xs.length (.int k y), by simp [hc], by simp; omega, fun j hj => ?_⟩
  rw [List.length_append, List.length_singleton] at hj
  rw [Array.getElem?_setIfInBounds]
  by_cases e : xs.length = j
  · subst e
    rw [if_pos rfl, if_pos (by omega)]
    unfold rd
    simp
  · rw [if_neg e, hx j (by omega)]
    unfold rd
    rw [Int.toNat_natCast, List.getD_eq_getElem?_getD, List.getD_eq_getElem?_getD, List.getElem?_append_left (by omega)]
theorem take (h : Front w g C t k xs) (n : Nat) : Front w g C t k (xs.take n) := by
  obtain ⟨cs, hb, hc, hle, hx⟩ := h.out
  refine ⟨cs, hb, hc, by rw [List.length_take]; omega, fun j hj => ?_⟩
  rw [List.length_take] at hj
  rw [hx j (by omega)]
  unfold rd
  rw [Int.toNat_natCast, List.getD_eq_getElem?_getD, List.getD_eq_getElem?_getD, List.getElem?_take, if_pos (by omega)]
theorem drewN (h : Front w g C t k xs) (n : Nat) : Front (w.drewN n) g C t k xs := by
  obtain ⟨cs, hb, hr⟩ := h.out
  exact ⟨cs, hb.drewN n, hr⟩
theorem below {w1 : World} (h : Front w g C t k xs) {B : Nat} (hb : Below B w w1) (hg : g < B) : Front w1 g C t k xs := by
  obtain ⟨cs, hb', hr⟩ := h.out
  exact ⟨cs, hb'.below hb hg, hr⟩
theorem toOwn (h : Front w g C t k xs) {base : Nat} (hb : base ≤ g) (hm : C ≤ 9223372036854775807) : Own w base t k (.slice (some ⟨g, 0, none⟩) xs.length C) xs := by
  obtain ⟨cs, hbk, hc, hle, hx⟩ := h.out
  refine ⟨⟨by simp [nums], .inr ⟨g, C, cs, rfl, hb, hbk.out, hle, by simpa [maxLen] using hm, by simp [hc], ?_⟩⟩⟩
  apply List.ext_getElem?
  intro j
  rw [Nat.mul_one, List.getElem?_take]
  by_cases hj : j < xs.length
  · rw [if_pos hj, Array.getElem?_toList, hx j hj]
    simp [nums, rd, List.getD_eq_getElem?_getD, List.getElem?_eq_getElem hj]
  · rw [if_neg hj, List.getElem?_eq_none (by simp [nums]; omega)]
theorem ofRow {ys : List Int} (h : Row w g t k ys) (n : Nat) (hn : n ≤ ys.length) : Front w g ys.length t k (ys.take n) := by
  refine ⟨_, h.out, by simp [nums], by rw [List.length_take]; omega, fun j hj => ?_⟩
  rw [List.length_take] at hj
  simp [nums, rd, List.getD_eq_getElem?_getD, List.getElem?_take, (show j < n by omega), (show j < ys.length by omega)]
end Front
def varL (n : Nat) : List Int := if n < 128 then [(n : Int)] else ((n % 128 + 128 : Nat) : Int) :: varL (n / 128)
termination_by n
decreasing_by omega
theorem varL_lo {n : Nat} (h : n < 128) : varL n = [(n : Int)] := by rw [varL, if_pos h]
theorem varL_hi {n : Nat} (h : ¬ n < 128) : varL n = ((n % 128 + 128 : Nat) : Int) :: varL (n / 128) := by rw [varL, if_neg h]
theorem varL_pos (n : Nat) : 0 < (varL n).length := by
  rw [varL]; split <;> simp
theorem varL_len5 (n : Nat) (h : n < 34359738368) : (varL n).length ≤ 5 := by
  by_cases h1 : n < 128
  · rw [varL_lo h1]; simp
  rw [varL_hi h1]
  by_cases h2 : n / 128 < 128
  · rw [varL_lo h2]; simp
  rw [varL_hi h2]
  by_cases h3 : n / 128 / 128 < 128
  · rw [varL_lo h3]; simp
  rw [varL_hi h3]
  by_cases h4 : n / 128 / 128 / 128 < 128
  · rw [varL_lo h4]; simp
  rw [varL_hi h4, varL_lo (by omega)]; simp
theorem or128 (y : Nat) : y % 256 ||| 128 = y % 128 + 128 := by
  apply Nat.eq_of_testBit_eq
  intro q
  rw [Nat.testBit_or, show (256 : Nat) = 2 ^ 8 from rfl, Nat.testBit_mod_two_pow, show (128 : Nat) = 2 ^ 7 from rfl, Nat.testBit_two_pow, show y % 2 ^ 7 + 2 ^ 7 = 2 ^ 7 * 1 + y % 2 ^ 7 by omega, Nat.testBit_two_pow_mul_add 1 (Nat.mod_lt _ (by omega)), Nat.testBit_mod_two_pow]
  by_cases c : q < 7
  · simp [c, show q < 8 by omega, show ¬ 7 = q by omega]
  · by_cases c2 : q = 7
    · subst c2; simp
    · simp [c, show ¬ q < 8 by omega, show ¬ 7 = q by omega]
      exact bit_high (w := 1) (by omega) (by omega)
theorem copySrc {w : World} {A : Option Addr} {n : Nat} {k : IntKind} {xs : List Int} (h : (Kd.int k).C w A n xs) (hpos : 0 < xs.length) : ∃ ad, A = some ad ∧ ∀ j v, (nums k xs)[j]? = some v → w.cell? (ad.add j) = some v := by
  have hn : xs.length = n := h.1
  obtain ⟨ad, e, _⟩ := Kd.at_int h 0 (by omega) (by omega)
  refine ⟨ad, e, fun j v hj => ?_⟩
  have hjl : j < xs.length := by
    have := (List.getElem?_eq_some_iff.1 hj).1
    simpa [nums] using this
  obtain ⟨ad', e', hc⟩ := Kd.at_int h (j : Int) (by omega) (by omega)
  rw [e] at e'
  injection e' with e'
  subst e'
  rw [Int.toNat_natCast] at hc
  rw [hc]
  simp [nums, hjl] at hj
  rw [← hj, rd_nat _ _ hjl]
theorem nums_one (k : IntKind) (xs : List Int) : ∀ v ∈ nums k xs, v.oneCell' = true := by
  intro v hv
  simp only [nums, List.mem_map] at hv
  obtain ⟨x, _, rfl⟩ := hv
  rfl
end Go.Proofs.YtcboegodjlfmnaaDoor.Buf

namespace Go.Proofs.YtcboegodjlfmnaaDoor.Pak
open Go.Proofs.YtcboegodjlfmnaaDoor.Buf Go.Proofs.YtcboegodjlfmnaaDoor.Fit Go.Proofs.YtcboegodjlfmnaaDoor.Bit Go.Proofs.YtcboegodjlfmnaaDoor.Wrd Go.Proofs.YtcboegodjlfmnaaDoor.Spl Go.Proofs.YtcboegodjlfmnaaDoor.Str Go.Proofs.YtcboegodjlfmnaaDoor.Flt Go.Proofs.YtcboegodjlfmnaaDoor.Owe Go.Proofs.YtcboegodjlfmnaaDoor.Num Go.Proofs.YtcboegodjlfmnaaDoor.Le Go.Proofs.YtcboegodjlfmnaaDoor.Lst Go.Proofs.YtcboegodjlfmnaaDoor.Aid Go.RowKit Go.Proofs.YtcboegodjlfmnaaDoorW.PrintWords Go.Proofs.YtcboegodjlfmnaaDoorW.PrintLast Go.Proofs.YtcboegodjlfmnaaDoorW.PrintMore
set_option linter.unusedVariables false
set_option linter.unusedSimpArgs false
end Go.Proofs.YtcboegodjlfmnaaDoor.Pak

namespace Go.Proofs.YtcboegodjlfmnaaDoor.Dpu
open Go.Proofs.YtcboegodjlfmnaaDoor.Pak Go.Proofs.YtcboegodjlfmnaaDoor.Buf Go.Proofs.YtcboegodjlfmnaaDoor.Fit Go.Proofs.YtcboegodjlfmnaaDoor.Bit Go.Proofs.YtcboegodjlfmnaaDoor.Wrd Go.Proofs.YtcboegodjlfmnaaDoor.Spl Go.Proofs.YtcboegodjlfmnaaDoor.Str Go.Proofs.YtcboegodjlfmnaaDoor.Flt Go.Proofs.YtcboegodjlfmnaaDoor.Owe Go.Proofs.YtcboegodjlfmnaaDoor.Num Go.Proofs.YtcboegodjlfmnaaDoor.Le Go.Proofs.YtcboegodjlfmnaaDoor.Lst Go.Proofs.YtcboegodjlfmnaaDoor.Aid Go.RowKit Go.Proofs.YtcboegodjlfmnaaDoorW.PrintWords Go.Proofs.YtcboegodjlfmnaaDoorW.PrintLast Go.Proofs.YtcboegodjlfmnaaDoorW.PrintMore
set_option linter.unusedVariables false
set_option linter.unusedSimpArgs false
theorem varL_lenk : ∀ k n : Nat, n < 128 ^ (k + 1) → (varL n).length ≤ k + 1
  | 0, n, h => by rw [varL_lo (by simpa using h)]; simp
  | k + 1, n, h => by
    by_cases c : n < 128
    · rw [varL_lo c]; simp
    · rw [varL_hi c, List.length_cons]
      have := varL_lenk k (n / 128) (by rw [Nat.pow_succ] at h; exact Nat.div_lt_of_lt_mul (by rw [Nat.mul_comm]; exact h))
      omega
theorem varL_len10 (n : Nat) (h : n < 18446744073709551616) : (varL n).length ≤ 10 := by
  have := varL_lenk 9 n (by have e : (128 : Nat) ^ (9 + 1) = 1180591620717411303424 := (by decide); omega)
  omega
theorem xor_ones (s : Nat) (h : s < 2 ^ 64) : (2 ^ 64 - 1) ^^^ s = 2 ^ 64 - (s + 1) := by
  apply Nat.eq_of_testBit_eq
  intro q
  rw [Nat.testBit_xor, Nat.testBit_two_pow_sub_one, Nat.testBit_two_pow_sub_succ h]
  by_cases c : q < 64
  · simp [c]
  · simp [c, bit_high h (by omega : 64 ≤ q)]
theorem not64 (s : Int) (h0 : 0 ≤ s) (h1 : s < 18446744073709551616) : bits .xor .u64 IntKind.u64.max s = 18446744073709551615 - s := by
  obtain ⟨n, rfl⟩ := Int.eq_ofNat_of_zero_le h0
  have e : IntKind.u64.max = ((2 ^ 64 - 1 : Nat) : Int) := by decide
  rw [e, bits_xor_u64_nat _ _ (by decide) (by omega), xor_ones n (by omega)]
  omega
def zz (x : Int) : Nat := if 0 ≤ x then (2 * x).toNat else (-2 * x - 1).toNat
theorem zz_lt (x : Int) (h0 : -9223372036854775808 ≤ x) (h1 : x ≤ 9223372036854775807) : zz x < 18446744073709551616 := by
  unfold zz; split <;> omega
end Go.Proofs.YtcboegodjlfmnaaDoor.Dpu

namespace Go.Proofs.YtcboegodjlfmnaaDoor.Duv
open Go.Proofs.YtcboegodjlfmnaaDoor.Dpu Go.Proofs.YtcboegodjlfmnaaDoor.Pak Go.Proofs.YtcboegodjlfmnaaDoor.Buf Go.Proofs.YtcboegodjlfmnaaDoor.Fit Go.Proofs.YtcboegodjlfmnaaDoor.Bit Go.Proofs.YtcboegodjlfmnaaDoor.Wrd Go.Proofs.YtcboegodjlfmnaaDoor.Spl Go.Proofs.YtcboegodjlfmnaaDoor.Str Go.Proofs.YtcboegodjlfmnaaDoor.Flt Go.Proofs.YtcboegodjlfmnaaDoor.Owe Go.Proofs.YtcboegodjlfmnaaDoor.Num Go.Proofs.YtcboegodjlfmnaaDoor.Le Go.Proofs.YtcboegodjlfmnaaDoor.Lst Go.Proofs.YtcboegodjlfmnaaDoor.Aid Go.RowKit Go.Proofs.YtcboegodjlfmnaaDoorW.PrintWords Go.Proofs.YtcboegodjlfmnaaDoorW.PrintLast Go.Proofs.YtcboegodjlfmnaaDoorW.PrintMore
set_option linter.unusedVariables false
set_option linter.unusedSimpArgs false
theorem or_high (acc b s : Nat) (h : acc < 2 ^ s) (h1 : acc < 18446744073709551616) (h2 : b * 2 ^ s < 18446744073709551616) : bits .or .u64 (acc : Int) ((b * 2 ^ s : Nat) : Int) = ((acc + b * 2 ^ s : Nat) : Int) := by
  rw [u64_or_nat _ _ h1 h2]
  congr 1
  rw [Nat.or_comm, Nat.mul_comm, ← Nat.two_pow_add_eq_or_of_lt h]
  omega
theorem or_high' (acc b s : Nat) (h : acc < 2 ^ s) (h1 : acc < 18446744073709551616) (h2 : b * 2 ^ s < 18446744073709551616) : bits .or .u64 (acc : Int) (IntKind.u64.wrap ((b : Int) * 2 ^ s)) = ((acc + b * 2 ^ s : Nat) : Int) := by
  have e : (b : Int) * 2 ^ s = ((b * 2 ^ s : Nat) : Int) := by push_cast; rfl
  rw [e, IntWalk.u64_in _ (by omega), or_high acc b s h h1 h2]
theorem and127 (y : Nat) : bits .and .u8 ((y % 128 + 128 : Nat) : Int) 127 = ((y % 128 : Nat) : Int) := by
  rw [show (127 : Int) = ((2 ^ 7 - 1 : Nat) : Int) by decide, u8_and_nat _ _ (by omega) (by decide), Nat.and_two_pow_sub_one_eq_mod]
  congr 1; omega
theorem zz_half_neg (x : Int) (h : x < 0) : ((zz x : Nat) : Int) = -2 * x - 1 := by unfold zz; rw [if_neg (by omega)]; omega
theorem zz_half_pos (x : Int) (h : 0 ≤ x) : ((zz x : Nat) : Int) = 2 * x := by unfold zz; rw [if_pos h]; omega
theorem xor_m1_i64 (a : Nat) (ha : a < 9223372036854775808) : bits .xor .i64 (-1) (a : Int) = -1 - (a : Int) := by
  have h1 : (BitVec.ofInt 64 (a : Int)).toNat = a := by
    rw [BitVec.ofInt_natCast, BitVec.toNat_ofNat]; exact Nat.mod_eq_of_lt (by omega)
  have h2 : (BitVec.ofInt 64 (-1)).toNat = 2 ^ 64 - 1 := by decide
  show IntKind.i64.wrap ((BitVec.ofInt 64 (-1) ^^^ BitVec.ofInt 64 (a : Int)).toNat : Int) = _
  rw [BitVec.toNat_xor, h1, h2, xor_ones a (by omega), IntKind.wrap_i64]
  omega
end Go.Proofs.YtcboegodjlfmnaaDoor.Duv
