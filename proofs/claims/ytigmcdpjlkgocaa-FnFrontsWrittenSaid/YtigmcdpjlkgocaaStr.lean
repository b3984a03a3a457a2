import Derived.Test.YtigmcdpjlkgocaaNum
import Derived.Test.YtigmcdpjlkgocaaLe
/-! Streams of bytes: plain lemmas. -/
namespace Go.Proofs.Ytigmcdpjlkgocaa.Str
open Go.Proofs.Ytigmcdpjlkgocaa.Num Go.Proofs.Ytigmcdpjlkgocaa.Le Go.Proofs.Ytigmcdpjlkgocaa.Lst Go.Proofs.Ytigmcdpjlkgocaa.Aid Go.RowKit Go.Proofs.YtigmcdpjlkgocaaW.PrintWords Go.Proofs.YtigmcdpjlkgocaaW.PrintLast Go.Proofs.YtigmcdpjlkgocaaW.PrintMore
set_option linter.unusedVariables false
set_option linter.unusedSimpArgs false
def setsK (b : Nat → Int) (n k : Nat) (xs : List Int) : Nat → List Int
  | 0 => xs
  | s + 1 => (setsK b n k xs s).set (s * n + k) (b s)
theorem setsK_length (b : Nat → Int) (n k : Nat) (xs : List Int) (S : Nat) : (setsK b n k xs S).length = xs.length := by
  induction S with
  | zero => rfl
  | succ S ih => simp [setsK, ih]
theorem quot_eq {n k S : Nat} (hk : k < n) : (S * n + k) / n = S ∧ (S * n + k) % n = k := by
  constructor
  · rw [Nat.add_comm, Nat.add_mul_div_right _ _ (by omega), Nat.div_eq_of_lt hk, Nat.zero_add]
  · rw [Nat.add_comm, Nat.add_mul_mod_self_right, Nat.mod_eq_of_lt hk]
theorem rd_setsK (b : Nat → Int) (n k : Nat) (xs : List Int) (hk : k < n) (S : Nat) (hS : S * n ≤ xs.length) (i : Nat) :
    rd (setsK b n k xs S) (i : Nat) = if i < S * n ∧ i % n = k then b (i / n) else rd xs (i : Nat) := by
  induction S with
  | zero => rw [if_neg (by omega)]; rfl
  | succ S ih =>
    have hS2 : S * n + n ≤ xs.length := by rw [Nat.succ_mul] at hS; exact hS
    show rd ((setsK b n k xs S).set (S * n + k) (b S)) (i : Nat) = _
    rw [rd_set _ _ _ _ (by rw [setsK_length]; omega), ih (by omega), Nat.succ_mul]
    obtain ⟨q1, q2⟩ := quot_eq (S := S) hk
    by_cases h : i = S * n + k
    · subst h
      rw [if_pos rfl, if_pos ⟨by omega, q2⟩, q1]
    · rw [if_neg h]
      by_cases h2 : i < S * n ∧ i % n = k
      · rw [if_pos h2, if_pos ⟨by omega, h2.2⟩]
      · rw [if_neg h2, if_neg]
        rintro ⟨h3, h4⟩
        have h5 : ¬ i < S * n := fun h => h2 ⟨h, h4⟩
        have h6 := Nat.div_add_mod i n
        have h7 : i / n = S := by
          have a1 : i / n < S + 1 := (Nat.div_lt_iff_lt_mul (by omega)).2 (by rw [Nat.succ_mul]; exact h3)
          have a2 : S ≤ i / n := (Nat.le_div_iff_mul_le (by omega)).2 (by omega)
          omega
        rw [h7, h4, Nat.mul_comm] at h6
        exact h h6.symm
def strP (b : Nat → Nat → Int) (n m S k : Nat) : List Int := (List.range m).map fun i => if i < S * n ∧ i % n < k then b (i % n) (i / n) else 0
theorem strP_length (b : Nat → Nat → Int) (n m S k : Nat) : (strP b n m S k).length = m := by simp [strP]
theorem rd_strP (b : Nat → Nat → Int) (n m S k i : Nat) (hi : i < m) : rd (strP b n m S k) (i : Nat) = if i < S * n ∧ i % n < k then b (i % n) (i / n) else 0 := by
  simp [rd, strP, List.getD_eq_getElem?_getD, hi]
theorem strP_zero (b : Nat → Nat → Int) (n m S : Nat) : strP b n m S 0 = List.replicate m 0 := by
  apply List.ext_getElem
  · simp [strP]
  · intro i h1 h2; simp [strP]
theorem strP_set (b : Nat → Nat → Int) (n m S k : Nat) (hk : k < n) (hS : S * n ≤ m) : setsK (b k) n k (strP b n m S k) S = strP b n m S (k + 1) := by
  refine rd_ext (by rw [setsK_length, strP_length, strP_length]) fun i hi => ?_
  rw [setsK_length, strP_length] at hi
  rw [rd_setsK _ _ _ _ hk _ (by rw [strP_length]; exact hS), rd_strP _ _ _ _ _ _ hi, rd_strP _ _ _ _ _ _ hi]
  by_cases h : i < S * n
  · by_cases h2 : i % n = k
    · rw [if_pos ⟨h, h2⟩, if_pos ⟨h, by omega⟩, h2]
    · rw [if_neg (fun h3 => h2 h3.2)]
      by_cases h3 : i % n < k
      · rw [if_pos ⟨h, h3⟩, if_pos ⟨h, by omega⟩]
      · rw [if_neg (fun h4 => h3 h4.2), if_neg (fun h4 => by have := h4.2; omega)]
  · rw [if_neg (fun h4 => h h4.1), if_neg (fun h4 => h h4.1), if_neg (fun h4 => h h4.1)]
theorem strP_full (b : Nat → Nat → Int) (n m S : Nat) (hn : 0 < n) (hS : S * n ≤ m) : (strP b n m S n).take (S * n) = (List.range (S * n)).map fun i => b (i % n) (i / n) := by
  apply List.ext_getElem
  · simp [strP]; omega
  · intro i h1 h2
    have h3 : i < S * n := by simpa using h2
    simp [strP, h3, Nat.mod_lt i hn]
def streamsL (k : Nat) (bs : List Int) : List Int := (List.range bs.length).map fun i => rd bs (i % (bs.length / k) * k + i / (bs.length / k) : Nat)
theorem streamsL_length (k : Nat) (bs : List Int) : (streamsL k bs).length = bs.length := by simp [streamsL]
theorem streams_enLow (k : Nat) (hk : 0 < k) (l : List Int) : streamsL k (enLowL k l) = (List.range (k * l.length)).map fun i => rd l (i % l.length : Nat) / 256 ^ (i / l.length) % 256 := by
  have hl : (enLowL k l).length = k * l.length := by rw [enLowL_length, Nat.mul_comm]
  have hq : k * l.length / k = l.length := Nat.mul_div_cancel_left _ hk
  apply List.ext_getElem
  · simp [streamsL, hl]
  · intro i h1 h2
    have hi : i < k * l.length := by simpa using h2
    have hn : 0 < l.length := by
      rcases Nat.eq_zero_or_pos l.length with h | h
      · rw [h] at hi; omega
      · exact h
    have h3 : i % l.length < l.length := Nat.mod_lt _ hn
    have h4 : i / l.length < k := (Nat.div_lt_iff_lt_mul hn).2 hi
    obtain ⟨q1, q2⟩ := quot_eq (n := k) (k := i / l.length) (S := i % l.length) h4
    have h5 : i % l.length * k + i / l.length < l.length * k := by
      have : i % l.length * k + k ≤ l.length * k := by
        rw [← Nat.succ_mul]; exact Nat.mul_le_mul_right _ h3
      omega
    simp only [streamsL, List.getElem_map, List.getElem_range, hl, hq]
    rw [rd_enLowL k hk l _ h5, q1, q2]
theorem le4_bytes (x : Int) (h0 : 0 ≤ x) (h1 : x < 4294967296) : le4 (x % 256) (x / 256 % 256) (x / 65536 % 256) (x / 16777216 % 256) = x := by
  unfold le4; omega
end Go.Proofs.Ytigmcdpjlkgocaa.Str
