import Derived.Test.YtigmcdpjlkgocaaMdm
/-! Texts with shared fronts: what needs no program. -/
namespace Go.Proofs.Ytigmcdpjlkgocaa.Dfp
open Go.Proofs.Ytigmcdpjlkgocaa.Dls Go.Proofs.Ytigmcdpjlkgocaa.Dlp Go.Proofs.Ytigmcdpjlkgocaa.Dre Go.Proofs.Ytigmcdpjlkgocaa.Dle Go.Proofs.Ytigmcdpjlkgocaa.Dib Go.Proofs.Ytigmcdpjlkgocaa.Dew Go.Proofs.Ytigmcdpjlkgocaa.Dtx Go.Proofs.Ytigmcdpjlkgocaa.Dct Go.Proofs.Ytigmcdpjlkgocaa.Dst Go.Proofs.Ytigmcdpjlkgocaa.Deo Go.Proofs.Ytigmcdpjlkgocaa.Den Go.Proofs.Ytigmcdpjlkgocaa.Deb Go.Proofs.Ytigmcdpjlkgocaa.Dds Go.Proofs.Ytigmcdpjlkgocaa.Dpu Go.Proofs.Ytigmcdpjlkgocaa.Pak Go.Proofs.Ytigmcdpjlkgocaa.Buf Go.Proofs.Ytigmcdpjlkgocaa.Fit Go.Proofs.Ytigmcdpjlkgocaa.Bit Go.Proofs.Ytigmcdpjlkgocaa.Wrd Go.Proofs.Ytigmcdpjlkgocaa.Spl Go.Proofs.Ytigmcdpjlkgocaa.Str Go.Proofs.Ytigmcdpjlkgocaa.Flt Go.Proofs.Ytigmcdpjlkgocaa.Owe Go.Proofs.Ytigmcdpjlkgocaa.Num Go.Proofs.Ytigmcdpjlkgocaa.Le Go.Proofs.Ytigmcdpjlkgocaa.Lst Go.Proofs.Ytigmcdpjlkgocaa.Aid Go.RowKit Go.Proofs.YtigmcdpjlkgocaaW.PrintWords Go.Proofs.YtigmcdpjlkgocaaW.PrintLast Go.Proofs.YtigmcdpjlkgocaaW.PrintMore
set_option linter.unusedVariables false
set_option linter.unusedSimpArgs false
/-- the text ahead of the j-th -/
def prevL (ls : List (List Int)) (j : Nat) : List Int := if j = 0 then [] else ls.getD (j - 1) []
theorem prevL_zero (ls : List (List Int)) : prevL ls 0 = [] := rfl
theorem prevL_succ (ls : List (List Int)) (j : Nat) : prevL ls (j + 1) = ls.getD j [] := rfl
/-- how much of the text ahead a text begins with -/
structure FrAt (ls : List (List Int)) (j n : Nat) : Prop where
  le1 : n ≤ (prevL ls j).length
  le2 : n ≤ (ls.getD j []).length
  eq : (prevL ls j).take n = (ls.getD j []).take n
theorem FrAt.join {ls : List (List Int)} {j n : Nat} (h : FrAt ls j n) : (prevL ls j).take n ++ (ls.getD j []).drop n = ls.getD j [] := by rw [h.eq, List.take_append_drop]
theorem FrAt.less {ls : List (List Int)} {j n m : Nat} (h : FrAt ls j n) (hm : m ≤ n) : FrAt ls j m := by
  refine ⟨by have := h.le1; omega, by have := h.le2; omega, ?_⟩
  have := congrArg (List.take m) h.eq
  rw [List.take_take, List.take_take, Nat.min_eq_left hm] at this
  exact this
theorem FrAt.zero (ls : List (List Int)) (j : Nat) : FrAt ls j 0 := ⟨Nat.zero_le _, Nat.zero_le _, by simp⟩
/-- so for all texts -/
structure FrOk (ls : List (List Int)) (ns : List Nat) : Prop where
  len : ns.length = ls.length
  at' : ∀ j : Nat, j < ls.length → FrAt ls j (ns.getD j 0)
/-- what is behind the fronts -/
def tailsL (ls : List (List Int)) (ns : List Nat) : List (List Int) := (List.range ns.length).map fun j => (ls.getD j []).drop (ns.getD j 0)
theorem tailsL_length (ls : List (List Int)) (ns : List Nat) : (tailsL ls ns).length = ns.length := by simp [tailsL]
theorem tailsL_getD (ls : List (List Int)) (ns : List Nat) (j : Nat) (hj : j < ns.length) : (tailsL ls ns).getD j [] = (ls.getD j []).drop (ns.getD j 0) := by
  simp [tailsL, List.getD_eq_getElem?_getD, hj]
theorem tailsL_snoc (ls : List (List Int)) (ns : List Nat) (n : Nat) : tailsL ls (ns ++ [n]) = tailsL ls ns ++ [(ls.getD ns.length []).drop n] := by
  unfold tailsL
  rw [List.length_append, List.length_singleton, List.range_succ, List.map_append]
  congr 1
  · apply List.map_congr_left
    intro j hj
    have := List.mem_range.1 hj
    simp [List.getD_eq_getElem?_getD, List.getElem?_append_left this]
  · simp [List.getD_eq_getElem?_getD]
theorem tails_sum (ls : List (List Int)) (ns : List Nat) : ∀ k : Nat, k ≤ ls.length → k ≤ ns.length → sumLen ((tailsL ls ns).take k) ≤ sumLen (ls.take k)
  | 0, _, _ => by simp [sumLen]
  | k + 1, h1, h2 => by
    have := tails_sum ls ns k (by omega) (by omega)
    rw [sumLen_take _ k (by rw [tailsL_length]; omega), sumLen_take _ k (by omega), tailsL_getD ls ns k (by omega), List.length_drop]
    omega
theorem tails_le {ls : List (List Int)} {ns : List Nat} (h : ns.length = ls.length) : sumLen (tailsL ls ns) ≤ sumLen ls := by
  have := tails_sum ls ns ls.length (Nat.le_refl _) (by omega)
  rw [List.take_length, show ls.length = (tailsL ls ns).length by rw [tailsL_length, h], List.take_length] at this
  exact this
theorem fr_le {ls : List (List Int)} {ns : List Nat} (h : FrOk ls ns) (j : Nat) (hj : j < ls.length) : ns.getD j 0 ≤ sumLen ls := by
  have h1 := (h.at' j hj).le2
  have h2 := sumLen_take ls j hj
  have h3 := sumLen_le ls (j + 1)
  omega
def intsL (ns : List Nat) : List Int := ns.map fun (n : Nat) => (n : Int)
theorem intsL_length (ns : List Nat) : (intsL ns).length = ns.length := by simp [intsL]
theorem rd_intsL (ns : List Nat) (j : Nat) (hj : j < ns.length) : rd (intsL ns) (j : Nat) = (ns.getD j 0 : Int) := by
  rw [rd_nat _ _ (by rw [intsL_length]; exact hj)]
  simp [intsL, List.getD_eq_getElem?_getD, hj]
theorem intsL_snoc (ns : List Nat) (n : Nat) : intsL (ns ++ [n]) = intsL ns ++ [(n : Int)] := by simp [intsL]
theorem intsL_bd {ls : List (List Int)} {ns : List Nat} (h : FrOk ls ns) (hs : sumLen ls ≤ 100000) : ∀ x ∈ intsL ns, -2147483648 ≤ x ∧ x ≤ 2147483647 := by
  intro x hx
  simp only [intsL, List.mem_map] at hx
  obtain ⟨n, hn, rfl⟩ := hx
  obtain ⟨i, hi, rfl⟩ := List.getElem_of_mem hn
  have := fr_le h i (by rw [← h.len]; exact hi)
  rw [show ns.getD i 0 = ns[i] by simp [List.getD_eq_getElem?_getD, hi]] at this
  omega
/-- bytes that are texts with shared fronts -/
def FrStr (ls : List (List Int)) (X : List Int) (B P S : Nat) : Prop := ∃ ns mid bs, FrOk ls ns ∧ NumStr (intsL ns) X mid B P S bs ∧ LenStr (tailsL ls ns) mid B P S
theorem join_prev (ls : List (List Int)) (j : Nat) (hj : j < ls.length) : (joinL (ls.take (j + 1))).drop (sumLen (ls.take j)) = prevL ls (j + 1) := by
  rw [joinL_take ls j hj, ← joinL_length (ls.take j), List.drop_left]; rfl
end Go.Proofs.Ytigmcdpjlkgocaa.Dfp
