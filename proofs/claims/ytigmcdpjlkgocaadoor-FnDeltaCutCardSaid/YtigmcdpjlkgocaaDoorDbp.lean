import Derived.Test.YtigmcdpjlkgocaaDoorDct
import Derived.Test.YtigmcdpjlkgocaaDoorDdc
/-! The statements' writer of differences: what needs no program. -/
namespace Go.Proofs.YtigmcdpjlkgocaaDoor.Dbp
open Go.Proofs.YtigmcdpjlkgocaaDoor.Ddc Go.Proofs.YtigmcdpjlkgocaaDoor.Dct Go.Proofs.YtigmcdpjlkgocaaDoor.Dun Go.Proofs.YtigmcdpjlkgocaaDoor.Dsr Go.Proofs.YtigmcdpjlkgocaaDoor.Dst Go.Proofs.YtigmcdpjlkgocaaDoor.Deo Go.Proofs.YtigmcdpjlkgocaaDoor.Den Go.Proofs.YtigmcdpjlkgocaaDoor.Deb Go.Proofs.YtigmcdpjlkgocaaDoor.Drx Go.Proofs.YtigmcdpjlkgocaaDoor.Dds Go.Proofs.YtigmcdpjlkgocaaDoor.Dml Go.Proofs.YtigmcdpjlkgocaaDoor.Dbw Go.Proofs.YtigmcdpjlkgocaaDoor.Dbk Go.Proofs.YtigmcdpjlkgocaaDoor.Dhd Go.Proofs.YtigmcdpjlkgocaaDoor.Dpu Go.Proofs.YtigmcdpjlkgocaaDoor.Pak Go.Proofs.YtigmcdpjlkgocaaDoor.Buf Go.Proofs.YtigmcdpjlkgocaaDoor.Fit Go.Proofs.YtigmcdpjlkgocaaDoor.Spl Go.Proofs.YtigmcdpjlkgocaaDoor.Num Go.Proofs.YtigmcdpjlkgocaaDoor.Lst Go.Proofs.YtigmcdpjlkgocaaDoor.Aid Go.RowKit Go.Proofs.YtigmcdpjlkgocaaDoorW.PrintWords Go.Proofs.YtigmcdpjlkgocaaDoorW.PrintLast Go.Proofs.YtigmcdpjlkgocaaDoorW.PrintMore
set_option linter.unusedVariables false
set_option linter.unusedSimpArgs false
/-- the differences of neighbors -/
def dif (k : IntKind) (l : List Int) : List Int := (List.range (l.length - 1)).map fun i => k.wrap (rd l (i + 1 : Nat) - rd l (i : Nat))
theorem dif_length (k : IntKind) (l : List Int) : (dif k l).length = l.length - 1 := by simp [dif]
theorem rd_dif (k : IntKind) (l : List Int) (i : Nat) (h : i + 1 < l.length) : rd (dif k l) (i : Nat) = k.wrap (rd l (i + 1 : Nat) - rd l (i : Nat)) := by
  rw [rd_nat _ _ (by rw [dif_length]; omega)]
  simp [dif]
theorem dif_take (k : IntKind) (l : List Int) (i : Nat) (h : i + 1 < l.length) : (dif k l).take (i + 1) = (dif k l).take i ++ [k.wrap (rd l (i + 1 : Nat) - rd l (i : Nat))] := by
  rw [take_rd _ _ (by rw [dif_length]; omega), rd_dif k l i h]
/-- a part's numbers are those of the block at its place -/
theorem parts_form (S m : Nat) (g : Nat → Int) : ∀ (ps : List DPart) (P : Nat), ps.length = P → (∀ i, i < P → (ps.getD i (0, [])).2 = partI (fun q => g (i * S + q)) S (m - i * S)) → ps.flatMap (·.2) = partI g (P * S) m := by
  intro ps P hl h
  have hS : ∀ p ∈ ps, p.2.length = S := fun p hp => by
    obtain ⟨i, hi, rfl⟩ := List.getElem_of_mem hp
    have := h i (by omega)
    rw [List.getD_eq_getElem?_getD, List.getElem?_eq_getElem hi] at this
    have e : (ps[i]).2 = partI (fun q => g (i * S + q)) S (m - i * S) := this
    rw [e, partI_length]
  apply rd_ext
  · rw [flat_length S ps hS, partI_length, hl]
  · intro j hj
    rw [flat_length S ps hS, hl] at hj
    have hS0 : 0 < S := by
      rcases Nat.eq_zero_or_pos S with e | e
      · subst e; simp at hj
      · exact e
    have hq : j / S < P := Nat.div_lt_of_lt_mul (by rw [Nat.mul_comm]; exact hj)
    have hr : j % S < S := Nat.mod_lt _ hS0
    have e : j / S * S + j % S = j := by rw [Nat.mul_comm]; exact Nat.div_add_mod j S
    have h1 := flat_rd S ps (j / S) (j % S) hS (by rw [hl]; exact hq) hr
    rw [e, h _ hq, rd_partI _ _ _ _ hr] at h1
    rw [h1, rd_partI _ _ _ _ hj, e]
    by_cases c : j < m
    · rw [if_pos (by omega), if_pos c]
    · rw [if_neg (by omega), if_neg c]
theorem partI_take (g : Nat → Int) (n m : Nat) (h : m ≤ n) : (partI g n m).take m = (List.range m).map g := by
  apply rd_ext
  · rw [List.length_take, partI_length, List.length_map, List.length_range]; omega
  · intro j hj
    rw [List.length_take, partI_length] at hj
    rw [rd_take _ _ _ (by omega), rd_partI _ _ _ _ (by omega), if_pos (by omega), rd_nat _ _ (by simp; omega)]
    simp
theorem form_vals (k : IntKind) (hk : k = .i64 ∨ k = .i32) (l : List Int) (N i m PS : Nat) (least last : Int) (hl : l.length = N) (hi : 1 ≤ i) (hm : m ≤ N - i) (hmp : m ≤ PS) (hiN : i ≤ N) (hlast : last = rd l (i - 1 : Nat)) (hwf : ∀ x ∈ l, k.min ≤ x ∧ x ≤ k.max) :
    (walkV k least last (partI (fun p => rd (dif k l) (i - 1 + p : Nat) - least) PS m)).take m = (l.drop i).take m := by
  rw [← walkV_take, partI_take _ _ _ hmp]
  have hxl : ((l.drop i).take m).length = m := by rw [List.length_take, List.length_drop, hl]; omega
  refine walkV_eq k least _ _ last (by rw [List.length_map, List.length_range, hxl]) fun j hj => ?_
  rw [hxl] at hj
  have e1 : rd ((l.drop i).take m) (j : Nat) = rd l (i + j : Nat) := by rw [rd_take _ _ _ hj, rd_drop]
  have e2 : prv last ((l.drop i).take m) j = rd l (i + j - 1 : Nat) := by
    unfold prv
    by_cases c : j = 0
    · subst c; rw [if_pos rfl, hlast]; rfl
    · rw [if_neg c, rd_take _ _ _ (by omega), rd_drop, show i + (j - 1) = i + j - 1 by omega]
  have e3 : rd ((List.range m).map fun p => rd (dif k l) (i - 1 + p : Nat) - least) (j : Nat) = rd (dif k l) (i - 1 + j : Nat) - least := by
    rw [rd_nat _ _ (by simp; exact hj)]; simp
  rw [e1, e2, e3, rd_dif k l (i - 1 + j) (by omega), show i - 1 + j + 1 = i + j by omega, show i - 1 + j = i + j - 1 by omega]
  have h1 := hwf _ (rd_mem (l := l) (i := i + j) (by omega))
  generalize rd l ((i + j : Nat) : Int) = x at *
  generalize rd l ((i + j - 1 : Nat) : Int) = y at *
  rcases hk with e | e <;> subst e
  · have a1 : IntKind.i64.min = -9223372036854775808 := by decide
    have a2 : IntKind.i64.max = 9223372036854775807 := by decide
    rw [a1, a2] at h1
    rw [IntKind.wrap_i64, IntKind.wrap_i64]; omega
  · have a1 : IntKind.i32.min = -2147483648 := by decide
    have a2 : IntKind.i32.max = 2147483647 := by decide
    rw [a1, a2] at h1
    rw [IntKind.wrap_i32, IntKind.wrap_i32]; omega
theorem getD_snoc_l (ps : List DPart) (p : DPart) (i : Nat) (h : i < ps.length) : (ps ++ [p]).getD i (0, []) = ps.getD i (0, []) := by
  simp [List.getD_eq_getElem?_getD, List.getElem?_append_left h]
theorem getD_snoc_r (ps : List DPart) (p : DPart) (i : Nat) (h : ps.length = i) : (ps ++ [p]).getD i (0, []) = p := by
  subst h; simp [List.getD_eq_getElem?_getD]
theorem rd_dif_bd (k : IntKind) (l : List Int) (x : Int) (h : x ∈ dif k l) : ∃ y, x = k.wrap y := by
  simp only [dif, List.mem_map, List.mem_range] at h
  obtain ⟨i, _, rfl⟩ := h
  exact ⟨_, rfl⟩
/-- a block more, whatever its form -/
theorem gen_round (k : IntKind) (W P S : Nat) (f last : Int) (l : List Int) (N i m : Nat) (bs : List DBlk) (b : DBlk) (hPS : 0 < P * S)
    (hl : l.length = N) (hi1 : 1 ≤ i) (hiN : i < N) (hm : min (P * S) (N - i) = m) (hb : blkOk W P S b) (htl : ∀ j, N - i ≤ j * S → (b.2.getD j (0, [])).1 = 0) (hmn : -9223372036854775808 ≤ b.1 ∧ b.1 ≤ 9223372036854775807)
    (hVm : (walkV k b.1 last (blkN b)).take m = (l.drop i).take m)
    (HOK : ∀ bb, strOk W P S (N - i) bb → strOk W P S (N - 1) (bs ++ bb)) (HV2 : f :: blksV k f bs = l.take i) (hlast : last = rd l (i - 1 : Nat)) :
    (∀ bb, strOk W P S (N - (i + P * S)) bb → strOk W P S (N - 1) (bs ++ [b] ++ bb)) ∧ (f :: blksV k f (bs ++ [b])).take N = l.take (i + P * S) ∧ (i + P * S ≤ N → f :: blksV k f (bs ++ [b]) = l.take (i + P * S)) := by
  have hVl : (walkV k b.1 last (blkN b)).length = P * S := by rw [walkV_length, blkN_length hb]
  have hgl : (blksV k f bs).getLastD f = last := by
    rw [hlast]
    refine last_of f _ l (i - 1) ?_ (by omega)
    rw [HV2, show i - 1 + 1 = i by omega]
  have hall : f :: blksV k f (bs ++ [b]) = l.take i ++ walkV k b.1 last (blkN b) := by
    rw [blksV_snoc, hgl, ← HV2]; rfl
  refine ⟨fun bb h => ?_, ?_, fun h => ?_⟩
  · rw [List.append_assoc]
    exact HOK _ ⟨by omega, hb, htl, hmn, by rw [show N - i - P * S = N - (i + P * S) by omega]; exact h⟩
  · rw [hall, List.take_append, List.length_take, hl, Nat.min_eq_left (by omega), List.take_of_length_le (by rw [List.length_take]; omega)]
    by_cases e : N - i ≤ P * S
    · rw [show N - i = m by omega, hVm]
      have e1 : (l.drop i).take m = l.drop i := List.take_of_length_le (by rw [List.length_drop, hl]; omega)
      rw [e1, List.take_append_drop, List.take_of_length_le (by omega)]
    · have e1 : (walkV k b.1 last (blkN b)).take (N - i) = walkV k b.1 last (blkN b) := List.take_of_length_le (by omega)
      have e2 : (walkV k b.1 last (blkN b)).take m = walkV k b.1 last (blkN b) := List.take_of_length_le (by omega)
      rw [e1, ← e2, hVm, show m = P * S by omega, List.take_add]
  · have e2 : (walkV k b.1 last (blkN b)).take m = walkV k b.1 last (blkN b) := List.take_of_length_le (by omega)
    rw [hall, ← e2, hVm, show m = P * S by omega, List.take_add]
end Go.Proofs.YtigmcdpjlkgocaaDoor.Dbp
