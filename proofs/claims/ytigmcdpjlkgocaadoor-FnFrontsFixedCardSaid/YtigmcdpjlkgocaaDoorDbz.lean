import Derived.Test.YtigmcdpjlkgocaaDoorDct
import Derived.Test.YtigmcdpjlkgocaaDoorMdt
/-! The statements' writer of differences: what needs no program. -/
namespace Go.Proofs.YtigmcdpjlkgocaaDoor.Dbp
open Go.Proofs.YtigmcdpjlkgocaaDoor.Ddc Go.Proofs.YtigmcdpjlkgocaaDoor.Dct Go.Proofs.YtigmcdpjlkgocaaDoor.Dun Go.Proofs.YtigmcdpjlkgocaaDoor.Dsr Go.Proofs.YtigmcdpjlkgocaaDoor.Dst Go.Proofs.YtigmcdpjlkgocaaDoor.Deo Go.Proofs.YtigmcdpjlkgocaaDoor.Den Go.Proofs.YtigmcdpjlkgocaaDoor.Deb Go.Proofs.YtigmcdpjlkgocaaDoor.Drx Go.Proofs.YtigmcdpjlkgocaaDoor.Dds Go.Proofs.YtigmcdpjlkgocaaDoor.Dml Go.Proofs.YtigmcdpjlkgocaaDoor.Dbw Go.Proofs.YtigmcdpjlkgocaaDoor.Dbk Go.Proofs.YtigmcdpjlkgocaaDoor.Dhd Go.Proofs.YtigmcdpjlkgocaaDoor.Dpu Go.Proofs.YtigmcdpjlkgocaaDoor.Pak Go.Proofs.YtigmcdpjlkgocaaDoor.Buf Go.Proofs.YtigmcdpjlkgocaaDoor.Fit Go.Proofs.YtigmcdpjlkgocaaDoor.Spl Go.Proofs.YtigmcdpjlkgocaaDoor.Num Go.Proofs.YtigmcdpjlkgocaaDoor.Lst Go.Proofs.YtigmcdpjlkgocaaDoor.Aid Go.RowKit Go.Proofs.YtigmcdpjlkgocaaDoorW.PrintWords Go.Proofs.YtigmcdpjlkgocaaDoorW.PrintLast Go.Proofs.YtigmcdpjlkgocaaDoorW.PrintMore
set_option linter.unusedVariables false
set_option linter.unusedSimpArgs false
/-- the differences of neighbors -/
def dif (k : IntKind) (l : List Int) : List Int := (List.range (l.length - 1)).map fun i => k.wrap (rd l (i + 1 : Nat) - rd l (i : Nat))
theorem dif_length (k : IntKind) (l : List Int) : (dif k l).length = l.length - 1 := by simp [dif]
theorem rd_dif (k : IntKind) (l : List Int) (i : Nat) (h : i + 1 < l.length) : rd (dif k l) (i : Nat) = k.wrap (rd l (i + 1 : Nat) - rd l (i : Nat)) := by
  rw [rd_nat _ _ (by rw [dif_length]; omega)]
  simp [dif]
theorem dif_take (k : IntKind) (l : List Int) (i : Nat) (h : i + 1 < l.length) : (dif k l).take (i + 1) = (dif k l).take i ++ [k.wrap (rd l (i + 1 : Nat) - rd l (i : Nat))] := by
  rw [take_rd _ _ (by rw [dif_length]; omega), rd_dif k l i h]
/-- a part's numbers are those of the block at its place -/
theorem parts_form (S m : Nat) (g : Nat → Int) : ∀ (ps : List DPart) (P : Nat), ps.length = P → (∀ i, i < P → (ps.getD i (0, [])).2 = partI (fun q => g (i * S + q)) S (m - i * S)) → ps.flatMap (·.2) = partI g (P * S) m := by
  intro ps P hl h
  have hS : ∀ p ∈ ps, p.2.length = S := fun p hp => by
    obtain ⟨i, hi, rfl⟩ := List.getElem_of_mem hp
    have := h i (by omega)
    rw [List.getD_eq_getElem?_getD, List.getElem?_eq_getElem hi] at this
    have e : (ps[i]).2 = partI (fun q => g (i * S + q)) S (m - i * S) := this
    rw [e, partI_length]
  apply rd_ext
  · rw [flat_length S ps hS, partI_length, hl]
  · intro j hj
    rw [flat_length S ps hS, hl] at hj
    have hS0 : 0 < S := by
      rcases Nat.eq_zero_or_pos S with e | e
      · subst e; simp at hj
      · exact e
    have hq : j / S < P := Nat.div_lt_of_lt_mul (by rw [Nat.mul_comm]; exact hj)
    have hr : j % S < S := Nat.mod_lt _ hS0
    have e : j / S * S + j % S = j := by rw [Nat.mul_comm]; exact Nat.div_add_mod j S
    have h1 := flat_rd S ps (j / S) (j % S) hS (by rw [hl]; exact hq) hr
    rw [e, h _ hq, rd_partI _ _ _ _ hr] at h1
    rw [h1, rd_partI _ _ _ _ hj, e]
    by_cases c : j < m
    · rw [if_pos (by omega), if_pos c]
    · rw [if_neg (by omega), if_neg c]
theorem partI_take (g : Nat → Int) (n m : Nat) (h : m ≤ n) : (partI g n m).take m = (List.range m).map g := by
  apply rd_ext
  · rw [List.length_take, partI_length, List.length_map, List.length_range]; omega
  · intro j hj
    rw [List.length_take, partI_length] at hj
    rw [rd_take _ _ _ (by omega), rd_partI _ _ _ _ (by omega), if_pos (by omega), rd_nat _ _ (by simp; omega)]
    simp
theorem form_vals (k : IntKind) (hk : k = .i64 ∨ k = .i32) (l : List Int) (N i m PS : Nat) (least last : Int) (hl : l.length = N) (hi : 1 ≤ i) (hm : m ≤ N - i) (hmp : m ≤ PS) (hiN : i ≤ N) (hlast : last = rd l (i - 1 : Nat)) (hwf : ∀ x ∈ l, k.min ≤ x ∧ x ≤ k.max) :
    (walkV k least last (partI (fun p => rd (dif k l) (i - 1 + p : Nat) - least) PS m)).take m = (l.drop i).take m := by
  rw [← walkV_take, partI_take _ _ _ hmp]
  have hxl : ((l.drop i).take m).length = m := by rw [List.length_take, List.length_drop, hl]; omega
  refine walkV_eq k least _ _ last (by rw [List.length_map, List.length_range, hxl]) fun j hj => ?_
  rw [hxl] at hj
  have e1 : rd ((l.drop i).take m) (j : Nat) = rd l (i + j : Nat) := by rw [rd_take _ _ _ hj, rd_drop]
  have e2 : prv last ((l.drop i).take m) j = rd l (i + j - 1 : Nat) := by
    unfold prv
    by_cases c : j = 0
    · subst c; rw [if_pos rfl, hlast]; rfl
    · rw [if_neg c, rd_take _ _ _ (by omega), rd_drop, show i + (j - 1) = i + j - 1 by omega]
  have e3 : rd ((List.range m).map fun p => rd (dif k l) (i - 1 + p : Nat) - least) (j : Nat) = rd (dif k l) (i - 1 + j : Nat) - least := by
    rw [rd_nat _ _ (by simp; exact hj)]; simp
  rw [e1, e2, e3, rd_dif k l (i - 1 + j) (by omega), show i - 1 + j + 1 = i + j by omega, show i - 1 + j = i + j - 1 by omega]
  have h1 := hwf _ (rd_mem (l := l) (i := i + j) (by omega))
  generalize rd l ((i + j : Nat) : Int) = x at *
  generalize rd l ((i + j - 1 : Nat) : Int) = y at *
  rcases hk with e | e <;> subst e
  · have a1 : IntKind.i64.min = -9223372036854775808 := by decide
    have a2 : IntKind.i64.max = 9223372036854775807 := by decide
    rw [a1, a2] at h1
    rw [IntKind.wrap_i64, IntKind.wrap_i64]; omega
  · have a1 : IntKind.i32.min = -2147483648 := by decide
    have a2 : IntKind.i32.max = 2147483647 := by decide
    rw [a1, a2] at h1
    rw [IntKind.wrap_i32, IntKind.wrap_i32]; omega
theorem getD_snoc_l (ps : List DPart) (p : DPart) (i : Nat) (h : i < ps.length) : (ps ++ [p]).getD i (0, []) = ps.getD i (0, []) := by
  simp [List.getD_eq_getElem?_getD, List.getElem?_append_left h]
theorem getD_snoc_r (ps : List DPart) (p : DPart) (i : Nat) (h : ps.length = i) : (ps ++ [p]).getD i (0, []) = p := by
  subst h; simp [List.getD_eq_getElem?_getD]
theorem rd_dif_bd (k : IntKind) (l : List Int) (x : Int) (h : x ∈ dif k l) : ∃ y, x = k.wrap y := by
  simp only [dif, List.mem_map, List.mem_range] at h
  obtain ⟨i, _, rfl⟩ := h
  exact ⟨_, rfl⟩
/-- a block more, whatever its form -/
theorem gen_round (k : IntKind) (W P S : Nat) (f last : Int) (l : List Int) (N i m : Nat) (bs : List DBlk) (b : DBlk) (hPS : 0 < P * S)
    (hl : l.length = N) (hi1 : 1 ≤ i) (hiN : i < N) (hm : min (P * S) (N - i) = m) (hb : blkOk W P S b) (htl : ∀ j, N - i ≤ j * S → (b.2.getD j (0, [])).1 = 0) (hmn : -9223372036854775808 ≤ b.1 ∧ b.1 ≤ 9223372036854775807)
    (hVm : (walkV k b.1 last (blkN b)).take m = (l.drop i).take m)
    (HOK : ∀ bb, strOk W P S (N - i) bb → strOk W P S (N - 1) (bs ++ bb)) (HV2 : f :: blksV k f bs = l.take i) (hlast : last = rd l (i - 1 : Nat)) :
    (∀ bb, strOk W P S (N - (i + P * S)) bb → strOk W P S (N - 1) (bs ++ [b] ++ bb)) ∧ (f :: blksV k f (bs ++ [b])).take N = l.take (i + P * S) ∧ (i + P * S ≤ N → f :: blksV k f (bs ++ [b]) = l.take (i + P * S)) := by
  have hVl : (walkV k b.1 last (blkN b)).length = P * S := by rw [walkV_length, blkN_length hb]
  have hgl : (blksV k f bs).getLastD f = last := by
    rw [hlast]
    refine last_of f _ l (i - 1) ?_ (by omega)
    rw [HV2, show i - 1 + 1 = i by omega]
  have hall : f :: blksV k f (bs ++ [b]) = l.take i ++ walkV k b.1 last (blkN b) := by
    rw [blksV_snoc, hgl, ← HV2]; rfl
  refine ⟨fun bb h => ?_, ?_, fun h => ?_⟩
  · rw [List.append_assoc]
    exact HOK _ ⟨by omega, hb, htl, hmn, by rw [show N - i - P * S = N - (i + P * S) by omega]; exact h⟩
  · rw [hall, List.take_append, List.length_take, hl, Nat.min_eq_left (by omega), List.take_of_length_le (by rw [List.length_take]; omega)]
    by_cases e : N - i ≤ P * S
    · rw [show N - i = m by omega, hVm]
      have e1 : (l.drop i).take m = l.drop i := List.take_of_length_le (by rw [List.length_drop, hl]; omega)
      rw [e1, List.take_append_drop, List.take_of_length_le (by omega)]
    · have e1 : (walkV k b.1 last (blkN b)).take (N - i) = walkV k b.1 last (blkN b) := List.take_of_length_le (by omega)
      have e2 : (walkV k b.1 last (blkN b)).take m = walkV k b.1 last (blkN b) := List.take_of_length_le (by omega)
      rw [e1, ← e2, hVm, show m = P * S by omega, List.take_add]
  · have e2 : (walkV k b.1 last (blkN b)).take m = walkV k b.1 last (blkN b) := List.take_of_length_le (by omega)
    rw [hall, ← e2, hVm, show m = P * S by omega, List.take_add]
end Go.Proofs.YtigmcdpjlkgocaaDoor.Dbp

/-! The statements' writer of differences. -/
namespace Go.Proofs.YtigmcdpjlkgocaaDoor.Dby
open Go.Proofs.YtigmcdpjlkgocaaDoor.Dbp Go.Proofs.YtigmcdpjlkgocaaDoor.Ddc Go.Proofs.YtigmcdpjlkgocaaDoor.Dct Go.Proofs.YtigmcdpjlkgocaaDoor.Dun Go.Proofs.YtigmcdpjlkgocaaDoor.Dsr Go.Proofs.YtigmcdpjlkgocaaDoor.Dst Go.Proofs.YtigmcdpjlkgocaaDoor.Deo Go.Proofs.YtigmcdpjlkgocaaDoor.Den Go.Proofs.YtigmcdpjlkgocaaDoor.Deb Go.Proofs.YtigmcdpjlkgocaaDoor.Drx Go.Proofs.YtigmcdpjlkgocaaDoor.Dds Go.Proofs.YtigmcdpjlkgocaaDoor.Dml Go.Proofs.YtigmcdpjlkgocaaDoor.Dbw Go.Proofs.YtigmcdpjlkgocaaDoor.Dbk Go.Proofs.YtigmcdpjlkgocaaDoor.Dhd Go.Proofs.YtigmcdpjlkgocaaDoor.Dgr Go.Proofs.YtigmcdpjlkgocaaDoor.Dpu Go.Proofs.YtigmcdpjlkgocaaDoor.Pak Go.Proofs.YtigmcdpjlkgocaaDoor.Buf Go.Proofs.YtigmcdpjlkgocaaDoor.Fit Go.Proofs.YtigmcdpjlkgocaaDoor.Bit Go.Proofs.YtigmcdpjlkgocaaDoor.Wrd Go.Proofs.YtigmcdpjlkgocaaDoor.Spl Go.Proofs.YtigmcdpjlkgocaaDoor.Str Go.Proofs.YtigmcdpjlkgocaaDoor.Flt Go.Proofs.YtigmcdpjlkgocaaDoor.Owe Go.Proofs.YtigmcdpjlkgocaaDoor.Num Go.Proofs.YtigmcdpjlkgocaaDoor.Le Go.Proofs.YtigmcdpjlkgocaaDoor.Lst Go.Proofs.YtigmcdpjlkgocaaDoor.Aid Go.RowKit Go.Proofs.YtigmcdpjlkgocaaDoorW.PrintWords Go.Proofs.YtigmcdpjlkgocaaDoorW.PrintLast Go.Proofs.YtigmcdpjlkgocaaDoorW.PrintMore
set_option linter.unusedVariables false
set_option linter.unusedSimpArgs false
section
variable {P : Program} {ops : Array Oper} {rest : List Oper} {o : Oper} {a : Act} {Q : Exit → Act → World → Prop}
/-- append(v, ys...), and where the new slice lies: behind 'at_builtin' -/
theorem appendReadH {w0 W : World} (base : Nat) (hgd : o.guard = none) (s x : Operand) (t e : TypeId) (k : IntKind) (bytes : Nat)
    (ho : o.op = .call { callee := .builtin .append, args := #[s, x], argTypes := #[t, t] })
    (ht : P.underlying t = some (.slice e)) (hinfo : (P.info? e).map (fun i => (i.zero, i.size, i.bytes)) = some (some (.int k 0), 1, bytes)) (hb0 : 0 < bytes)
    (v : Value) (xs : List Int) (A : Option Addr) (m c : Nat) (ys : List Int) (hs : a.eval s = v) (hx : a.eval x = .slice A m c)
    (HO : Own W base e k v xs) (HB : Below base w0 W) (hbase : base ≤ W.heap.size) (hC : (Kd.int k).C W A m ys) (hl : (xs.length + m) * bytes ≤ 140737488355328)
    (h : ∀ v1 w1, Own w1 base e k v1 (xs ++ ys) → Below base w0 w1 → W.grownBy w1 v.ownBlock → (v1.ownBlock = v.ownBlock ∨ ∃ b, v1.ownBlock = some b ∧ W.heap.size ≤ b) → wpList P ops Q rest (a.put o.dst v1) w1) :
    wpList P ops Q (o :: rest) a W := by
  obtain ⟨i0, hi, hzz⟩ := Option.map_eq_some_iff.1 hinfo
  simp only [Prod.mk.injEq] at hzz
  obtain ⟨hz0, hz1, hz2⟩ := hzz
  have hm : ys.length = m := hC.1
  have hlen : xs.length + m ≤ 140737488355328 := Nat.le_trans (Nat.le_mul_of_pos_right _ hb0) hl
  have key : ∀ v1 w1, w1.ownsRow base e 1 v1 (xs.length + m) (nums k xs ++ nums k ys) → W.grownBy w1 v.ownBlock → (v1.ownBlock = v.ownBlock ∨ ∃ b, v1.ownBlock = some b ∧ W.heap.size ≤ b) → wpList P ops Q rest (a.put o.dst v1) w1 := by
    intro v1 w1 h1 hg hat
    refine h v1 w1 ⟨?_⟩ (HB.grown hg hbase (own_base HO.out)) hg hat
    rw [List.length_append, hm, nums_append]; exact h1
  rcases A with _ | ad
  · have h0 : m = 0 := by
      rcases Nat.eq_zero_or_pos m with h0 | h0
      · exact h0
      · obtain ⟨ad, h', _⟩ := hC.2.2 h0
        cases h'
    subst h0
    obtain rfl : ys = [] := List.eq_nil_of_length_eq_zero hm
    have hk := key v W (by simpa [nums] using HO.out) (grownRefl W _) (.inl rfl)
    refine wpList_plain hgd fun K hK => ?_
    have hrun : (Builtin.append_ #[t, t] o.type #[v, .slice none 0 c]).run P W = .ok v W := by
      rcases HO.out.2 with ⟨rfl, _⟩ | ⟨g, cap, cur, rfl, _, _, hnc, _⟩
      · simp [Builtin.append_, run_underlying ht, sizeOf, typeInfo, hi, Builtin.lenOf, Builtin.firstCells]
      · simp [Builtin.append_, run_underlying ht, sizeOf, typeInfo, hi, Builtin.lenOf, Builtin.firstCells, hnc, storeCells]
    unfold Oper.wp
    simp [execOp, ho, resolve, invoke, builtin, hs, hx, hrun, Result.andThen]
    exact hK _ _ hk
  · obtain ⟨v', w', hr, h2, h3, _, h5⟩ := run_append_own_at (P := P) W base t o.type e i0 (.int k 0) 1 bytes ht hi hz0 hz1 hz2 rfl (by omega) v xs.length (nums k xs) HO.out ad m c (nums k ys) (by simp [nums, hm]) (C_cells hC) (by intro u hu; simp [nums] at hu; obtain ⟨q, _, rfl⟩ := hu; rfl) (by simp only [maxLen]; omega) hl hbase
    have hk := key v' w' h2 h3 (h5.imp id (fun h => ⟨_, h, Nat.le_refl _⟩))
    refine wpList_plain hgd fun K hK => ?_
    unfold Oper.wp
    simp [execOp, ho, resolve, invoke, builtin, hs, hx, hr, Result.andThen]
    exact hK _ _ hk
end
theorem appendOwnH {P : Program} {ops : Array Oper} {rest : List Oper} {o : Oper} {a : Act} {Q : Exit → Act → World → Prop} {w0 W : World} (base : Nat) (hgd : o.guard = none) (s x : Operand) (t e : TypeId) (k : IntKind) (bytes : Nat)
    (ho : o.op = .call { callee := .builtin .append, args := #[s, x], argTypes := #[t, t] })
    (ht : P.underlying t = some (.slice e)) (hinfo : (P.info? e).map (fun i => (i.zero, i.size, i.bytes)) = some (some (.int k 0), 1, bytes)) (hb0 : 0 < bytes)
    (v : Value) (xs : List Int) (y : Int) (hs : a.eval s = v) (hx : a.eval x = .slice (some ⟨W.heap.size, 0, none⟩) 1 1)
    (HO : Own W base e k v xs) (HB : Below base w0 W) (hbase : base ≤ W.heap.size) (hl : (xs.length + 1) * bytes ≤ 140737488355328)
    (h : ∀ v1 w1, Own w1 base e k v1 (xs ++ [y]) → Below base w0 w1 → W.grownBy w1 v.ownBlock → (v1.ownBlock = v.ownBlock ∨ ∃ b, v1.ownBlock = some b ∧ W.heap.size ≤ b) → wpList P ops Q rest (a.put o.dst v1) w1) :
    wpList P ops Q (o :: rest) a (W.alloc (.cells #[.int k y] e)) :=
  print_append_num base hgd s x t e k bytes ho ht hinfo hb0 v xs y hs hx HO.out HB hbase hl fun v1 w1 ho hb hg hat => h v1 w1 ⟨ho⟩ hb hg hat
/-- a part as the writer makes it -/
def partOk (W : Nat) (ch : List Int) (ls : Int) (S q t : Nat) (p : DPart) : Prop := p.1 ≤ W ∧ fitL p.1 p.2 ∧ p.2 = partI (fun x => rd ch (t * S + x : Nat) - ls) S (q - t * S) ∧ (q ≤ t * S → p.1 = 0)
theorem parts_snoc {W : Nat} {ch : List Int} {ls : Int} {S q r : Nat} {ps : List DPart} {p : DPart} (h : ∀ t, t < r → partOk W ch ls S q t (ps.getD t (0, []))) (hl : ps.length = r) (hp : partOk W ch ls S q r p) : ∀ t, t < r + 1 → partOk W ch ls S q t ((ps ++ [p]).getD t (0, [])) := by
  intro t ht
  by_cases c : t < r
  · rw [getD_snoc_l _ _ _ (by omega)]; exact h t c
  · obtain rfl : t = r := by omega
    rw [getD_snoc_r _ _ _ hl]; exact hp
theorem part_0 (W : Nat) (ch : List Int) (ls : Int) (S q t : Nat) (h : q ≤ t * S) : partOk W ch ls S q t (0, partI (fun x => rd ch (t * S + x : Nat) - ls) S 0) := by
  refine ⟨Nat.zero_le _, ?_, ?_, fun _ => rfl⟩
  · intro x hx
    rw [partI_zero] at hx
    obtain ⟨_, rfl⟩ := List.mem_replicate.1 hx
    exact ⟨Int.le_refl 0, Int.pow_pos (by decide)⟩
  · rw [show q - t * S = 0 by omega]
theorem partsB_0 (ps : List DPart) (l : List Int) : partsB (ps ++ [(0, l)]) = partsB ps := by
  have e : packLo 0 l = [] := by unfold packLo; rw [Nat.mul_zero]; rfl
  simp [partsB, e]
theorem partsB_snoc (ps : List DPart) (p : DPart) : partsB (ps ++ [p]) = partsB ps ++ packLo p.1 p.2 := by simp [partsB]
theorem ws_snoc (ps : List DPart) (p : DPart) : natsI ((ps ++ [p]).map (·.1)) = natsI (ps.map (·.1)) ++ [(p.1 : Int)] := by simp [natsI]
theorem rest_cut (ch : List Int) (r S q mo : Nat) (hl : ch.length = q) (h : min S (q - r * S) = mo) (hr : r * S ≤ q ∨ mo = 0) : (ch.drop (r * S)).drop mo = ch.drop ((r + 1) * S) := by
  rw [List.drop_drop, Nat.succ_mul]
  by_cases c : mo = S
  · rw [c]
  · rw [List.drop_eq_nil_of_le (by omega), List.drop_eq_nil_of_le (by omega)]
theorem partI_top (f : Nat → Int) (n k m : Nat) (h : min n k = m) : partI f n m = partI f n k := by
  apply rd_ext
  · rw [partI_length, partI_length]
  · intro j hj
    rw [partI_length] at hj
    rw [rd_partI _ _ _ _ hj, rd_partI _ _ _ _ hj]
    by_cases c : j < k
    · rw [if_pos (by omega), if_pos c]
    · rw [if_neg (by omega), if_neg c]
theorem partI_fits (f : Nat → Int) (n m w : Nat) (h : ∀ x : Nat, x < m → ∃ y : Nat, f x = (y : Int) ∧ y < 2 ^ w) : fitL w (partI f n m) := by
  intro x hx
  simp only [partI, List.mem_map, List.mem_range] at hx
  obtain ⟨i, hi, rfl⟩ := hx
  by_cases c : i < m
  · rw [if_pos c]
    obtain ⟨y, e, hy⟩ := h i c
    rw [e]
    have : ((y : Nat) : Int) < ((2 ^ w : Nat) : Int) := Int.ofNat_lt.2 hy
    refine ⟨Int.natCast_nonneg _, ?_⟩
    rw [Int.natCast_pow] at this; exact this
  · rw [if_neg c]
    exact ⟨Int.le_refl 0, Int.pow_pos (by decide)⟩
theorem fitL_u64 {w : Nat} {l : List Int} (h : fitL w l) (hw : w ≤ 64) : u64L l := by
  intro x hx
  have h1 := h x hx
  have h2 : (2 : Int) ^ w ≤ 18446744073709551616 := by
    have : 2 ^ w ≤ 2 ^ 64 := Nat.pow_le_pow_right (by decide) hw
    have h3 : ((2 ^ w : Nat) : Int) ≤ ((2 ^ 64 : Nat) : Int) := Int.ofNat_le.2 this
    rw [Int.natCast_pow] at h3; exact h3
  exact ⟨h1.1, by omega⟩
theorem part_n (W : Nat) (ch : List Int) (ls : Int) (S q t mo w : Nat) (hw : w ≤ W) (hm : min S (q - t * S) = mo) (h0 : 0 < mo) (hf : ∀ x : Nat, x < mo → ∃ y : Nat, rd ch (t * S + x : Nat) - ls = (y : Int) ∧ y < 2 ^ w) : partOk W ch ls S q t (w, partI (fun x => rd ch (t * S + x : Nat) - ls) S mo) := by
  refine ⟨hw, partI_fits _ _ _ _ hf, partI_top _ _ _ _ hm, fun h => by omega⟩
theorem packLo_part (w S : Nat) (l : List Int) (hl : l.length = S) (h8 : S % 32 = 0) : bytesLo (upTo (bitsLo w l) (S * w)) ((S * w + 7) / 8) = packLo w l := by
  rw [← hl]
  refine packLo_upTo w l ?_
  rw [hl]
  obtain ⟨k, rfl⟩ : ∃ k, S = 8 * k := ⟨S / 8, by omega⟩
  rw [Nat.mul_assoc]; omega
theorem parts_len (W : Nat) (ch : List Int) (ls : Int) (S q r : Nat) (ps : List DPart) (h : ∀ t, t < r → partOk W ch ls S q t (ps.getD t (0, []))) (hl : ps.length = r) (hr : r ≤ 32) (hW : W ≤ 64) (hS : S ≤ 1024) : (partsB ps).length ≤ 400000 := by
  have h1 : ∀ p ∈ ps, (packLo p.1 p.2).length ≤ 8192 := fun p hp => by
    obtain ⟨i, hi, rfl⟩ := List.getElem_of_mem hp
    have h2 := h i (by omega)
    rw [List.getD_eq_getElem?_getD, List.getElem?_eq_getElem hi] at h2
    obtain ⟨a, _, c, _⟩ := h2
    have a1 : (ps[i]).1 ≤ W := a
    have c1 : (ps[i]).2.length = S := by
      have : (ps[i]).2 = _ := c
      rw [this, partI_length]
    unfold packLo
    rw [bytesLo_length, c1]
    have := Nat.mul_le_mul hS (Nat.le_trans a1 hW)
    omega
  have h2 : ∀ qs : List DPart, (∀ p ∈ qs, (packLo p.1 p.2).length ≤ 8192) → (partsB qs).length ≤ qs.length * 8192 := by
    intro qs
    induction qs with
    | nil => intro _; simp [partsB]
    | cons p qs ih =>
      intro hq
      have e : partsB (p :: qs) = packLo p.1 p.2 ++ partsB qs := by simp [partsB]
      have a := hq p (List.mem_cons_self ..)
      have b := ih fun p hp => hq p (List.mem_cons_of_mem _ hp)
      rw [e, List.length_append, List.length_cons]; omega
  have := h2 ps h1
  omega
theorem partI_congr (f g : Nat → Int) (n k : Nat) (h : ∀ x, x < k → f x = g x) : partI f n k = partI g n k := by
  apply rd_ext
  · rw [partI_length, partI_length]
  · intro j hj
    rw [partI_length] at hj
    rw [rd_partI _ _ _ _ hj, rd_partI _ _ _ _ hj]
    by_cases c : j < k
    · rw [if_pos c, if_pos c, h j c]
    · rw [if_neg c, if_neg c]
/-- a block is done -/
theorem blk_done (k : IntKind) (hk : k = .i64 ∨ k = .i32) (W P S B : Nat) (hB : B = P * S) (f : Int) (l : List Int) (N j q : Nat) (bs : List DBlk) (ls : Int) (ps : List DPart) (ch : List Int) (hB0 : 0 < B)
    (hl : l.length = N) (hj1 : 1 ≤ j) (hjN : j < N) (hq : min B (N - j) = q) (hch : ((dif k l).drop (j - 1)).take q = ch)
    (hps : ∀ t, t < P → partOk W ch ls S q t (ps.getD t (0, []))) (hpl : ps.length = P) (hmn : -9223372036854775808 ≤ ls ∧ ls ≤ 9223372036854775807) (hwf : ∀ x ∈ l, k.min ≤ x ∧ x ≤ k.max)
    (HOK : ∀ bb, strOk W P S (N - j) bb → strOk W P S (N - 1) (bs ++ bb)) (HV2 : f :: blksV k f bs = l.take j) :
    (∀ bb, strOk W P S (N - (j + B)) bb → strOk W P S (N - 1) (bs ++ [(ls, ps)] ++ bb)) ∧ (f :: blksV k f (bs ++ [(ls, ps)])).take N = l.take (j + B) ∧ (j + B ≤ N → f :: blksV k f (bs ++ [(ls, ps)]) = l.take (j + B)) := by
  subst hB
  refine gen_round k W P S f (rd l (j - 1 : Nat)) l N j q bs (ls, ps) hB0 hl hj1 hjN hq ⟨hpl, fun p hp => ?_⟩ ?_ hmn ?_ HOK HV2 rfl
  · obtain ⟨i, hi, rfl⟩ := List.getElem_of_mem hp
    have h2 := hps i (by have : ps.length = P := hpl; have : i < ps.length := hi; omega)
    have hi' : i < ps.length := hi
    rw [List.getD_eq_getElem?_getD, List.getElem?_eq_getElem hi'] at h2
    obtain ⟨a, b, c, _⟩ := h2
    refine ⟨a, ?_, b⟩
    have : (ps[i]).2 = _ := c
    show (ps[i]).2.length = S
    rw [this, partI_length]
  · intro t ht
    show (ps.getD t (0, [])).1 = 0
    by_cases c : t < P
    · exact (hps t c).2.2.2 (by omega)
    · rw [List.getD_eq_getElem?_getD, List.getElem?_eq_none (by omega)]; rfl
  · show (walkV k ls _ (ps.flatMap (·.2))).take q = _
    rw [parts_form S q (fun x => rd ch (x : Nat) - ls) ps P hpl (fun i hi => (hps i hi).2.2.1)]
    rw [partI_congr (fun x => rd ch (x : Nat) - ls) (fun p => rd (dif k l) (j - 1 + p : Nat) - ls) (P * S) q (fun x hx => by
      show rd ch (x : Nat) - ls = _
      rw [← hch, rd_take _ _ _ hx, rd_drop])]
    exact form_vals k hk l N j q (P * S) ls _ hl hj1 (by omega) (by omega) (by omega) rfl hwf
theorem parts_len8 (W : Nat) (ch : List Int) (ls : Int) (S q r : Nat) (ps : List DPart) (h : ∀ t, t < r → partOk W ch ls S q t (ps.getD t (0, []))) (hl : ps.length = r) (hW : W ≤ 64) : (partsB ps).length ≤ r * (S * 8) := by
  have h1 : ∀ p ∈ ps, (packLo p.1 p.2).length ≤ S * 8 := fun p hp => by
    obtain ⟨i, hi, rfl⟩ := List.getElem_of_mem hp
    have h2 := h i (by omega)
    rw [List.getD_eq_getElem?_getD, List.getElem?_eq_getElem hi] at h2
    obtain ⟨a, _, c, _⟩ := h2
    have a1 : (ps[i]).1 ≤ W := a
    have c1 : (ps[i]).2.length = S := by
      have : (ps[i]).2 = _ := c
      rw [this, partI_length]
    unfold packLo
    rw [bytesLo_length, c1]
    have := Nat.mul_le_mul_left S (Nat.le_trans a1 hW)
    omega
  have h2 : ∀ qs : List DPart, (∀ p ∈ qs, (packLo p.1 p.2).length ≤ S * 8) → (partsB qs).length ≤ qs.length * (S * 8) := by
    intro qs
    induction qs with
    | nil => intro _; simp [partsB]
    | cons p qs ih =>
      intro hq
      have e : partsB (p :: qs) = packLo p.1 p.2 ++ partsB qs := by simp [partsB]
      have a := hq p (List.mem_cons_self ..)
      have b := ih fun p hp => hq p (List.mem_cons_of_mem _ hp)
      rw [e, List.length_append, List.length_cons, Nat.succ_mul]; omega
  rw [← hl]; exact h2 ps h1
/-- apart: u's block is not v's -/
structure Apt (u v : Value) : Prop where
  mk :: (out : u.ownBlock = none ∨ u.ownBlock ≠ v.ownBlock)
theorem apt_step {W : World} {u v v1 : Value} {base t : Nat} {k : IntKind} {xs : List Int} (h : Apt u v) (ho : Own W base t k u xs) (hat : v1.ownBlock = v.ownBlock ∨ ∃ b, v1.ownBlock = some b ∧ W.heap.size ≤ b) : Apt u v1 := by
  rcases hat with e | ⟨b, e, hb⟩
  · exact ⟨by rw [e]; exact h.out⟩
  · refine ⟨?_⟩
    cases hu : u.ownBlock with
    | none => exact .inl rfl
    | some g =>
      have := own_lt ho.out g hu
      right; rw [e]; intro h2; injection h2 with h2; omega
theorem apt_sym {u v : Value} (h : Apt u v) : Apt v u := by
  refine ⟨?_⟩
  cases hv : v.ownBlock with
  | none => exact .inl rfl
  | some g =>
    right
    rcases h.out with h | h
    · rw [h]; intro e; cases e
    · rw [hv] at h; exact fun e => h e.symm
set_option maxHeartbeats 32000000 in
set_option maxRecDepth 100000 in
theorem deltaBytes32_calls (B P S : Nat) (Am : Option Addr) (nm cm : Nat) (mr : List Int) (A : Option Addr) (N c : Nat) (l : List Int) (W : World) (hC : (Kd.int .i64).C W A N l) (hc : N ≤ c) (hN : N ≤ 100000) (hwf : ∀ x ∈ l, -2147483648 ≤ x ∧ x ≤ 2147483647)
    (hM : (Kd.int .i64).C W Am nm mr) (hcm : nm ≤ cm) (hnm : nm ≤ 100) (hmr : ∀ x ∈ mr, 0 ≤ x ∧ x ≤ 64) (hB : B = P * S) (hB1 : 128 ≤ B) (hB9 : B ≤ 1024) (hS : S % 32 = 0) (hP : 0 < P) (hP9 : P ≤ 32) :
    Calls Tryd.prog 14 #[.int .i64 32, .slice A N c, .agg #[.int .i64 B, .int .i64 P, .slice Am nm cm]] W fun e w' => ∃ v bs, e = .returned v ∧ Own w' W.heap.size 5 .u8 v (hdG B P N (fstI l) ++ blksB bs) ∧ strOk 32 P S (N - 1) bs ∧ (fstI l :: blksV .i32 (fstI l) bs).take N = l ∧ (blksB bs).length ≤ 1000000 ∧ Below W.heap.size W w' := by
  have HLN : Aside0 (l.length = N) := ⟨hC.1⟩
  have HWF := Aside0.mk hwf
  have HMR := Aside0.mk hmr
  have HML : Aside0 (mr.length = nm) := ⟨hM.1⟩
  have HCA : Aside0 (∀ W1, Below W.heap.size W W1 → (Kd.int .i64).C W1 A N l) := ⟨fun W1 h => Kd.C_below hC h⟩
  have HCM : Aside0 (∀ W1, Below W.heap.size W W1 → (Kd.int .i64).C W1 Am nm mr) := ⟨fun W1 h => Kd.C_below hM h⟩
  have hB0 : Below W.heap.size W (W.alloc (.cells #[.int .i64 B, .int .i64 P, .slice Am nm cm] 25)) := (Below.refl _ _).alloc (Nat.le_refl _) _
  have hX0 : (W.alloc (.cells #[.int .i64 B, .int .i64 P, .slice Am nm cm] 25)).cell? ⟨W.heap.size, 0, none⟩ = some (.int .i64 B) ∧ (W.alloc (.cells #[.int .i64 B, .int .i64 P, .slice Am nm cm] 25)).cell? ⟨W.heap.size, 1, none⟩ = some (.int .i64 P) ∧ (W.alloc (.cells #[.int .i64 B, .int .i64 P, .slice Am nm cm] 25)).cell? ⟨W.heap.size, 2, none⟩ = some (.slice Am nm cm) := ⟨(Blk.new W #[.int .i64 B, .int .i64 P, .slice Am nm cm] 25).cell rfl, (Blk.new W #[.int .i64 B, .int .i64 P, .slice Am nm cm] 25).cell rfl, (Blk.new W #[.int .i64 B, .int .i64 P, .slice Am nm cm] 25).cell rfl⟩
  have hlt0 : W.heap.size < (W.alloc (.cells #[.int .i64 B, .int .i64 P, .slice Am nm cm] 25)).heap.size := by simp
  have HVB := Aside0.mk fun W1 => varint_calls B W1 (by omega)
  have HVP := Aside0.mk fun W1 => varint_calls P W1 (by omega)
  have HVN := Aside0.mk fun W1 => varint_calls N W1 (by omega)
  have hlB := varL_len10 B (by omega)
  have hlP := varL_len10 P (by omega)
  have hlN := varL_len10 N (by omega)
  obtain ⟨lB, hlBq⟩ : ∃ x, (varL B).length = x := ⟨_, rfl⟩
  obtain ⟨lP, hlPq⟩ : ∃ x, (varL P).length = x := ⟨_, rfl⟩
  obtain ⟨lN, hlNq⟩ : ∃ x, (varL N).length = x := ⟨_, rfl⟩
  rw [hlBq] at hlB
  rw [hlPq] at hlP
  rw [hlNq] at hlN
  have HLB := Aside0.mk hlBq
  have HLP := Aside0.mk hlPq
  have HLNQ := Aside0.mk hlNq
  have wB : IntKind.u64.wrap (B : Int) = (B : Int) := IntWalk.u64_in _ (by omega)
  have wP : IntKind.u64.wrap (P : Int) = (P : Int) := IntWalk.u64_in _ (by omega)
  have wN : IntKind.u64.wrap (N : Int) = (N : Int) := IntWalk.u64_in _ (by omega)
  have HBQ := Aside0.mk hB
  clear hC hM hwf hmr hlBq hlPq hlNq hB
  go_enter Tryd.func14, Tryd.ntmps14
  go_wp2_with (fail)
  have HB0 := Aside0.mk hB0
  have HX0 := Aside0.mk hX0
  clear hB0 hX0
  generalize W.alloc (.cells #[.int .i64 B, .int .i64 P, .slice Am nm cm] 25) = w1 at *
  have HXA : Aside0 (∀ W1, Below w1.heap.size w1 W1 → W1.cell? ⟨W.heap.size, 0, none⟩ = some (.int .i64 B) ∧ W1.cell? ⟨W.heap.size, 1, none⟩ = some (.int .i64 P) ∧ W1.cell? ⟨W.heap.size, 2, none⟩ = some (.slice Am nm cm)) := ⟨fun W1 h => by
    obtain ⟨a, b, c⟩ := HX0.out
    exact ⟨(h.cell hlt0).trans a, (h.cell hlt0).trans b, (h.cell hlt0).trans c⟩⟩
  have HBd : Aside0 (Below w1.heap.size w1 w1.drew) := ⟨(Below.refl _ _).drew⟩
  go_region_held3 (fun (w9 : World) => w9.cell? ⟨W.heap.size, 0, none⟩ = some (.int .i64 B) ∧ w9.cell? ⟨W.heap.size, 1, none⟩ = some (.int .i64 P) ∧ w9.cell? ⟨W.heap.size, 2, none⟩ = some (.slice Am nm cm))
    (first | exact HXA.out _ HB4.out | exact HXA.out _ HB3.out | exact HXA.out _ HB2.out | exact HXA.out _ HBd.out)
    ((first
      | (go_at_call 36; (with_reducible refine (HVB.out _).mono ?_); rintro e w2 ⟨vB, rfl, ho, hb⟩; (first
        | (have HB3 := Aside0.mk (HB2.out.trans (hb.mono HB2.out.size)); have HRP := Aside0.mk (Kd.C_below HRP0.out hb); have HOB := Aside0.mk (Own.lower ho HB2.out.size))
        | (have HB2 := Aside0.mk (HBd.out.trans (hb.mono HBd.out.size)); have HOB0 := Aside0.mk (Own.lower ho HBd.out.size))); clear ho hb)
      | (go_at_call 36; (with_reducible refine (HVP.out _).mono ?_); rintro e w2 ⟨vP, rfl, ho, hb⟩; obtain ⟨A2, c2, rfl, hc2, hr2⟩ := ho.read; rw [HLP.out] at hc2 hr2; rw [HLP.out]; (first
        | (have HB3 := Aside0.mk (HB2.out.trans (hb.mono HB2.out.size)); have HRP := Aside0.mk hr2; have HOB := Aside0.mk (HOB0.out.below hb))
        | (have HB2 := Aside0.mk (HBd.out.trans (hb.mono HBd.out.size)); have HRP0 := Aside0.mk hr2)); clear ho hb hr2)
      | (refine appendReadStep (w0 := w1) w1.heap.size (by rfl) (.tmp 25) (.tmp 29) 29 5 .u8 1 (by rfl) Tryd.underlying29 infoU8 (by decide) _ (varL B) A2 lP c2 (varL P) (by rfl) (by rfl) HOB.out HB3.out ?hs HRP.out ?hl ?_; (case hs => exact HB3.out.size); (case hl => rw [HLB.out]; omega); intro v4 w4 ho hb hg; have HO4 := Aside0.mk ho; have HB4 := Aside0.mk hb; clear ho hb hg)
      | fail "no arm"))
  have hbw : ∀ W1, Below w1.heap.size w1 W1 → Below W.heap.size W W1 := fun W1 h => HB0.out.trans (h.mono HB0.out.size)
  have HBW := Aside0.mk hbw
  clear hbw
  by_cases hN0 : N = 0
  · have q5 : ((N : Int) == 0) = true := by rw [beq_iff_eq]; omega
    have HN0 := Aside0.mk hN0
    clear hN0
    go_wp2_with (first
      | (go_at_call 36; go_loud (with_reducible refine (HVN.out _).mono ?_); rintro e w5 ⟨v5, rfl, ho, hb⟩; obtain ⟨A5, c5, rfl, hc5, hr5⟩ := ho.read; rw [HLNQ.out] at hc5 hr5; rw [HLNQ.out]; have HR5 := Aside0.mk hr5; have HO5 := Aside0.mk (HO4.out.below hb); have HB5 := Aside0.mk (HB4.out.trans (hb.mono HB4.out.size)); clear ho hb hr5)
      | (at_builtin; (refine appendRead (w0 := w1) w1.heap.size rfl (.tmp 31) (.tmp 35) 29 5 .u8 1 rfl Tryd.underlying29 infoU8 (by decide) v4 (varL B ++ varL P) A5 lN c5 (varL N) rfl rfl HO5.out HB5.out ?hb HR5.out ?hl ?_); (case hb => exact HB5.out.size); (case hl => rw [List.length_append, HLB.out, HLP.out]; omega); intro v6 w6 ho hb hg; have HO6 := Aside0.mk ho; have HB6 := Aside0.mk hb; clear ho hb hg)
      | (at_builtin; (refine appendOwn (w0 := w1) w1.heap.size rfl (.tmp 40) (.tmp 41) 29 5 .u8 1 rfl Tryd.underlying29 infoU8 (by decide) v6 (varL B ++ varL P ++ varL N) 0 rfl rfl HO6.out HB6.out ?hb ?hl ?_); (case hb => exact HB6.out.size); (case hl => rw [List.length_append, List.length_append, HLB.out, HLP.out, HLNQ.out]; omega); intro v7 w7 ho hb hg; have HO7 := Aside0.mk ho; have HB7 := Aside0.mk hb; clear ho hb hg))
    go_ret
    have hl0 : l = [] := List.eq_nil_of_length_eq_zero (by rw [HLN.out, HN0.out])
    refine ⟨_, [], rfl, ?_, by rw [HN0.out]; rfl, by rw [HN0.out, hl0]; rfl, by simp [blksB], HBW.out _ HB7.out⟩
    have h := Own.lower HO7.out (Nat.le_of_lt hlt0)
    have e : hdG B P N (fstI l) ++ blksB [] = varL B ++ varL P ++ varL N ++ [0] := by
      rw [hl0]
      show hdG B P N 0 ++ blksB [] = _
      unfold hdG
      rw [show zz 0 = 0 by decide, varL_lo (n := 0) (by omega)]
      simp [blksB]
    rw [e]; exact h
  have q5 : ((N : Int) == 0) = false := by rw [beq_eq_false_iff_ne]; omega
  obtain ⟨ad, ead, hcell0⟩ := Kd.at_int (HCA.out W (Below.refl _ _)) 0 (by omega) (by omega)
  subst ead
  clear hcell0
  have had : ad.add 0 = ad := by simp [Addr.add]
  have HCE : Aside0 (∀ W1, Below W.heap.size W W1 → ∀ j : Nat, j < N → W1.cell? (ad.add j) = some (.int .i64 (rd l (j : Nat)))) := ⟨fun W1 h j hj => by
    obtain ⟨ad', e, hc⟩ := Kd.at_int (HCA.out W1 h) (j : Int) (by omega) (by omega)
    injection e with e
    subst e
    rw [Int.toNat_natCast] at hc; exact hc⟩
  obtain ⟨f, hf⟩ : ∃ f, rd l ((0 : Nat) : Int) = f := ⟨_, rfl⟩
  have hfm := HWF.out f (by rw [← hf]; exact rd_mem (by rw [HLN.out]; omega))
  have HFI : Aside0 (fstI l = f) := ⟨by
    have h1 := HLN.out
    cases l with
    | nil => simp at h1; omega
    | cons x l => rw [← hf]; rfl⟩
  have HCF : Aside0 (∀ W1, Below W.heap.size W W1 → W1.cell? ad = some (.int .i64 f)) := ⟨fun W1 h => by have := HCE.out W1 h 0 (by omega); rw [had, hf] at this; exact this⟩
  have HZF := Aside0.mk fun W1 => zigzag_calls f (by omega) (by omega) W1
  obtain ⟨z, hz⟩ : ∃ z, zz f = z := ⟨_, rfl⟩
  have hz9 := zz_lt f (by omega) (by omega)
  rw [hz] at HZF hz9
  have HVZ := Aside0.mk fun W1 => varint_calls z W1 hz9
  have hlz := varL_len10 z hz9
  obtain ⟨lz, hlzq⟩ : ∃ x, (varL z).length = x := ⟨_, rfl⟩
  rw [hlzq] at hlz
  have HLZ := Aside0.mk hlzq
  have HZQ := Aside0.mk hz
  have HFQ := Aside0.mk hf
  clear had hz hlzq hf
  go_wp2_with (first
    | (go_at_call 37; go_loud (with_reducible refine (HZF.out _).mono ?_); rintro e w7 ⟨rfl, rfl⟩)
    | (go_at_call 36; (first
      | ((with_reducible refine (HVZ.out w6).mono ?_); rintro e w8 ⟨v8, rfl, ho, hb⟩; obtain ⟨A8, c8, rfl, hc8, hr8⟩ := ho.read; rw [HLZ.out] at hc8 hr8; rw [HLZ.out]; have HR8 := Aside0.mk hr8; have HO8 := Aside0.mk (HO6.out.below hb); have HB8 := Aside0.mk (HB6.out.trans (hb.mono HB6.out.size)); clear ho hb hr8)
      | ((with_reducible refine (HVN.out _).mono ?_); rintro e w5 ⟨v5, rfl, ho, hb⟩; obtain ⟨A5, c5, rfl, hc5, hr5⟩ := ho.read; rw [HLNQ.out] at hc5 hr5; rw [HLNQ.out]; have HR5 := Aside0.mk hr5; have HO5 := Aside0.mk (HO4.out.below hb); have HB5 := Aside0.mk (HB4.out.trans (hb.mono HB4.out.size)); clear ho hb hr5)))
    | (at_builtin; (refine appendRead (w0 := w1) w1.heap.size rfl (.tmp 31) (.tmp 35) 29 5 .u8 1 rfl Tryd.underlying29 infoU8 (by decide) v4 (varL B ++ varL P) A5 lN c5 (varL N) rfl rfl HO5.out HB5.out ?hb HR5.out ?hl ?_); (case hb => exact HB5.out.size); (case hl => rw [List.length_append, HLB.out, HLP.out]; omega); intro v6 w6 ho hb hg; have HO6 := Aside0.mk ho; have HB6 := Aside0.mk hb; have hcf := HCF.out w6 (HBW.out w6 hb); clear ho hb hg)
    | (at_builtin; (refine appendRead (w0 := w1) w1.heap.size rfl (.tmp 43) (.tmp 48) 29 5 .u8 1 rfl Tryd.underlying29 infoU8 (by decide) v6 (varL B ++ varL P ++ varL N) A8 lz c8 (varL z) rfl rfl HO8.out HB8.out ?hb HR8.out ?hl ?_); (case hb => exact HB8.out.size); (case hl => rw [List.length_append, List.length_append, HLB.out, HLP.out, HLNQ.out]; omega); intro v9 w9 ho hb hg; have HO9 := Aside0.mk ho; have HB9 := Aside0.mk hb; clear ho hb hg))
  have HO9' : Aside0 (Own w9 w1.heap.size 5 .u8 v9 (hdG B P N f)) := ⟨by have := HO9.out; rw [← HZQ.out] at this; exact this⟩
  have HD0 : Aside0 (Own w9 w9.heap.size 2 .i64 (.slice none 0 0) ((dif .i32 l).take (1 - 1))) := ⟨Own.nil _ _ _ _⟩
  have HDB0 : Aside0 (Below w9.heap.size w9 w9) := ⟨Below.refl _ _⟩
  have HBW9 := Aside0.mk (HBW.out w9 HB9.out)
  clear HO4 HB4 HO5 HB5 HO6 HB6 HO8 HB8 HO9 HR5 HR8 HOB HRP HB3 hcf
  go_loopg [8, 9] N (fun kq v8 v9 w' => ∃ i : Nat, 1 ≤ i ∧ i ≤ N ∧ v9 = .int .i64 i ∧ Aside0 (Own w' w9.heap.size 2 .i64 v8 ((dif .i32 l).take (i - 1))) ∧ Aside0 (Below w9.heap.size w9 w') ∧ Aside0 (N - i ≤ kq))
  case atStart => exact ⟨1, by omega, by omega, rfl, HD0, HDB0, ⟨by omega⟩⟩
  case round =>
    clear HD0 HDB0
    obtain ⟨i, hi1, hiN, rfl, HD, HDB, HK⟩ := hrel
    by_cases ci : i < N
    · have cib : decide ((i : Int) < (N : Int)) = true := decide_eq_true (by omega)
      have cibn : decide (i < N) = true := decide_eq_true ci
      have hcur : Below W.heap.size W wr := HBW9.out.trans (HDB.out.mono HBW9.out.size)
      have x1 := HCE.out wr hcur i ci
      have x0 := HCE.out wr hcur (i - 1) (by omega)
      obtain ⟨a, ha⟩ : ∃ a, rd l (i : Nat) = a := ⟨_, rfl⟩
      obtain ⟨b, hb⟩ : ∃ b, rd l ((i - 1 : Nat) : Int) = b := ⟨_, rfl⟩
      rw [ha] at x1
      rw [hb] at x0
      obtain ⟨j, hj⟩ : ∃ j, i - 1 = j := ⟨_, rfl⟩
      rw [hj] at x0 hb HD
      have hjI : (i : Int) - 1 = (j : Int) := by omega
      obtain ⟨u1, hu1⟩ : ∃ u, IntKind.u64.wrap a = u := ⟨_, rfl⟩
      obtain ⟨u2, hu2⟩ : ∃ u, IntKind.u64.wrap b = u := ⟨_, rfl⟩
      obtain ⟨u3, hu3⟩ : ∃ u, IntKind.u64.wrap (u1 - u2) = u := ⟨_, rfl⟩
      obtain ⟨y, hy⟩ : ∃ y, IntKind.i32.wrap (a - b) = y := ⟨_, rfl⟩
      have hyu : IntKind.i32.wrap u3 = y := by
        rw [← hy, ← hu3, ← hu2, ← hu1, IntKind.wrap_u64, IntKind.wrap_u64, IntKind.wrap_u64, IntKind.wrap_i32, IntKind.wrap_i32]; omega
      have hu39 : 0 ≤ u3 ∧ u3 < 18446744073709551616 := by rw [← hu3, IntKind.wrap_u64]; omega
      have HCT := Aside0.mk fun W1 => cutTo32_calls u3 hu39.1 hu39.2 W1
      rw [hyu] at HCT
      have HTK : Aside0 ((dif .i32 l).take i = (dif .i32 l).take j ++ [y]) := ⟨by
        have := dif_take .i32 l j (by rw [HLN.out]; omega)
        rw [show j + 1 = i by omega, ha, hb, hy] at this; exact this⟩
      have qi0 : (0 : Int) ≤ (i : Int) := by omega
      have qiN : (i : Int) < (N : Int) := by omega
      have qj0 : (0 : Int) ≤ (j : Int) := by omega
      have qjN : (j : Int) < (N : Int) := by omega
      have wj : IntKind.i64.wrap (j : Int) = (j : Int) := IntWalk.i64_in _ (by omega)
      have qjT : (0 ≤ (j : Int)) = True := eq_true qj0
      have qjT2 : ((j : Int) < (N : Int)) = True := eq_true qjN
      have qjT3 : (j < N) = True := eq_true (by omega)
      have qiT : (0 ≤ (i : Int)) = True := eq_true qi0
      have qiT2 : ((i : Int) < (N : Int)) = True := eq_true qiN
      have qiT3 : (i < N) = True := eq_true ci
      have HJ := Aside0.mk hj
      have hdl : ((dif .i32 l).take j).length ≤ 100000 := by rw [List.length_take]; omega
      have HU := Aside0.mk hu1
      have HAQ := Aside0.mk ha
      have HBQ2 := Aside0.mk hb
      have HCUR := Aside0.mk hcur
      clear ha hb hj hy hyu hu39 hcur
      go_wp2_with (fail)
      have HXI : Aside0 (∀ W1, Below W.heap.size W W1 → W1.cell? (ad.add i) = some (.int .i64 a) ∧ W1.cell? (ad.add j) = some (.int .i64 b)) := ⟨fun W1 h => by
        have h1 := HCE.out W1 h i ci
        have h0 := HCE.out W1 h j (by omega)
        rw [HAQ.out] at h1
        rw [HBQ2.out] at h0
        exact ⟨h1, h0⟩⟩
      have HBA : Aside0 (Below W.heap.size W (wr.alloc (.cells #[.int .i64 y] 2)).drew) := ⟨(HCUR.out.alloc HCUR.out.size _).drew⟩
      have HDA : Aside0 (Own (wr.alloc (.cells #[.int .i64 y] 2)).drew w9.heap.size 2 .i64 u8 ((dif .i32 l).take j)) := ⟨(HD.out.alloc _).drewN 1⟩
      have HDBA : Aside0 (Below w9.heap.size w9 (wr.alloc (.cells #[.int .i64 y] 2)).drew) := ⟨(HDB.out.alloc HDB.out.size _).drew⟩
      have HRA : Aside0 ((Kd.int .i64).C (wr.alloc (.cells #[.int .i64 y] 2)).drew (some ⟨wr.heap.size, 0, none⟩) 1 [y]) := ⟨rowC (Row.drewN (show Row (wr.alloc (.cells #[.int .i64 y] 2)) wr.heap.size 2 .i64 [y] from ⟨Blk.new wr _ _⟩) 1) rfl (by omega)⟩
      go_region_held3 (fun (w0 : World) => w0.cell? (ad.add i) = some (.int .i64 a) ∧ w0.cell? (ad.add j) = some (.int .i64 b))
        (first | exact HXI.out _ HB3.out | exact HXI.out _ HBA.out | exact ⟨x1, x0⟩)
        ((first
          | (go_at_call 38; (with_reducible refine (HCT.out _).mono ?_); rintro e w2 ⟨rfl, rfl⟩)
          | (refine appendReadStep (w0 := w9) w9.heap.size (by rfl) (.tmp 56) (.tmp 71) 22 2 .i64 8 (by rfl) Tryd.underlying22 infoI64z (by decide) u8 ((dif .i32 l).take j) (some ⟨wr.heap.size, 0, none⟩) 1 1 [y] (by rfl) (by rfl) HDA.out HDBA.out ?hs HRA.out ?hl ?_; (case hs => exact HDBA.out.size); (case hl => omega); intro v3 w3 ho hb hg; have HD3 := Aside0.mk ho; have HDB3 := Aside0.mk hb; have HB3 := Aside0.mk (HBW9.out.trans (hb.mono HBW9.out.size)); clear ho hb hg)
          | fail "no arm"))
      go_wp2_with (fail)
      go_roundg (gk - 1)
      case measure => have := HK.out; omega
      case rel => exact ⟨i + 1, by omega, by omega, by go_num, ⟨by rw [show i + 1 - 1 = i by omega, HTK.out]; exact HD3.out⟩, HDB3, ⟨by have := HK.out; omega⟩⟩
    · obtain rfl : i = N := by omega
      have cib : decide ((i : Int) < (i : Int)) = false := decide_eq_false (by omega)
      go_wp2_with (fail)
      have hDl : (dif .i32 l).length = i - 1 := by rw [dif_length, HLN.out]
      have hDD := HD.out
      rw [List.take_of_length_le (by omega)] at hDD
      have HOD : Aside0 (Own wr w1.heap.size 5 .u8 v9 (hdG B P i f)) := ⟨HO9'.out.below HDB.out⟩
      obtain ⟨LH, hLH⟩ : ∃ LH, (hdG B P i f).length = LH := ⟨_, rfl⟩
      have hLH0 : 0 < LH := by rw [← hLH]; unfold hdG; simp only [List.length_append]; have := varL_pos B; omega
      have hLH9 : LH ≤ 40 := by rw [← hLH]; unfold hdG; simp only [List.length_append, HLB.out, HLP.out, HLNQ.out, HZQ.out, HLZ.out]; omega
      have hown9 := own_lt HO9'.out.out
      obtain ⟨g7, C7, rfl, hg7, _, _⟩ : ∃ g C, v9 = .slice (some ⟨g, 0, none⟩) LH C ∧ w1.heap.size ≤ g ∧ C ≤ 9223372036854775807 ∧ Front wr g C 5 .u8 (hdG B P i f) := by
        rcases own_front HOD.out with ⟨_, e⟩ | h
        · rw [e] at hLH; simp at hLH; omega
        · rw [hLH] at h; exact h
      have hg79 : g7 < w9.heap.size := hown9 g7 rfl
      obtain ⟨Ad, cd, rfl, hcd, hkd⟩ := hDD.keep hg79
      rw [hDl] at hcd hkd ⊢
      have HKD : Aside0 (∀ W1, wr.grownBy W1 (some g7) → (Kd.int .i64).C W1 Ad (i - 1) ((dif .i32 l).drop (1 - 1))) := ⟨fun W1 h => hkd W1 h⟩
      have HBD0 : Aside0 (Below w1.heap.size w1 wr) := ⟨HB9.out.trans (HDB.out.mono HB9.out.size)⟩
      have HLHQ := Aside0.mk hLH
      have HG0 : Aside0 (wr.grownBy wr (some g7)) := ⟨grownRefl _ _⟩
      have HV0 : Aside0 (f :: blksV .i32 f [] = l.take 1) := ⟨by
        have h1 := HLN.out; have h2 := HFQ.out
        cases l with
        | nil => simp at h1; omega
        | cons x l => rw [show x = f from h2]; simp [blksV]⟩
      have hgsz : w9.heap.size ≤ wr.heap.size := HDB.out.size
      clear hDD hkd hDl hown9 hLH HD HDB HO9' HBW9 cib HVB HVP HVN HZF HVZ HCF q5 ci hiN hi1
      generalize wr = wD at *
      go_loopg [7, 8, 10, 11, 12, 14, 15, 16, 17, 18, 19, 20, 21] (i + B) (fun kq v7 v8 v10 v11 v12 v14 v15 v16 v17 v18 v19 v20 v21 w' => ∃ (j pt nd cd : Nat) (Ad : Option Addr) (last : Int) (bs : List DBlk), v8 = .slice Ad nd cd ∧ nd ≤ cd ∧ v10 = .int .i64 pt ∧ pt ≤ j ∧ 1 ≤ j ∧ j ≤ i + B ∧ nd = i - j ∧ Aside0 (∀ W1, wD.grownBy W1 (some g7) → (Kd.int .i64).C W1 Ad nd ((dif .i32 l).drop (j - 1))) ∧ Aside0 (∀ bb, strOk 32 P S (i - j) bb → strOk 32 P S (i - 1) (bs ++ bb)) ∧ Aside0 ((f :: blksV .i32 f bs).take i = l.take j) ∧ Aside0 (j ≤ i → f :: blksV .i32 f bs = l.take j) ∧ Aside0 ((blksB bs).length ≤ 9 * j) ∧ Aside0 (Own w' w1.heap.size 5 .u8 v7 (hdG B P i f ++ blksB bs)) ∧ Aside0 (wD.grownBy w' (some g7)) ∧ Aside0 (v7.ownBlock = some g7 ∨ ∃ b, v7.ownBlock = some b ∧ wD.heap.size ≤ b) ∧ Aside0 (Below w1.heap.size w1 w') ∧ Aside0 (i + B - j ≤ kq))
      case atStart => exact ⟨1, 0, i - 1, cd, Ad, f, [], rfl, hcd, rfl, by omega, by omega, by omega, rfl, HKD, ⟨fun bb h => h⟩, ⟨by rw [HV0.out, List.take_take, Nat.min_eq_right (by omega)]⟩, ⟨fun _ => HV0.out⟩, ⟨by simp [blksB]⟩, ⟨by simpa [blksB] using HOD.out⟩, HG0, ⟨.inl rfl⟩, HBD0, ⟨by omega⟩⟩
      case round =>
        clear HKD HG0 HOD HBD0 HV0 hcd
        obtain ⟨j, pt, nd, cd, Ad, last, bs, rfl, hcd, rfl, hpt, hj1, hj, hnd, HKD, HOK, HV, HV2, HBL, HO, HG, HHT, HB, HK⟩ := hrel
        by_cases cj : j < i
        · have cjb : decide (0 < (nd : Int)) = true := decide_eq_true (by omega)
          have cjbn : decide (0 < nd) = true := decide_eq_true (by omega)
          obtain ⟨m, hm⟩ : ∃ m, min B nd = m := ⟨_, rfl⟩
          have hm0 : 0 < m := by omega
          have hmB : m ≤ B := by omega
          have hmn : m ≤ nd := by omega
          have hmI : min (B : Int) (nd : Int) = (m : Int) := by omega
          obtain ⟨x0, x1, x2⟩ := HXA.out wr HB.out
          obtain ⟨ad2, ead2, _⟩ := Kd.at_int (HKD.out wr HG.out) 0 (by omega) (by omega)
          subst ead2
          obtain ⟨i64, h64⟩ : ∃ i, (Tryd.prog.info? 2) = some i ∧ i.size = 1 := Option.map_eq_some_iff.1 (show (Tryd.prog.info? 2).map (fun i => i.size) = some 1 by kernel_rfl)
          obtain ⟨cut1, hC1⟩ := cutHi (P := Tryd.prog) 22 2 Tryd.underlying22 h64.1 (some ad2) nd cd .i64 (m : Int) m rfl hmn hcd
          obtain ⟨A2, cut2, hC2⟩ := cutLo (P := Tryd.prog) 22 2 Tryd.underlying22 h64.1 h64.2 (some ad2) nd cd .i64 (m : Int) m rfl hmn hcd
          obtain ⟨ch, hch⟩ : ∃ ch, ((dif .i32 l).drop (j - 1)).take m = ch := ⟨_, rfl⟩
          have HCH : Aside0 (∀ W1, wD.grownBy W1 (some g7) → (Kd.int .i64).C W1 (some ad2) m ch) := ⟨fun W1 h => by have := hC1 (Kd.int .i64) W1 _ (HKD.out W1 h); rw [hch] at this; exact this⟩
          have HKD2 : Aside0 (∀ W1, wD.grownBy W1 (some g7) → (Kd.int .i64).C W1 A2 (nd - m) ((dif .i32 l).drop (j - 1 + m))) := ⟨fun W1 h => by have := hC2 (Kd.int .i64) W1 _ rfl (HKD.out W1 h); rw [List.drop_drop] at this; exact this⟩
          have hchl : ch.length = m := (HCH.out wr HG.out).1
          have had2 : ad2.add 0 = ad2 := by simp [Addr.add]
          have HCC : Aside0 (∀ W1, wD.grownBy W1 (some g7) → ∀ q : Nat, q < m → W1.cell? (ad2.add q) = some (.int .i64 (rd ch (q : Nat)))) := ⟨fun W1 h q hq => by
            obtain ⟨ad', e, hc⟩ := Kd.at_int (HCH.out W1 h) (q : Int) (by omega) (by omega)
            injection e with e
            subst e
            rw [Int.toNat_natCast] at hc; exact hc⟩
          have c00 := HCC.out wr HG.out 0 hm0
          rw [had2] at c00
          obtain ⟨y0, hy0⟩ : ∃ y, rd ch ((0 : Nat) : Int) = y := ⟨_, rfl⟩
          rw [hy0] at c00
          have hm9 : m ≤ 1024 := by omega
          have HM := Aside0.mk hm
          have HCHQ := Aside0.mk hch
          have HCHL := Aside0.mk hchl
          have HY0 := Aside0.mk hy0
          have HND := Aside0.mk hnd
          have hndm : nd - m ≤ cd - m := by omega
          have hn9 : nd ≤ 100000 := by omega
          clear hm hC1 hC2 hch hchl had2 hy0 HKD hnd
          obtain ⟨gk0, rfl⟩ : ∃ gk0, gk = gk0 + 1 := ⟨gk - 1, by have := HK.out; omega⟩
          have qm0 : decide (0 < (m : Int)) = true := decide_eq_true (by omega)
          have qm0n : decide (0 < m) = true := decide_eq_true hm0
          have qm0I : (0 : Int) < (m : Int) := by omega
          go_wp2_with (fail)
          go_loopg [12, 14, 92] m (fun kq v12 v14 v92 w' => ∃ (q : Nat) (ls : Int), q ≤ m ∧ v92 = .int .i64 q ∧ v12 = .int .i64 ls ∧ wr = w' ∧ Aside0 (∀ p : Nat, p < q → ls ≤ rd ch (p : Nat)) ∧ Aside0 (∃ p : Nat, p < m ∧ ls = rd ch (p : Nat)) ∧ Aside0 (m - q ≤ kq))
          case atStart => exact ⟨0, y0, by omega, rfl, rfl, rfl, ⟨fun p hp => by omega⟩, ⟨⟨0, hm0, HY0.out.symm⟩⟩, ⟨by omega⟩⟩
          case round =>
            obtain ⟨q, ls, hq, rfl, rfl, rfl, HLE, HEX, HK3⟩ := hrel
            by_cases cq : q < m
            · have cqb : decide ((q : Int) < (m : Int)) = true := decide_eq_true (by omega)
              have cqbn : decide (q < m) = true := decide_eq_true cq
              have cc := HCC.out wr HG.out q cq
              obtain ⟨x, hx⟩ : ∃ x, rd ch (q : Nat) = x := ⟨_, rfl⟩
              rw [hx] at cc
              obtain ⟨y, hy⟩ : ∃ y, min ls x = y := ⟨_, rfl⟩
              have HX := Aside0.mk hx
              have HYM := Aside0.mk hy
              clear hx
              go_wp2_with (fail)
              go_roundg (gk - 1)
              case measure => have := HK3.out; omega
              case rel =>
                refine ⟨q + 1, y, by omega, by go_num, rfl, rfl, ⟨fun p hp => ?_⟩, ⟨?_⟩, ⟨by have := HK3.out; omega⟩⟩
                · have hy := HYM.out
                  by_cases h : p < q
                  · have := HLE.out p h; omega
                  · obtain rfl : p = q := by omega
                    rw [HX.out]; omega
                · have hy := HYM.out
                  rcases Int.le_total ls x with h | h
                  · rw [Int.min_eq_left h] at hy; subst hy; exact HEX.out
                  · rw [Int.min_eq_right h] at hy; subst hy; exact ⟨q, cq, HX.out.symm⟩
            · obtain rfl : q = m := by omega
              have cqb : decide ((q : Int) < (q : Int)) = false := decide_eq_false (by omega)
              have cqbn : decide (q < q) = false := decide_eq_false (by omega)
              clear HY0 HK3 hm0
              have hlsR : -2147483648 ≤ ls ∧ ls ≤ 2147483647 := by
                obtain ⟨p, hp, e⟩ := HEX.out
                have hmem : ls ∈ dif .i32 l := by
                  have h1 : ls ∈ ch := by rw [e]; exact rd_mem (by rw [HCHL.out]; exact hp)
                  rw [← HCHQ.out] at h1
                  exact List.mem_of_mem_drop (List.mem_of_mem_take h1)
                obtain ⟨y, hy⟩ := rd_dif_bd .i32 l ls hmem
                rw [hy, IntKind.wrap_i32]; omega
              have HZL := Aside0.mk fun W1 => zigzag_calls ls (by omega) (by omega) W1
              have hzl9 := zz_lt ls (by omega) (by omega)
              obtain ⟨zl, hzl⟩ : ∃ z, zz ls = z := ⟨_, rfl⟩
              rw [hzl] at HZL hzl9
              have HVL := Aside0.mk fun W1 => varint_calls zl W1 hzl9
              have hlv := varL_len10 zl hzl9
              obtain ⟨lv, hlvq⟩ : ∃ x, (varL zl).length = x := ⟨_, rfl⟩
              rw [hlvq] at hlv
              have HLV := Aside0.mk hlvq
              have HZLQ := Aside0.mk hzl
              have HLL : Aside0 ((hdG B P i f ++ blksB bs).length ≤ 2000000) := ⟨by rw [List.length_append, HLHQ.out]; have := HBL.out; omega⟩
              clear hzl hlvq
              go_wp2_with (first
                | (go_at_call 37; go_loud (with_reducible refine (HZL.out _).mono ?_); rintro e w7 ⟨rfl, rfl⟩)
                | (go_at_call 36; (with_reducible refine (HVL.out _).mono ?_); rintro e w8 ⟨v8, rfl, ho, hb⟩; obtain ⟨A8, c8, rfl, hc8, hr8⟩ := ho.read; rw [HLV.out] at hc8 hr8; rw [HLV.out]; have HR8 := Aside0.mk hr8; have HO8 := Aside0.mk (HO.out.below hb); have HB8 := Aside0.mk (HB.out.trans (hb.mono HB.out.size)); have HG8 := Aside0.mk (HG.out.trans (grownNew hb _)); have hsz8 := hb.size; clear ho hb hr8)
                | (at_builtin; (refine appendReadH (w0 := w1) w1.heap.size rfl (.tmp 100) (.tmp 103) 29 5 .u8 1 rfl Tryd.underlying29 infoU8 (by decide) u7 (hdG B P i f ++ blksB bs) A8 lv c8 (varL zl) rfl rfl HO8.out HB8.out ?hb HR8.out ?hl ?_); (case hb => exact HB8.out.size); (case hl => have := HLL.out; omega); intro v9 w9 ho hb hg hat; have HO9 := Aside0.mk ho; have HB9 := Aside0.mk hb; have HG9 := Aside0.mk (grown_step HG8.out hg HHT.out); have HH9 := Aside0.mk (hat_step HG8.out.size HHT.out hat); have hx9 := HXA.out w9 hb; obtain ⟨x90, x91, x92⟩ := hx9; clear ho hb hg hat))
              clear HO HG HHT HB HO8 HB8 HG8 HR8 x0 x1 x2 c00
              have HP0 : Aside0 (Own w9 w9.heap.size 5 .u8 (.slice none 0 0) (natsI (([] : List DPart).map (·.1)))) := ⟨Own.nil _ _ _ _⟩
              have HQ0 : Aside0 (Own w9 w9.heap.size 5 .u8 (.slice none 0 0) (partsB [])) := ⟨Own.nil _ _ _ _⟩
              have HBB0 : Aside0 (Below w9.heap.size w9 w9) := ⟨Below.refl _ _⟩
              have HCH0 : Aside0 (∀ W1, wD.grownBy W1 (some g7) → (Kd.int .i64).C W1 (some ad2) q (ch.drop (0 * S))) := ⟨fun W1 h => by rw [Nat.zero_mul, List.drop_zero]; exact HCH.out W1 h⟩
              have HAP0 : Aside0 (Apt (.slice none 0 0) (.slice none 0 0)) := ⟨⟨.inl rfl⟩⟩
              have hS0 : 0 < S := by
                rcases Nat.eq_zero_or_pos S with h | h
                · have := HBQ.out; subst h; omega
                · exact h
              have hqc : q ≤ cd := by omega
              go_loopg [10, 11, 15, 16, 17, 18, 19, 20, 21, 107] P (fun kq v10 v11 v15 v16 v17 v18 v19 v20 v21 v107 w' => ∃ (r pq nb cb : Nat) (Ab : Option Addr) (ps : List DPart), r ≤ P ∧ v107 = .int .i64 r ∧ v11 = .slice Ab nb cb ∧ nb ≤ cb ∧ Aside0 (nb = q - r * S) ∧ v10 = .int .i64 pq ∧ pq ≤ pt + r ∧ Aside0 (ps.length = r) ∧ Aside0 (∀ W1, wD.grownBy W1 (some g7) → (Kd.int .i64).C W1 Ab nb (ch.drop (r * S))) ∧ Aside0 (∀ t, t < r → partOk 32 ch ls S q t (ps.getD t (0, []))) ∧ Aside0 (Own w' w9.heap.size 5 .u8 v15 (natsI (ps.map (·.1)))) ∧ Aside0 (Own w' w9.heap.size 5 .u8 v16 (partsB ps)) ∧ Aside0 (Apt v15 v16) ∧ Aside0 (Below w9.heap.size w9 w') ∧ Aside0 (P - r ≤ kq))
              case atStart => exact ⟨0, pt, q, cd, some ad2, [], by omega, rfl, rfl, hqc, ⟨by omega⟩, rfl, by omega, ⟨rfl⟩, HCH0, ⟨fun t ht => by omega⟩, HP0, HQ0, HAP0, HBB0, ⟨by omega⟩⟩
              case round =>
                clear HP0 HQ0 HAP0 HBB0 HCH0 hqc
                obtain ⟨r, pq, nb, cb, Ab, ps, hr, rfl, rfl, hcb, HNB, rfl, hpq, HPSL, HCB, HPS, HOW, HOD, HAPT, HBB, HK4⟩ := hrel
                generalize wr = wq at *
                have hHB := HB9.out.trans (HBB.out.mono HB9.out.size)
                by_cases cr : r < P
                · have crb : decide ((r : Int) < (P : Int)) = true := decide_eq_true (by omega)
                  have crbn : decide (r < P) = true := decide_eq_true cr
                  obtain ⟨gk4, rfl⟩ : ∃ gk4, gk = gk4 + 1 := ⟨gk - 1, by have := HK4.out; omega⟩
                  obtain ⟨z0, z1, z2⟩ := HXA.out wq hHB
                  have hP0I : (P : Int) ≠ 0 := by omega
                  have hBqt : (B : Int).tdiv (P : Int) = (S : Int) := by rw [HBQ.out, Int.natCast_mul, Int.mul_tdiv_cancel_left _ hP0I]
                  have hBqe : (B : Int) / (P : Int) = (S : Int) := by rw [HBQ.out, Int.natCast_mul, Int.mul_ediv_cancel_left _ hP0I]
                  have hS9 : S ≤ 1024 := by
                    have h1 := HBQ.out
                    have h2 := Nat.mul_le_mul_right S hP
                    omega
                  have wS : IntKind.i64.wrap (S : Int) = (S : Int) := IntWalk.i64_in _ (by omega)
                  obtain ⟨mo, hmo⟩ : ∃ m, min S nb = m := ⟨_, rfl⟩
                  have hmoI : min (S : Int) (nb : Int) = (mo : Int) := by omega
                  have hmoS : mo ≤ S := by omega
                  have hmon : mo ≤ nb := by omega
                  have hnb9 : nb ≤ 1024 := by have := HNB.out; omega
                  obtain ⟨cut3, hC3⟩ := cutHi (P := Tryd.prog) 22 2 Tryd.underlying22 h64.1 Ab nb cb .i64 (mo : Int) mo rfl hmon hcb
                  obtain ⟨A4, cut4, hC4⟩ := cutLo (P := Tryd.prog) 22 2 Tryd.underlying22 h64.1 h64.2 Ab nb cb .i64 (mo : Int) mo rfl hmon hcb
                  have HREST : Aside0 (∀ W1, wD.grownBy W1 (some g7) → (Kd.int .i64).C W1 A4 (nb - mo) (ch.drop ((r + 1) * S))) := ⟨fun W1 h => by
                    have h1 := hC4 (Kd.int .i64) W1 _ rfl (HCB.out W1 h)
                    rw [rest_cut ch r S q mo HCHL.out (by rw [← HNB.out]; exact hmo) (by have := HNB.out; omega)] at h1
                    exact h1⟩
                  have hcb2 : nb - mo ≤ cb - mo := by omega
                  have HNB2 : Aside0 (nb - mo = q - (r + 1) * S) := ⟨by have := HNB.out; rw [Nat.succ_mul]; omega⟩
                  have HMO := Aside0.mk hmo
                  have HOWN : Aside0 (∀ W1, wD.grownBy W1 (some g7) → (Kd.int .i64).C W1 Ab mo ((ch.drop (r * S)).take mo)) := ⟨fun W1 h => hC3 (Kd.int .i64) W1 _ (HCB.out W1 h)⟩
                  have HHB := Aside0.mk hHB
                  have HWL : Aside0 ((natsI (ps.map (·.1))).length = r) := ⟨by rw [natsI_length, List.length_map]; exact HPSL.out⟩
                  have hr32 : r ≤ 32 := by omega
                  clear hC3 hC4 hmo hHB HCB
                  by_cases cn : nb = 0
                  · have q125 : ((mo : Int) == 0) = true := by rw [beq_iff_eq]; omega
                    have HCN := Aside0.mk cn
                    clear cn
                    go_wp2_with (first
                      | (at_builtin; (refine appendOwnH (w0 := w9) w9.heap.size rfl (.tmp 126) (.tmp 127) 29 5 .u8 1 rfl Tryd.underlying29 infoU8 (by decide) u15 (natsI (ps.map (·.1))) 0 rfl rfl HOW.out HBB.out ?hb ?hl ?_); (case hb => exact HBB.out.size); (case hl => rw [HWL.out]; omega); intro v6 w6 ho hb hg hat; have HOW2 := Aside0.mk ho; have HBB2 := Aside0.mk hb; have HOD2 := Aside0.mk (HOD.out.grown hg (apt_sym HAPT.out).out); have HAP2 := Aside0.mk (apt_sym (apt_step (apt_sym HAPT.out) HOD.out hat)); clear ho hb hg hat))
                    go_roundg gk4
                    case measure => omega
                    case rel =>
                      refine ⟨r + 1, pq, nb - mo, cb - mo, A4, ps ++ [(0, partI (fun x => rd ch (r * S + x : Nat) - ls) S 0)], by omega, by go_num, by go_num, hcb2, HNB2, rfl, by omega, ⟨by rw [List.length_append, HPSL.out]; rfl⟩, HREST, ⟨parts_snoc HPS.out HPSL.out (part_0 _ _ _ _ _ _ (by have h1 := HNB.out; have h2 := HCN.out; omega))⟩, ⟨?_⟩, ⟨?_⟩, HAP2, HBB2, ⟨by have := HK4.out; omega⟩⟩
                      · rw [ws_snoc]; exact HOW2.out
                      · rw [partsB_0]; exact HOD2.out
                  · have q125 : ((mo : Int) == 0) = false := by rw [beq_eq_false_iff_ne]; omega
                    have hmo0 : 0 < mo := by omega
                    have hmk := print_make (P := Tryd.prog) 74 71 .u64 8 Tryd.underlying74 infoU64 (by decide) S (by omega)
                    have HGQ : Aside0 (wD.grownBy wq (some g7)) := ⟨HG9.out.trans (grownNew HBB.out _)⟩
                    obtain ⟨adb, eab, _⟩ := Kd.at_int (HOWN.out wq HGQ.out) 0 (by omega) (by omega)
                    subst eab
                    obtain ⟨fn, hfn⟩ : ∃ fn : Nat → Int, (fun x : Nat => rd ch (r * S + x : Nat) - ls) = fn := ⟨_, rfl⟩
                    have HFN := Aside0.mk hfn
                    have HXS : Aside0 (∀ s : Nat, s < mo → ∃ x : Int, -2147483648 ≤ x ∧ x ≤ 2147483647 ∧ ls ≤ x ∧ fn s = x - ls ∧ (∀ W1, wD.grownBy W1 (some g7) → W1.cell? (adb.add s) = some (.int .i64 x))) := ⟨fun s hs => by
                      have hlen : ((ch.drop (r * S)).take mo).length = mo := (HOWN.out wq HGQ.out).1
                      have hbq : r * S + s < q := by have := HNB.out; omega
                      have hbd : -2147483648 ≤ rd ch (r * S + s : Nat) ∧ rd ch (r * S + s : Nat) ≤ 2147483647 := by
                        have hmem : rd ch (r * S + s : Nat) ∈ dif .i32 l := by
                          have h1 : rd ch (r * S + s : Nat) ∈ ch := rd_mem (by rw [HCHL.out]; exact hbq)
                          rw [← HCHQ.out] at h1
                          rw [← HCHQ.out]
                          exact List.mem_of_mem_drop (List.mem_of_mem_take h1)
                        obtain ⟨y, hy⟩ := rd_dif_bd .i32 l _ hmem
                        rw [hy, IntKind.wrap_i32]; omega
                      refine ⟨rd ch (r * S + s : Nat), hbd.1, hbd.2, HLE.out _ hbq, by rw [← hfn], fun W1 h => ?_⟩
                      obtain ⟨ad', e, hc⟩ := Kd.at_int (HOWN.out W1 h) (s : Int) (by omega) (by omega)
                      injection e with e
                      subst e
                      rw [Int.toNat_natCast, rd_take _ _ _ (by omega), rd_drop] at hc
                      exact hc⟩
                    clear hfn
                    go_wp2_with (fail)
                    have HR0 : Aside0 (Row (wq.alloc (.cells (madeCells #[.int .u64 0] S) 71)) wq.heap.size 71 .u64 (partI fn S 0)) := ⟨by rw [partI_zero]; exact madeRow wq _ .u64 S⟩
                    have HBN0 : Aside0 (Below wq.heap.size wq (wq.alloc (.cells (madeCells #[.int .u64 0] S) 71))) := ⟨(Below.refl _ _).alloc (Nat.le_refl _) _⟩
                    generalize wq.alloc (.cells (madeCells #[.int .u64 0] S) 71) = wm at *
                    clear hmk
                    go_loopg [19, 20, 21, 137] mo (fun kq v19 v20 v21 v137 w' => ∃ (s wd : Nat), s ≤ mo ∧ v137 = .int .i64 s ∧ v19 = .int .i64 wd ∧ wd ≤ 32 ∧ Aside0 (Row w' wq.heap.size 71 .u64 (partI fn S s)) ∧ Aside0 (∀ x : Nat, x < s → ∃ y : Nat, fn x = (y : Int) ∧ y < 2 ^ wd) ∧ Aside0 (Below wq.heap.size wq w') ∧ Aside0 (mo - s ≤ kq))
                    case atStart => exact ⟨0, 0, by omega, rfl, rfl, by omega, HR0, ⟨fun x hx => by omega⟩, HBN0, ⟨by omega⟩⟩
                    case round =>
                      clear HR0 HBN0
                      obtain ⟨s, wd, hs, rfl, rfl, hwd, HRC, HFT, HBC, HK5⟩ := hrel
                      by_cases cs : s < mo
                      · have csb : decide ((s : Int) < (mo : Int)) = true := decide_eq_true (by omega)
                        have csbn : decide (s < mo) = true := decide_eq_true cs
                        obtain ⟨x, hx0, hx1, hx2, hfx, hxc⟩ := HXS.out s cs
                        have xc := hxc wr (HGQ.out.trans (grownNew HBC.out _))
                        obtain ⟨y, hy⟩ : ∃ y : Nat, (y : Int) = x - ls := ⟨(x - ls).toNat, by omega⟩
                        have hy9 : y < 4294967296 := by omega
                        obtain ⟨y1, hy1⟩ : ∃ u, IntKind.u64.wrap x = u := ⟨_, rfl⟩
                        obtain ⟨y2, hy2⟩ : ∃ u, IntKind.u64.wrap ls = u := ⟨_, rfl⟩
                        have hsub : IntKind.u64.wrap (y1 - y2) = (y : Int) := by rw [← hy1, ← hy2, IntKind.wrap_u64, IntKind.wrap_u64, IntKind.wrap_u64]; omega
                        have rc := HRC.out.cell (j := s) (by rw [partI_length]; omega)
                        have rf := HRC.out.free s
                        have hsS : s < S := by omega
                        obtain ⟨b, hb⟩ : ∃ b, bitsOf y = b := ⟨_, rfl⟩
                        have hb9 : b ≤ 32 := by rw [← hb]; exact bitsOf_le 32 y (by omega)
                        have HBT := Aside0.mk fun W1 => bits_calls y (by omega) W1
                        rw [hb] at HBT
                        obtain ⟨wd2, hwd2⟩ : ∃ m, max wd b = m := ⟨_, rfl⟩
                        have hwdI : max (wd : Int) (b : Int) = (wd2 : Int) := by omega
                        have hwd9 : wd2 ≤ 32 := by omega
                        have HST : Aside0 ((partI fn S s).set s (y : Int) = partI fn S (s + 1)) := ⟨by have := partI_set fn S s; rw [hfx, ← hy] at this; exact this⟩
                        have HFT2 : Aside0 (∀ x : Nat, x < s + 1 → ∃ y : Nat, fn x = (y : Int) ∧ y < 2 ^ wd2) := ⟨fun z hz => by
                          by_cases c : z < s
                          · obtain ⟨t, e, ht⟩ := HFT.out z c
                            exact ⟨t, e, Nat.lt_of_lt_of_le ht (Nat.pow_le_pow_right (by decide) (by omega))⟩
                          · obtain rfl : z = s := by omega
                            exact ⟨y, by rw [hfx, hy], lt_bitsOf wd2 y (by omega)⟩⟩
                        have hand : bits BinOp.and IntKind.u64 (y : Int) 4294967295 = (y : Int) := by rw [show (4294967295 : Int) = ((2 ^ 32 - 1 : Nat) : Int) by decide, u64_and_nat _ _ (by omega) (by decide), Nat.and_two_pow_sub_one_eq_mod, Nat.mod_eq_of_lt (by omega)]
                        clear hy hfx hb hwd2 hx0 hx1 hx2 hxc
                        go_wp2_with (first
                          | (go_at_call 39; go_loud (with_reducible refine (HBT.out _).mono ?_); rintro e w2 ⟨rfl, rfl⟩))
                        go_roundg (gk - 1)
                        case measure => have := HK5.out; omega
                        case rel => exact ⟨s + 1, wd2, by omega, by go_num, by go_num, hwd9, ⟨by have h := (HRC.out.set s (y : Int)).set s (y : Int); rw [List.set_set, HST.out] at h; exact h⟩, HFT2, ⟨Below.setCell (p := ⟨wq.heap.size, s, none⟩) (Below.setCell (p := ⟨wq.heap.size, s, none⟩) HBC.out (Nat.le_refl _) _) (Nat.le_refl _) _⟩, ⟨by have := HK5.out; omega⟩⟩
                      · obtain rfl : mo = s := by omega
                        have csb : decide ((mo : Int) < (mo : Int)) = false := decide_eq_false (by omega)
                        have csbn : decide (mo < mo) = false := decide_eq_false (by omega)
                        obtain ⟨d0, d1, d2⟩ := HXA.out wr (HHB.out.trans (HBC.out.mono HHB.out.size))
                        by_cases cz : nm = 0
                        · have qz : decide (0 < (nm : Int)) = false := decide_eq_false (by omega)
                          have qzn : decide (0 < nm) = false := decide_eq_false (by omega)
                          have HCZ := Aside0.mk cz
                          clear cz
                          obtain ⟨w5, hw5⟩ : ∃ w, w = wd := ⟨_, rfl⟩
                          have hw564 : w5 ≤ 64 := by omega
                          have hw5W : w5 ≤ 32 := by omega
                          subst hw5
                          have HFW : Aside0 (∀ x : Nat, x < mo → ∃ y : Nat, fn x = (y : Int) ∧ y < 2 ^ w5) := ⟨fun x hx => by
                            obtain ⟨y, e, hy⟩ := HFT.out x hx
                            exact ⟨y, e, Nat.lt_of_lt_of_le hy (Nat.pow_le_pow_right (by decide) (by omega))⟩⟩
                          have HFL := Aside0.mk (partI_fits fn S mo w5 HFW.out)
                          have HOWm : Aside0 (Own wr w9.heap.size 5 .u8 u15 (natsI (ps.map (·.1)))) := ⟨HOW.out.below HBC.out⟩
                          have HODm : Aside0 (Own wr w9.heap.size 5 .u8 u16 (partsB ps)) := ⟨HOD.out.below HBC.out⟩
                          have HBBm : Aside0 (Below w9.heap.size w9 wr) := ⟨HBB.out.trans (HBC.out.mono HBB.out.size)⟩
                          obtain ⟨MP, hMP⟩ : ∃ M, (packLo w5 (partI fn S mo)).length = M := ⟨_, rfl⟩
                          have HMP := Aside0.mk hMP
                          have hMP9 : MP ≤ 10000 := by
                            rw [← hMP]; unfold packLo; rw [bytesLo_length, partI_length]
                            have := Nat.mul_le_mul hS9 hw564
                            omega
                          have HPL : Aside0 (∀ W1, (Kd.int .u64).C W1 (some ⟨wq.heap.size, 0, none⟩) S (partI fn S mo) → Calls Tryd.prog 40 #[.int .i64 w5, .slice (some ⟨wq.heap.size, 0, none⟩) S S] W1 fun e w' => ∃ v, e = .returned v ∧ Own w' W1.heap.size 5 .u8 v (packLo w5 (partI fn S mo)) ∧ Below W1.heap.size W1 w') := ⟨fun W1 h => by
                            have := packLow_calls (some ⟨wq.heap.size, 0, none⟩) S S w5 (partI fn S mo) W1 h (Nat.le_refl _) (by omega) (fitL_u64 HFL.out hw564) hw564
                            rw [packLo_part w5 S _ (partI_length _ _ _) hS] at this
                            exact this⟩
                          have HPBL : Aside0 ((partsB ps).length ≤ 400000) := ⟨parts_len 32 ch ls S q r ps HPS.out HPSL.out (by omega) (by decide) hS9⟩
                          have HNER : Aside0 (some wq.heap.size ≠ u15.ownBlock) := ⟨fun e => by have := own_lt HOW.out.out _ e.symm; omega⟩
                          have wb8 : IntKind.u8.wrap (w5 : Int) = (w5 : Int) := IntWalk.u8_in _ (by omega)
                          have wb82 : (w5 : Int) % 256 = (w5 : Int) := by omega
                          clear hMP
                          go_wp2_with (first
                            | (at_builtin; (first
                              | ((refine appendOwnH (w0 := w9) w9.heap.size rfl (.tmp 185) (.tmp 188) 29 5 .u8 1 rfl Tryd.underlying29 infoU8 (by decide) u15 (natsI (ps.map (·.1))) (w5 : Int) rfl rfl HOWm.out HBBm.out ?hb ?hl ?_); (case hb => exact HBBm.out.size); (case hl => rw [HWL.out]; omega); intro v6 w6 ho hb hg hat; have HOW2 := Aside0.mk ho; have HBB2 := Aside0.mk hb; have HOD2 := Aside0.mk (HODm.out.grown hg (apt_sym HAPT.out).out); have HAP2 := Aside0.mk (apt_sym (apt_step (apt_sym HAPT.out) HODm.out hat)); have HC6 := Aside0.mk (rowC (HRC.out.grown hg HNER.out) (partI_length _ _ _) (by omega)); clear ho hb hg hat)
                              | ((refine appendReadH (w0 := w9) w9.heap.size rfl (.tmp 190) (.tmp 193) 29 5 .u8 1 rfl Tryd.underlying29 infoU8 (by decide) u16 (partsB ps) A7 MP c7 (packLo w5 (partI fn S mo)) rfl rfl HOD3.out HBB3.out ?hb HR7.out ?hl ?_); (case hb => exact HBB3.out.size); (case hl => have := HPBL.out; omega); intro v8 w8 ho hb hg hat; have HOD4 := Aside0.mk ho; have HBB4 := Aside0.mk hb; have HOW4 := Aside0.mk (HOW3.out.grown hg HAP2.out.out); have HAP4 := Aside0.mk (apt_step HAP2.out HOW3.out hat); clear ho hb hg hat)))
                            | (go_at_call 40; go_loud (with_reducible refine (HPL.out _ HC6.out).mono ?_); rintro e w7 ⟨v7, rfl, ho, hb⟩; obtain ⟨A7, c7, rfl, hc7, hr7⟩ := ho.read; rw [HMP.out] at hc7 hr7; rw [HMP.out]; have HR7 := Aside0.mk hr7; have HOW3 := Aside0.mk (HOW2.out.below hb); have HOD3 := Aside0.mk (HOD2.out.below hb); have HBB3 := Aside0.mk (HBB2.out.trans (hb.mono HBB2.out.size)); clear ho hb hr7))
                          go_roundg gk4
                          case measure => omega
                          case rel =>
                            refine ⟨r + 1, pq + 1, nb - mo, cb - mo, A4, ps ++ [(w5, partI fn S mo)], by omega, by go_num, by go_num, hcb2, HNB2, by go_num, by omega, ⟨by rw [List.length_append, HPSL.out]; rfl⟩, HREST, ⟨parts_snoc HPS.out HPSL.out ?_⟩, ⟨?_⟩, ⟨?_⟩, HAP4, HBB4, ⟨by have := HK4.out; omega⟩⟩
                            · have e := HFN.out
                              have h := HFW.out
                              rw [← e] at h ⊢
                              exact part_n _ _ _ _ _ _ _ _ (by omega) (by rw [← HNB.out]; exact HMO.out) hmo0 h
                            · rw [ws_snoc]; exact HOW4.out
                            · rw [partsB_snoc]; exact HOD4.out
                        · have qz : decide (0 < (nm : Int)) = true := decide_eq_true (by omega)
                          have qzn : decide (0 < nm) = true := decide_eq_true (by omega)
                          obtain ⟨ix, hix⟩ : ∃ ix, pq % nm = ix := ⟨_, rfl⟩
                          have hixm : ix < nm := by rw [← hix]; exact Nat.mod_lt _ (by omega)
                          have hixe : (pq : Int) % (nm : Int) = (ix : Int) := by rw [← hix]; exact (Int.natCast_emod pq nm).symm
                          have hixt : (pq : Int).tmod (nm : Int) = (ix : Int) := by rw [Int.tmod_eq_emod_of_nonneg (by omega)]; exact hixe
                          obtain ⟨am, eam, xm⟩ := Kd.at_int (HCM.out wr (HBW.out _ (HHB.out.trans (HBC.out.mono HHB.out.size)))) (ix : Int) (by omega) (by omega)
                          subst eam
                          rw [Int.toNat_natCast] at xm
                          have hme := HMR.out (rd mr (ix : Nat)) (rd_mem (by rw [HML.out]; exact hixm))
                          obtain ⟨en, hen⟩ : ∃ n : Nat, rd mr (ix : Nat) = (n : Int) := ⟨(rd mr (ix : Nat)).toNat, by omega⟩
                          rw [hen] at xm hme
                          obtain ⟨sm, hsm⟩ : ∃ n, wd + en = n := ⟨_, rfl⟩
                          have hsmI : (wd : Int) + (en : Int) = (sm : Int) := by omega
                          obtain ⟨w5, hw5⟩ : ∃ w, min 32 sm = w := ⟨_, rfl⟩
                          have hw5I : min (32 : Int) (sm : Int) = (w5 : Int) := by omega
                          have hw564 : w5 ≤ 64 := by omega
                          have hw5W : w5 ≤ 32 := by omega
                          have hwdw5 : wd ≤ w5 := by omega
                          have hsm9 : sm ≤ 200 := by omega
                          have wix : IntKind.i64.wrap (ix : Int) = (ix : Int) := IntWalk.i64_in _ (by omega)
                          have wsm : IntKind.i64.wrap (sm : Int) = (sm : Int) := IntWalk.i64_in _ (by omega)
                          have qi1 : (ix < nm) = True := eq_true hixm
                          have qi2 : ((ix : Int) < (nm : Int)) = True := eq_true (by omega)
                          have qi3 : (0 ≤ (ix : Int)) = True := eq_true (by omega)
                          have qi4 : ((nm : Int) = 0) = False := eq_false (by omega)
                          have qi5 : (nm = 0) = False := eq_false cz
                          clear hix hen hsm hw5
                          go_wp2_with (fail)
                          go_quiet (fail)
                          have HRC := Aside0.mk (HRC.out.drewN nq)
                          have HBC : Aside0 (Below wq.heap.size wq (wr.drewN nq)) := ⟨HBC.out.trans ((drewN_below _ _).mono HBC.out.size)⟩
                          have HFW : Aside0 (∀ x : Nat, x < mo → ∃ y : Nat, fn x = (y : Int) ∧ y < 2 ^ w5) := ⟨fun x hx => by
                            obtain ⟨y, e, hy⟩ := HFT.out x hx
                            exact ⟨y, e, Nat.lt_of_lt_of_le hy (Nat.pow_le_pow_right (by decide) (by omega))⟩⟩
                          have HFL := Aside0.mk (partI_fits fn S mo w5 HFW.out)
                          have HOWm : Aside0 (Own (wr.drewN nq) w9.heap.size 5 .u8 u15 (natsI (ps.map (·.1)))) := ⟨HOW.out.below HBC.out⟩
                          have HODm : Aside0 (Own (wr.drewN nq) w9.heap.size 5 .u8 u16 (partsB ps)) := ⟨HOD.out.below HBC.out⟩
                          have HBBm : Aside0 (Below w9.heap.size w9 (wr.drewN nq)) := ⟨HBB.out.trans (HBC.out.mono HBB.out.size)⟩
                          obtain ⟨MP, hMP⟩ : ∃ M, (packLo w5 (partI fn S mo)).length = M := ⟨_, rfl⟩
                          have HMP := Aside0.mk hMP
                          have hMP9 : MP ≤ 10000 := by
                            rw [← hMP]; unfold packLo; rw [bytesLo_length, partI_length]
                            have := Nat.mul_le_mul hS9 hw564
                            omega
                          have HPL : Aside0 (∀ W1, (Kd.int .u64).C W1 (some ⟨wq.heap.size, 0, none⟩) S (partI fn S mo) → Calls Tryd.prog 40 #[.int .i64 w5, .slice (some ⟨wq.heap.size, 0, none⟩) S S] W1 fun e w' => ∃ v, e = .returned v ∧ Own w' W1.heap.size 5 .u8 v (packLo w5 (partI fn S mo)) ∧ Below W1.heap.size W1 w') := ⟨fun W1 h => by
                            have := packLow_calls (some ⟨wq.heap.size, 0, none⟩) S S w5 (partI fn S mo) W1 h (Nat.le_refl _) (by omega) (fitL_u64 HFL.out hw564) hw564
                            rw [packLo_part w5 S _ (partI_length _ _ _) hS] at this
                            exact this⟩
                          have HPBL : Aside0 ((partsB ps).length ≤ 400000) := ⟨parts_len 32 ch ls S q r ps HPS.out HPSL.out (by omega) (by decide) hS9⟩
                          have HNER : Aside0 (some wq.heap.size ≠ u15.ownBlock) := ⟨fun e => by have := own_lt HOW.out.out _ e.symm; omega⟩
                          have wb8 : IntKind.u8.wrap (w5 : Int) = (w5 : Int) := IntWalk.u8_in _ (by omega)
                          have wb82 : (w5 : Int) % 256 = (w5 : Int) := by omega
                          clear hMP
                          go_wp2_with (first
                            | (at_builtin; (first
                              | ((refine appendOwnH (w0 := w9) w9.heap.size rfl (.tmp 185) (.tmp 188) 29 5 .u8 1 rfl Tryd.underlying29 infoU8 (by decide) u15 (natsI (ps.map (·.1))) (w5 : Int) rfl rfl HOWm.out HBBm.out ?hb ?hl ?_); (case hb => exact HBBm.out.size); (case hl => rw [HWL.out]; omega); intro v6 w6 ho hb hg hat; have HOW2 := Aside0.mk ho; have HBB2 := Aside0.mk hb; have HOD2 := Aside0.mk (HODm.out.grown hg (apt_sym HAPT.out).out); have HAP2 := Aside0.mk (apt_sym (apt_step (apt_sym HAPT.out) HODm.out hat)); have HC6 := Aside0.mk (rowC (HRC.out.grown hg HNER.out) (partI_length _ _ _) (by omega)); clear ho hb hg hat)
                              | ((refine appendReadH (w0 := w9) w9.heap.size rfl (.tmp 190) (.tmp 193) 29 5 .u8 1 rfl Tryd.underlying29 infoU8 (by decide) u16 (partsB ps) A7 MP c7 (packLo w5 (partI fn S mo)) rfl rfl HOD3.out HBB3.out ?hb HR7.out ?hl ?_); (case hb => exact HBB3.out.size); (case hl => have := HPBL.out; omega); intro v8 w8 ho hb hg hat; have HOD4 := Aside0.mk ho; have HBB4 := Aside0.mk hb; have HOW4 := Aside0.mk (HOW3.out.grown hg HAP2.out.out); have HAP4 := Aside0.mk (apt_step HAP2.out HOW3.out hat); clear ho hb hg hat)))
                            | (go_at_call 40; go_loud (with_reducible refine (HPL.out _ HC6.out).mono ?_); rintro e w7 ⟨v7, rfl, ho, hb⟩; obtain ⟨A7, c7, rfl, hc7, hr7⟩ := ho.read; rw [HMP.out] at hc7 hr7; rw [HMP.out]; have HR7 := Aside0.mk hr7; have HOW3 := Aside0.mk (HOW2.out.below hb); have HOD3 := Aside0.mk (HOD2.out.below hb); have HBB3 := Aside0.mk (HBB2.out.trans (hb.mono HBB2.out.size)); clear ho hb hr7))
                          go_roundg gk4
                          case measure => omega
                          case rel =>
                            refine ⟨r + 1, pq + 1, nb - mo, cb - mo, A4, ps ++ [(w5, partI fn S mo)], by omega, by go_num, by go_num, hcb2, HNB2, by go_num, by omega, ⟨by rw [List.length_append, HPSL.out]; rfl⟩, HREST, ⟨parts_snoc HPS.out HPSL.out ?_⟩, ⟨?_⟩, ⟨?_⟩, HAP4, HBB4, ⟨by have := HK4.out; omega⟩⟩
                            · have e := HFN.out
                              have h := HFW.out
                              rw [← e] at h ⊢
                              exact part_n _ _ _ _ _ _ _ _ (by omega) (by rw [← HNB.out]; exact HMO.out) hmo0 h
                            · rw [ws_snoc]; exact HOW4.out
                            · rw [partsB_snoc]; exact HOD4.out
                · obtain rfl : P = r := by omega
                  have crb : decide ((P : Int) < (P : Int)) = false := decide_eq_false (by omega)
                  have crbn : decide (P < P) = false := decide_eq_false (by omega)
                  have HWK : Aside0 (∀ x ∈ l, IntKind.i32.min ≤ x ∧ x ≤ IntKind.i32.max) := ⟨by
                    have e1 : IntKind.i32.min = -2147483648 := by decide
                    have e2 : IntKind.i32.max = 2147483647 := by decide
                    rw [e1, e2]; exact HWF.out⟩
                  obtain ⟨b1, b2, b3⟩ := blk_done .i32 (by first | exact .inl rfl | exact .inr rfl) 32 P S B HBQ.out f l i j q bs ls ps ch (by omega) HLN.out hj1 cj (by rw [← HND.out]; exact HM.out) HCHQ.out HPS.out HPSL.out (by omega) HWK.out HOK.out (HV2.out (by omega))
                  have HDN := Aside0.mk (And.intro b1 (And.intro b2 b3))
                  have hpl8 := parts_len8 32 ch ls S q P ps HPS.out HPSL.out (by decide)
                  have hB8 : P * (S * 8) = 8 * B := by rw [HBQ.out, ← Nat.mul_assoc]; omega
                  obtain ⟨MD, hMD⟩ : ∃ M, (partsB ps).length = M := ⟨_, rfl⟩
                  rw [hMD] at hpl8
                  have hMD9 : MD ≤ 8 * B := by omega
                  have HMD := Aside0.mk hMD
                  have HWL : Aside0 ((natsI (ps.map (·.1))).length = P) := ⟨by rw [natsI_length, List.length_map]; exact HPSL.out⟩
                  have HNX : Aside0 (nd - q = i - (j + B)) := ⟨by have h1 := HM.out; have h2 := HND.out; omega⟩
                  have HDX : Aside0 ((dif .i32 l).drop (j - 1 + q) = (dif .i32 l).drop (j + B - 1)) := ⟨by
                    have h1 := HM.out; have h2 := HND.out
                    by_cases c : q = B
                    · rw [c, show j - 1 + B = j + B - 1 by omega]
                    · rw [List.drop_eq_nil_of_le (by rw [dif_length, HLN.out]; omega), List.drop_eq_nil_of_le (by rw [dif_length, HLN.out]; omega)]⟩
                  obtain ⟨g9, hg9⟩ : ∃ g, v9.ownBlock = some g := by
                    rcases HH9.out with e | ⟨b, e, _⟩
                    · exact ⟨_, e⟩
                    · exact ⟨_, e⟩
                  have hg9l := own_lt HO9.out.out _ hg9
                  have HOq : Aside0 (Own wq w1.heap.size 5 .u8 v9 (hdG B P i f ++ blksB bs ++ varL zl)) := ⟨HO9.out.below HBB.out⟩
                  have HGq : Aside0 (wD.grownBy wq (some g7)) := ⟨HG9.out.trans (grownNew HBB.out _)⟩
                  have HHBq := Aside0.mk hHB
                  obtain ⟨A10, c10, rfl, hc10, hk10⟩ := HOW.out.keep hg9l
                  obtain ⟨A11, c11, rfl, hc11, hk11⟩ := HOD.out.keep hg9l
                  rw [HWL.out] at hc10 hk10
                  rw [HMD.out] at hc11 hk11
                  have HR10 : Aside0 ((Kd.int .u8).C wq A10 P (natsI (ps.map (·.1)))) := ⟨hk10 wq (grownRefl _ _)⟩
                  have HK11 : Aside0 (∀ W1, wq.grownBy W1 v9.ownBlock → (Kd.int .u8).C W1 A11 MD (partsB ps)) := ⟨fun W1 h => hk11 W1 (by rw [← hg9]; exact h)⟩
                  have HL1 : Aside0 ((hdG B P i f ++ blksB bs ++ varL zl).length ≤ 2000010) := ⟨by rw [List.length_append, HLV.out]; have := HLL.out; omega⟩
                  have HG9Q := Aside0.mk hg9
                  rw [HWL.out, HMD.out]
                  clear b1 b2 b3 hMD hB8 hpl8 hHB hg9 hk10 hk11
                  go_wp2_with (first
                    | (at_builtin; (first
                      | ((refine appendReadH (w0 := w1) w1.heap.size rfl (.tmp 196) (.tmp 197) 29 5 .u8 1 rfl Tryd.underlying29 infoU8 (by decide) v9 (hdG B P i f ++ blksB bs ++ varL zl) A10 P c10 (natsI (ps.map (·.1))) rfl rfl HOq.out HHBq.out ?hb HR10.out ?hl ?_); (case hb => exact HHBq.out.size); (case hl => have := HL1.out; omega); intro v10 w10 ho hb hg hat; have HO10 := Aside0.mk ho; have HB10 := Aside0.mk hb; have HR11 := Aside0.mk (HK11.out w10 hg); have HG10 := Aside0.mk (grown_step HGq.out hg HH9.out); have HH10 := Aside0.mk (hat_step HGq.out.size HH9.out hat); clear ho hb hg hat)
                      | ((refine appendReadH (w0 := w1) w1.heap.size rfl (.tmp 198) (.tmp 199) 29 5 .u8 1 rfl Tryd.underlying29 infoU8 (by decide) v10 (hdG B P i f ++ blksB bs ++ varL zl ++ natsI (ps.map (·.1))) A11 MD c11 (partsB ps) rfl rfl HO10.out HB10.out ?hb HR11.out ?hl ?_); (case hb => exact HB10.out.size); (case hl => rw [List.length_append, HWL.out]; have := HL1.out; omega); intro v11 w11 ho hb hg hat; have HO11 := Aside0.mk ho; have HB11 := Aside0.mk hb; have HG11 := Aside0.mk (grown_step HG10.out hg HH10.out); have HH11 := Aside0.mk (hat_step HG10.out.size HH10.out hat); clear ho hb hg hat))))
                  go_roundg gk0
                  case measure => omega
                  case rel =>
                    refine ⟨j + B, pq, nd - q, cd - q, A2, f, bs ++ [(ls, ps)], by go_num, hndm, rfl, by omega, by omega, by omega, HNX.out, ⟨fun W1 h => by rw [← HDX.out]; exact HKD2.out W1 h⟩, ⟨HDN.out.1⟩, ⟨HDN.out.2.1⟩, ⟨HDN.out.2.2⟩, ⟨?_⟩, ⟨?_⟩, HG11, HH11, HB11, ⟨by have := HK.out; omega⟩⟩
                    · rw [blksB_snoc, List.length_append]
                      unfold blkB
                      rw [List.length_append, List.length_append, HMD.out, HWL.out, HZLQ.out, HLV.out]
                      have := HBL.out; omega
                    · rw [blksB_snoc]
                      unfold blkB
                      rw [HZLQ.out]
                      have := HO11.out
                      simp only [List.append_assoc] at this ⊢
                      exact this
        · have cjb : decide (0 < (nd : Int)) = false := decide_eq_false (by omega)
          have cjbn : decide (0 < nd) = false := decide_eq_false (by omega)
          go_wp2_with (fail)
          go_ret
          refine ⟨_, bs, rfl, ?_, ?_, ?_, ?_, HBW.out _ HB.out⟩
          · rw [HFI.out]; exact Own.lower HO.out (Nat.le_of_lt hlt0)
          · have := HOK.out [] (by show i - j = 0; omega)
            rw [List.append_nil] at this; exact this
          · rw [HFI.out, HV.out]; exact List.take_of_length_le (by rw [HLN.out]; omega)
          · have := HBL.out; omega
end Go.Proofs.YtigmcdpjlkgocaaDoor.Dby
