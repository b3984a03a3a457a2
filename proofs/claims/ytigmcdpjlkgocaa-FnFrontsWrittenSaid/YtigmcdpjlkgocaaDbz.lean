import Derived.Test.YtigmcdpjlkgocaaDct
import Derived.Test.YtigmcdpjlkgocaaMdt
/-! The statements' writer of differences: what needs no program. -/
namespace Go.Proofs.Ytigmcdpjlkgocaa.Dbp
open Go.Proofs.Ytigmcdpjlkgocaa.Ddc Go.Proofs.Ytigmcdpjlkgocaa.Dct Go.Proofs.Ytigmcdpjlkgocaa.Dun Go.Proofs.Ytigmcdpjlkgocaa.Dsr Go.Proofs.Ytigmcdpjlkgocaa.Dst Go.Proofs.Ytigmcdpjlkgocaa.Deo Go.Proofs.Ytigmcdpjlkgocaa.Den Go.Proofs.Ytigmcdpjlkgocaa.Deb Go.Proofs.Ytigmcdpjlkgocaa.Drx Go.Proofs.Ytigmcdpjlkgocaa.Dds Go.Proofs.Ytigmcdpjlkgocaa.Dml Go.Proofs.Ytigmcdpjlkgocaa.Dbw Go.Proofs.Ytigmcdpjlkgocaa.Dbk Go.Proofs.Ytigmcdpjlkgocaa.Dhd Go.Proofs.Ytigmcdpjlkgocaa.Dpu Go.Proofs.Ytigmcdpjlkgocaa.Pak Go.Proofs.Ytigmcdpjlkgocaa.Buf Go.Proofs.Ytigmcdpjlkgocaa.Fit Go.Proofs.Ytigmcdpjlkgocaa.Spl Go.Proofs.Ytigmcdpjlkgocaa.Num Go.Proofs.Ytigmcdpjlkgocaa.Lst Go.Proofs.Ytigmcdpjlkgocaa.Aid Go.RowKit Go.Proofs.YtigmcdpjlkgocaaW.PrintWords Go.Proofs.YtigmcdpjlkgocaaW.PrintLast Go.Proofs.YtigmcdpjlkgocaaW.PrintMore
set_option linter.unusedVariables false
set_option linter.unusedSimpArgs false
/-- the differences of neighbors -/
def dif (k : IntKind) (l : List Int) : List Int := (List.range (l.length - 1)).map fun i => k.wrap (rd l (i + 1 : Nat) - rd l (i : Nat))
theorem dif_length (k : IntKind) (l : List Int) : (dif k l).length = l.length - 1 := by simp [dif]
theorem rd_dif (k : IntKind) (l : List Int) (i : Nat) (h : i + 1 < l.length) : rd (dif k l) (i : Nat) = k.wrap (rd l (i + 1 : Nat) - rd l (i : Nat)) := by
  rw [rd_nat _ _ (by rw [dif_length]; omega)]
  simp [dif]
theorem dif_take (k : IntKind) (l : List Int) (i : Nat) (h : i + 1 < l.length) : (dif k l).take (i + 1) = (dif k l).take i ++ [k.wrap (rd l (i + 1 : Nat) - rd l (i : Nat))] := by
  rw [take_rd _ _ (by rw [dif_length]; omega), rd_dif k l i h]
/-- a part's numbers are those of the block at its place -/
theorem parts_form (S m : Nat) (g : Nat → Int) : ∀ (ps : List DPart) (P : Nat), ps.length = P → (∀ i, i < P → (ps.getD i (0, [])).2 = partI (fun q => g (i * S + q)) S (m - i * S)) → ps.flatMap (·.2) = partI g (P * S) m := by
  intro ps P hl h
  have hS : ∀ p ∈ ps, p.2.length = S := fun p hp => by
    obtain ⟨i, hi, rfl⟩ := List.getElem_of_mem hp
    have := h i (by omega)
    rw [List.getD_eq_getElem?_getD, List.getElem?_eq_getElem hi] at this
    have e : (ps[i]).2 = partI (fun q => g (i * S + q)) S (m - i * S) := this
    rw [e, partI_length]
  apply rd_ext
  · rw [flat_length S ps hS, partI_length, hl]
  · intro j hj
    rw [flat_length S ps hS, hl] at hj
    have hS0 : 0 < S := by
      rcases Nat.eq_zero_or_pos S with e | e
      · subst e; simp at hj
      · exact e
    have hq : j / S < P := Nat.div_lt_of_lt_mul (by rw [Nat.mul_comm]; exact hj)
    have hr : j % S < S := Nat.mod_lt _ hS0
    have e : j / S * S + j % S = j := by rw [Nat.mul_comm]; exact Nat.div_add_mod j S
    have h1 := flat_rd S ps (j / S) (j % S) hS (by rw [hl]; exact hq) hr
    rw [e, h _ hq, rd_partI _ _ _ _ hr] at h1
    rw [h1, rd_partI _ _ _ _ hj, e]
    by_cases c : j < m
    · rw [if_pos (by omega), if_pos c]
    · rw [if_neg (by omega), if_neg c]
theorem partI_take (g : Nat → Int) (n m : Nat) (h : m ≤ n) : (partI g n m).take m = (List.range m).map g := by
  apply rd_ext
  · rw [List.length_take, partI_length, List.length_map, List.length_range]; omega
  · intro j hj
    rw [List.length_take, partI_length] at hj
    rw [rd_take _ _ _ (by omega), rd_partI _ _ _ _ (by omega), if_pos (by omega), rd_nat _ _ (by simp; omega)]
    simp
theorem form_vals (k : IntKind) (hk : k = .i64 ∨ k = .i32) (l : List Int) (N i m PS : Nat) (least last : Int) (hl : l.length = N) (hi : 1 ≤ i) (hm : m ≤ N - i) (hmp : m ≤ PS) (hiN : i ≤ N) (hlast : last = rd l (i - 1 : Nat)) (hwf : ∀ x ∈ l, k.min ≤ x ∧ x ≤ k.max) :
    (walkV k least last (partI (fun p => rd (dif k l) (i - 1 + p : Nat) - least) PS m)).take m = (l.drop i).take m := by
  rw [← walkV_take, partI_take _ _ _ hmp]
  have hxl : ((l.drop i).take m).length = m := by rw [List.length_take, List.length_drop, hl]; omega
  refine walkV_eq k least _ _ last (by rw [List.length_map, List.length_range, hxl]) fun j hj => ?_
  rw [hxl] at hj
  have e1 : rd ((l.drop i).take m) (j : Nat) = rd l (i + j : Nat) := by rw [rd_take _ _ _ hj, rd_drop]
  have e2 : prv last ((l.drop i).take m) j = rd l (i + j - 1 : Nat) := by
    unfold prv
    by_cases c : j = 0
    · subst c; rw [if_pos rfl, hlast]; rfl
    · rw [if_neg c, rd_take _ _ _ (by omega), rd_drop, show i + (j - 1) = i + j - 1 by omega]
  have e3 : rd ((List.range m).map fun p => rd (dif k l) (i - 1 + p : Nat) - least) (j : Nat) = rd (dif k l) (i - 1 + j : Nat) - least := by
    rw [rd_nat _ _ (by simp; exact hj)]; simp
  rw [e1, e2, e3, rd_dif k l (i - 1 + j) (by omega), show i - 1 + j + 1 = i + j by omega, show i - 1 + j = i + j - 1 by omega]
  have h1 := hwf _ (rd_mem (l := l) (i := i + j) (by omega))
  generalize rd l ((i + j : Nat) : Int) = x at *
  generalize rd l ((i + j - 1 : Nat) : Int) = y at *
  rcases hk with e | e <;> subst e
  · have a1 : IntKind.i64.min = -9223372036854775808 := by decide
    have a2 : IntKind.i64.max = 9223372036854775807 := by decide
    rw [a1, a2] at h1
    rw [IntKind.wrap_i64, IntKind.wrap_i64]; omega
  · have a1 : IntKind.i32.min = -2147483648 := by decide
    have a2 : IntKind.i32.max = 2147483647 := by decide
    rw [a1, a2] at h1
    rw [IntKind.wrap_i32, IntKind.wrap_i32]; omega
theorem getD_snoc_l (ps : List DPart) (p : DPart) (i : Nat) (h : i < ps.length) : (ps ++ [p]).getD i (0, []) = ps.getD i (0, []) := by
  simp [List.getD_eq_getElem?_getD, List.getElem?_append_left h]
theorem getD_snoc_r (ps : List DPart) (p : DPart) (i : Nat) (h : ps.length = i) : (ps ++ [p]).getD i (0, []) = p := by
  subst h; simp [List.getD_eq_getElem?_getD]
theorem rd_dif_bd (k : IntKind) (l : List Int) (x : Int) (h : x ∈ dif k l) : ∃ y, x = k.wrap y := by
  simp only [dif, List.mem_map, List.mem_range] at h
  obtain ⟨i, _, rfl⟩ := h
  exact ⟨_, rfl⟩
/-- a block more, whatever its form -/
theorem gen_round (k : IntKind) (W P S : Nat) (f last : Int) (l : List Int) (N i m : Nat) (bs : List DBlk) (b : DBlk) (hPS : 0 < P * S)
    (hl : l.length = N) (hi1 : 1 ≤ i) (hiN : i < N) (hm : min (P * S) (N - i) = m) (hb : blkOk W P S b) (htl : ∀ j, N - i ≤ j * S → (b.2.getD j (0, [])).1 = 0) (hmn : -9223372036854775808 ≤ b.1 ∧ b.1 ≤ 9223372036854775807)
    (hVm : (walkV k b.1 last (blkN b)).take m = (l.drop i).take m)
    (HOK : ∀ bb, strOk W P S (N - i) bb → strOk W P S (N - 1) (bs ++ bb)) (HV2 : f :: blksV k f bs = l.take i) (hlast : last = rd l (i - 1 : Nat)) :
    (∀ bb, strOk W P S (N - (i + P * S)) bb → strOk W P S (N - 1) (bs ++ [b] ++ bb)) ∧ (f :: blksV k f (bs ++ [b])).take N = l.take (i + P * S) ∧ (i + P * S ≤ N → f :: blksV k f (bs ++ [b]) = l.take (i + P * S)) := by
  have hVl : (walkV k b.1 last (blkN b)).length = P * S := by rw [walkV_length, blkN_length hb]
  have hgl : (blksV k f bs).getLastD f = last := by
    rw [hlast]
    refine last_of f _ l (i - 1) ?_ (by omega)
    rw [HV2, show i - 1 + 1 = i by omega]
  have hall : f :: blksV k f (bs ++ [b]) = l.take i ++ walkV k b.1 last (blkN b) := by
    rw [blksV_snoc, hgl, ← HV2]; rfl
  refine ⟨fun bb h => ?_, ?_, fun h => ?_⟩
  · rw [List.append_assoc]
    exact HOK _ ⟨by omega, hb, htl, hmn, by rw [show N - i - P * S = N - (i + P * S) by omega]; exact h⟩
  · rw [hall, List.take_append, List.length_take, hl, Nat.min_eq_left (by omega), List.take_of_length_le (by rw [List.length_take]; omega)]
    by_cases e : N - i ≤ P * S
    · rw [show N - i = m by omega, hVm]
      have e1 : (l.drop i).take m = l.drop i := List.take_of_length_le (by rw [List.length_drop, hl]; omega)
      rw [e1, List.take_append_drop, List.take_of_length_le (by omega)]
    · have e1 : (walkV k b.1 last (blkN b)).take (N - i) = walkV k b.1 last (blkN b) := List.take_of_length_le (by omega)
      have e2 : (walkV k b.1 last (blkN b)).take m = walkV k b.1 last (blkN b) := List.take_of_length_le (by omega)
      rw [e1, ← e2, hVm, show m = P * S by omega, List.take_add]
  · have e2 : (walkV k b.1 last (blkN b)).take m = walkV k b.1 last (blkN b) := List.take_of_length_le (by omega)
    rw [hall, ← e2, hVm, show m = P * S by omega, List.take_add]
end Go.Proofs.Ytigmcdpjlkgocaa.Dbp

/-! The statements' writer of differences. -/
namespace Go.Proofs.Ytigmcdpjlkgocaa.Dby
open Go.Proofs.Ytigmcdpjlkgocaa.Dbp Go.Proofs.Ytigmcdpjlkgocaa.Ddc Go.Proofs.Ytigmcdpjlkgocaa.Dct Go.Proofs.Ytigmcdpjlkgocaa.Dun Go.Proofs.Ytigmcdpjlkgocaa.Dsr Go.Proofs.Ytigmcdpjlkgocaa.Dst Go.Proofs.Ytigmcdpjlkgocaa.Deo Go.Proofs.Ytigmcdpjlkgocaa.Den Go.Proofs.Ytigmcdpjlkgocaa.Deb Go.Proofs.Ytigmcdpjlkgocaa.Drx Go.Proofs.Ytigmcdpjlkgocaa.Dds Go.Proofs.Ytigmcdpjlkgocaa.Dml Go.Proofs.Ytigmcdpjlkgocaa.Dbw Go.Proofs.Ytigmcdpjlkgocaa.Dbk Go.Proofs.Ytigmcdpjlkgocaa.Dhd Go.Proofs.Ytigmcdpjlkgocaa.Dgr Go.Proofs.Ytigmcdpjlkgocaa.Dpu Go.Proofs.Ytigmcdpjlkgocaa.Pak Go.Proofs.Ytigmcdpjlkgocaa.Buf Go.Proofs.Ytigmcdpjlkgocaa.Fit Go.Proofs.Ytigmcdpjlkgocaa.Bit Go.Proofs.Ytigmcdpjlkgocaa.Wrd Go.Proofs.Ytigmcdpjlkgocaa.Spl Go.Proofs.Ytigmcdpjlkgocaa.Str Go.Proofs.Ytigmcdpjlkgocaa.Flt Go.Proofs.Ytigmcdpjlkgocaa.Owe Go.Proofs.Ytigmcdpjlkgocaa.Num Go.Proofs.Ytigmcdpjlkgocaa.Le Go.Proofs.Ytigmcdpjlkgocaa.Lst Go.Proofs.Ytigmcdpjlkgocaa.Aid Go.RowKit Go.Proofs.YtigmcdpjlkgocaaW.PrintWords Go.Proofs.YtigmcdpjlkgocaaW.PrintLast Go.Proofs.YtigmcdpjlkgocaaW.PrintMore
set_option linter.unusedVariables false
set_option linter.unusedSimpArgs false
section
variable {P : Program} {ops : Array Oper} {rest : List Oper} {o : Oper} {a : Act} {Q : Exit → Act → World → Prop}
/-- append(v, ys...), and where the new slice lies: behind 'at_builtin' -/
theorem appendReadH {w0 W : World} (base : Nat) (hgd : o.guard = none) (s x : Operand) (t e : TypeId) (k : IntKind) (bytes : Nat)
    (ho : o.op = .call { callee := .builtin .append, args := #[s, x], argTypes := #[t, t] })
    (ht : P.underlying t = some (.slice e)) (hinfo : (P.info? e).map (fun i => (i.zero, i.size, i.bytes)) = some (some (.int k 0), 1, bytes)) (hb0 : 0 < bytes)
    (v : Value) (xs : List Int) (A : Option Addr) (m c : Nat) (ys : List Int) (hs : a.eval s = v) (hx : a.eval x = .slice A m c)
    (HO : Own W base e k v xs) (HB : Below base w0 W) (hbase : base ≤ W.heap.size) (hC : (Kd.int k).C W A m ys) (hl : (xs.length + m) * bytes ≤ 140737488355328)
    (h : ∀ v1 w1, Own w1 base e k v1 (xs ++ ys) → Below base w0 w1 → W.grownBy w1 v.ownBlock → (v1.ownBlock = v.ownBlock ∨ ∃ b, v1.ownBlock = some b ∧ W.heap.size ≤ b) → wpList P ops Q rest (a.put o.dst v1) w1) :
    wpList P ops Q (o :: rest) a W := by
  obtain ⟨i0, hi, hzz⟩ := Option.map_eq_some_iff.1 hinfo
  simp only [Prod.mk.injEq] at hzz
  obtain ⟨hz0, hz1, hz2⟩ := hzz
  have hm : ys.length = m := hC.1
  have hlen : xs.length + m ≤ 140737488355328 := Nat.le_trans (Nat.le_mul_of_pos_right _ hb0) hl
  have key : ∀ v1 w1, w1.ownsRow base e 1 v1 (xs.length + m) (nums k xs ++ nums k ys) → W.grownBy w1 v.ownBlock → (v1.ownBlock = v.ownBlock ∨ ∃ b, v1.ownBlock = some b ∧ W.heap.size ≤ b) → wpList P ops Q rest (a.put o.dst v1) w1 := by
    intro v1 w1 h1 hg hat
    refine h v1 w1 ⟨?_⟩ (HB.grown hg hbase (own_base HO.out)) hg hat
    rw [List.length_append, hm, nums_append]; exact h1
  rcases A with _ | ad
  · have h0 : m = 0 := by
      rcases Nat.eq_zero_or_pos m with h0 | h0
      · exact h0
      · obtain ⟨ad, h', _⟩ := hC.2.2 h0
        cases h'
    subst h0
    obtain rfl : ys = [] := List.eq_nil_of_length_eq_zero hm
    have hk := key v W (by simpa [nums] using HO.out) (grownRefl W _) (.inl rfl)
    refine wpList_plain hgd fun K hK => ?_
    have hrun : (Builtin.append_ #[t, t] o.type #[v, .slice none 0 c]).run P W = .ok v W := by
      rcases HO.out.2 with ⟨rfl, _⟩ | ⟨g, cap, cur, rfl, _, _, hnc, _⟩
      · simp [Builtin.append_, run_underlying ht, sizeOf, typeInfo, hi, Builtin.lenOf, Builtin.firstCells]
      · simp [Builtin.append_, run_underlying ht, sizeOf, typeInfo, hi, Builtin.lenOf, Builtin.firstCells, hnc, storeCells]
    unfold Oper.wp
    simp [execOp, ho, resolve, invoke, builtin, hs, hx, hrun, Result.andThen]
    exact hK _ _ hk
  · obtain ⟨v', w', hr, h2, h3, _, h5⟩ := run_append_own_at (P := P) W base t o.type e i0 (.int k 0) 1 bytes ht hi hz0 hz1 hz2 rfl (by omega) v xs.length (nums k xs) HO.out ad m c (nums k ys) (by simp [nums, hm]) (C_cells hC) (by intro u hu; simp [nums] at hu; obtain ⟨q, _, rfl⟩ := hu; rfl) (by simp only [maxLen]; omega) hl hbase
    have hk := key v' w' h2 h3 (h5.imp id (fun h => ⟨_, h, Nat.le_refl _⟩))
    refine wpList_plain hgd fun K hK => ?_
    unfold Oper.wp
    simp [execOp, ho, resolve, invoke, builtin, hs, hx, hr, Result.andThen]
    exact hK _ _ hk
end
theorem appendOwnH {P : Program} {ops : Array Oper} {rest : List Oper} {o : Oper} {a : Act} {Q : Exit → Act → World → Prop} {w0 W : World} (base : Nat) (hgd : o.guard = none) (s x : Operand) (t e : TypeId) (k : IntKind) (bytes : Nat)
    (ho : o.op = .call { callee := .builtin .append, args := #[s, x], argTypes := #[t, t] })
    (ht : P.underlying t = some (.slice e)) (hinfo : (P.info? e).map (fun i => (i.zero, i.size, i.bytes)) = some (some (.int k 0), 1, bytes)) (hb0 : 0 < bytes)
    (v : Value) (xs : List Int) (y : Int) (hs : a.eval s = v) (hx : a.eval x = .slice (some ⟨W.heap.size, 0, none⟩) 1 1)
    (HO : Own W base e k v xs) (HB : Below base w0 W) (hbase : base ≤ W.heap.size) (hl : (xs.length + 1) * bytes ≤ 140737488355328)
    (h : ∀ v1 w1, Own w1 base e k v1 (xs ++ [y]) → Below base w0 w1 → W.grownBy w1 v.ownBlock → (v1.ownBlock = v.ownBlock ∨ ∃ b, v1.ownBlock = some b ∧ W.heap.size ≤ b) → wpList P ops Q rest (a.put o.dst v1) w1) :
    wpList P ops Q (o :: rest) a (W.alloc (.cells #[.int k y] e)) :=
  print_append_num base hgd s x t e k bytes ho ht hinfo hb0 v xs y hs hx HO.out HB hbase hl fun v1 w1 ho hb hg hat => h v1 w1 ⟨ho⟩ hb hg hat
/-- a part as the writer makes it -/
def partOk (W : Nat) (ch : List Int) (ls : Int) (S q t : Nat) (p : DPart) : Prop := p.1 ≤ W ∧ fitL p.1 p.2 ∧ p.2 = partI (fun x => rd ch (t * S + x : Nat) - ls) S (q - t * S) ∧ (q ≤ t * S → p.1 = 0)
theorem parts_snoc {W : Nat} {ch : List Int} {ls : Int} {S q r : Nat} {ps : List DPart} {p : DPart} (h : ∀ t, t < r → partOk W ch ls S q t (ps.getD t (0, []))) (hl : ps.length = r) (hp : partOk W ch ls S q r p) : ∀ t, t < r + 1 → partOk W ch ls S q t ((ps ++ [p]).getD t (0, [])) := by
  intro t ht
  by_cases c : t < r
  · rw [getD_snoc_l _ _ _ (by omega)]; exact h t c
  · obtain rfl : t = r := by omega
    rw [getD_snoc_r _ _ _ hl]; exact hp
theorem part_0 (W : Nat) (ch : List Int) (ls : Int) (S q t : Nat) (h : q ≤ t * S) : partOk W ch ls S q t (0, partI (fun x => rd ch (t * S + x : Nat) - ls) S 0) := by
  refine ⟨Nat.zero_le _, ?_, ?_, fun _ => rfl⟩
  · intro x hx
    rw [partI_zero] at hx
    obtain ⟨_, rfl⟩ := List.mem_replicate.1 hx
    exact ⟨Int.le_refl 0, Int.pow_pos (by decide)⟩
  · rw [show q - t * S = 0 by omega]
theorem partsB_0 (ps : List DPart) (l : List Int) : partsB (ps ++ [(0, l)]) = partsB ps := by
  have e : packLo 0 l = [] := by unfold packLo; rw [Nat.mul_zero]; rfl
  simp [partsB, e]
theorem partsB_snoc (ps : List DPart) (p : DPart) : partsB (ps ++ [p]) = partsB ps ++ packLo p.1 p.2 := by simp [partsB]
theorem ws_snoc (ps : List DPart) (p : DPart) : natsI ((ps ++ [p]).map (·.1)) = natsI (ps.map (·.1)) ++ [(p.1 : Int)] := by simp [natsI]
theorem rest_cut (ch : List Int) (r S q mo : Nat) (hl : ch.length = q) (h : min S (q - r * S) = mo) (hr : r * S ≤ q ∨ mo = 0) : (ch.drop (r * S)).drop mo = ch.drop ((r + 1) * S) := by
  rw [List.drop_drop, Nat.succ_mul]
  by_cases c : mo = S
  · rw [c]
  · rw [List.drop_eq_nil_of_le (by omega), List.drop_eq_nil_of_le (by omega)]
theorem partI_top (f : Nat → Int) (n k m : Nat) (h : min n k = m) : partI f n m = partI f n k := by
  apply rd_ext
  · rw [partI_length, partI_length]
  · intro j hj
    rw [partI_length] at hj
    rw [rd_partI _ _ _ _ hj, rd_partI _ _ _ _ hj]
    by_cases c : j < k
    · rw [if_pos (by omega), if_pos c]
    · rw [if_neg (by omega), if_neg c]
theorem partI_fits (f : Nat → Int) (n m w : Nat) (h : ∀ x : Nat, x < m → ∃ y : Nat, f x = (y : Int) ∧ y < 2 ^ w) : fitL w (partI f n m) := by
  intro x hx
  simp only [partI, List.mem_map, List.mem_range] at hx
  obtain ⟨i, hi, rfl⟩ := hx
  by_cases c : i < m
  · rw [if_pos c]
    obtain ⟨y, e, hy⟩ := h i c
    rw [e]
    have : ((y : Nat) : Int) < ((2 ^ w : Nat) : Int) := Int.ofNat_lt.2 hy
    refine ⟨Int.natCast_nonneg _, ?_⟩
    rw [Int.natCast_pow] at this; exact this
  · rw [if_neg c]
    exact ⟨Int.le_refl 0, Int.pow_pos (by decide)⟩
theorem fitL_u64 {w : Nat} {l : List Int} (h : fitL w l) (hw : w ≤ 64) : u64L l := by
  intro x hx
  have h1 := h x hx
  have h2 : (2 : Int) ^ w ≤ 18446744073709551616 := by
    have : 2 ^ w ≤ 2 ^ 64 := Nat.pow_le_pow_right (by decide) hw
    have h3 : ((2 ^ w : Nat) : Int) ≤ ((2 ^ 64 : Nat) : Int) := Int.ofNat_le.2 this
    rw [Int.natCast_pow] at h3; exact h3
  exact ⟨h1.1, by omega⟩
theorem part_n (W : Nat) (ch : List Int) (ls : Int) (S q t mo w : Nat) (hw : w ≤ W) (hm : min S (q - t * S) = mo) (h0 : 0 < mo) (hf : ∀ x : Nat, x < mo → ∃ y : Nat, rd ch (t * S + x : Nat) - ls = (y : Int) ∧ y < 2 ^ w) : partOk W ch ls S q t (w, partI (fun x => rd ch (t * S + x : Nat) - ls) S mo) := by
  refine ⟨hw, partI_fits _ _ _ _ hf, partI_top _ _ _ _ hm, fun h => by omega⟩
theorem packLo_part (w S : Nat) (l : List Int) (hl : l.length = S) (h8 : S % 32 = 0) : bytesLo (upTo (bitsLo w l) (S * w)) ((S * w + 7) / 8) = packLo w l := by
  rw [← hl]
  refine packLo_upTo w l ?_
  rw [hl]
  obtain ⟨k, rfl⟩ : ∃ k, S = 8 * k := ⟨S / 8, by omega⟩
  rw [Nat.mul_assoc]; omega
theorem parts_len (W : Nat) (ch : List Int) (ls : Int) (S q r : Nat) (ps : List DPart) (h : ∀ t, t < r → partOk W ch ls S q t (ps.getD t (0, []))) (hl : ps.length = r) (hr : r ≤ 32) (hW : W ≤ 64) (hS : S ≤ 1024) : (partsB ps).length ≤ 400000 := by
  have h1 : ∀ p ∈ ps, (packLo p.1 p.2).length ≤ 8192 := fun p hp => by
    obtain ⟨i, hi, rfl⟩ := List.getElem_of_mem hp
    have h2 := h i (by omega)
    rw [List.getD_eq_getElem?_getD, List.getElem?_eq_getElem hi] at h2
    obtain ⟨a, _, c, _⟩ := h2
    have a1 : (ps[i]).1 ≤ W := a
    have c1 : (ps[i]).2.length = S := by
      have : (ps[i]).2 = _ := c
      rw [this, partI_length]
    unfold packLo
    rw [bytesLo_length, c1]
    have := Nat.mul_le_mul hS (Nat.le_trans a1 hW)
    omega
  have h2 : ∀ qs : List DPart, (∀ p ∈ qs, (packLo p.1 p.2).length ≤ 8192) → (partsB qs).length ≤ qs.length * 8192 := by
    intro qs
    induction qs with
    | nil => intro _; simp [partsB]
    | cons p qs ih =>
      intro hq
      have e : partsB (p :: qs) = packLo p.1 p.2 ++ partsB qs := by simp [partsB]
      have a := hq p (List.mem_cons_self ..)
      have b := ih fun p hp => hq p (List.mem_cons_of_mem _ hp)
      rw [e, List.length_append, List.length_cons]; omega
  have := h2 ps h1
  omega
theorem partI_congr (f g : Nat → Int) (n k : Nat) (h : ∀ x, x < k → f x = g x) : partI f n k = partI g n k := by
  apply rd_ext
  · rw [partI_length, partI_length]
  · intro j hj
    rw [partI_length] at hj
    rw [rd_partI _ _ _ _ hj, rd_partI _ _ _ _ hj]
    by_cases c : j < k
    · rw [if_pos c, if_pos c, h j c]
    · rw [if_neg c, if_neg c]
/-- a block is done -/
theorem blk_done (k : IntKind) (hk : k = .i64 ∨ k = .i32) (W P S B : Nat) (hB : B = P * S) (f : Int) (l : List Int) (N j q : Nat) (bs : List DBlk) (ls : Int) (ps : List DPart) (ch : List Int) (hB0 : 0 < B)
    (hl : l.length = N) (hj1 : 1 ≤ j) (hjN : j < N) (hq : min B (N - j) = q) (hch : ((dif k l).drop (j - 1)).take q = ch)
    (hps : ∀ t, t < P → partOk W ch ls S q t (ps.getD t (0, []))) (hpl : ps.length = P) (hmn : -9223372036854775808 ≤ ls ∧ ls ≤ 9223372036854775807) (hwf : ∀ x ∈ l, k.min ≤ x ∧ x ≤ k.max)
    (HOK : ∀ bb, strOk W P S (N - j) bb → strOk W P S (N - 1) (bs ++ bb)) (HV2 : f :: blksV k f bs = l.take j) :
    (∀ bb, strOk W P S (N - (j + B)) bb → strOk W P S (N - 1) (bs ++ [(ls, ps)] ++ bb)) ∧ (f :: blksV k f (bs ++ [(ls, ps)])).take N = l.take (j + B) ∧ (j + B ≤ N → f :: blksV k f (bs ++ [(ls, ps)]) = l.take (j + B)) := by
  subst hB
  refine gen_round k W P S f (rd l (j - 1 : Nat)) l N j q bs (ls, ps) hB0 hl hj1 hjN hq ⟨hpl, fun p hp => ?_⟩ ?_ hmn ?_ HOK HV2 rfl
  · obtain ⟨i, hi, rfl⟩ := List.getElem_of_mem hp
    have h2 := hps i (by have : ps.length = P := hpl; have : i < ps.length := hi; omega)
    have hi' : i < ps.length := hi
    rw [List.getD_eq_getElem?_getD, List.getElem?_eq_getElem hi'] at h2
    obtain ⟨a, b, c, _⟩ := h2
    refine ⟨a, ?_, b⟩
    have : (ps[i]).2 = _ := c
    show (ps[i]).2.length = S
    rw [this, partI_length]
  · intro t ht
    show (ps.getD t (0, [])).1 = 0
    by_cases c : t < P
    · exact (hps t c).2.2.2 (by omega)
    · rw [List.getD_eq_getElem?_getD, List.getElem?_eq_none (by omega)]; rfl
  · show (walkV k ls _ (ps.flatMap (·.2))).take q = _
    rw [parts_form S q (fun x => rd ch (x : Nat) - ls) ps P hpl (fun i hi => (hps i hi).2.2.1)]
    rw [partI_congr (fun x => rd ch (x : Nat) - ls) (fun p => rd (dif k l) (j - 1 + p : Nat) - ls) (P * S) q (fun x hx => by
      show rd ch (x : Nat) - ls = _
      rw [← hch, rd_take _ _ _ hx, rd_drop])]
    exact form_vals k hk l N j q (P * S) ls _ hl hj1 (by omega) (by omega) (by omega) rfl hwf
theorem parts_len8 (W : Nat) (ch : List Int) (ls : Int) (S q r : Nat) (ps : List DPart) (h : ∀ t, t < r → partOk W ch ls S q t (ps.getD t (0, []))) (hl : ps.length = r) (hW : W ≤ 64) : (partsB ps).length ≤ r * (S * 8) := by
  have h1 : ∀ p ∈ ps, (packLo p.1 p.2).length ≤ S * 8 := fun p hp => by
    obtain ⟨i, hi, rfl⟩ := List.getElem_of_mem hp
    have h2 := h i (by omega)
    rw [List.getD_eq_getElem?_getD, List.getElem?_eq_getElem hi] at h2
    obtain ⟨a, _, c, _⟩ := h2
    have a1 : (ps[i]).1 ≤ W := a
    have c1 : (ps[i]).2.length = S := by
      have : (ps[i]).2 = _ := c
      rw [this, partI_length]
    unfold packLo
    rw [bytesLo_length, c1]
    have := Nat.mul_le_mul_left S (Nat.le_trans a1 hW)
    omega
  have h2 : ∀ qs : List DPart, (∀ p ∈ qs, (packLo p.1 p.2).length ≤ S * 8) → (partsB qs).length ≤ qs.length * (S * 8) := by
    intro qs
    induction qs with
    | nil => intro _; simp [partsB]
    | cons p qs ih =>
      intro hq
      have e : partsB (p :: qs) = packLo p.1 p.2 ++ partsB qs := by simp [partsB]
      have a := hq p (List.mem_cons_self ..)
      have b := ih fun p hp => hq p (List.mem_cons_of_mem _ hp)
      rw [e, List.length_append, List.length_cons, Nat.succ_mul]; omega
  rw [← hl]; exact h2 ps h1
/-- apart: u's block is not v's -/
structure Apt (u v : Value) : Prop where
  mk :: (out : u.ownBlock = none ∨ u.ownBlock ≠ v.ownBlock)
theorem apt_step {W : World} {u v v1 : Value} {base t : Nat} {k : IntKind} {xs : List Int} (h : Apt u v) (ho : Own W base t k u xs) (hat : v1.ownBlock = v.ownBlock ∨ ∃ b, v1.ownBlock = some b ∧ W.heap.size ≤ b) : Apt u v1 := by
  rcases hat with e | ⟨b, e, hb⟩
  · exact ⟨by rw [e]; exact h.out⟩
  · refine ⟨?_⟩
    cases hu : u.ownBlock with
    | none => exact .inl rfl
    | some g =>
      have := own_lt ho.out g hu
      right; rw [e]; intro h2; injection h2 with h2; omega
theorem apt_sym {u v : Value} (h : Apt u v) : Apt v u := by
  refine ⟨?_⟩
  cases hv : v.ownBlock with
  | none => exact .inl rfl
  | some g =>
    right
    rcases h.out with h | h
    · rw [h]; intro e; cases e
    · rw [hv] at h; exact fun e => h e.symm
end Go.Proofs.Ytigmcdpjlkgocaa.Dby
