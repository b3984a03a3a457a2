import Derived.Test.YtigmcdpjlkgocaaLst
/-! Rows and own slices of elements of one cell, whatever the element's spelling (floats). -/
namespace Go.Proofs.Ytigmcdpjlkgocaa.Owe
open Go.Proofs.Ytigmcdpjlkgocaa.Lst Go.Proofs.Ytigmcdpjlkgocaa.Aid Go.RowKit Go.Proofs.YtigmcdpjlkgocaaW.PrintWords Go.Proofs.YtigmcdpjlkgocaaW.PrintLast Go.Proofs.YtigmcdpjlkgocaaW.PrintMore
set_option linter.unusedVariables false
set_option linter.unusedSimpArgs false
section
variable {α : Type}
structure RowE (enc : α → Value) (w : World) (g : Nat) (t : TypeId) (xs : List α) : Prop where
  mk :: (out : Blk w g (encs enc xs).toArray t)
namespace RowE
variable {enc : α → Value} {w w1 : World} {g t : Nat} {xs : List α}
theorem cell (h : RowE enc w g t xs) {j : Nat} {x : α} (hj : xs[j]? = some x) : w.cell? ⟨g, j, none⟩ = some (enc x) := by
  refine h.out.cell ?_
  simp [encs, hj]
theorem free (h : RowE enc w g t xs) (j : Nat) : w.frozen? ⟨g, j, none⟩ = false := h.out.free j
theorem set (h : RowE enc w g t xs) (j : Nat) (x : α) : RowE enc (w.setCell ⟨g, j, none⟩ (enc x)) g t (xs.set j x) := by
  refine ⟨?_⟩
  have := h.out.set j (enc x)
  have e : (encs enc (xs.set j x)).toArray = (encs enc xs).toArray.setIfInBounds j (enc x) := by
    simp [encs, List.map_set]
  rw [e]; exact this
theorem drewN (h : RowE enc w g t xs) (n : Nat) : RowE enc (w.drewN n) g t xs := ⟨h.out.drewN n⟩
theorem below (h : RowE enc w g t xs) {B : Nat} (hb : Below B w w1) (hg : g < B) : RowE enc w1 g t xs := ⟨h.out.below hb hg⟩
theorem lt (h : RowE enc w g t xs) : g < w.heap.size := h.out.lt
theorem grown (h : RowE enc w g t xs) {row : Option Nat} (hg : w.grownBy w1 row) (hne : some g ≠ row) : RowE enc w1 g t xs := ⟨⟨(hg.block g h.lt hne).trans h.out.out⟩⟩
theorem alloc (h : RowE enc w g t xs) (o : Obj) : RowE enc (w.alloc o) g t xs := ⟨h.out.alloc o⟩
theorem far (h : RowE enc w g t xs) {p : Addr} (hp : g ≠ p.block) (u : Value) : RowE enc (w.setCell p u) g t xs := ⟨h.out.far hp u⟩
end RowE
structure OwnE (enc : α → Value) (w : World) (base t : Nat) (v : Value) (xs : List α) : Prop where
  mk :: (out : w.ownsRow base t 1 v xs.length (encs enc xs))
namespace OwnE
variable {enc : α → Value} {w w1 : World} {base t : Nat} {v : Value} {xs : List α}
theorem nil (enc : α → Value) (w : World) (base t : Nat) : OwnE enc w base t (.slice none 0 0) [] := ⟨own_nil w base t 1⟩
theorem alloc (h : OwnE enc w base t v xs) (o : Obj) : OwnE enc (w.alloc o) base t v xs := ⟨h.out.alloc o⟩
theorem grown (h : OwnE enc w base t v xs) {row : Option Nat} (hg : w.grownBy w1 row) (hne : v.ownBlock = none ∨ v.ownBlock ≠ row) : OwnE enc w1 base t v xs := ⟨own_other h.out hg hne⟩
theorem below (h : OwnE enc w base t v xs) (hb : Below w.heap.size w w1) : OwnE enc w1 base t v xs := ⟨pw_own_below h.out hb⟩
theorem drewN (h : OwnE enc w base t v xs) (n : Nat) : OwnE enc (w.drewN n) base t v xs := h.below (drewN_below w n)
theorem empty (enc : α → Value) (w : World) (base t : Nat) (hb : base ≤ w.heap.size) : OwnE enc (w.alloc (.cells #[] t)) base t (.slice (some ⟨w.heap.size, 0, none⟩) 0 0) [] :=
  ⟨⟨rfl, .inr ⟨w.heap.size, 0, #[], rfl, hb, heap_alloc_new w _, Nat.le_refl _, by simp [maxLen], rfl, rfl⟩⟩⟩
theorem read (h : OwnE enc w base t v xs) (h1 : ∀ x, (enc x).oneCell' = true) : ∃ A c, v = .slice A xs.length c ∧ xs.length ≤ c ∧ (Kd.scalar enc h1).C w A xs.length xs := by
  rcases h.out.2 with ⟨rfl, h0⟩ | ⟨g, c, cur, rfl, hb, hh, hn, hm, hs, ht⟩
  · have : xs = [] := List.eq_nil_of_length_eq_zero h0
    subst this
    exact ⟨none, 0, rfl, Nat.le_refl _, rfl, by simp, fun h => by simp at h⟩
  · refine ⟨_, c, rfl, hn, rfl, by simp only [maxLen] at hm; omega, fun hp => ⟨_, rfl, fun j p hj => ⟨[enc p], rfl, rfl, fun i u hu => ?_⟩⟩⟩
    have hjl : j < xs.length := (List.getElem?_eq_some_iff.1 hj).1
    have hi : i = 0 := by
      have := (List.getElem?_eq_some_iff.1 hu).1
      simp at this; exact this
    subst hi
    have hu' : enc p = u := by simpa using hu
    subst hu'
    have h1 : cur[j]? = some (enc p) := by
      have h2 : (cur.toList.take (xs.length * 1))[j]? = (encs enc xs)[j]? := by rw [ht]
      rw [List.getElem?_take, if_pos (by omega)] at h2
      rw [← Array.getElem?_toList, h2]
      simp [encs, hj]
    show w.cell? ((⟨g, 0, none⟩ : Addr).add (j * 1 + 0)) = _
    by_cases h0 : j = 0
    · subst h0; simp [Addr.add, World.cell?, hh, h1]
    · simp [Addr.add, h0, World.cell?, hh, h1]
end OwnE
theorem RowE.toOwn {enc : α → Value} {w : World} {g t : Nat} {xs : List α} (h : RowE enc w g t xs) {base : Nat} (hb : base ≤ g) (hm : xs.length ≤ 9223372036854775807) : OwnE enc w base t (.slice (some ⟨g, 0, none⟩) xs.length xs.length) xs := by
  refine ⟨⟨by simp [encs], .inr ⟨g, xs.length, (encs enc xs).toArray, rfl, hb, h.out.out, Nat.le_refl _, by simpa [maxLen] using hm, by simp [encs], by simp [encs, List.take_of_length_le]⟩⟩⟩
theorem madeRowE (enc : α → Value) (d : α) (w : World) (t : TypeId) (n : Nat) : RowE enc (w.alloc (.cells (madeCells #[enc d] n) t)) w.heap.size t (List.replicate n d) := by
  have e : madeCells #[enc d] n = (encs enc (List.replicate n d)).toArray := by
    apply Array.ext
    · simp [size_madeCells, encs]
    · intro i h1 h2
      simp [madeCells, encs, Nat.mod_one]
  rw [e]; exact ⟨Blk.new _ _ _⟩
end
section
variable {α : Type} {P : Program} {ops : Array Oper} {rest : List Oper} {o : Oper} {a : Act} {Q : Exit → Act → World → Prop}
/-- append(v, y): behind 'at_builtin' -/
theorem appendOneE {w0 W : World} (enc : α → Value) (base : Nat) (hgd : o.guard = none) (s x : Operand) (t e : TypeId) (z : Value) (bytes : Nat)
    (ho : o.op = .call { callee := .builtin .append, args := #[s, x], argTypes := #[t, t] })
    (ht : P.underlying t = some (.slice e)) (hinfo : (P.info? e).map (fun i => (i.zero, i.size, i.bytes)) = some (some z, 1, bytes)) (hz : z.cells.size = 1) (hb0 : 0 < bytes)
    (v : Value) (xs : List α) (y : α) (hs : a.eval s = v) (hx : a.eval x = .slice (some ⟨W.heap.size, 0, none⟩) 1 1) (h1 : (enc y).oneCell' = true)
    (HO : OwnE enc W base e v xs) (HB : Below base w0 W) (hbase : base ≤ W.heap.size) (hl : (xs.length + 1) * bytes ≤ 140737488355328)
    (h : ∀ v1 w1, OwnE enc w1 base e v1 (xs ++ [y]) → Below base w0 w1 → W.grownBy w1 v.ownBlock → wpList P ops Q rest (a.put o.dst v1) w1) :
    wpList P ops Q (o :: rest) a (W.alloc (.cells #[enc y] e)) :=
  print_append_of enc base hgd s x t e z bytes ho ht hinfo hz hb0 v xs y hs hx h1 HO.out HB hbase hl fun v1 w1 ho hb hg _ => h v1 w1 ⟨ho⟩ hb hg
end
end Go.Proofs.Ytigmcdpjlkgocaa.Owe
