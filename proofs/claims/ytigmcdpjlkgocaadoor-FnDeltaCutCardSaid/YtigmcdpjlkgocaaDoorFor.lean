import Derived.Test.YtigmcdpjlkgocaaDoorDfm
import Derived.WideShapes
import Derived.Deep.Slices
import Derived.Deep.Strs
import Derived.OpenShut
import Derived.ChangeSlices
/-! A form that comes in. -/
namespace Go.Proofs.YtigmcdpjlkgocaaDoor.For
open Go.Proofs.YtigmcdpjlkgocaaDoor.Dfm Go.Proofs.YtigmcdpjlkgocaaDoor.Fit Go.Proofs.YtigmcdpjlkgocaaDoor.Bit Go.Proofs.YtigmcdpjlkgocaaDoor.Wrd Go.Proofs.YtigmcdpjlkgocaaDoor.Spl Go.Proofs.YtigmcdpjlkgocaaDoor.Str Go.Proofs.YtigmcdpjlkgocaaDoor.Num Go.Proofs.YtigmcdpjlkgocaaDoor.Le Go.Proofs.YtigmcdpjlkgocaaDoor.Lst Go.Proofs.YtigmcdpjlkgocaaDoor.Aid Go.RowKit Go.Proofs.YtigmcdpjlkgocaaDoorW.PrintWords Go.Proofs.YtigmcdpjlkgocaaDoorW.PrintLast Go.Proofs.YtigmcdpjlkgocaaDoorW.PrintMore
set_option linter.unusedVariables false
set_option linter.unusedSimpArgs false
/-- a form that came in -/
structure IsForm (v : Value) (w : World) (b p : Int) (Am : Option Addr) (nm cm : Nat) (mr : List Int) : Prop where
  eq : v = .agg #[.int .i64 b, .int .i64 p, .slice Am nm cm]
  C : (Kd.int .i64).C w Am nm mr
  le : nm ≤ cm
theorem openForm {H : Type} {enc : TypeId × Value → H} {P : Program} {w : World} {base base' : Nat} {held : Bool} {t q i64 : TypeId} {f0 f1 f2 : Field} {fuel : Nat} {v : Value} {x : DataW H × List MemPlace} (ht : P.underlying t = some (.struct #[f0, f1, f2]))
    (t0 : f0.type = i64) (o0 : f0.offset = 0) (t1 : f1.type = i64) (o1 : f1.offset = 1) (t2 : f2.type = q) (o2 : f2.offset = 2) (hi : P.underlying i64 = some (.int .i64)) (hq : P.underlying q = some (.slice i64))
    (ct : P.cellsOf t = 3) (ci : P.cellsOf i64 = 1) (cq : P.cellsOf q = 1) (hv : Value.okWide P w .any base' t v) (h : DataW.trod enc P w base (fun _ => true) held fuel t v.cells.toList = some x) : ∃ b p Am nm cm mr, IsForm v w b p Am nm cm mr := by
  obtain ⟨cs, rfl, hsz⟩ := Go.WideShapes.okWide_struct ht hv
  rw [ct] at hsz
  obtain ⟨y0, y1, y2, k, _, _, g0, g1, g2⟩ := Go.Deep.trod_struct3 ht h
  rw [t0, o0, ci] at g0
  rw [t1, o1, ci] at g1
  rw [t2, o2, cq] at g2
  obtain ⟨l, rfl⟩ : ∃ l : List Value, cs = l.toArray := ⟨cs.toList, by simp⟩
  match l, hsz with
  | [c0, c1, c2], _ =>
  simp [Value.cells] at g0 g1 g2
  obtain ⟨z0, e0, _, w0⟩ := DataW.trod_int hi g0
  obtain ⟨z1, e1, _, w1⟩ := DataW.trod_int hi g1
  simp at e0 e1
  subst e0 e1
  rcases Go.ChangeShapes.open_ints hq hi ci g2 with ⟨h2, _⟩ | ⟨x2, l2, p2, zs, h2, _, hl2, hm2, hz2, _, hc2, hw2⟩
  · simp at h2
    subst h2
    exact ⟨z0, z1, none, 0, 0, [], rfl, Kd.C_nil _ _, Nat.le_refl _⟩
  · simp at h2
    subst h2
    simp only [maxLen] at hm2
    simp only [if_true] at hz2
    have hlt : (zs.take l2).length = l2 := by rw [List.length_take]; omega
    refine ⟨z0, z1, some x2, l2, p2, zs.take l2, rfl, ⟨hlt, by omega, fun hp => ⟨x2, rfl, fun c p hc => ?_⟩⟩, hl2⟩
    have hcl : c < l2 := by
      have h := (List.getElem?_eq_some_iff.1 hc).1
      have h : c < (zs.take l2).length := h
      omega
    have := hc2 c (by omega)
    refine ⟨[.int .i64 p], rfl, rfl, fun i u hu => ?_⟩
    have hi : i = 0 := by
      have := (List.getElem?_eq_some_iff.1 hu).1
      simp at this; exact this
    subst hi
    have hu' : Value.int .i64 p = u := by simpa using hu
    subst hu'
    have hz : zs.getD c 0 = p := by
      rw [List.getElem?_take, if_pos hcl] at hc
      rw [List.getD_eq_getElem?_getD, hc]; rfl
    rw [hz] at this
    have e3 : c * (Kd.int .i64).sz + 0 = c := Nat.mul_one c
    rw [e3]; exact this
end Go.Proofs.YtigmcdpjlkgocaaDoor.For
