import Derived.Test.YtoopljlbiifmfaaDoorFit
import Derived.Deep.Slices
import Derived.Deep.Strs
import Derived.OpenShut
import Derived.ChangeSlices
/-! Runs that come in. -/
namespace Go.Proofs.YtoopljlbiifmfaaDoor.Rin
open Go.Proofs.YtoopljlbiifmfaaDoor.Fit Go.Proofs.YtoopljlbiifmfaaDoor.Bit Go.Proofs.YtoopljlbiifmfaaDoor.Wrd Go.Proofs.YtoopljlbiifmfaaDoor.Spl Go.Proofs.YtoopljlbiifmfaaDoor.Str Go.Proofs.YtoopljlbiifmfaaDoor.Flt Go.Proofs.YtoopljlbiifmfaaDoor.Owe Go.Proofs.YtoopljlbiifmfaaDoor.Num Go.Proofs.YtoopljlbiifmfaaDoor.Le Go.Proofs.YtoopljlbiifmfaaDoor.Lst Go.Proofs.YtoopljlbiifmfaaDoor.Aid Go.RowKit Go.Proofs.YtoopljlbiifmfaaDoorW.PrintWords Go.Proofs.YtoopljlbiifmfaaDoorW.PrintLast Go.Proofs.YtoopljlbiifmfaaDoorW.PrintMore
set_option linter.unusedVariables false
set_option linter.unusedSimpArgs false
abbrev RunT := Int × Int × List Int
def runK (t : Nat) : Kd RunT := Kd.pair (Kd.int .u64) (Kd.pair (Kd.int .i64) (Kd.slice t (Kd.int .u64)))
theorem runK_sz (t : Nat) : (runK t).sz = 3 := rfl
/-- runs that came in -/
structure IsRuns (t : Nat) (w : World) (a : Option Addr) (len cap : Nat) (ls : List RunT) : Prop where
  C : (runK t).C w a len ls
  le : len ≤ cap
  wf : ∀ r ∈ ls, (Lit.int .u64 r.1).wf = true ∧ (Lit.int .i64 r.2.1).wf = true ∧ ∀ x ∈ r.2.2, (Lit.int .u64 x).wf = true
def rdr (ls : List RunT) (i : Nat) : RunT := ls.getD i (0, 0, [])
theorem rdr_mem {ls : List RunT} {i : Nat} (h : i < ls.length) : rdr ls i ∈ ls := by
  unfold rdr; rw [List.getD_eq_getElem?_getD, List.getElem?_eq_getElem h]; exact List.getElem_mem h
theorem take_run (ls : List RunT) (i : Nat) (h : i < ls.length) : ls.take (i + 1) = ls.take i ++ [rdr ls i] := by
  rw [List.take_succ_eq_append_getElem h]
  simp [rdr, List.getD_eq_getElem?_getD, h]
theorem at_run {t : Nat} {w : World} {A : Option Addr} {n : Nat} {ls : List RunT} (h : (runK t).C w A n ls) (i : Nat) (h1 : i < n) :
    ∃ ad A' c', A = some ad ∧ w.cell? (ad.add (i * 3)) = some (.int .u64 (rdr ls i).1) ∧ w.cell? ⟨(ad.add (i * 3)).block, (ad.add (i * 3)).off + 1, none⟩ = some (.int .i64 (rdr ls i).2.1) ∧ w.cell? ⟨(ad.add (i * 3)).block, (ad.add (i * 3)).off + 2, none⟩ = some (.slice A' (rdr ls i).2.2.length c') ∧ (rdr ls i).2.2.length ≤ c' ∧ (Kd.int .u64).C w A' (rdr ls i).2.2.length (rdr ls i).2.2 := by
  obtain ⟨ad, cs, e, hl, hK, hc⟩ := Kd.C_get h (0, 0, []) (i : Int) (by omega) (by omega)
  rw [Int.toNat_natCast] at hK hc
  have hK : (runK t).K w (rdr ls i) cs := hK
  obtain ⟨c0, c1, rfl, h0, c2, c3, rfl, hb, A', c', e3, hle, hC⟩ := hK
  have h0 : c0 = [.int .u64 (rdr ls i).1] := h0
  have hb : c2 = [.int .i64 (rdr ls i).2.1] := hb
  subst h0 hb e3
  have g1 := hc 1 _ rfl
  have g2 := hc 2 _ rfl
  rw [add_field _ _ _ (by omega)] at g1 g2
  exact ⟨ad, A', c', e, hc 0 _ rfl, g1, g2, hle, hC⟩
theorem openRuns {H : Type} {enc : TypeId × Value → H} {P : Program} {w : World} {base : Nat} {held : Bool} {t e q u64 i64 : TypeId} {f0 f1 f2 : Field} {fuel : Nat} {a : Option Addr} {len cap : Nat} {x : DataW H × List MemPlace} (ht : P.underlying t = some (.slice e)) (he : P.underlying e = some (.struct #[f0, f1, f2]))
    (t0 : f0.type = u64) (o0 : f0.offset = 0) (t1 : f1.type = i64) (o1 : f1.offset = 1) (t2 : f2.type = q) (o2 : f2.offset = 2) (hu : P.underlying u64 = some (.int .u64)) (hi : P.underlying i64 = some (.int .i64)) (hq : P.underlying q = some (.slice u64))
    (ce : P.cellsOf e = 3) (cu : P.cellsOf u64 = 1) (ci : P.cellsOf i64 = 1) (cq : P.cellsOf q = 1) (h : DataW.trod enc P w base (fun _ => true) held fuel t [.slice a len cap] = some x) (t' : Nat) : ∃ ls, IsRuns t' w a len cap ls := by
  rcases Go.Deep.open_slice ht h with ⟨h0, _⟩ | ⟨a', len', cap', m, n, D, Pl, h0, hb, hl, hm, hmm, _, hx⟩
  · simp at h0
    obtain ⟨rfl, rfl, rfl⟩ := h0
    exact ⟨[], ⟨⟨rfl, by omega, fun h => absurd h (by omega)⟩, Nat.le_refl _, by simp⟩⟩
  · simp at h0
    obtain ⟨rfl, rfl, rfl⟩ := h0
    simp only [if_true] at hmm
    subst hmm
    simp only [maxLen] at hm
    obtain ⟨F, hF⟩ := Go.Deep.choose_lt (α := RunT) (n := m) (p := fun i y => (∃ cs, cs.length = (runK t').sz ∧ (runK t').K w y cs ∧ ∀ c u, cs[c]? = some u → w.cell? (a'.add (i * 3 + c)) = some u) ∧ (Lit.int .u64 y.1).wf = true ∧ (Lit.int .i64 y.2.1).wf = true ∧ ∀ x ∈ y.2.2, (Lit.int .u64 x).wf = true) (fun i hi' => by
      obtain ⟨cs, hcs, ht3⟩ := hx i hi'
      rw [ce] at hcs
      obtain ⟨_, hlen, hcell⟩ := World.cells?_some hcs
      obtain ⟨y0, y1, y2, k, _, _, g0, g1, g2⟩ := Go.Deep.trod_struct3 he ht3
      rw [t0, o0, cu] at g0
      rw [t1, o1, ci] at g1
      rw [t2, o2, cq] at g2
      match cs, hlen with
      | [c0, c1, c2], _ =>
      simp at g0 g1 g2
      obtain ⟨z0, e0, _, w0⟩ := DataW.trod_int hu g0
      obtain ⟨z1, e1, _, w1⟩ := DataW.trod_int hi g1
      simp at e0 e1
      subst e0 e1
      have hcells : ∀ c u, [Value.int .u64 z0, Value.int .i64 z1, c2][c]? = some u → w.cell? (a'.add (i * 3 + c)) = some u := fun c u hu' => by
        have hc : c < 3 := (List.getElem?_eq_some_iff.1 hu').1
        have := hcell c hc
        rw [Addr.add_add] at this
        rw [this]; exact hu'
      rcases Go.ChangeShapes.open_ints hq hu cu g2 with ⟨h2, _⟩ | ⟨x2, l2, p2, zs, h2, _, hl2, hm2, hz2, _, hc2, hw2⟩
      · simp at h2
        subst h2
        exact ⟨(z0, z1, []), ⟨[.int .u64 z0, .int .i64 z1, .slice none 0 0], rfl, ⟨[.int .u64 z0], _, rfl, rfl, [.int .i64 z1], _, rfl, rfl, none, 0, rfl, Nat.le_refl _, Kd.C_nil _ _⟩, hcells⟩, w0, w1, by simp⟩
      · simp at h2
        subst h2
        simp only [maxLen] at hm2
        simp only [if_true] at hz2
        have hlt : (zs.take l2).length = l2 := by rw [List.length_take]; omega
        refine ⟨(z0, z1, zs.take l2), ⟨[.int .u64 z0, .int .i64 z1, .slice (some x2) l2 p2], rfl, ⟨[.int .u64 z0], _, rfl, rfl, [.int .i64 z1], _, rfl, rfl, some x2, p2, by rw [hlt], by rw [hlt]; exact hl2, ?_⟩, hcells⟩, w0, w1, fun x hx => hw2 x (List.mem_of_mem_take hx)⟩
        rw [hlt]
        refine ⟨hlt, by omega, fun hp => ⟨x2, rfl, fun c p hc => ?_⟩⟩
        have hcl : c < l2 := by
          have h := (List.getElem?_eq_some_iff.1 hc).1
          have h : c < (zs.take l2).length := h
          omega
        have := hc2 c (by omega)
        refine ⟨[.int .u64 p], rfl, rfl, fun i u hu => ?_⟩
        have hi : i = 0 := by
          have := (List.getElem?_eq_some_iff.1 hu).1
          simp at this; exact this
        subst hi
        have hu' : Value.int .u64 p = u := by simpa using hu
        subst hu'
        have hz : zs.getD c 0 = p := by
          rw [List.getElem?_take, if_pos hcl] at hc
          rw [List.getD_eq_getElem?_getD, hc]; rfl
        rw [hz] at this
        have e3 : c * (Kd.int .u64).sz + 0 = c := Nat.mul_one c
        rw [e3]; exact this)
    refine ⟨(List.range len).map F, ⟨⟨by simp, by omega, fun _ => ⟨_, rfl, fun j p hj => ?_⟩⟩, hl, ?_⟩⟩
    · have hjl : j < len := by
        have := (List.getElem?_eq_some_iff.1 hj).1
        simpa using this
      have hp : F j = p := by
        rw [List.getElem?_map, List.getElem?_range hjl] at hj
        simpa using hj
      subst hp
      obtain ⟨cs, h1, h2, h3⟩ := (hF j (by omega)).1
      exact ⟨cs, h1, h2, h3⟩
    · intro y hy
      simp only [List.mem_map, List.mem_range] at hy
      obtain ⟨r, hr, rfl⟩ := hy
      exact (hF r (by omega)).2
end Go.Proofs.YtoopljlbiifmfaaDoor.Rin
