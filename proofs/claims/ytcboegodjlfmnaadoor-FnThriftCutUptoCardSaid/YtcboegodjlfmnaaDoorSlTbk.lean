import Derived.Test.YtcboegodjlfmnaaDoorSlTwc
import Derived.Test.YtcboegodjlfmnaaDoorRows
import Derived.Deep.Slices
import Derived.Deep.Strs
import Derived.OpenShut
import Derived.ChangeSlices
namespace Go.Proofs.YtcboegodjlfmnaaDoor.Tbk
open Go.Proofs.YtcboegodjlfmnaaDoor.Twc Go.Proofs.YtcboegodjlfmnaaDoor.Twb Go.Proofs.YtcboegodjlfmnaaDoor.Twa Go.Proofs.YtcboegodjlfmnaaDoor.Tit Go.Proofs.YtcboegodjlfmnaaDoor.Tsd Go.Proofs.YtcboegodjlfmnaaDoor.Ton Go.Proofs.YtcboegodjlfmnaaDoor.Tpw Go.Proofs.YtcboegodjlfmnaaDoor.Tap Go.Proofs.YtcboegodjlfmnaaDoor.Tzm Go.Proofs.YtcboegodjlfmnaaDoor.Tzl Go.Proofs.YtcboegodjlfmnaaDoor.Trh Go.Proofs.YtcboegodjlfmnaaDoor.Trn Go.Proofs.YtcboegodjlfmnaaDoor.Trm Go.Proofs.YtcboegodjlfmnaaDoor.Tuv Go.Proofs.YtcboegodjlfmnaaDoor.Tpa Go.Proofs.YtcboegodjlfmnaaDoor.Duv Go.Proofs.YtcboegodjlfmnaaDoor.Dpu Go.Proofs.YtcboegodjlfmnaaDoor.Pak Go.Proofs.YtcboegodjlfmnaaDoor.Buf Go.Proofs.YtcboegodjlfmnaaDoor.Fit Go.Proofs.YtcboegodjlfmnaaDoor.Bit Go.Proofs.YtcboegodjlfmnaaDoor.Wrd Go.Proofs.YtcboegodjlfmnaaDoor.Spl Go.Proofs.YtcboegodjlfmnaaDoor.Str Go.Proofs.YtcboegodjlfmnaaDoor.Flt Go.Proofs.YtcboegodjlfmnaaDoor.Owe Go.Proofs.YtcboegodjlfmnaaDoor.Num Go.Proofs.YtcboegodjlfmnaaDoor.Le Go.Proofs.YtcboegodjlfmnaaDoor.Lst Go.Proofs.YtcboegodjlfmnaaDoor.Aid Go.RowKit Go.Proofs.YtcboegodjlfmnaaDoorW.PrintWords Go.Proofs.YtcboegodjlfmnaaDoorW.PrintLast Go.Proofs.YtcboegodjlfmnaaDoorW.PrintMore Go.Proofs.YtcboegodjlfmnaaDoor.Tpv Go.Proofs.YtcboegodjlfmnaaDoor.Tzz
set_option linter.unusedVariables false
set_option linter.unusedSimpArgs false
open Go.ChangeShapes
section
variable {H : Type} {enc : TypeId × Value → H} {w : World}
theorem bulk_lits (k : IntKind) : ∀ l : List Int, Rows.uptoBulkAll (H := H) (lits k l) = l.length
  | [] => rfl
  | x :: r => by
    show Rows.uptoBulk _ + Rows.uptoBulkAll (lits k r) = r.length + 1
    rw [bulk_lits k r]
    show 1 + r.length = _
    omega
def sumTo (b : Nat → Nat) : Nat → Nat
  | 0 => 0
  | m + 1 => sumTo b m + b m
theorem sumTo_cons (b : Nat → Nat) : ∀ m, sumTo b (m + 1) = b 0 + sumTo (fun i => b (i + 1)) m
  | 0 => by show 0 + b 0 = b 0 + 0; omega
  | m + 1 => by
    show sumTo b (m + 1) + b (m + 1) = b 0 + (sumTo (fun i => b (i + 1)) m + b (m + 1))
    rw [sumTo_cons b m]; omega
def bulkAt (elems : List (DataW H × List MemPlace)) (i : Nat) : Nat := (elems[i]?).elim 0 fun y => Rows.uptoBulk y.1
theorem bulkAt_lt (elems : List (DataW H × List MemPlace)) (i : Nat) (h : i < elems.length) : bulkAt elems i = Rows.uptoBulk (elems[i]).1 := by
  unfold bulkAt; rw [List.getElem?_eq_getElem h]; rfl
theorem sumTo_bulk : ∀ elems : List (DataW H × List MemPlace), sumTo (bulkAt elems) elems.length = Rows.uptoBulkAll (elems.map (·.1))
  | [] => rfl
  | y :: r => by
    rw [List.length_cons, sumTo_cons]
    show bulkAt (y :: r) 0 + sumTo (fun i => bulkAt (y :: r) (i + 1)) r.length = Rows.uptoBulk y.1 + Rows.uptoBulkAll (r.map (·.1))
    rw [← sumTo_bulk r]
    rfl
theorem open_bytes {fuel : Nat} {cs : List Value} {y : DataW H × List MemPlace} (h : DataW.trod enc Tryd.prog w 0 (fun _ => true) true fuel 23 cs = some y) :
    ∃ v bs, cs = [v] ∧ BytesAt w (fun b => b < w.heap.size) v bs ∧ bs.length ≤ maxLen ∧ bs.length + 1 ≤ Rows.uptoBulk y.1 := by
  rcases Go.ChangeShapes.open_ints Tryd.underlying23 Tryd.underlying5 (by kernel_rfl) h with ⟨rfl, rfl⟩ | ⟨x2, l2, p2, zs, rfl, _, hl2, hm2, hz2, rfl, hc2, hw2⟩
  · exact ⟨_, [], rfl, bytesAt_nil _ _, Nat.zero_le _, Nat.le_refl _⟩
  · simp only [if_true] at hz2
    have hlt : (zs.take l2).length = l2 := by rw [List.length_take]; omega
    refine ⟨_, zs.take l2, rfl, ⟨some x2, p2, by rw [hlt], by rw [hlt]; exact hl2, ?_, bytesB_of fun x hx => byt_of_wf (hw2 x (List.mem_of_mem_take hx)), fun hn => ⟨x2, rfl, ?_⟩⟩, by rw [hlt]; omega, by show _ ≤ Rows.uptoBulkAll (lits .u8 _) + Rows.uptoBulkAll (lits .u8 _) + 1; rw [bulk_lits]; omega⟩
    · rw [hlt]
      refine ⟨hlt, by simp only [maxLen] at hm2; omega, fun hp => ⟨x2, rfl, fun c p hc => ?_⟩⟩
      have hcl : c < l2 := by
        have h := (List.getElem?_eq_some_iff.1 hc).1
        have h : c < (zs.take l2).length := h
        omega
      have := hc2 c (by omega)
      refine ⟨[.int .u8 p], rfl, rfl, fun i u hu => ?_⟩
      have hi : i = 0 := by
        have := (List.getElem?_eq_some_iff.1 hu).1
        simp at this; exact this
      subst hi
      have hu' : Value.int .u8 p = u := by simpa using hu
      subst hu'
      have hz : zs.getD c 0 = p := by
        rw [List.getElem?_take, if_pos hcl] at hc
        rw [List.getD_eq_getElem?_getD, hc]; rfl
      rw [hz] at this
      have e3 : c * (Kd.int .u8).sz + 0 = c := Nat.mul_one c
      rw [e3]; exact this
    · have h0 : 0 < zs.length := by
        have : 0 < (zs.take l2).length := List.length_pos_iff.2 hn
        rw [List.length_take] at this; omega
      have := block_lt_of_cell (hc2 0 h0)
      rwa [add_block] at this
theorem open_row {fld : Bool} {ad : Addr} {bk : Nat → Nat} : ∀ (m : Nat), (∀ i, i < m → ∃ (x : N) (id : Int) (ncs : List Value), NOw x ∧ N.sz x ≤ bk i ∧ (i64B id ∧ (fld = false → id = 0)) ∧ x.In flT w (fun b => b < w.heap.size) ncs ∧ ∀ j u, ((if fld then [.int .i64 id] else []) ++ ncs)[j]? = some u → w.cell? (ad.add (i * (if fld then 10 else 9) + j)) = some u) →
    ∃ (X : F) (cs : List Value), X.len = m ∧ F.ow X fld ∧ X.In flT w (fun b => b < w.heap.size) fld cs ∧ cs.length = m * (if fld then 10 else 9) ∧ (∀ j u, cs[j]? = some u → w.cell? (ad.add j) = some u) ∧ F.sz X ≤ sumTo bk m
  | 0, _ => ⟨.nil, [], rfl, trivial, rfl, by simp, (fun j u h => by simp at h), Nat.le_refl _⟩
  | m + 1, h => by
    obtain ⟨X, cs, h1, h2, h3, h4, h5, h6⟩ := open_row m fun i hi => h i (by omega)
    obtain ⟨x, id, ncs, k1, k5, k2, k3, k4⟩ := h m (by omega)
    have hnl : ncs.length = 9 := k3.length
    refine ⟨X.snoc x.d id x.ls x.fs, cs ++ ((if fld then [.int .i64 id] else []) ++ ncs), by rw [F.len_snoc, h1], F.ow_snoc h2 k1 k2, F.In.snoc (σ := flT) k3 h3, ?_, fun j u hj => ?_, by rw [F.sz_snoc]; show _ ≤ sumTo bk m + bk m; have : N.sz ⟨x.d, x.ls, x.fs⟩ = N.sz x := rfl; omega⟩
    · rw [List.length_append, List.length_append, h4, hnl]
      cases fld <;> simp <;> omega
    · by_cases c : j < cs.length
      · rw [List.getElem?_append_left c] at hj
        exact h5 j u hj
      · rw [List.getElem?_append_right (by omega)] at hj
        have := k4 _ _ hj
        rw [← h4, show cs.length + (j - cs.length) = j by omega] at this
        exact this
set_option maxRecDepth 100000 in
set_option maxHeartbeats 4000000 in
/-- a value that came in -/
theorem open_thing : ∀ (fuel : Nat) (cs : List Value) (y : DataW H × List MemPlace), DataW.trod enc Tryd.prog w 0 (fun _ => true) true fuel 27 cs = some y → ∃ x : N, x.In flT w (fun b => b < w.heap.size) cs ∧ NOw x ∧ N.sz x ≤ Rows.uptoBulk y.1 := by
  intro fuel
  induction fuel using Nat.strongRecOn with
  | ind fuel ih =>
  intro cs y h
  obtain ⟨xs, n, rfl, rfl, hl, hlen, hf⟩ := DataW.trod_struct Tryd.underlying27 h
  have c9 : Tryd.prog.cellsOf 27 = 9 := by kernel_rfl
  have cI : Tryd.prog.cellsOf 3 = 1 := by kernel_rfl
  have cI2 : Tryd.prog.cellsOf 2 = 1 := by kernel_rfl
  have cU : Tryd.prog.cellsOf 22 = 1 := by kernel_rfl
  have cB : Tryd.prog.cellsOf 4 = 1 := by kernel_rfl
  have cS : Tryd.prog.cellsOf 23 = 1 := by kernel_rfl
  have cL : Tryd.prog.cellsOf 24 = 1 := by kernel_rfl
  have cP : Tryd.prog.cellsOf 25 = 1 := by kernel_rfl
  have cQ : Tryd.prog.cellsOf 48 = 10 := by kernel_rfl
  rw [c9] at hl
  match cs, hl with
  | [v0, v1, v2, v3, v4, v5, v6, v7, v8], _ =>
  match xs, hlen with
  | [x0, x1, x2, x3, x4, x5, x6, x7, x8], _ =>
  have f0 := hf 0 _ rfl
  have f1 := hf 1 _ rfl
  have f2 := hf 2 _ rfl
  have f3 := hf 3 _ rfl
  have f4 := hf 4 _ rfl
  have f5 := hf 5 _ rfl
  have f6 := hf 6 _ rfl
  have f7 := hf 7 _ rfl
  have f8 := hf 8 _ rfl
  simp [cI, cI2, cU, cB, cS, cL, cP] at f0 f1 f2 f3 f4 f5 f6 f7 f8
  obtain ⟨n0, e0, k0, w0⟩ := DataW.trod_int Tryd.underlying3 f0
  obtain ⟨n1, e1, k1⟩ := DataW.trod_bool Tryd.underlying4 f1
  obtain ⟨n2, e2, k2, w2⟩ := DataW.trod_int Tryd.underlying2 f2
  obtain ⟨n3, e3, k3, w3⟩ := DataW.trod_int Tryd.underlying22 f3
  obtain ⟨bv, bs, e4, hby, hbl, k4⟩ := open_bytes f4
  obtain ⟨n5, e5, k5, w5⟩ := DataW.trod_int Tryd.underlying3 f5
  obtain ⟨n6, e6, k6, w6⟩ := DataW.trod_int Tryd.underlying3 f6
  simp at e0 e1 e2 e3 e4 e5 e6
  subst e0 e1 e2 e3 e4 e5 e6
  obtain ⟨u3, hu3⟩ := wf_u64 w3
  obtain ⟨m3, rfl⟩ := Int.eq_ofNat_of_zero_le u3
  -- the elements
  obtain ⟨X, lcs, hX1, hX2, hX3, hX4, k7⟩ : ∃ (X : F) (lcs : List Value), F.ow X false ∧ X.len ≤ maxLen ∧ X.In flT w (fun b => b < w.heap.size) false lcs ∧ Lies w (fun b => b < w.heap.size) v7 X.len lcs ∧ F.sz X + 1 ≤ Rows.uptoBulk x7.1 := by
    rcases DataW.trod_slice Tryd.underlying24 f7 with ⟨e, ex⟩ | ⟨a, len, cap, elems, rest, n', hn', e, ex, _, hle, hm, hel, hall, _⟩
    · simp at e
      subst e
      exact ⟨.nil, [], trivial, Nat.zero_le _, rfl, lies_nil _ _, by rw [ex]; exact Nat.le_refl _⟩
    · simp at e
      subst e hn'
      obtain ⟨X, lcs, h1, h2, h3, h4, h5, h6⟩ := open_row (w := w) (fld := false) (ad := a) (bk := bulkAt elems) len fun i hi => by
        have hi2 := hall i hi
        rw [List.getElem?_eq_getElem (by omega)] at hi2
        obtain ⟨cs', hcs, ht⟩ := Option.bind_eq_some_iff.1 hi2
        obtain ⟨_, hl2, hcell⟩ := World.cells?_some hcs
        obtain ⟨x, hx1, hx2, hx3⟩ := ih n' (by omega) cs' _ ht
        refine ⟨x, 0, cs', hx2, (by rw [bulkAt_lt elems i (by omega)]; exact hx3), ⟨⟨by decide, by decide⟩, fun _ => rfl⟩, hx1, fun j u hj => ?_⟩
        have hj' : cs'[j]? = some u := by simpa using hj
        have hj9 : j < cs'.length := (List.getElem?_eq_some_iff.1 hj').1
        have := hcell j (by omega)
        rw [Addr.add_add, c9] at this
        exact this.trans hj'
      refine ⟨X, lcs, h2, by omega, h3, ⟨some a, cap, by rw [h1], by omega, fun hn => ⟨a, rfl, ?_, h5⟩⟩, by rw [ex]; show _ ≤ Rows.uptoBulkAll _ + Rows.uptoBulkAll _ + 1; have := sumTo_bulk elems; rw [hel] at this; omega⟩
      have hp := List.length_pos_iff.2 hn
      have := block_lt_of_cell (h5 0 _ (List.getElem?_eq_getElem hp))
      rwa [add_block] at this
  obtain ⟨Y, pcs, hY1, hY2, hY3, hY4, k8⟩ : ∃ (X : F) (lcs : List Value), F.ow X true ∧ X.len ≤ maxLen ∧ X.In flT w (fun b => b < w.heap.size) true lcs ∧ Lies w (fun b => b < w.heap.size) v8 X.len lcs ∧ F.sz X + 1 ≤ Rows.uptoBulk x8.1 := by
    rcases DataW.trod_slice Tryd.underlying25 f8 with ⟨e, ex⟩ | ⟨a, len, cap, elems, rest, n', hn', e, ex, _, hle, hm, hel, hall, _⟩
    · simp at e
      subst e
      exact ⟨.nil, [], trivial, Nat.zero_le _, rfl, lies_nil _ _, by rw [ex]; exact Nat.le_refl _⟩
    · simp at e
      subst e hn'
      obtain ⟨X, lcs, h1, h2, h3, h4, h5, h6⟩ := open_row (w := w) (fld := true) (ad := a) (bk := bulkAt elems) len fun i hi => by
        have hi2 := hall i hi
        rw [List.getElem?_eq_getElem (by omega)] at hi2
        obtain ⟨cs', hcs, ht⟩ := Option.bind_eq_some_iff.1 hi2
        obtain ⟨_, hl2, hcell⟩ := World.cells?_some hcs
        obtain ⟨ys, n2, rfl, ey, hl3, hlen3, hf3⟩ := DataW.trod_struct Tryd.underlying48 ht
        match ys, hlen3 with
        | [y0, y1], _ =>
        have k0 := hf3 0 _ rfl
        have k1 := hf3 1 _ rfl
        rw [cQ] at hl2
        match cs', hl2 with
        | [q0, q1, q2, q3, q4, q5, q6, q7, q8, q9], _ =>
        simp [cI, c9] at k0 k1
        obtain ⟨id, e0, kid, wid⟩ := DataW.trod_int Tryd.underlying3 k0
        simp at e0
        subst e0
        obtain ⟨x, hx1, hx2, hx3⟩ := ih n2 (by omega) _ _ k1
        refine ⟨x, id, _, hx2, (by rw [bulkAt_lt elems i (by omega), ey]; show _ ≤ Rows.uptoBulk y0.1 + (Rows.uptoBulk y1.1 + 0) + 1; omega), ⟨wf_i64 wid, fun e => nomatch e⟩, hx1, fun j u hj => ?_⟩
        have hj' : [Value.int .i64 id, q1, q2, q3, q4, q5, q6, q7, q8, q9][j]? = some u := by simpa using hj
        have hj9 : j < 10 := (List.getElem?_eq_some_iff.1 hj').1
        have := hcell j (by rw [cQ]; exact hj9)
        rw [Addr.add_add, cQ] at this
        exact this.trans hj'
      refine ⟨X, lcs, h2, by omega, h3, ⟨some a, cap, by rw [h1], by omega, fun hn => ⟨a, rfl, ?_, h5⟩⟩, by rw [ex]; show _ ≤ Rows.uptoBulkAll _ + Rows.uptoBulkAll _ + 1; have := sumTo_bulk elems; rw [hel] at this; omega⟩
      have hp := List.length_pos_iff.2 hn
      have := block_lt_of_cell (h5 0 _ (List.getElem?_eq_getElem hp))
      rwa [add_block] at this
  refine ⟨⟨⟨n0, n1, n2, m3, bs, n5, n6⟩, X, Y⟩, ⟨⟨v4, v7, v8, lcs, pcs, rfl, hby, hX4, hX3, hY4, hY3⟩⟩, ⟨⟨wf_i64 w0, wf_i64 w2, wf_i64 w5, wf_i64 w6, by show m3 < _; omega, hbl⟩, hX2, hY2, hX1, hY1⟩, ?_⟩
  show 9 + bs.length + F.sz X + F.sz Y ≤ (Rows.uptoBulk x0.1 + (Rows.uptoBulk x1.1 + (Rows.uptoBulk x2.1 + (Rows.uptoBulk x3.1 + (Rows.uptoBulk x4.1 + (Rows.uptoBulk x5.1 + (Rows.uptoBulk x6.1 + (Rows.uptoBulk x7.1 + (Rows.uptoBulk x8.1 + 0))))))))) + 1
  rw [k0, k1, k2, k3, k5, k6]
  show 9 + bs.length + F.sz X + F.sz Y ≤ (1 + (1 + (1 + (1 + (Rows.uptoBulk x4.1 + (1 + (1 + (Rows.uptoBulk x7.1 + (Rows.uptoBulk x8.1 + 0))))))))) + 1
  omega
structure IsThing (v : Value) (w : World) (x : N) (cs : List Value) (m : Nat) : Prop where
  mk :: (eq : v = .agg cs.toArray) (in_ : x.In flT w (fun b => b < w.heap.size) cs) (ow : NOw x) (sz : N.sz x ≤ m)
set_option maxRecDepth 100000 in
theorem openParam {v : Value} {fuel : Nat} {y : DataW H × List MemPlace} (hv : Value.okWide Tryd.prog w .any 0 27 v) (h : DataW.trod enc Tryd.prog w 0 (fun _ => true) true fuel 27 v.cells.toList = some y) : ∃ x cs, IsThing v w x cs (Rows.uptoBulk y.1) := by
  unfold Value.okWide at hv
  rw [Tryd.underlying27] at hv
  obtain ⟨cs, rfl, _⟩ := hv
  obtain ⟨x, h1, h2, h3⟩ := open_thing fuel _ y h
  exact ⟨x, cs.toList, ⟨by simp, h1, h2, h3⟩⟩
end
end Go.Proofs.YtcboegodjlfmnaaDoor.Tbk
