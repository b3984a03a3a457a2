import Derived.Test.YtcboegodjlfmnaaDoorSkMtd
namespace Go.Proofs.YtcboegodjlfmnaaDoor.Tpv
open Go.Proofs.YtcboegodjlfmnaaDoor.Tap Go.Proofs.YtcboegodjlfmnaaDoor.Tzm Go.Proofs.YtcboegodjlfmnaaDoor.Tzl Go.Proofs.YtcboegodjlfmnaaDoor.Trh Go.Proofs.YtcboegodjlfmnaaDoor.Trn Go.Proofs.YtcboegodjlfmnaaDoor.Trm Go.Proofs.YtcboegodjlfmnaaDoor.Tuv Go.Proofs.YtcboegodjlfmnaaDoor.Tpa Go.Proofs.YtcboegodjlfmnaaDoor.Duv Go.Proofs.YtcboegodjlfmnaaDoor.Dpu Go.Proofs.YtcboegodjlfmnaaDoor.Pak Go.Proofs.YtcboegodjlfmnaaDoor.Buf Go.Proofs.YtcboegodjlfmnaaDoor.Fit Go.Proofs.YtcboegodjlfmnaaDoor.Bit Go.Proofs.YtcboegodjlfmnaaDoor.Wrd Go.Proofs.YtcboegodjlfmnaaDoor.Spl Go.Proofs.YtcboegodjlfmnaaDoor.Str Go.Proofs.YtcboegodjlfmnaaDoor.Flt Go.Proofs.YtcboegodjlfmnaaDoor.Owe Go.Proofs.YtcboegodjlfmnaaDoor.Num Go.Proofs.YtcboegodjlfmnaaDoor.Le Go.Proofs.YtcboegodjlfmnaaDoor.Lst Go.Proofs.YtcboegodjlfmnaaDoor.Aid Go.RowKit Go.Proofs.YtcboegodjlfmnaaDoorW.PrintWords Go.Proofs.YtcboegodjlfmnaaDoorW.PrintLast Go.Proofs.YtcboegodjlfmnaaDoorW.PrintMore
set_option linter.unusedVariables false
set_option linter.unusedSimpArgs false
def flT : Fl := ⟨.i64, .i64, fun b => .int .u64 (b : Int)⟩
def D.wf (d : D) : Prop := -128 ≤ d.ty ∧ d.ty < 128 ∧ -128 ≤ d.ky ∧ d.ky < 128 ∧ -128 ≤ d.el ∧ d.el < 128 ∧ d.bits < 18446744073709551616 ∧ d.bs.length ≤ 10000
def F.wf : F → Prop
  | .nil => True
  | .cons d id ls fs tl => D.wf d ∧ -32768 ≤ id ∧ id < 32768 ∧ ls.len ≤ 1000 ∧ fs.len ≤ 1000 ∧ F.wf ls ∧ F.wf fs ∧ F.wf tl
structure NWf (x : N) : Prop where
  mk :: (d : D.wf x.d) (nl : x.ls.len ≤ 1000) (nf : x.fs.len ≤ 1000) (ls : F.wf x.ls) (fs : F.wf x.fs)
def F.all (P : N → Prop) : F → Prop
  | .nil => True
  | .cons d id ls fs tl => P ⟨d, ls, fs⟩ ∧ F.all P tl
theorem F.induct {P : N → Prop} (h : ∀ x : N, F.all P x.ls → F.all P x.fs → P x) : ∀ X : F, F.all P X
  | .nil => trivial
  | .cons d id ls fs tl => ⟨h ⟨d, ls, fs⟩ (F.induct h ls) (F.induct h fs), F.induct h tl⟩
theorem rowCell {w : World} {ad : Addr} {lcs pre gcs : List Value} {k : Nat} (h : ∀ j u, lcs[j]? = some u → w.cell? (ad.add j) = some u) (e : lcs = pre ++ gcs) (hp : pre.length = k) : ∀ q u, gcs[q]? = some u → w.cell? (ad.add (k + q)) = some u := by
  intro q u hq
  refine h _ _ ?_
  rw [e, List.getElem?_append_right (by omega)]
  rw [show k + q - pre.length = q by omega]
  exact hq
theorem addAdd (ad : Addr) (k q : Nat) (hq : 0 < q) : ad.add (k + q) = ⟨(ad.add k).block, (ad.add k).off + q, none⟩ := by
  unfold Go.Addr.add
  rw [if_neg (by omega)]
  by_cases h : k = 0
  · subst h; simp
  · simp [h]; omega
theorem nineRow {w : World} {ad : Addr} {gcs rest : List Value} {k : Nat} {a0 a1 a2 a3 a4 a5 a6 a7 a8 : Value} (h : ∀ q u, gcs[q]? = some u → w.cell? (ad.add (k + q)) = some u) (e : gcs = [] ++ ([a0, a1, a2, a3, a4, a5, a6, a7, a8] ++ rest)) :
    w.cell? (ad.add k) = some a0 ∧ w.cell? ⟨(ad.add k).block, (ad.add k).off + 1, none⟩ = some a1 ∧ w.cell? ⟨(ad.add k).block, (ad.add k).off + 2, none⟩ = some a2 ∧ w.cell? ⟨(ad.add k).block, (ad.add k).off + 3, none⟩ = some a3 ∧ w.cell? ⟨(ad.add k).block, (ad.add k).off + 4, none⟩ = some a4 ∧ w.cell? ⟨(ad.add k).block, (ad.add k).off + 5, none⟩ = some a5 ∧ w.cell? ⟨(ad.add k).block, (ad.add k).off + 6, none⟩ = some a6 ∧ w.cell? ⟨(ad.add k).block, (ad.add k).off + 7, none⟩ = some a7 ∧ w.cell? ⟨(ad.add k).block, (ad.add k).off + 8, none⟩ = some a8 := by
  subst e
  have h' := fun q u hq hq' => (addAdd ad k q hq') ▸ h q u hq
  exact ⟨h 0 a0 rfl, h' 1 a1 rfl (by omega), h' 2 a2 rfl (by omega), h' 3 a3 rfl (by omega), h' 4 a4 rfl (by omega), h' 5 a5 rfl (by omega), h' 6 a6 rfl (by omega), h' 7 a7 rfl (by omega), h' 8 a8 rfl (by omega)⟩
theorem openT {w : World} {x : N} {Pb : Nat → Prop} {cs : List Value} (h : x.In flT w Pb cs) :
    ∃ (A1 : Option Addr) (n1 c1 : Nat) (A2 : Option Addr) (n2 c2 : Nat) (A3 : Option Addr) (n3 c3 : Nat), cs = [.int .i64 x.d.ty, .bool x.d.bo, .int .i64 x.d.n, .int .u64 (x.d.bits : Int), .slice A1 n1 c1, .int .i64 x.d.ky, .int .i64 x.d.el, .slice A2 n2 c2, .slice A3 n3 c3] := openNode h
theorem tenRow {w : World} {ad : Addr} {gcs rest : List Value} {k : Nat} {a0 a1 a2 a3 a4 a5 a6 a7 a8 a9 : Value} (h : ∀ q u, gcs[q]? = some u → w.cell? (ad.add (k + q)) = some u) (e : gcs = [a0] ++ ([a1, a2, a3, a4, a5, a6, a7, a8, a9] ++ rest)) :
    w.cell? (ad.add k) = some a0 ∧ w.cell? ⟨(ad.add k).block, (ad.add k).off + 1, none⟩ = some a1 ∧ w.cell? ⟨(ad.add k).block, (ad.add k).off + 2, none⟩ = some a2 ∧ w.cell? ⟨(ad.add k).block, (ad.add k).off + 3, none⟩ = some a3 ∧ w.cell? ⟨(ad.add k).block, (ad.add k).off + 4, none⟩ = some a4 ∧ w.cell? ⟨(ad.add k).block, (ad.add k).off + 5, none⟩ = some a5 ∧ w.cell? ⟨(ad.add k).block, (ad.add k).off + 6, none⟩ = some a6 ∧ w.cell? ⟨(ad.add k).block, (ad.add k).off + 7, none⟩ = some a7 ∧ w.cell? ⟨(ad.add k).block, (ad.add k).off + 8, none⟩ = some a8 ∧ w.cell? ⟨(ad.add k).block, (ad.add k).off + 9, none⟩ = some a9 := by
  subst e
  have h' := fun q u hq hq' => (addAdd ad k q hq') ▸ h q u hq
  exact ⟨h 0 a0 rfl, h' 1 a1 rfl (by omega), h' 2 a2 rfl (by omega), h' 3 a3 rfl (by omega), h' 4 a4 rfl (by omega), h' 5 a5 rfl (by omega), h' 6 a6 rfl (by omega), h' 7 a7 rfl (by omega), h' 8 a8 rfl (by omega), h' 9 a9 rfl (by omega)⟩
theorem ten {w : World} {g t : Nat} {a0 a1 a2 a3 a4 a5 a6 a7 a8 a9 : Value} (h : Blk w g #[a0, a1, a2, a3, a4, a5, a6, a7, a8, a9] t) :
    w.cell? ⟨g, 0, none⟩ = some a0 ∧ w.cell? ⟨g, 1, none⟩ = some a1 ∧ w.cell? ⟨g, 2, none⟩ = some a2 ∧ w.cell? ⟨g, 3, none⟩ = some a3 ∧ w.cell? ⟨g, 4, none⟩ = some a4 ∧ w.cell? ⟨g, 5, none⟩ = some a5 ∧ w.cell? ⟨g, 6, none⟩ = some a6 ∧ w.cell? ⟨g, 7, none⟩ = some a7 ∧ w.cell? ⟨g, 8, none⟩ = some a8 ∧ w.cell? ⟨g, 9, none⟩ = some a9 ∧ ∀ j, w.frozen? ⟨g, j, none⟩ = false :=
  ⟨h.cell (j := 0) rfl, h.cell (j := 1) rfl, h.cell (j := 2) rfl, h.cell (j := 3) rfl, h.cell (j := 4) rfl, h.cell (j := 5) rfl, h.cell (j := 6) rfl, h.cell (j := 7) rfl, h.cell (j := 8) rfl, h.cell (j := 9) rfl, h.free⟩
end Go.Proofs.YtcboegodjlfmnaaDoor.Tpv
