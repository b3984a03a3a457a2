import Derived.Test.YtcboegodjlfmnaaMtd
/-! plainValue: a value of the package, as it is told. -/
namespace Go.Proofs.Ytcboegodjlfmnaa.Tpv
open Go.Proofs.Ytcboegodjlfmnaa.Tap Go.Proofs.Ytcboegodjlfmnaa.Tzm Go.Proofs.Ytcboegodjlfmnaa.Tzl Go.Proofs.Ytcboegodjlfmnaa.Trh Go.Proofs.Ytcboegodjlfmnaa.Trn Go.Proofs.Ytcboegodjlfmnaa.Trm Go.Proofs.Ytcboegodjlfmnaa.Tuv Go.Proofs.Ytcboegodjlfmnaa.Tpa Go.Proofs.Ytcboegodjlfmnaa.Duv Go.Proofs.Ytcboegodjlfmnaa.Dpu Go.Proofs.Ytcboegodjlfmnaa.Pak Go.Proofs.Ytcboegodjlfmnaa.Buf Go.Proofs.Ytcboegodjlfmnaa.Fit Go.Proofs.Ytcboegodjlfmnaa.Bit Go.Proofs.Ytcboegodjlfmnaa.Wrd Go.Proofs.Ytcboegodjlfmnaa.Spl Go.Proofs.Ytcboegodjlfmnaa.Str Go.Proofs.Ytcboegodjlfmnaa.Flt Go.Proofs.Ytcboegodjlfmnaa.Owe Go.Proofs.Ytcboegodjlfmnaa.Num Go.Proofs.Ytcboegodjlfmnaa.Le Go.Proofs.Ytcboegodjlfmnaa.Lst Go.Proofs.Ytcboegodjlfmnaa.Aid Go.RowKit Go.Proofs.YtcboegodjlfmnaaW.PrintWords Go.Proofs.YtcboegodjlfmnaaW.PrintLast Go.Proofs.YtcboegodjlfmnaaW.PrintMore
set_option linter.unusedVariables false
set_option linter.unusedSimpArgs false
/-- how impl.Thing is spelled -/
def flT : Fl := ⟨.i64, .i64, fun b => .int .u64 (b : Int)⟩
/-- numbers within their types -/
def D.wf (d : D) : Prop := -128 ≤ d.ty ∧ d.ty < 128 ∧ -128 ≤ d.ky ∧ d.ky < 128 ∧ -128 ≤ d.el ∧ d.el < 128 ∧ d.bits < 18446744073709551616 ∧ d.bs.length ≤ 10000
def F.wf : F → Prop
  | .nil => True
  | .cons d id ls fs tl => D.wf d ∧ -32768 ≤ id ∧ id < 32768 ∧ ls.len ≤ 1000 ∧ fs.len ≤ 1000 ∧ F.wf ls ∧ F.wf fs ∧ F.wf tl
structure NWf (x : N) : Prop where
  mk :: (d : D.wf x.d) (nl : x.ls.len ≤ 1000) (nf : x.fs.len ≤ 1000) (ls : F.wf x.ls) (fs : F.wf x.fs)
/-- a value has been told -/
structure PvOk (w w' : World) (x : N) (e : Ending) : Prop where
  mk :: (out : ∃ cs, e = .returned (.agg (List.toArray cs)) ∧ x.In flT w' (PnO 0 none w.heap.size w'.heap.size) cs) (below : Below w.heap.size w w')
/-- all values of a row -/
def F.all (P : N → Prop) : F → Prop
  | .nil => True
  | .cons d id ls fs tl => P ⟨d, ls, fs⟩ ∧ F.all P tl
theorem F.induct {P : N → Prop} (h : ∀ x : N, F.all P x.ls → F.all P x.fs → P x) : ∀ X : F, F.all P X
  | .nil => trivial
  | .cons d id ls fs tl => ⟨h ⟨d, ls, fs⟩ (F.induct h ls) (F.induct h fs), F.induct h tl⟩
theorem belowSets {B b0 : Nat} {w w1 : World} (hp : B ≤ b0) (h : Below B w w1) {x0 x1 x2 x3 x4 x5 x6 x7 x8 : Value} : Below B w (((((((((w1.setCell ⟨b0, 0, none⟩ x0).setCell ⟨b0, 1, none⟩ x1).setCell ⟨b0, 2, none⟩ x2).setCell ⟨b0, 3, none⟩ x3).setCell ⟨b0, 4, none⟩ x4).setCell ⟨b0, 5, none⟩ x5).setCell ⟨b0, 6, none⟩ x6).setCell ⟨b0, 7, none⟩ x7).setCell ⟨b0, 8, none⟩ x8) :=
  ((((((((h.setCell hp _).setCell hp _).setCell hp _).setCell hp _).setCell hp _).setCell hp _).setCell hp _).setCell hp _).setCell hp _
theorem zeroKept {w w4 : World} {A4 : Option Addr} {n4 c4 t : Nat} {O : Obj} {cs : Array Value} (hg : (((w.alloc O).alloc (.cells cs t)).drew).grownBy w4 (Value.slice (some ⟨w.heap.size, 0, none⟩) 0 0).ownBlock)
    (hat : (Value.slice A4 n4 c4).ownBlock = (Value.slice (some ⟨w.heap.size, 0, none⟩) 0 0).ownBlock ∨ (Value.slice A4 n4 c4).ownBlock = some (((w.alloc O).alloc (.cells cs t)).drew).heap.size) (hs : (w.alloc O).heap.size = w.heap.size + 1) (hne : w.heap.size ≠ w.heap.size + 1) : Blk w4 (w.heap.size + 1) cs t := by
  have h := (Blk.new (w.alloc O) cs t).drew
  rw [hs] at h
  exact ⟨(hg.block _ h.lt (fun e => by simp [Value.ownBlock] at e)).trans h.out⟩
theorem zeroKept2 {w w4 : World} {A4 : Option Addr} {n4 c4 t : Nat} {O : Obj} {cs : Array Value} (hg : (((w.alloc (.cells cs t)).alloc O).drew).grownBy w4 (Value.slice (some ⟨w.heap.size + 1, 0, none⟩) 0 0).ownBlock)
    (hat : (Value.slice A4 n4 c4).ownBlock = (Value.slice (some ⟨w.heap.size + 1, 0, none⟩) 0 0).ownBlock ∨ (Value.slice A4 n4 c4).ownBlock = some (((w.alloc (.cells cs t)).alloc O).drew).heap.size) : Blk w4 w.heap.size cs t := by
  have h := ((Blk.new w cs t).alloc O).drew
  exact ⟨(hg.block _ h.lt (fun e => by simp [Value.ownBlock] at e)).trans h.out⟩
/-- a value has been made, with no elements and no fields as yet -/
structure Born (w W1 wx : World) (d : D) (v3 : Value) : Prop where
  mk :: (out : ∃ (b3 c4 : Nat) (A4 : Option Addr), v3 = .pointer (some ⟨b3, 0, none⟩) ∧ w.heap.size + 2 ≤ b3 ∧ Blk wx b3 #[.int .i64 d.ty, .bool d.bo, .int .i64 d.n, .int .u64 (d.bits : Int), .slice A4 d.bs.length c4, .int .i64 d.ky, .int .i64 d.el, .slice none 0 0, .slice none 0 0] 38 ∧ Own wx W1.heap.size 5 .u8 (.slice A4 d.bs.length c4) d.bs ∧ (Value.slice A4 d.bs.length c4).ownBlock ≠ some b3 ∧ Below W1.heap.size W1 wx)
theorem born_c {w W1 w4 : World} {d : D} {A4 : Option Addr} {c4 : Nat} (hs : W1.heap.size = w.heap.size + 2) (ho : Own w4 W1.heap.size 5 .u8 (.slice A4 d.bs.length c4) d.bs) (hb : Below W1.heap.size W1 w4) :
    Born w W1 (w4.alloc (.cells #[.int .i64 d.ty, .bool d.bo, .int .i64 d.n, .int .u64 (d.bits : Int), .slice A4 d.bs.length c4, .int .i64 d.ky, .int .i64 d.el, .slice none 0 0, .slice none 0 0] 38)) d (.pointer (some ⟨w4.heap.size, 0, none⟩)) :=
  ⟨⟨w4.heap.size, c4, A4, rfl, by have := hb.size; omega, Blk.new _ _ _, ⟨ho.out.alloc _⟩, fun e => by have := (own_lt ho.out e).2; omega, hb.alloc hb.size _⟩⟩
theorem born_s {w W1 w4 : World} {d : D} {A4 : Option Addr} {c4 b0 : Nat} {a0 a1 a2 a3 a4 a5 a6 a7 a8 : Value} (hs : W1.heap.size = w.heap.size + 2) (h0 : W1.heap.size ≤ b0) (hz : Blk w4 b0 #[a0, a1, a2, a3, a4, a5, a6, a7, a8] 38) (ho : Own w4 W1.heap.size 5 .u8 (.slice A4 d.bs.length c4) d.bs) (hb : Below W1.heap.size W1 w4)
    (hne : (Value.slice A4 d.bs.length c4).ownBlock ≠ some b0) : Born w W1 (((((((((w4.setCell ⟨b0, 0, none⟩ (.int .i64 d.ty)).setCell ⟨b0, 1, none⟩ (.bool d.bo)).setCell ⟨b0, 2, none⟩ (.int .i64 d.n)).setCell ⟨b0, 3, none⟩ (.int .u64 (d.bits : Int))).setCell ⟨b0, 4, none⟩ (.slice A4 d.bs.length c4)).setCell ⟨b0, 5, none⟩ (.int .i64 d.ky)).setCell ⟨b0, 6, none⟩ (.int .i64 d.el)).setCell ⟨b0, 7, none⟩ (.slice none 0 0)).setCell ⟨b0, 8, none⟩ (.slice none 0 0)) d (.pointer (some ⟨b0, 0, none⟩)) :=
  ⟨⟨b0, c4, A4, rfl, by omega, nineSet hz _ _ _ _ _ _ _ _ _, ⟨own_move ho.out fun b hb' => by
    have hn : b ≠ b0 := fun e => hne (e ▸ hb')
    rw [Below.heap_setCell _ _ _ b hn, Below.heap_setCell _ _ _ b hn, Below.heap_setCell _ _ _ b hn, Below.heap_setCell _ _ _ b hn, Below.heap_setCell _ _ _ b hn, Below.heap_setCell _ _ _ b hn, Below.heap_setCell _ _ _ b hn, Below.heap_setCell _ _ _ b hn, Below.heap_setCell _ _ _ b hn]⟩, hne, belowSets h0 hb⟩⟩
theorem ne_b {w : World} {O O2 : Obj} {v : Value} (h : v.ownBlock = (Value.slice (some ⟨w.heap.size, 0, none⟩) 0 0).ownBlock ∨ v.ownBlock = some (((w.alloc O).alloc O2).drew).heap.size) : v.ownBlock ≠ some (w.heap.size + 1) := by
  have hs : (((w.alloc O).alloc O2).drew).heap.size = w.heap.size + 1 + 1 := by show ((w.alloc O).alloc O2).heap.size = _; rw [allocSize, allocSize]
  rcases h with h | h
  · rw [h]; simp [Value.ownBlock]
  · rw [h, hs]; intro e; have := Option.some.inj e; omega
theorem ne_a {w : World} {O O2 : Obj} {v : Value} (h : v.ownBlock = (Value.slice (some ⟨w.heap.size + 1, 0, none⟩) 0 0).ownBlock ∨ v.ownBlock = some (((w.alloc O).alloc O2).drew).heap.size) : v.ownBlock ≠ some w.heap.size := by
  have hs : (((w.alloc O).alloc O2).drew).heap.size = w.heap.size + 1 + 1 := by show ((w.alloc O).alloc O2).heap.size = _; rw [allocSize, allocSize]
  rcases h with h | h
  · rw [h]; simp [Value.ownBlock]
  · rw [h, hs]; intro e; have := Option.some.inj e; omega
theorem belowGrown {w w1 : World} (h : Below w.heap.size w w1) : w.grownBy w1 none := ⟨h.os, h.tape, h.output, h.size, fun b hb _ => h.block b hb⟩
theorem rowCell {w : World} {ad : Addr} {lcs pre gcs : List Value} {k : Nat} (h : ∀ j u, lcs[j]? = some u → w.cell? (ad.add j) = some u) (e : lcs = pre ++ gcs) (hp : pre.length = k) : ∀ q u, gcs[q]? = some u → w.cell? (ad.add (k + q)) = some u := by
  intro q u hq
  refine h _ _ ?_
  rw [e, List.getElem?_append_right (by omega)]
  rw [show k + q - pre.length = q by omega]
  exact hq
theorem addAdd (ad : Addr) (k q : Nat) (hq : 0 < q) : ad.add (k + q) = ⟨(ad.add k).block, (ad.add k).off + q, none⟩ := by
  unfold Go.Addr.add
  rw [if_neg (by omega)]
  by_cases h : k = 0
  · subst h; simp
  · simp [h]; omega
theorem nineRow {w : World} {ad : Addr} {gcs rest : List Value} {k : Nat} {a0 a1 a2 a3 a4 a5 a6 a7 a8 : Value} (h : ∀ q u, gcs[q]? = some u → w.cell? (ad.add (k + q)) = some u) (e : gcs = [] ++ ([a0, a1, a2, a3, a4, a5, a6, a7, a8] ++ rest)) :
    w.cell? (ad.add k) = some a0 ∧ w.cell? ⟨(ad.add k).block, (ad.add k).off + 1, none⟩ = some a1 ∧ w.cell? ⟨(ad.add k).block, (ad.add k).off + 2, none⟩ = some a2 ∧ w.cell? ⟨(ad.add k).block, (ad.add k).off + 3, none⟩ = some a3 ∧ w.cell? ⟨(ad.add k).block, (ad.add k).off + 4, none⟩ = some a4 ∧ w.cell? ⟨(ad.add k).block, (ad.add k).off + 5, none⟩ = some a5 ∧ w.cell? ⟨(ad.add k).block, (ad.add k).off + 6, none⟩ = some a6 ∧ w.cell? ⟨(ad.add k).block, (ad.add k).off + 7, none⟩ = some a7 ∧ w.cell? ⟨(ad.add k).block, (ad.add k).off + 8, none⟩ = some a8 := by
  subst e
  have h' := fun q u hq hq' => (addAdd ad k q hq') ▸ h q u hq
  exact ⟨h 0 a0 rfl, h' 1 a1 rfl (by omega), h' 2 a2 rfl (by omega), h' 3 a3 rfl (by omega), h' 4 a4 rfl (by omega), h' 5 a5 rfl (by omega), h' 6 a6 rfl (by omega), h' 7 a7 rfl (by omega), h' 8 a8 rfl (by omega)⟩
theorem infoThing : (Try.prog.info? 38).map (fun i => (i.size, i.bytes, i.zero.map (·.cells.size))) = some (9, 120, some 9) := by kernel_rfl
theorem infoPart : (Try.prog.info? 60).map (fun i => (i.size, i.bytes, i.zero.map (·.cells.size))) = some (10, 128, some 10) := by kernel_rfl
theorem openT {w : World} {x : N} {Pb : Nat → Prop} {cs : List Value} (h : x.In flT w Pb cs) :
    ∃ (A1 : Option Addr) (n1 c1 : Nat) (A2 : Option Addr) (n2 c2 : Nat) (A3 : Option Addr) (n3 c3 : Nat), cs = [.int .i64 x.d.ty, .bool x.d.bo, .int .i64 x.d.n, .int .u64 (x.d.bits : Int), .slice A1 n1 c1, .int .i64 x.d.ky, .int .i64 x.d.el, .slice A2 n2 c2, .slice A3 n3 c3] := openNode h
theorem tenRow {w : World} {ad : Addr} {gcs rest : List Value} {k : Nat} {a0 a1 a2 a3 a4 a5 a6 a7 a8 a9 : Value} (h : ∀ q u, gcs[q]? = some u → w.cell? (ad.add (k + q)) = some u) (e : gcs = [a0] ++ ([a1, a2, a3, a4, a5, a6, a7, a8, a9] ++ rest)) :
    w.cell? (ad.add k) = some a0 ∧ w.cell? ⟨(ad.add k).block, (ad.add k).off + 1, none⟩ = some a1 ∧ w.cell? ⟨(ad.add k).block, (ad.add k).off + 2, none⟩ = some a2 ∧ w.cell? ⟨(ad.add k).block, (ad.add k).off + 3, none⟩ = some a3 ∧ w.cell? ⟨(ad.add k).block, (ad.add k).off + 4, none⟩ = some a4 ∧ w.cell? ⟨(ad.add k).block, (ad.add k).off + 5, none⟩ = some a5 ∧ w.cell? ⟨(ad.add k).block, (ad.add k).off + 6, none⟩ = some a6 ∧ w.cell? ⟨(ad.add k).block, (ad.add k).off + 7, none⟩ = some a7 ∧ w.cell? ⟨(ad.add k).block, (ad.add k).off + 8, none⟩ = some a8 ∧ w.cell? ⟨(ad.add k).block, (ad.add k).off + 9, none⟩ = some a9 := by
  subst e
  have h' := fun q u hq hq' => (addAdd ad k q hq') ▸ h q u hq
  exact ⟨h 0 a0 rfl, h' 1 a1 rfl (by omega), h' 2 a2 rfl (by omega), h' 3 a3 rfl (by omega), h' 4 a4 rfl (by omega), h' 5 a5 rfl (by omega), h' 6 a6 rfl (by omega), h' 7 a7 rfl (by omega), h' 8 a8 rfl (by omega), h' 9 a9 rfl (by omega)⟩
theorem ten {w : World} {g t : Nat} {a0 a1 a2 a3 a4 a5 a6 a7 a8 a9 : Value} (h : Blk w g #[a0, a1, a2, a3, a4, a5, a6, a7, a8, a9] t) :
    w.cell? ⟨g, 0, none⟩ = some a0 ∧ w.cell? ⟨g, 1, none⟩ = some a1 ∧ w.cell? ⟨g, 2, none⟩ = some a2 ∧ w.cell? ⟨g, 3, none⟩ = some a3 ∧ w.cell? ⟨g, 4, none⟩ = some a4 ∧ w.cell? ⟨g, 5, none⟩ = some a5 ∧ w.cell? ⟨g, 6, none⟩ = some a6 ∧ w.cell? ⟨g, 7, none⟩ = some a7 ∧ w.cell? ⟨g, 8, none⟩ = some a8 ∧ w.cell? ⟨g, 9, none⟩ = some a9 ∧ ∀ j, w.frozen? ⟨g, j, none⟩ = false :=
  ⟨h.cell (j := 0) rfl, h.cell (j := 1) rfl, h.cell (j := 2) rfl, h.cell (j := 3) rfl, h.cell (j := 4) rfl, h.cell (j := 5) rfl, h.cell (j := 6) rfl, h.cell (j := 7) rfl, h.cell (j := 8) rfl, h.cell (j := 9) rfl, h.free⟩
end Go.Proofs.Ytcboegodjlfmnaa.Tpv
