import Derived.Test.YtcboegodjlfmnaaDoorSlMtd
namespace Go.Proofs.YtcboegodjlfmnaaDoor.Tpv
open Go.Proofs.YtcboegodjlfmnaaDoor.Tap Go.Proofs.YtcboegodjlfmnaaDoor.Tzm Go.Proofs.YtcboegodjlfmnaaDoor.Tzl Go.Proofs.YtcboegodjlfmnaaDoor.Trh Go.Proofs.YtcboegodjlfmnaaDoor.Trn Go.Proofs.YtcboegodjlfmnaaDoor.Trm Go.Proofs.YtcboegodjlfmnaaDoor.Tuv Go.Proofs.YtcboegodjlfmnaaDoor.Tpa Go.Proofs.YtcboegodjlfmnaaDoor.Duv Go.Proofs.YtcboegodjlfmnaaDoor.Dpu Go.Proofs.YtcboegodjlfmnaaDoor.Pak Go.Proofs.YtcboegodjlfmnaaDoor.Buf Go.Proofs.YtcboegodjlfmnaaDoor.Fit Go.Proofs.YtcboegodjlfmnaaDoor.Bit Go.Proofs.YtcboegodjlfmnaaDoor.Wrd Go.Proofs.YtcboegodjlfmnaaDoor.Spl Go.Proofs.YtcboegodjlfmnaaDoor.Str Go.Proofs.YtcboegodjlfmnaaDoor.Flt Go.Proofs.YtcboegodjlfmnaaDoor.Owe Go.Proofs.YtcboegodjlfmnaaDoor.Num Go.Proofs.YtcboegodjlfmnaaDoor.Le Go.Proofs.YtcboegodjlfmnaaDoor.Lst Go.Proofs.YtcboegodjlfmnaaDoor.Aid Go.RowKit Go.Proofs.YtcboegodjlfmnaaDoorW.PrintWords Go.Proofs.YtcboegodjlfmnaaDoorW.PrintLast Go.Proofs.YtcboegodjlfmnaaDoorW.PrintMore
set_option linter.unusedVariables false
set_option linter.unusedSimpArgs false
def flT : Fl := ⟨.i64, .i64, fun b => .int .u64 (b : Int)⟩
def D.wf (d : D) : Prop := -128 ≤ d.ty ∧ d.ty < 128 ∧ -128 ≤ d.ky ∧ d.ky < 128 ∧ -128 ≤ d.el ∧ d.el < 128 ∧ d.bits < 18446744073709551616 ∧ d.bs.length ≤ 10000
def F.wf : F → Prop
  | .nil => True
  | .cons d id ls fs tl => D.wf d ∧ -32768 ≤ id ∧ id < 32768 ∧ ls.len ≤ 1000 ∧ fs.len ≤ 1000 ∧ F.wf ls ∧ F.wf fs ∧ F.wf tl
structure NWf (x : N) : Prop where
  mk :: (d : D.wf x.d) (nl : x.ls.len ≤ 1000) (nf : x.fs.len ≤ 1000) (ls : F.wf x.ls) (fs : F.wf x.fs)
structure PvOk (w w' : World) (x : N) (e : Ending) : Prop where
  mk :: (out : ∃ cs, e = .returned (.agg (List.toArray cs)) ∧ x.In flT w' (PnO 0 none w.heap.size w'.heap.size) cs) (below : Below w.heap.size w w')
def Pv (x : N) : Prop := NWf x → ∀ (w : World) (cs : List Value), x.In flV w (fun b => b < w.heap.size) cs → Calls Tryd.prog 27 #[.agg cs.toArray] w fun e w' => PvOk w w' x e
def F.all (P : N → Prop) : F → Prop
  | .nil => True
  | .cons d id ls fs tl => P ⟨d, ls, fs⟩ ∧ F.all P tl
theorem F.induct {P : N → Prop} (h : ∀ x : N, F.all P x.ls → F.all P x.fs → P x) : ∀ X : F, F.all P X
  | .nil => trivial
  | .cons d id ls fs tl => ⟨h ⟨d, ls, fs⟩ (F.induct h ls) (F.induct h fs), F.induct h tl⟩
theorem belowSets {B b0 : Nat} {w w1 : World} (hp : B ≤ b0) (h : Below B w w1) {x0 x1 x2 x3 x4 x5 x6 x7 x8 : Value} : Below B w (((((((((w1.setCell ⟨b0, 0, none⟩ x0).setCell ⟨b0, 1, none⟩ x1).setCell ⟨b0, 2, none⟩ x2).setCell ⟨b0, 3, none⟩ x3).setCell ⟨b0, 4, none⟩ x4).setCell ⟨b0, 5, none⟩ x5).setCell ⟨b0, 6, none⟩ x6).setCell ⟨b0, 7, none⟩ x7).setCell ⟨b0, 8, none⟩ x8) :=
  ((((((((h.setCell hp _).setCell hp _).setCell hp _).setCell hp _).setCell hp _).setCell hp _).setCell hp _).setCell hp _).setCell hp _
theorem zeroKept {w w4 : World} {A4 : Option Addr} {n4 c4 t : Nat} {O : Obj} {cs : Array Value} (hg : (((w.alloc O).alloc (.cells cs t)).drew).grownBy w4 (Value.slice (some ⟨w.heap.size, 0, none⟩) 0 0).ownBlock)
    (hat : (Value.slice A4 n4 c4).ownBlock = (Value.slice (some ⟨w.heap.size, 0, none⟩) 0 0).ownBlock ∨ (Value.slice A4 n4 c4).ownBlock = some (((w.alloc O).alloc (.cells cs t)).drew).heap.size) (hs : (w.alloc O).heap.size = w.heap.size + 1) (hne : w.heap.size ≠ w.heap.size + 1) : Blk w4 (w.heap.size + 1) cs t := by
  have h := (Blk.new (w.alloc O) cs t).drew
  rw [hs] at h
  exact ⟨(hg.block _ h.lt (fun e => by simp [Value.ownBlock] at e)).trans h.out⟩
theorem zeroKept2 {w w4 : World} {A4 : Option Addr} {n4 c4 t : Nat} {O : Obj} {cs : Array Value} (hg : (((w.alloc (.cells cs t)).alloc O).drew).grownBy w4 (Value.slice (some ⟨w.heap.size + 1, 0, none⟩) 0 0).ownBlock)
    (hat : (Value.slice A4 n4 c4).ownBlock = (Value.slice (some ⟨w.heap.size + 1, 0, none⟩) 0 0).ownBlock ∨ (Value.slice A4 n4 c4).ownBlock = some (((w.alloc (.cells cs t)).alloc O).drew).heap.size) : Blk w4 w.heap.size cs t := by
  have h := ((Blk.new w cs t).alloc O).drew
  exact ⟨(hg.block _ h.lt (fun e => by simp [Value.ownBlock] at e)).trans h.out⟩
structure Born (w W1 wx : World) (d : D) (v3 : Value) : Prop where
  mk :: (out : ∃ (b3 c4 : Nat) (A4 : Option Addr), v3 = .pointer (some ⟨b3, 0, none⟩) ∧ w.heap.size + 2 ≤ b3 ∧ Blk wx b3 #[.int .i64 d.ty, .bool d.bo, .int .i64 d.n, .int .u64 (d.bits : Int), .slice A4 d.bs.length c4, .int .i64 d.ky, .int .i64 d.el, .slice none 0 0, .slice none 0 0] 27 ∧ Own wx W1.heap.size 5 .u8 (.slice A4 d.bs.length c4) d.bs ∧ (Value.slice A4 d.bs.length c4).ownBlock ≠ some b3 ∧ Below W1.heap.size W1 wx)
theorem born_c {w W1 w4 : World} {d : D} {A4 : Option Addr} {c4 : Nat} (hs : W1.heap.size = w.heap.size + 2) (ho : Own w4 W1.heap.size 5 .u8 (.slice A4 d.bs.length c4) d.bs) (hb : Below W1.heap.size W1 w4) :
    Born w W1 (w4.alloc (.cells #[.int .i64 d.ty, .bool d.bo, .int .i64 d.n, .int .u64 (d.bits : Int), .slice A4 d.bs.length c4, .int .i64 d.ky, .int .i64 d.el, .slice none 0 0, .slice none 0 0] 27)) d (.pointer (some ⟨w4.heap.size, 0, none⟩)) :=
  ⟨⟨w4.heap.size, c4, A4, rfl, by have := hb.size; omega, Blk.new _ _ _, ⟨ho.out.alloc _⟩, fun e => by have := (own_lt ho.out e).2; omega, hb.alloc hb.size _⟩⟩
theorem born_s {w W1 w4 : World} {d : D} {A4 : Option Addr} {c4 b0 : Nat} {a0 a1 a2 a3 a4 a5 a6 a7 a8 : Value} (hs : W1.heap.size = w.heap.size + 2) (h0 : W1.heap.size ≤ b0) (hz : Blk w4 b0 #[a0, a1, a2, a3, a4, a5, a6, a7, a8] 27) (ho : Own w4 W1.heap.size 5 .u8 (.slice A4 d.bs.length c4) d.bs) (hb : Below W1.heap.size W1 w4)
    (hne : (Value.slice A4 d.bs.length c4).ownBlock ≠ some b0) : Born w W1 (((((((((w4.setCell ⟨b0, 0, none⟩ (.int .i64 d.ty)).setCell ⟨b0, 1, none⟩ (.bool d.bo)).setCell ⟨b0, 2, none⟩ (.int .i64 d.n)).setCell ⟨b0, 3, none⟩ (.int .u64 (d.bits : Int))).setCell ⟨b0, 4, none⟩ (.slice A4 d.bs.length c4)).setCell ⟨b0, 5, none⟩ (.int .i64 d.ky)).setCell ⟨b0, 6, none⟩ (.int .i64 d.el)).setCell ⟨b0, 7, none⟩ (.slice none 0 0)).setCell ⟨b0, 8, none⟩ (.slice none 0 0)) d (.pointer (some ⟨b0, 0, none⟩)) :=
  ⟨⟨b0, c4, A4, rfl, by omega, nineSet hz _ _ _ _ _ _ _ _ _, ⟨own_move ho.out fun b hb' => by
    have hn : b ≠ b0 := fun e => hne (e ▸ hb')
    rw [Below.heap_setCell _ _ _ b hn, Below.heap_setCell _ _ _ b hn, Below.heap_setCell _ _ _ b hn, Below.heap_setCell _ _ _ b hn, Below.heap_setCell _ _ _ b hn, Below.heap_setCell _ _ _ b hn, Below.heap_setCell _ _ _ b hn, Below.heap_setCell _ _ _ b hn, Below.heap_setCell _ _ _ b hn]⟩, hne, belowSets h0 hb⟩⟩
theorem ne_b {w : World} {O O2 : Obj} {v : Value} (h : v.ownBlock = (Value.slice (some ⟨w.heap.size, 0, none⟩) 0 0).ownBlock ∨ v.ownBlock = some (((w.alloc O).alloc O2).drew).heap.size) : v.ownBlock ≠ some (w.heap.size + 1) := by
  have hs : (((w.alloc O).alloc O2).drew).heap.size = w.heap.size + 1 + 1 := by show ((w.alloc O).alloc O2).heap.size = _; rw [allocSize, allocSize]
  rcases h with h | h
  · rw [h]; simp [Value.ownBlock]
  · rw [h, hs]; intro e; have := Option.some.inj e; omega
theorem ne_a {w : World} {O O2 : Obj} {v : Value} (h : v.ownBlock = (Value.slice (some ⟨w.heap.size + 1, 0, none⟩) 0 0).ownBlock ∨ v.ownBlock = some (((w.alloc O).alloc O2).drew).heap.size) : v.ownBlock ≠ some w.heap.size := by
  have hs : (((w.alloc O).alloc O2).drew).heap.size = w.heap.size + 1 + 1 := by show ((w.alloc O).alloc O2).heap.size = _; rw [allocSize, allocSize]
  rcases h with h | h
  · rw [h]; simp [Value.ownBlock]
  · rw [h, hs]; intro e; have := Option.some.inj e; omega
theorem belowGrown {w w1 : World} (h : Below w.heap.size w w1) : w.grownBy w1 none := ⟨h.os, h.tape, h.output, h.size, fun b hb _ => h.block b hb⟩
theorem rowCell {w : World} {ad : Addr} {lcs pre gcs : List Value} {k : Nat} (h : ∀ j u, lcs[j]? = some u → w.cell? (ad.add j) = some u) (e : lcs = pre ++ gcs) (hp : pre.length = k) : ∀ q u, gcs[q]? = some u → w.cell? (ad.add (k + q)) = some u := by
  intro q u hq
  refine h _ _ ?_
  rw [e, List.getElem?_append_right (by omega)]
  rw [show k + q - pre.length = q by omega]
  exact hq
theorem addAdd (ad : Addr) (k q : Nat) (hq : 0 < q) : ad.add (k + q) = ⟨(ad.add k).block, (ad.add k).off + q, none⟩ := by
  unfold Go.Addr.add
  rw [if_neg (by omega)]
  by_cases h : k = 0
  · subst h; simp
  · simp [h]; omega
theorem nineRow {w : World} {ad : Addr} {gcs rest : List Value} {k : Nat} {a0 a1 a2 a3 a4 a5 a6 a7 a8 : Value} (h : ∀ q u, gcs[q]? = some u → w.cell? (ad.add (k + q)) = some u) (e : gcs = [] ++ ([a0, a1, a2, a3, a4, a5, a6, a7, a8] ++ rest)) :
    w.cell? (ad.add k) = some a0 ∧ w.cell? ⟨(ad.add k).block, (ad.add k).off + 1, none⟩ = some a1 ∧ w.cell? ⟨(ad.add k).block, (ad.add k).off + 2, none⟩ = some a2 ∧ w.cell? ⟨(ad.add k).block, (ad.add k).off + 3, none⟩ = some a3 ∧ w.cell? ⟨(ad.add k).block, (ad.add k).off + 4, none⟩ = some a4 ∧ w.cell? ⟨(ad.add k).block, (ad.add k).off + 5, none⟩ = some a5 ∧ w.cell? ⟨(ad.add k).block, (ad.add k).off + 6, none⟩ = some a6 ∧ w.cell? ⟨(ad.add k).block, (ad.add k).off + 7, none⟩ = some a7 ∧ w.cell? ⟨(ad.add k).block, (ad.add k).off + 8, none⟩ = some a8 := by
  subst e
  have h' := fun q u hq hq' => (addAdd ad k q hq') ▸ h q u hq
  exact ⟨h 0 a0 rfl, h' 1 a1 rfl (by omega), h' 2 a2 rfl (by omega), h' 3 a3 rfl (by omega), h' 4 a4 rfl (by omega), h' 5 a5 rfl (by omega), h' 6 a6 rfl (by omega), h' 7 a7 rfl (by omega), h' 8 a8 rfl (by omega)⟩
theorem infoThing : (Tryd.prog.info? 27).map (fun i => (i.size, i.bytes, i.zero.map (·.cells.size))) = some (9, 120, some 9) := by kernel_rfl
theorem infoPart : (Tryd.prog.info? 48).map (fun i => (i.size, i.bytes, i.zero.map (·.cells.size))) = some (10, 128, some 10) := by kernel_rfl
theorem openT {w : World} {x : N} {Pb : Nat → Prop} {cs : List Value} (h : x.In flT w Pb cs) :
    ∃ (A1 : Option Addr) (n1 c1 : Nat) (A2 : Option Addr) (n2 c2 : Nat) (A3 : Option Addr) (n3 c3 : Nat), cs = [.int .i64 x.d.ty, .bool x.d.bo, .int .i64 x.d.n, .int .u64 (x.d.bits : Int), .slice A1 n1 c1, .int .i64 x.d.ky, .int .i64 x.d.el, .slice A2 n2 c2, .slice A3 n3 c3] := openNode h
theorem tenRow {w : World} {ad : Addr} {gcs rest : List Value} {k : Nat} {a0 a1 a2 a3 a4 a5 a6 a7 a8 a9 : Value} (h : ∀ q u, gcs[q]? = some u → w.cell? (ad.add (k + q)) = some u) (e : gcs = [a0] ++ ([a1, a2, a3, a4, a5, a6, a7, a8, a9] ++ rest)) :
    w.cell? (ad.add k) = some a0 ∧ w.cell? ⟨(ad.add k).block, (ad.add k).off + 1, none⟩ = some a1 ∧ w.cell? ⟨(ad.add k).block, (ad.add k).off + 2, none⟩ = some a2 ∧ w.cell? ⟨(ad.add k).block, (ad.add k).off + 3, none⟩ = some a3 ∧ w.cell? ⟨(ad.add k).block, (ad.add k).off + 4, none⟩ = some a4 ∧ w.cell? ⟨(ad.add k).block, (ad.add k).off + 5, none⟩ = some a5 ∧ w.cell? ⟨(ad.add k).block, (ad.add k).off + 6, none⟩ = some a6 ∧ w.cell? ⟨(ad.add k).block, (ad.add k).off + 7, none⟩ = some a7 ∧ w.cell? ⟨(ad.add k).block, (ad.add k).off + 8, none⟩ = some a8 ∧ w.cell? ⟨(ad.add k).block, (ad.add k).off + 9, none⟩ = some a9 := by
  subst e
  have h' := fun q u hq hq' => (addAdd ad k q hq') ▸ h q u hq
  exact ⟨h 0 a0 rfl, h' 1 a1 rfl (by omega), h' 2 a2 rfl (by omega), h' 3 a3 rfl (by omega), h' 4 a4 rfl (by omega), h' 5 a5 rfl (by omega), h' 6 a6 rfl (by omega), h' 7 a7 rfl (by omega), h' 8 a8 rfl (by omega), h' 9 a9 rfl (by omega)⟩
theorem ten {w : World} {g t : Nat} {a0 a1 a2 a3 a4 a5 a6 a7 a8 a9 : Value} (h : Blk w g #[a0, a1, a2, a3, a4, a5, a6, a7, a8, a9] t) :
    w.cell? ⟨g, 0, none⟩ = some a0 ∧ w.cell? ⟨g, 1, none⟩ = some a1 ∧ w.cell? ⟨g, 2, none⟩ = some a2 ∧ w.cell? ⟨g, 3, none⟩ = some a3 ∧ w.cell? ⟨g, 4, none⟩ = some a4 ∧ w.cell? ⟨g, 5, none⟩ = some a5 ∧ w.cell? ⟨g, 6, none⟩ = some a6 ∧ w.cell? ⟨g, 7, none⟩ = some a7 ∧ w.cell? ⟨g, 8, none⟩ = some a8 ∧ w.cell? ⟨g, 9, none⟩ = some a9 ∧ ∀ j, w.frozen? ⟨g, j, none⟩ = false :=
  ⟨h.cell (j := 0) rfl, h.cell (j := 1) rfl, h.cell (j := 2) rfl, h.cell (j := 3) rfl, h.cell (j := 4) rfl, h.cell (j := 5) rfl, h.cell (j := 6) rfl, h.cell (j := 7) rfl, h.cell (j := 8) rfl, h.cell (j := 9) rfl, h.free⟩
set_option maxHeartbeats 8000000 in
set_option maxRecDepth 100000 in
theorem plain_calls (x : N) (ihl : F.all Pv x.ls) (ihf : F.all Pv x.fs) : Pv x := by
  intro hwf w cs hin
  obtain ⟨A1, n1, c1, A2, n2, c2, A3, n3, c3, hcs⟩ := openV hin
  have HIN := Aside0.mk (hcs ▸ hin)
  rw [hcs]
  have HWF := Aside0.mk hwf
  have HIL := Aside0.mk ihl
  have HIF := Aside0.mk ihf
  clear hin hwf hcs ihl ihf
  have hst := fun (f : Nat) (a : Addr) (W : World) m => run_store Tryd.prog W a (.float .f64 f) m rfl
  go_enter Tryd.func27, Tryd.ntmps27
  go_upto_region 1 with (fail)
  obtain ⟨W1, hW1⟩ : ∃ W1, (w.alloc (.cells #[.int .i8 x.d.ty, .bool x.d.bo, .int .i64 x.d.n, .float .f64 x.d.bits, .slice A1 n1 c1, .int .i8 x.d.ky, .int .i8 x.d.el, .slice A2 n2 c2, .slice A3 n3 c3] 60)).alloc (.cells #[.int .i64 0, .bool false, .int .i64 0, .int .u64 0, .slice none 0 0, .int .i64 0, .int .i64 0, .slice none 0 0, .slice none 0 0] 27) = W1 := ⟨_, rfl⟩
  rw [hW1]
  have HS1 : W1.heap.size = w.heap.size + 2 := by rw [← hW1, allocSize, allocSize]
  have HP1 : Aside0 (Blk W1 w.heap.size #[.int .i8 x.d.ty, .bool x.d.bo, .int .i64 x.d.n, .float .f64 x.d.bits, .slice A1 n1 c1, .int .i8 x.d.ky, .int .i8 x.d.el, .slice A2 n2 c2, .slice A3 n3 c3] 60) := ⟨by rw [← hW1]; exact (Blk.new w _ _).alloc _⟩
  have HR1 : Aside0 (Blk W1 (w.heap.size + 1) #[.int .i64 0, .bool false, .int .i64 0, .int .u64 0, .slice none 0 0, .int .i64 0, .int .i64 0, .slice none 0 0, .slice none 0 0] 27) := ⟨by have h := Blk.new (w.alloc (.cells #[.int .i8 x.d.ty, .bool x.d.bo, .int .i64 x.d.n, .float .f64 x.d.bits, .slice A1 n1 c1, .int .i8 x.d.ky, .int .i8 x.d.el, .slice A2 n2 c2, .slice A3 n3 c3] 60)) #[.int .i64 0, .bool false, .int .i64 0, .int .u64 0, .slice none 0 0, .int .i64 0, .int .i64 0, .slice none 0 0, .slice none 0 0] 27; rw [allocSize] at h; rw [← hW1]; exact h⟩
  have HB1 : Aside0 (Below w.heap.size w W1) := ⟨by rw [← hW1]; exact ((Below.refl _ _).alloc (Nat.le_refl _) _).alloc (by rw [allocSize]; omega) _⟩
  clear hW1
  have HSS := Aside0.mk HS1
  have HSP : Aside0 (∀ W, Below W1.heap.size W1 W → W.cell? ⟨w.heap.size, 0, none⟩ = some (.int .i8 x.d.ty) ∧ W.cell? ⟨w.heap.size, 1, none⟩ = some (.bool x.d.bo) ∧ W.cell? ⟨w.heap.size, 2, none⟩ = some (.int .i64 x.d.n) ∧ W.cell? ⟨w.heap.size, 3, none⟩ = some (.float .f64 x.d.bits) ∧ W.cell? ⟨w.heap.size, 4, none⟩ = some (.slice A1 n1 c1) ∧ W.cell? ⟨w.heap.size, 5, none⟩ = some (.int .i8 x.d.ky) ∧ W.cell? ⟨w.heap.size, 6, none⟩ = some (.int .i8 x.d.el)) := ⟨fun W hW => by
    obtain ⟨h0, h1, h2, h3, h4, h5, h6, h7, h8, _⟩ := nine (HP1.out.below hW (by omega))
    exact ⟨h0, h1, h2, h3, h4, h5, h6⟩⟩
  obtain ⟨q0, q1, q2, q3, q4, q5, q6, q7, q8, qz⟩ := nine HP1.out
  -- the orders: the slice without elements, the append, the new value's block
  have HEc : Aside0 (Own (W1.alloc (.cells #[] 5)) W1.heap.size 5 .u8 (.slice (some ⟨W1.heap.size, 0, none⟩) 0 0) []) := ⟨Own.empty W1 W1.heap.size 5 .u8 (Nat.le_refl _)⟩
  have HBc : Aside0 (Below W1.heap.size W1 (W1.alloc (.cells #[] 5))) := ⟨(Below.refl _ _).alloc (Nat.le_refl _) _⟩
  have HEb : Aside0 (Own ((W1.alloc (.cells #[] 5)).alloc (.cells #[.int .i64 0, .bool false, .int .i64 0, .int .u64 0, .slice none 0 0, .int .i64 0, .int .i64 0, .slice none 0 0, .slice none 0 0] 27)) W1.heap.size 5 .u8 (.slice (some ⟨W1.heap.size, 0, none⟩) 0 0) []) := ⟨⟨HEc.out.out.alloc _⟩⟩
  have HBb : Aside0 (Below W1.heap.size W1 ((W1.alloc (.cells #[] 5)).alloc (.cells #[.int .i64 0, .bool false, .int .i64 0, .int .u64 0, .slice none 0 0, .int .i64 0, .int .i64 0, .slice none 0 0, .slice none 0 0] 27))) := ⟨HBc.out.alloc HBc.out.size _⟩
  have HBa0 : Aside0 (Below W1.heap.size W1 (W1.alloc (.cells #[.int .i64 0, .bool false, .int .i64 0, .int .u64 0, .slice none 0 0, .int .i64 0, .int .i64 0, .slice none 0 0, .slice none 0 0] 27))) := ⟨(Below.refl _ _).alloc (Nat.le_refl _) _⟩
  have HSa := allocSize W1 (.cells #[.int .i64 0, .bool false, .int .i64 0, .int .u64 0, .slice none 0 0, .int .i64 0, .int .i64 0, .slice none 0 0, .slice none 0 0] 27)
  have HEa : Aside0 (Own ((W1.alloc (.cells #[.int .i64 0, .bool false, .int .i64 0, .int .u64 0, .slice none 0 0, .int .i64 0, .int .i64 0, .slice none 0 0, .slice none 0 0] 27)).alloc (.cells #[] 5)) W1.heap.size 5 .u8 (.slice (some ⟨W1.heap.size + 1, 0, none⟩) 0 0) []) := ⟨by have h := Own.empty (W1.alloc (.cells #[.int .i64 0, .bool false, .int .i64 0, .int .u64 0, .slice none 0 0, .int .i64 0, .int .i64 0, .slice none 0 0, .slice none 0 0] 27)) W1.heap.size 5 .u8 (by rw [HSa]; omega); rw [HSa] at h; exact h⟩
  have HBa : Aside0 (Below W1.heap.size W1 ((W1.alloc (.cells #[.int .i64 0, .bool false, .int .i64 0, .int .u64 0, .slice none 0 0, .int .i64 0, .int .i64 0, .slice none 0 0, .slice none 0 0] 27)).alloc (.cells #[] 5))) := ⟨HBa0.out.alloc HBa0.out.size _⟩
  clear HSa
  have HEcd : Aside0 (Own (W1.alloc (.cells #[] 5)).drew W1.heap.size 5 .u8 (.slice (some ⟨W1.heap.size, 0, none⟩) 0 0) []) := ⟨HEc.out.drewN 1⟩
  have HBcd : Aside0 (Below W1.heap.size W1 (W1.alloc (.cells #[] 5)).drew) := ⟨HBc.out.drew⟩
  have HEbd : Aside0 (Own ((W1.alloc (.cells #[] 5)).alloc (.cells #[.int .i64 0, .bool false, .int .i64 0, .int .u64 0, .slice none 0 0, .int .i64 0, .int .i64 0, .slice none 0 0, .slice none 0 0] 27)).drew W1.heap.size 5 .u8 (.slice (some ⟨W1.heap.size, 0, none⟩) 0 0) []) := ⟨HEb.out.drewN 1⟩
  have HBbd : Aside0 (Below W1.heap.size W1 ((W1.alloc (.cells #[] 5)).alloc (.cells #[.int .i64 0, .bool false, .int .i64 0, .int .u64 0, .slice none 0 0, .int .i64 0, .int .i64 0, .slice none 0 0, .slice none 0 0] 27)).drew) := ⟨HBb.out.drew⟩
  have HEad : Aside0 (Own ((W1.alloc (.cells #[.int .i64 0, .bool false, .int .i64 0, .int .u64 0, .slice none 0 0, .int .i64 0, .int .i64 0, .slice none 0 0, .slice none 0 0] 27)).alloc (.cells #[] 5)).drew W1.heap.size 5 .u8 (.slice (some ⟨W1.heap.size + 1, 0, none⟩) 0 0) []) := ⟨HEa.out.drewN 1⟩
  have HBad : Aside0 (Below W1.heap.size W1 ((W1.alloc (.cells #[.int .i64 0, .bool false, .int .i64 0, .int .u64 0, .slice none 0 0, .int .i64 0, .int .i64 0, .slice none 0 0, .slice none 0 0] 27)).alloc (.cells #[] 5)).drew) := ⟨HBa.out.drew⟩
  have HBY : Aside0 (n1 = x.d.bs.length ∧ ∀ W, Below W1.heap.size W1 W → (Kd.int .u8).C W A1 n1 x.d.bs) := ⟨by
    obtain ⟨bsv, lsv, fsv, lcs, fcs, e1, e2, _⟩ := HIN.out.out
    simp only [nodeC, List.cons.injEq] at e1
    obtain ⟨A, c, e3, e4, e5, e6, e7⟩ := e2.out
    obtain ⟨_, _, _, _, rfl, _⟩ := e1
    obtain ⟨rfl, rfl, rfl⟩ := Value.slice.inj e3
    refine ⟨rfl, fun W hW => Kd.C_below e5 ((HB1.out.trans (hW.mono HB1.out.size)))⟩⟩
  obtain ⟨w1, w2', w3', w4', w5', w6', w7', w8'⟩ := HWF.out.d
  have hfb : ∀ W : World, (callFunc 36 #[.float .f64 x.d.bits]).run Tryd.prog W = .ok (.value (.int .u64 (x.d.bits : Int))) W := float64bits_run (x.d.bits : Int) (by omega)
  have hn9 : n1 ≤ 10000 := by have := HBY.out.1; omega
  clear HS1
  have hle1 : W1.heap.size ≤ W1.heap.size + 1 := Nat.le_succ _
  have qt : IntKind.i64.wrap x.d.ty = x.d.ty := IntWalk.i64_in _ (by omega)
  have qk : IntKind.i64.wrap x.d.ky = x.d.ky := IntWalk.i64_in _ (by omega)
  have qe : IntKind.i64.wrap x.d.el = x.d.el := IntWalk.i64_in _ (by omega)
  go_cut [3] from 8 to 28 (fun v3 wx => Born w W1 wx x.d v3)
  case first =>
    go_region_held3 (fun (W : World) => W.cell? ⟨w.heap.size, 0, none⟩ = some (.int .i8 x.d.ty) ∧ W.cell? ⟨w.heap.size, 1, none⟩ = some (.bool x.d.bo) ∧ W.cell? ⟨w.heap.size, 2, none⟩ = some (.int .i64 x.d.n) ∧ W.cell? ⟨w.heap.size, 3, none⟩ = some (.float .f64 x.d.bits) ∧ W.cell? ⟨w.heap.size, 4, none⟩ = some (.slice A1 n1 c1) ∧ W.cell? ⟨w.heap.size, 5, none⟩ = some (.int .i8 x.d.ky) ∧ W.cell? ⟨w.heap.size, 6, none⟩ = some (.int .i8 x.d.el))
      (first
        | with_reducible exact HSP.out _ (belowSets (b0 := W1.heap.size) (Nat.le_refl _) HB4.out)
        | with_reducible exact HSP.out _ (belowSets (b0 := W1.heap.size + 1) (Nat.le_succ _) HB4.out)
        | with_reducible exact HSP.out _ HB4.out
        | with_reducible exact HSP.out _ (HB4.out.alloc HB4.out.size _)
        | with_reducible exact HSP.out _ (Below.refl _ _).drew
        | with_reducible exact HSP.out _ HBa0.out.drew
        | with_reducible exact HSP.out _ HBa.out.drew
        | with_reducible exact HSP.out _ HBb.out.drew
        | with_reducible exact HSP.out _ HBc.out.drew)
      ((first
      | ((with_reducible refine appendReadStepAt (w0 := W1) (W := (W1.alloc (.cells #[] 5)).drew) W1.heap.size ?g (.tmp 18) (.tmp 20) 23 5 .u8 1 ?o Tryd.underlying23 infoU8 ?d (.slice (some ⟨W1.heap.size, 0, none⟩) 0 0) [] A1 n1 c1 x.d.bs ?e1 ?e2 HEcd.out HBcd.out HBcd.out.size ?hC ?hl ?_); (case g => rfl); (case o => rfl); (case d => decide); (case e1 => rfl); (case e2 => rfl); (case hC => exact HBY.out.2 _ HBcd.out); (case hl => simp; omega); intro v4 w4 ho hb hg hat; rw [List.nil_append] at ho; obtain ⟨A4, c4, e4, hc4, _⟩ := ho.read; subst e4; have HO4 := Aside0.mk ho; have HB4 := Aside0.mk hb; have HG4 := Aside0.mk hg; have HAT := Aside0.mk hat; clear ho hb hg hat)
      | ((with_reducible refine appendReadStepAt (w0 := W1) (W := ((W1.alloc (.cells #[] 5)).alloc (.cells #[.int .i64 0, .bool false, .int .i64 0, .int .u64 0, .slice none 0 0, .int .i64 0, .int .i64 0, .slice none 0 0, .slice none 0 0] 27)).drew) W1.heap.size ?g (.tmp 18) (.tmp 20) 23 5 .u8 1 ?o Tryd.underlying23 infoU8 ?d (.slice (some ⟨W1.heap.size, 0, none⟩) 0 0) [] A1 n1 c1 x.d.bs ?e1 ?e2 HEbd.out HBbd.out HBbd.out.size ?hC ?hl ?_); (case g => rfl); (case o => rfl); (case d => decide); (case e1 => rfl); (case e2 => rfl); (case hC => exact HBY.out.2 _ HBbd.out); (case hl => simp; omega); intro v4 w4 ho hb hg hat; rw [List.nil_append] at ho; obtain ⟨A4, c4, e4, hc4, _⟩ := ho.read; subst e4; have HO4 := Aside0.mk ho; have HB4 := Aside0.mk hb; have HG4 := Aside0.mk hg; have HAT := Aside0.mk hat; clear ho hb hg hat; have hz4 : Blk w4 (W1.heap.size + 1) _ _ := zeroKept HG4.out HAT.out (by rw [allocSize]) (by omega); have HZ4 := Aside0.mk hz4; obtain ⟨z0, z1, z2, z3, z4, z5, z6, z7, z8, zz⟩ := nine hz4; clear hz4)
      | ((with_reducible refine appendReadStepAt (w0 := W1) (W := ((W1.alloc (.cells #[.int .i64 0, .bool false, .int .i64 0, .int .u64 0, .slice none 0 0, .int .i64 0, .int .i64 0, .slice none 0 0, .slice none 0 0] 27)).alloc (.cells #[] 5)).drew) W1.heap.size ?g (.tmp 18) (.tmp 20) 23 5 .u8 1 ?o Tryd.underlying23 infoU8 ?d (.slice (some ⟨W1.heap.size + 1, 0, none⟩) 0 0) [] A1 n1 c1 x.d.bs ?e1 ?e2 HEad.out HBad.out HBad.out.size ?hC ?hl ?_); (case g => rfl); (case o => rfl); (case d => decide); (case e1 => rfl); (case e2 => rfl); (case hC => exact HBY.out.2 _ HBad.out); (case hl => simp; omega); intro v4 w4 ho hb hg hat; rw [List.nil_append] at ho; obtain ⟨A4, c4, e4, hc4, _⟩ := ho.read; subst e4; have HO4 := Aside0.mk ho; have HB4 := Aside0.mk hb; have HG4 := Aside0.mk hg; have HAT := Aside0.mk hat; clear ho hb hg hat; have hz4 : Blk w4 W1.heap.size _ _ := zeroKept2 HG4.out HAT.out; have HZ4 := Aside0.mk hz4; obtain ⟨z0, z1, z2, z3, z4, z5, z6, z7, z8, zz⟩ := nine hz4; clear hz4)
      | fail "no arm"))
    all_goals (go_wp2_with (fail); go_meet)
    all_goals first
      | (with_reducible exact born_c HSS.out HO4.out HB4.out)
      | (with_reducible exact born_s HSS.out hle1 HZ4.out HO4.out HB4.out (ne_b HAT.out))
      | (with_reducible exact born_s HSS.out (Nat.le_refl _) HZ4.out HO4.out HB4.out (ne_a HAT.out))
  case rest =>
    obtain ⟨b3, c4, A4, rfl, hb3, hB3, hO3, hne3, hBel⟩ := hcut.out
    have HPc := Aside0.mk (HP1.out.below hBel (by have := HSS.out; omega))
    have HRc := Aside0.mk (HR1.out.below hBel (by have := HSS.out; omega))
    have HB3 := Aside0.mk hB3
    have HO3 := Aside0.mk hO3
    have HNE := Aside0.mk hne3
    have HBW : Aside0 (Below w.heap.size w wc) := ⟨HB1.out.trans (hBel.mono HB1.out.size)⟩
    have HBC := Aside0.mk hBel
    have hb3l := hB3.lt
    have HL3 := Aside0.mk hb3l
    -- what the value's elements and fields are
    obtain ⟨bsv, lsv, fsv, lcs, fcs, e1, e2, e3, e4, e5, e6⟩ := HIN.out.out
    simp only [nodeC, List.cons.injEq] at e1
    obtain ⟨_, _, _, _, rfl, _, _, rfl, rfl, _⟩ := e1
    obtain ⟨AL, cL, l1, l2, l3⟩ := e3.out
    obtain ⟨rfl, rfl, rfl⟩ := Value.slice.inj l1
    obtain ⟨AF, cF, r1, r2, r3⟩ := e5.out
    obtain ⟨rfl, rfl, rfl⟩ := Value.slice.inj r1
    have HBB : Aside0 (bytesB x.d.bs = true) := ⟨by obtain ⟨_, _, _, _, _, h, _⟩ := e2.out; exact h⟩
    have HLC := Aside0.mk l3
    have HFC := Aside0.mk r3
    have HLI := Aside0.mk e4
    have HFI := Aside0.mk e6
    clear hcut hB3 hO3 hne3 hBel l3 r3 e4 e6 e2 e3 e5 qt qk qe hfb HBY HEc HBc HEcd HBcd HEb HBb HEbd HBbd HBa0 HEa HBa HEad HBad HSP q0 q1 q2 q3 q4 q5 q6 q7 q8 qz hb3l
    obtain ⟨q0, q1, q2, q3, q4, q5, q6, q7, q8, qz⟩ := nine HPc.out
    go_wp2_with (fail)
    have HLN := Aside0.mk HWF.out.nl
    go_loopg [5, 32] x.ls.len (fun kq v5 v32 w' => ∃ (i cl : Nat) (Al : Option Addr) (D G : F) (cs2 pre gcs : List Value), i ≤ x.ls.len ∧ v32 = .int .i64 i ∧ Aside0 (D.len = i) ∧ Aside0 (D.app G = x.ls) ∧ Aside0 (G.len + i = x.ls.len) ∧ Aside0 (lcs = pre ++ gcs) ∧ Aside0 (pre.length = i * 9) ∧ Aside0 (G.In flV w (fun b => b < w.heap.size) false gcs) ∧ Aside0 (F.all Pv G) ∧ Aside0 (F.wf G) ∧ Aside0 (LRow w w' none #[] 0 0 flT false 27 wc.heap.size (.slice Al i cl) D cs2) ∧ Aside0 (Blk w' b3 #[.int .i64 x.d.ty, .bool x.d.bo, .int .i64 x.d.n, .int .u64 (x.d.bits : Int), .slice A4 x.d.bs.length c4, .int .i64 x.d.ky, .int .i64 x.d.el, .slice Al i cl, .slice none 0 0] 27) ∧ Aside0 (Blk w' w.heap.size #[.int .i8 x.d.ty, .bool x.d.bo, .int .i64 x.d.n, .float .f64 x.d.bits, .slice A1 n1 c1, .int .i8 x.d.ky, .int .i8 x.d.el, .slice A2 x.ls.len c2, .slice A3 x.fs.len c3] 60) ∧ Aside0 (∀ b, w.heap.size ≤ b → b < wc.heap.size → b ≠ b3 → w'.heap[b]? = wc.heap[b]?) ∧ Aside0 (x.ls.len - i ≤ kq))
    case atStart =>
      exact ⟨0, 0, none, .nil, x.ls, [], [], lcs, by omega, rfl, ⟨rfl⟩, ⟨rfl⟩, ⟨rfl⟩, ⟨rfl⟩, ⟨by simp⟩, HLI, HIL, ⟨HWF.out.ls⟩, ⟨⟨belowGrown HBW.out, (fun g e => nomatch e), ownNil _ _ _ _, rfl, Nat.le_refl _⟩⟩, HB3, HPc, ⟨fun _ _ _ _ => rfl⟩, ⟨by omega⟩⟩
    case round =>
      clear q0 q1 q2 q3 q4 q5 q6 q7 q8 qz
      obtain ⟨i, cl, Al, D, G, cs2, pre, gcs, hi, rfl, HDl, HDG, HGl, HLE, HPR, HGI, HGA, HGW, HL, HVB, HPB, HKP, HK⟩ := hrel
      obtain ⟨y0, y1, y2, y3, y4, y5, y6, y7, y8, yz⟩ := nine HVB.out
      obtain ⟨q0, q1, q2, q3, q4, q5, q6, q7, q8, qz⟩ := nine HPB.out
      by_cases ci : i < x.ls.len
      · have ct : decide ((i : Int) < x.ls.len) = true := decide_eq_true (by omega)
        cases G with
        | nil => exact absurd HGl.out (by show ¬ (0 + i = _); omega)
        | cons d id ls fs tl =>
          obtain ⟨bsv, lsv, fsv, lcs', fcs', tcs, g1, g2, g3, g4, g5, g6, g7⟩ := HGI.out
          have hyin : N.In flV w (fun b => b < w.heap.size) ⟨d, ls, fs⟩ (nodeC flV d bsv lsv fsv) := ⟨⟨bsv, lsv, fsv, lcs', fcs', rfl, g2, g3, g4, g5, g6⟩⟩
          obtain ⟨A5, n5, k5, A7, n7, k7, A8, n8, k8, hcs⟩ := openV hyin
          rw [hcs] at hyin g1
          have HYI := Aside0.mk hyin
          obtain ⟨ad, hA2, hadl, hcell⟩ := HLC.out (by rw [HLE.out, g1]; simp)
          subst hA2
          have hrow := rowCell hcell HLE.out HPR.out
          have hsw := HL.out.grown.size
          obtain ⟨z0, z1, z2, z3, z4, z5, z6, z7, z8⟩ := nineRow (w := wr) (ad := ad) (k := i * 9) (rest := tcs) (fun q u hq => (World.cell?_of_block (by rw [add_block]; exact HL.out.grown.block _ hadl (fun e => nomatch e))).trans (hrow q u hq)) g1
          have HYP := Aside0.mk (HGA.out.1 ⟨HGW.out.1, HGW.out.2.2.2.1, HGW.out.2.2.2.2.1, HGW.out.2.2.2.2.2.1, HGW.out.2.2.2.2.2.2.1⟩ (wr.alloc (.cells #[.int .i8 d.ty, .bool d.bo, .int .i64 d.n, .float .f64 d.bits, .slice A5 n5 k5, .int .i8 d.ky, .int .i8 d.el, .slice A7 n7 k7, .slice A8 n8 k8] 60)).drew _ (hyin.move (Pc := fun b => b < (wr.alloc (.cells #[.int .i8 d.ty, .bool d.bo, .int .i64 d.n, .float .f64 d.bits, .slice A5 n5 k5, .int .i8 d.ky, .int .i8 d.el, .slice A7 n7 k7, .slice A8 n8 k8] 60)).drew.heap.size) (fun b hb => show (wr.alloc (.cells #[.int .i8 d.ty, .bool d.bo, .int .i64 d.n, .float .f64 d.bits, .slice A5 n5 k5, .int .i8 d.ky, .int .i8 d.el, .slice A7 n7 k7, .slice A8 n8 k8] 60)).heap[b]? = _ from (Below.heap_alloc _ _ b (Nat.lt_of_lt_of_le hb hsw)).trans (HL.out.grown.block b hb (fun e => nomatch e))) (fun b hb => by show b < (wr.alloc _).heap.size; rw [allocSize]; have : b < w.heap.size := hb; omega)))
          have HDS : (wr.alloc (.cells #[.int .i8 d.ty, .bool d.bo, .int .i64 d.n, .float .f64 d.bits, .slice A5 n5 k5, .int .i8 d.ky, .int .i8 d.el, .slice A7 n7 k7, .slice A8 n8 k8] 60)).drew.heap.size = wr.heap.size + 1 := by show (wr.alloc _).heap.size = _; rw [allocSize]
          have HDZ := Aside0.mk HDS
          have HGD : Aside0 (wr.grownBy (wr.alloc (.cells #[.int .i8 d.ty, .bool d.bo, .int .i64 d.n, .float .f64 d.bits, .slice A5 n5 k5, .int .i8 d.ky, .int .i8 d.el, .slice A7 n7 k7, .slice A8 n8 k8] 60)).drew none) := ⟨⟨rfl, rfl, rfl, by omega, fun b hb _ => Below.heap_alloc _ _ b hb⟩⟩
          have HVA := Aside0.mk (HVB.out.alloc (.cells #[.int .i8 d.ty, .bool d.bo, .int .i64 d.n, .float .f64 d.bits, .slice A5 n5 k5, .int .i8 d.ky, .int .i8 d.el, .slice A7 n7 k7, .slice A8 n8 k8] 60))
          have HPA := Aside0.mk (HPB.out.alloc (.cells #[.int .i8 d.ty, .bool d.bo, .int .i64 d.n, .float .f64 d.bits, .slice A5 n5 k5, .int .i8 d.ky, .int .i8 d.el, .slice A7 n7 k7, .slice A8 n8 k8] 60))
          have hi9 : i < 1001 := by have := HLN.out; omega
          have HG7 := Aside0.mk g7
          have HL9 : Aside0 (lcs = pre ++ ([.int .i8 d.ty, .bool d.bo, .int .i64 d.n, .float .f64 d.bits, .slice A5 n5 k5, .int .i8 d.ky, .int .i8 d.el, .slice A7 n7 k7, .slice A8 n8 k8] ++ tcs)) := ⟨by rw [HLE.out, g1]; rfl⟩
          clear g1 g2 g3 g4 g5 g6 g7 hyin hrow hcell hi HDS
          go_wp2_with (fail)
          obtain ⟨x0, x1, x2, x3, x4, x5, x6, x7, x8, xz⟩ := nine (Blk.new wr #[.int .i8 d.ty, .bool d.bo, .int .i64 d.n, .float .f64 d.bits, .slice A5 n5 k5, .int .i8 d.ky, .int .i8 d.el, .slice A7 n7 k7, .slice A8 n8 k8] 60)
          obtain ⟨o0, o1, o2, o3, o4, o5, o6, o7, o8, oz⟩ := nine HVA.out
          go_region_law ((first
            | (go_simp; go_at_call 27; (with_reducible refine HYP.out.mono ?_); rintro e w5 HP5; obtain ⟨xcs, rfl, hxin⟩ := HP5.out; have HXI := Aside0.mk hxin; obtain ⟨B5, m5, j5, B7, m7, j7, B8, m8, j8, hxe⟩ := openT hxin; have HXE := Aside0.mk hxe; rw [hxe]; clear hxe hxin; have HPW := Aside0.mk HP5.below; have hB2 := HVA.out.drew.below HP5.below HVA.out.drew.lt; have HB2 := Aside0.mk hB2; obtain ⟨p0, p1, p2, p3, p4, p5, p6, p7, p8, pz⟩ := nine hB2; obtain ⟨r0, r1, r2, r3, r4, r5, r6, r7, r8, rz⟩ := nineA hB2; clear hB2; dsimp only)
            | ((with_reducible refine appendCellsStep (W := w5.alloc (.cells #[.int .i64 d.ty, .bool d.bo, .int .i64 d.n, .int .u64 (d.bits : Int), .slice B5 m5 j5, .int .i64 d.ky, .int .i64 d.el, .slice B7 m7 j7, .slice B8 m8 j8] 27)) wc.heap.size ?g (.tmp 37) (.tmp 40) 24 27 9 120 ?o Tryd.underlying24 infoThing ?d (.slice Al i cl) i cs2 [.int .i64 d.ty, .bool d.bo, .int .i64 d.n, .int .u64 (d.bits : Int), .slice B5 m5 j5, .int .i64 d.ky, .int .i64 d.el, .slice B7 m7 j7, .slice B8 m8 j8] w5.heap.size ?e1 ?e2 ?nl ?one ?HO (Blk.new _ _ _) ?hb ?hl ?hl2 ?_); (case g => rfl); (case o => rfl); (case d => decide); (case e1 => rfl); (case e2 => rfl); (case nl => rfl); (case one => simp [Value.oneCell']); (case HO => exact (own_move (HDl.out ▸ HL.out.row) (fun b hb => HPW.out.block b (by rw [HDZ.out]; have := (own_lt HL.out.row hb).2; omega) |>.trans (HGD.out.block b (own_lt HL.out.row hb).2 (fun e => nomatch e)))).alloc _); (case hb => rw [allocSize]; have := HPW.out.size; have := HL.out.sz; rw [HDZ.out] at *; omega); (case hl => omega); (case hl2 => unfold maxLen; omega); intro v1 w6 ho hgr hor; have HNX := Aside0.mk (HL.out.step (rc2 := #[]) HBW.out.size (Nat.zero_le _) (fun g e => nomatch e) (x := ⟨d, ls, fs⟩) (id := id) (by rw [HDZ.out]; exact Nat.le_succ _) HXI.out (HGD.out.trans (belowGrown HPW.out)) (fun g e => nomatch e) hgr (by rw [HDl.out, HXE.out]; exact ho) (by rcases hor with h | h; exact .inl h; exact .inr (by rw [h, allocSize]))); have hK6 := fun b h1 h2 => HL.out.keeps (fun g e => nomatch e) (HGD.out.trans (belowGrown HPW.out)) hgr (b := b) h1 h2; have hB6 : Blk w6 b3 _ _ := ⟨(hK6 b3 (by omega) HL3.out).trans HVB.out.out⟩; have hP6 : Blk w6 w.heap.size _ _ := ⟨(hK6 w.heap.size (Nat.le_refl _) (by have := HL3.out; omega)).trans HPB.out.out⟩; obtain ⟨Al2, cl2, rfl⟩ := ownSlice ho; have l7 := hB6.cell (j := 7) rfl; have lz := hB6.free 7; have HB6 := Aside0.mk hB6; have HP6 := Aside0.mk hP6; have HK6 := Aside0.mk hK6; clear ho hgr hor hK6 hB6 hP6)
            | fail "no arm"))
          all_goals go_wp2_with (fail)
          all_goals go_roundg (gk - 1)
          all_goals first
            | (have := HK.out; omega)
            | (refine ⟨i + 1, cl2, Al2, D.snoc d id ls fs, tl, _, pre ++ [.int .i8 d.ty, .bool d.bo, .int .i64 d.n, .float .f64 d.bits, .slice A5 n5 k5, .int .i8 d.ky, .int .i8 d.el, .slice A7 n7 k7, .slice A8 n8 k8], tcs, by omega, by go_num, ⟨by rw [F.len_snoc, HDl.out]⟩, ⟨by rw [← F.app_snoc]; exact HDG.out⟩, ⟨by have := HGl.out; have : (F.cons d id ls fs tl).len = tl.len + 1 := rfl; omega⟩, ⟨by rw [HL9.out, List.append_assoc]⟩, ⟨by rw [List.length_append, HPR.out]; show i * 9 + 9 = (i + 1) * 9; omega⟩, HG7, ⟨HGA.out.2⟩, ⟨HGW.out.2.2.2.2.2.2.2⟩, ⟨HNX.out.set (Nat.zero_le _) (fun g e => nomatch e) (by omega) HL3.out 7 _⟩, ⟨HB6.out.set 7 _⟩, ⟨HP6.out.far (by show w.heap.size ≠ b3; omega) _⟩, ⟨fun b h1 h2 h3 => (Below.heap_setCell _ _ _ b h3).trans ((HK6.out b h1 h2).trans (HKP.out b h1 h2 h3))⟩, ⟨by have := HK.out; omega⟩⟩)
      · have hin : i = x.ls.len := by omega
        have hDx : D = x.ls := by
          have hg := HGl.out
          have hd := HDG.out
          cases G with
          | nil => rw [F.app_nil] at hd; exact hd
          | cons d id ls fs tl => exfalso; have : (F.cons d id ls fs tl).len = tl.len + 1 := rfl; omega
        subst hin
        rw [hDx] at HL
        rename World => wd
        have HLA : Aside0 (Lies wd (fun b => wc.heap.size ≤ b ∧ b < wd.heap.size) (.slice Al x.ls.len cl) x.ls.len cs2 ∧ x.ls.In flT wd (fun b => wc.heap.size ≤ b ∧ b < wd.heap.size) false cs2) := ⟨(lies_own HL.out.row).move (fun _ _ => rfl) (fun b hb => own_lt HL.out.row hb), F.In.move (fun _ _ => rfl) (fun b hb => by rcases hb with ⟨h1, _⟩ | ⟨h1, h2, _⟩; exact absurd h1 (Nat.not_lt_zero _); exact ⟨h1, h2⟩) HL.out.els⟩
        have HSZ2 : Aside0 (wc.heap.size ≤ wd.heap.size) := ⟨HL.out.sz⟩
        have HBWd : Aside0 (Below w.heap.size w wd) := ⟨⟨HL.out.grown.os, HL.out.grown.tape, HL.out.grown.output, HL.out.grown.size, fun b hb => HL.out.grown.block b hb (fun e => nomatch e)⟩⟩
        have HVB1 := HVB
        have HPB1 := HPB
        have HKP1 := HKP
        have HL3d : Aside0 (b3 < wd.heap.size) := ⟨Nat.lt_of_lt_of_le HL3.out HL.out.sz⟩
        have HFN := Aside0.mk HWF.out.nf
        have ct : decide (((x.ls.len : Nat) : Int) < (x.ls.len : Nat)) = false := decide_eq_false (by omega)
        clear HL HVB HPB HKP HK HDl HDG HGl HLE HPR HGI HGA HGW hDx
        go_wp2_with (fail)
        go_loopg [7, 47] x.fs.len (fun kq v7 v47 w' => ∃ (i cl3 : Nat) (Al3 : Option Addr) (D3 G3 : F) (cs3 pr3 gc3 : List Value), i ≤ x.fs.len ∧ v47 = .int .i64 i ∧ Aside0 (D3.len = i) ∧ Aside0 (D3.app G3 = x.fs) ∧ Aside0 (G3.len + i = x.fs.len) ∧ Aside0 (fcs = pr3 ++ gc3) ∧ Aside0 (pr3.length = i * 10) ∧ Aside0 (G3.In flV w (fun b => b < w.heap.size) true gc3) ∧ Aside0 (F.all Pv G3) ∧ Aside0 (F.wf G3) ∧ Aside0 (LRow w w' none #[] 0 0 flT true 48 wd.heap.size (.slice Al3 i cl3) D3 cs3) ∧ Aside0 (Blk w' b3 #[.int .i64 x.d.ty, .bool x.d.bo, .int .i64 x.d.n, .int .u64 (x.d.bits : Int), .slice A4 x.d.bs.length c4, .int .i64 x.d.ky, .int .i64 x.d.el, .slice Al x.ls.len cl, .slice Al3 i cl3] 27) ∧ Aside0 (Blk w' w.heap.size #[.int .i8 x.d.ty, .bool x.d.bo, .int .i64 x.d.n, .float .f64 x.d.bits, .slice A1 n1 c1, .int .i8 x.d.ky, .int .i8 x.d.el, .slice A2 x.ls.len c2, .slice A3 x.fs.len c3] 60) ∧ Aside0 (∀ b, w.heap.size ≤ b → b < wd.heap.size → b ≠ b3 → w'.heap[b]? = wd.heap[b]?) ∧ Aside0 (x.fs.len - i ≤ kq))
        case atStart =>
          exact ⟨0, 0, none, .nil, x.fs, [], [], fcs, by omega, rfl, ⟨rfl⟩, ⟨rfl⟩, ⟨rfl⟩, ⟨rfl⟩, ⟨by simp⟩, HFI, HIF, ⟨HWF.out.fs⟩, ⟨⟨belowGrown HBWd.out, (fun g e => nomatch e), ownNil _ _ _ _, rfl, Nat.le_refl _⟩⟩, HVB1, HPB1, ⟨fun _ _ _ _ => rfl⟩, ⟨by omega⟩⟩
        case round =>
          clear q0 q1 q2 q3 q4 q5 q6 q7 q8 qz
          obtain ⟨i, cl3, Al3, D3, G3, cs3, pr3, gc3, hi, rfl, HDl, HDG, HGl, HLE, HPR, HGI, HGA, HGW, HL, HVB, HPB, HKP, HK⟩ := hrel
          obtain ⟨y0, y1, y2, y3, y4, y5, y6, y7, y8, yz⟩ := nine HVB.out
          obtain ⟨q0, q1, q2, q3, q4, q5, q6, q7, q8, qz⟩ := nine HPB.out
          by_cases ci : i < x.fs.len
          · have ct : decide ((i : Int) < x.fs.len) = true := decide_eq_true (by omega)
            cases G3 with
            | nil => exact absurd HGl.out (by show ¬ (0 + i = _); omega)
            | cons d id ls fs tl =>
              obtain ⟨bsv, lsv, fsv, lcs', fcs', tcs, g1, g2, g3, g4, g5, g6, g7⟩ := HGI.out
              have hyin : N.In flV w (fun b => b < w.heap.size) ⟨d, ls, fs⟩ (nodeC flV d bsv lsv fsv) := ⟨⟨bsv, lsv, fsv, lcs', fcs', rfl, g2, g3, g4, g5, g6⟩⟩
              obtain ⟨A5, n5, k5, A7, n7, k7, A8, n8, k8, hcs⟩ := openV hyin
              rw [hcs] at hyin g1
              have HYI := Aside0.mk hyin
              obtain ⟨ad, hA2, hadl, hcell⟩ := HFC.out (by rw [HLE.out, g1]; simp)
              subst hA2
              have hrow := rowCell hcell HLE.out HPR.out
              have hsw := HL.out.grown.size
              obtain ⟨z0, z1, z2, z3, z4, z5, z6, z7, z8, z9⟩ := tenRow (w := wr) (a0 := .int .i16 id) (ad := ad) (k := i * 10) (rest := tcs) (fun q u hq => (World.cell?_of_block (by rw [add_block]; exact HL.out.grown.block _ hadl (fun e => nomatch e))).trans (hrow q u hq)) g1
              have HYP := Aside0.mk (HGA.out.1 ⟨HGW.out.1, HGW.out.2.2.2.1, HGW.out.2.2.2.2.1, HGW.out.2.2.2.2.2.1, HGW.out.2.2.2.2.2.2.1⟩ (wr.alloc (.cells #[.int .i16 id, .int .i8 d.ty, .bool d.bo, .int .i64 d.n, .float .f64 d.bits, .slice A5 n5 k5, .int .i8 d.ky, .int .i8 d.el, .slice A7 n7 k7, .slice A8 n8 k8] 87)).drew _ (hyin.move (Pc := fun b => b < (wr.alloc (.cells #[.int .i16 id, .int .i8 d.ty, .bool d.bo, .int .i64 d.n, .float .f64 d.bits, .slice A5 n5 k5, .int .i8 d.ky, .int .i8 d.el, .slice A7 n7 k7, .slice A8 n8 k8] 87)).drew.heap.size) (fun b hb => show (wr.alloc (.cells #[.int .i16 id, .int .i8 d.ty, .bool d.bo, .int .i64 d.n, .float .f64 d.bits, .slice A5 n5 k5, .int .i8 d.ky, .int .i8 d.el, .slice A7 n7 k7, .slice A8 n8 k8] 87)).heap[b]? = _ from (Below.heap_alloc _ _ b (Nat.lt_of_lt_of_le hb hsw)).trans (HL.out.grown.block b hb (fun e => nomatch e))) (fun b hb => by show b < (wr.alloc _).heap.size; rw [allocSize]; have : b < w.heap.size := hb; omega)))
              have HDS : (wr.alloc (.cells #[.int .i16 id, .int .i8 d.ty, .bool d.bo, .int .i64 d.n, .float .f64 d.bits, .slice A5 n5 k5, .int .i8 d.ky, .int .i8 d.el, .slice A7 n7 k7, .slice A8 n8 k8] 87)).drew.heap.size = wr.heap.size + 1 := by show (wr.alloc _).heap.size = _; rw [allocSize]
              have HDZ := Aside0.mk HDS
              have HGD : Aside0 (wr.grownBy (wr.alloc (.cells #[.int .i16 id, .int .i8 d.ty, .bool d.bo, .int .i64 d.n, .float .f64 d.bits, .slice A5 n5 k5, .int .i8 d.ky, .int .i8 d.el, .slice A7 n7 k7, .slice A8 n8 k8] 87)).drew none) := ⟨⟨rfl, rfl, rfl, by omega, fun b hb _ => Below.heap_alloc _ _ b hb⟩⟩
              have HVA := Aside0.mk (HVB.out.alloc (.cells #[.int .i16 id, .int .i8 d.ty, .bool d.bo, .int .i64 d.n, .float .f64 d.bits, .slice A5 n5 k5, .int .i8 d.ky, .int .i8 d.el, .slice A7 n7 k7, .slice A8 n8 k8] 87))
              have HPA := Aside0.mk (HPB.out.alloc (.cells #[.int .i16 id, .int .i8 d.ty, .bool d.bo, .int .i64 d.n, .float .f64 d.bits, .slice A5 n5 k5, .int .i8 d.ky, .int .i8 d.el, .slice A7 n7 k7, .slice A8 n8 k8] 87))
              have qid : IntKind.i64.wrap id = id := IntWalk.i64_in _ (by have h1 := HGW.out.2.1; have h2 := HGW.out.2.2.1; omega)
              have hi9 : i < 1001 := by have := HFN.out; omega
              have HG7 := Aside0.mk g7
              have HL9 : Aside0 (fcs = pr3 ++ ([.int .i16 id, .int .i8 d.ty, .bool d.bo, .int .i64 d.n, .float .f64 d.bits, .slice A5 n5 k5, .int .i8 d.ky, .int .i8 d.el, .slice A7 n7 k7, .slice A8 n8 k8] ++ tcs)) := ⟨by rw [HLE.out, g1]; rfl⟩
              clear g1 g2 g3 g4 g5 g6 g7 hyin hrow hcell hi HDS
              go_wp2_with (fail)
              obtain ⟨x0, x1, x2, x3, x4, x5, x6, x7, x8, x9, xz⟩ := ten (Blk.new wr #[.int .i16 id, .int .i8 d.ty, .bool d.bo, .int .i64 d.n, .float .f64 d.bits, .slice A5 n5 k5, .int .i8 d.ky, .int .i8 d.el, .slice A7 n7 k7, .slice A8 n8 k8] 87)
              obtain ⟨o0, o1, o2, o3, o4, o5, o6, o7, o8, oz⟩ := nine HVA.out
              go_region_law ((first
                | (go_simp; go_at_call 27; (with_reducible refine HYP.out.mono ?_); rintro e w5 HP5; have xf := ((Blk.new wr #[.int .i16 id, .int .i8 d.ty, .bool d.bo, .int .i64 d.n, .float .f64 d.bits, .slice A5 n5 k5, .int .i8 d.ky, .int .i8 d.el, .slice A7 n7 k7, .slice A8 n8 k8] 87).drew.below HP5.below (Blk.new wr #[.int .i16 id, .int .i8 d.ty, .bool d.bo, .int .i64 d.n, .float .f64 d.bits, .slice A5 n5 k5, .int .i8 d.ky, .int .i8 d.el, .slice A7 n7 k7, .slice A8 n8 k8] 87).drew.lt).cell (j := 0) rfl; obtain ⟨xcs, rfl, hxin⟩ := HP5.out; have HXI := Aside0.mk hxin; obtain ⟨B5, m5, j5, B7, m7, j7, B8, m8, j8, hxe⟩ := openT hxin; have HXE := Aside0.mk hxe; rw [hxe]; clear hxe hxin; have HPW := Aside0.mk HP5.below; have hB2 := HVA.out.drew.below HP5.below HVA.out.drew.lt; have HB2 := Aside0.mk hB2; obtain ⟨p0, p1, p2, p3, p4, p5, p6, p7, p8, pz⟩ := nine hB2; obtain ⟨r0, r1, r2, r3, r4, r5, r6, r7, r8, rz⟩ := nineA hB2; clear hB2; dsimp only)
                | ((with_reducible refine appendCellsStep (W := w5.alloc (.cells #[.int .i64 id, .int .i64 d.ty, .bool d.bo, .int .i64 d.n, .int .u64 (d.bits : Int), .slice B5 m5 j5, .int .i64 d.ky, .int .i64 d.el, .slice B7 m7 j7, .slice B8 m8 j8] 48)) wd.heap.size ?g (.tmp 52) (.tmp 60) 25 48 10 128 ?o Tryd.underlying25 infoPart (by decide) (.slice Al3 i cl3) i cs3 [.int .i64 id, .int .i64 d.ty, .bool d.bo, .int .i64 d.n, .int .u64 (d.bits : Int), .slice B5 m5 j5, .int .i64 d.ky, .int .i64 d.el, .slice B7 m7 j7, .slice B8 m8 j8] w5.heap.size ?e1 ?e2 ?nl ?one ?HO (Blk.new _ _ _) ?hb ?hl ?hl2 ?_); (case g => rfl); (case o => rfl); (case e1 => rfl); (case e2 => rfl); (case nl => rfl); (case one => simp [Value.oneCell']); (case HO => exact (own_move (HDl.out ▸ HL.out.row) (fun b hb => HPW.out.block b (by rw [HDZ.out]; have := (own_lt HL.out.row hb).2; omega) |>.trans (HGD.out.block b (own_lt HL.out.row hb).2 (fun e => nomatch e)))).alloc _); (case hb => rw [allocSize]; have := HPW.out.size; have := HL.out.sz; rw [HDZ.out] at *; omega); (case hl => omega); (case hl2 => unfold maxLen; omega); intro v1 w6 ho hgr hor; have HNX := Aside0.mk (HL.out.step (rc2 := #[]) HBWd.out.size (Nat.zero_le _) (fun g e => nomatch e) (x := ⟨d, ls, fs⟩) (id := id) (by rw [HDZ.out]; exact Nat.le_succ _) HXI.out (HGD.out.trans (belowGrown HPW.out)) (fun g e => nomatch e) hgr (by rw [HDl.out, HXE.out]; exact ho) (by rcases hor with h | h; exact .inl h; exact .inr (by rw [h, allocSize]))); have hK6 := fun b h1 h2 => HL.out.keeps (fun g e => nomatch e) (HGD.out.trans (belowGrown HPW.out)) hgr (b := b) h1 h2; have hB6 : Blk w6 b3 _ _ := ⟨(hK6 b3 (by omega) HL3d.out).trans HVB.out.out⟩; have hP6 : Blk w6 w.heap.size _ _ := ⟨(hK6 w.heap.size (Nat.le_refl _) (by have := HL3d.out; omega)).trans HPB.out.out⟩; obtain ⟨Al2, cl2, rfl⟩ := ownSlice ho; have l7 := hB6.cell (j := 8) rfl; have lz := hB6.free 8; have HB6 := Aside0.mk hB6; have HP6 := Aside0.mk hP6; have HK6 := Aside0.mk hK6; clear ho hgr hor hK6 hB6 hP6)
                | fail "no arm"))
              all_goals go_wp2_with (fail)
              all_goals go_roundg (gk - 1)
              all_goals first
                | (have := HK.out; omega)
                | (refine ⟨i + 1, cl2, Al2, D3.snoc d id ls fs, tl, _, pr3 ++ [.int .i16 id, .int .i8 d.ty, .bool d.bo, .int .i64 d.n, .float .f64 d.bits, .slice A5 n5 k5, .int .i8 d.ky, .int .i8 d.el, .slice A7 n7 k7, .slice A8 n8 k8], tcs, by omega, by go_num, ⟨by rw [F.len_snoc, HDl.out]⟩, ⟨by rw [← F.app_snoc]; exact HDG.out⟩, ⟨by have := HGl.out; have : (F.cons d id ls fs tl).len = tl.len + 1 := rfl; omega⟩, ⟨by rw [HL9.out, List.append_assoc]⟩, ⟨by rw [List.length_append, HPR.out]; show i * 10 + 10 = (i + 1) * 10; omega⟩, HG7, ⟨HGA.out.2⟩, ⟨HGW.out.2.2.2.2.2.2.2⟩, ⟨HNX.out.set (Nat.zero_le _) (fun g e => nomatch e) (by omega) HL3d.out 8 _⟩, ⟨HB6.out.set 8 _⟩, ⟨HP6.out.far (by show w.heap.size ≠ b3; omega) _⟩, ⟨fun b h1 h2 h3 => (Below.heap_setCell _ _ _ b h3).trans ((HK6.out b h1 h2).trans (HKP.out b h1 h2 h3))⟩, ⟨by have := HK.out; omega⟩⟩)
          · have hin : i = x.fs.len := by omega
            have hDx : D3 = x.fs := by
              have hg := HGl.out
              have hd := HDG.out
              cases G3 with
              | nil => rw [F.app_nil] at hd; exact hd
              | cons d id ls fs tl => exfalso; have : (F.cons d id ls fs tl).len = tl.len + 1 := rfl; omega
            subst hin
            rw [hDx] at HL
            have hl3 := HL3.out
            have hl3d := HL3d.out
            have hne : b3 ≠ w.heap.size + 1 := by omega
            have hR9 : Blk wr (w.heap.size + 1) #[.int .i64 0, .bool false, .int .i64 0, .int .u64 0, .slice none 0 0, .int .i64 0, .int .i64 0, .slice none 0 0, .slice none 0 0] 27 := ⟨(HKP.out _ (Nat.le_succ _) (by omega) (Ne.symm hne)).trans ((HKP1.out _ (Nat.le_succ _) (by omega) (Ne.symm hne)).trans HRc.out.out)⟩
            have HR9 := Aside0.mk hR9
            obtain ⟨t0, t1, t2, t3, t4, t5, t6, t7, t8, tz⟩ := nine hR9
            have ct : decide (((x.fs.len : Nat) : Int) < (x.fs.len : Nat)) = false := decide_eq_false (by omega)
            have HBV := Aside0.mk HVB.out
            have HBr : Aside0 (Below w.heap.size w wr) := ⟨⟨HL.out.grown.os, HL.out.grown.tape, HL.out.grown.output, HL.out.grown.size, fun b hb => HL.out.grown.block b hb (fun e => nomatch e)⟩⟩
            obtain ⟨w9, hw9⟩ : ∃ W9, (((((((((wr.setCell ⟨w.heap.size + 1, 0, none⟩ (.int .i64 x.d.ty)).setCell ⟨w.heap.size + 1, 1, none⟩ (.bool x.d.bo)).setCell ⟨w.heap.size + 1, 2, none⟩ (.int .i64 x.d.n)).setCell ⟨w.heap.size + 1, 3, none⟩ (.int .u64 (x.d.bits : Int))).setCell ⟨w.heap.size + 1, 4, none⟩ (.slice A4 x.d.bs.length c4)).setCell ⟨w.heap.size + 1, 5, none⟩ (.int .i64 x.d.ky)).setCell ⟨w.heap.size + 1, 6, none⟩ (.int .i64 x.d.el)).setCell ⟨w.heap.size + 1, 7, none⟩ (.slice Al x.ls.len cl)).setCell ⟨w.heap.size + 1, 8, none⟩ (.slice Al3 x.fs.len cl3)) = W9 := ⟨_, rfl⟩
            have hk9 : ∀ b, b ≠ w.heap.size + 1 → w9.heap[b]? = wr.heap[b]? := fun b hn => by rw [← hw9, Below.heap_setCell _ _ _ b hn, Below.heap_setCell _ _ _ b hn, Below.heap_setCell _ _ _ b hn, Below.heap_setCell _ _ _ b hn, Below.heap_setCell _ _ _ b hn, Below.heap_setCell _ _ _ b hn, Below.heap_setCell _ _ _ b hn, Below.heap_setCell _ _ _ b hn, Below.heap_setCell _ _ _ b hn]
            have hs9 : w9.heap.size = wr.heap.size := by rw [← hw9]; simp [World.setCell]
            have hB9 : Blk w9 (w.heap.size + 1) #[.int .i64 x.d.ty, .bool x.d.bo, .int .i64 x.d.n, .int .u64 (x.d.bits : Int), .slice A4 x.d.bs.length c4, .int .i64 x.d.ky, .int .i64 x.d.el, .slice Al x.ls.len cl, .slice Al3 x.fs.len cl3] 27 := by rw [← hw9]; exact nineSet hR9 _ _ _ _ _ _ _ _ _
            have hsz2 := HSZ2.out
            have hszr := HL.out.sz
            have HFIN : Aside0 (PvOk w w9 x (.returned (.agg #[.int .i64 x.d.ty, .bool x.d.bo, .int .i64 x.d.n, .int .u64 (x.d.bits : Int), .slice A4 x.d.bs.length c4, .int .i64 x.d.ky, .int .i64 x.d.el, .slice Al x.ls.len cl, .slice Al3 x.fs.len cl3]))) := by
              refine ⟨⟨⟨[.int .i64 x.d.ty, .bool x.d.bo, .int .i64 x.d.n, .int .u64 (x.d.bits : Int), .slice A4 x.d.bs.length c4, .int .i64 x.d.ky, .int .i64 x.d.el, .slice Al x.ls.len cl, .slice Al3 x.fs.len cl3], rfl, ⟨⟨.slice A4 x.d.bs.length c4, .slice Al x.ls.len cl, .slice Al3 x.fs.len cl3, cs2, cs3, rfl, ?_, ?_, ?_, ?_, ?_⟩⟩⟩, ?_⟩⟩
              · have ho := HO3.out.read
                obtain ⟨A9, c9, e9, h9, hC9⟩ := ho
                obtain ⟨rfl, _, rfl⟩ := Value.slice.inj e9
                have hkeep : ∀ b, (Value.slice A4 x.d.bs.length c4).ownBlock = some b → w9.heap[b]? = wc.heap[b]? := fun b hb => by
                  have h1 := own_lt HO3.out.out hb
                  have h2 : b ≠ b3 := fun e => HNE.out (e ▸ hb)
                  have h3 := HSS.out
                  exact (hk9 b (by omega)).trans ((HKP.out b (by omega) (by omega) h2).trans (HKP1.out b (by omega) h1.2 h2))
                have hBA : BytesAt wc (fun b => (Value.slice A4 x.d.bs.length c4).ownBlock = some b) (.slice A4 x.d.bs.length c4) x.d.bs := ⟨A4, c4, rfl, h9, hC9, HBB.out, fun hn => by
                  rcases HO3.out.out.2 with ⟨e, hz⟩ | ⟨g, cap, cur, e, _⟩
                  · exact absurd (List.length_eq_zero_iff.1 hz) hn
                  · obtain ⟨rfl, _, _⟩ := Value.slice.inj e; exact ⟨_, rfl, rfl⟩⟩
                exact hBA.move hkeep (fun b hb => .inr (by have h1 := own_lt HO3.out.out hb; have h3 := HSS.out; exact ⟨by omega, by rw [hs9]; omega⟩))
              · exact HLA.out.1.move (fun b hb => (hk9 b (by omega)).trans (HKP.out b (by omega) hb.2 (by omega))) (fun b hb => .inr ⟨by omega, by rw [hs9]; omega⟩)
              · exact HLA.out.2.move (fun b hb => (hk9 b (by omega)).trans (HKP.out b (by omega) hb.2 (by omega))) (fun b hb => .inr ⟨by omega, by rw [hs9]; omega⟩)
              · exact (lies_own HL.out.row).move (fun b hb => hk9 b (by have := own_lt HL.out.row hb; omega)) (fun b hb => .inr (by have := own_lt HL.out.row hb; exact ⟨by omega, by rw [hs9]; omega⟩))
              · exact HL.out.els.move (fun b hb => hk9 b (by rcases hb with ⟨h1, _⟩ | ⟨h1, h2, _⟩ <;> omega)) (fun b hb => .inr (by rcases hb with ⟨h1, _⟩ | ⟨h1, h2, _⟩; exact absurd h1 (Nat.not_lt_zero _); exact ⟨by omega, by rw [hs9]; omega⟩))
              · rw [← hw9]; exact belowSets (Nat.le_succ _) HBr.out
            rw [← hw9] at HFIN hB9
            clear hw9 hk9 hs9 HL HVB HPB HKP HK HDl HDG HGl HLE HPR HGI HGA HGW hDx hR9
            go_wp2_with (fail)
            refine bodyPost_ret (results_cell_row rfl _ _ (w.heap.size + 1) 27 #[_, _, _, _, _, _, _, _, _] (0, 0) _ rfl hB9.out Tryd.underlying27 rfl (by kernel_rfl)) rfl ?_
            exact HFIN.out
end Go.Proofs.YtcboegodjlfmnaaDoor.Tpv
