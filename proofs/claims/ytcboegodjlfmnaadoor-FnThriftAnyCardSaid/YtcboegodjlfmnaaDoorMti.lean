import Derived.Test.YtcboegodjlfmnaaDoorTsf
/-! The reader of the specification: values. -/
namespace Go.Proofs.YtcboegodjlfmnaaDoor.Tsg
open Go.Proofs.YtcboegodjlfmnaaDoor.Tsf Go.Proofs.YtcboegodjlfmnaaDoor.Tse Go.Proofs.YtcboegodjlfmnaaDoor.Tsd Go.Proofs.YtcboegodjlfmnaaDoor.Tpv Go.Proofs.YtcboegodjlfmnaaDoor.Tsc Go.Proofs.YtcboegodjlfmnaaDoor.Tsb Go.Proofs.YtcboegodjlfmnaaDoor.Tzm Go.Proofs.YtcboegodjlfmnaaDoor.Tzl Go.Proofs.YtcboegodjlfmnaaDoor.Trh Go.Proofs.YtcboegodjlfmnaaDoor.Trn Go.Proofs.YtcboegodjlfmnaaDoor.Trm Go.Proofs.YtcboegodjlfmnaaDoor.Tuv Go.Proofs.YtcboegodjlfmnaaDoor.Tpa Go.Proofs.YtcboegodjlfmnaaDoor.Duv Go.Proofs.YtcboegodjlfmnaaDoor.Dpu Go.Proofs.YtcboegodjlfmnaaDoor.Pak Go.Proofs.YtcboegodjlfmnaaDoor.Buf Go.Proofs.YtcboegodjlfmnaaDoor.Fit Go.Proofs.YtcboegodjlfmnaaDoor.Bit Go.Proofs.YtcboegodjlfmnaaDoor.Wrd Go.Proofs.YtcboegodjlfmnaaDoor.Spl Go.Proofs.YtcboegodjlfmnaaDoor.Str Go.Proofs.YtcboegodjlfmnaaDoor.Flt Go.Proofs.YtcboegodjlfmnaaDoor.Owe Go.Proofs.YtcboegodjlfmnaaDoor.Num Go.Proofs.YtcboegodjlfmnaaDoor.Le Go.Proofs.YtcboegodjlfmnaaDoor.Lst Go.Proofs.YtcboegodjlfmnaaDoor.Aid Go.RowKit Go.Proofs.YtcboegodjlfmnaaDoorW.PrintWords Go.Proofs.YtcboegodjlfmnaaDoorW.PrintLast Go.Proofs.YtcboegodjlfmnaaDoorW.PrintMore
set_option linter.unusedVariables false
set_option linter.unusedSimpArgs false
/-- a value of which only the type is known -/
def tyN (ty : Int) : N := ⟨⟨ty, false, 0, 0, [], 0, 0⟩, .nil, .nil⟩
theorem th_in {w : World} {Pb : Nat → Prop} (d : D) {bsv lsv fsv : Value} {ls fs : F} {lcs fcs : List Value} (hb : BytesAt w Pb bsv d.bs) (hl : Lies w Pb lsv ls.len lcs) (hli : ls.In flT w Pb false lcs) (hf : Lies w Pb fsv fs.len fcs) (hfi : fs.In flT w Pb true fcs) : N.In flT w Pb ⟨d, ls, fs⟩ [.int .i64 d.ty, .bool d.bo, .int .i64 d.n, .int .u64 (d.bits : Int), bsv, .int .i64 d.ky, .int .i64 d.el, lsv, fsv] :=
  ⟨⟨bsv, lsv, fsv, lcs, fcs, rfl, hb, hl, hli, hf, hfi⟩⟩
theorem plain_in (w : World) (Pb : Nat → Prop) (ty n : Int) (bits : Nat) (ky el : Int) : N.In flT w Pb ⟨⟨ty, false, n, bits, [], ky, el⟩, .nil, .nil⟩ [.int .i64 ty, .bool false, .int .i64 n, .int .u64 (bits : Int), .slice none 0 0, .int .i64 ky, .int .i64 el, .slice none 0 0, .slice none 0 0] :=
  th_in ⟨ty, false, n, bits, [], ky, el⟩ (ls := .nil) (fs := .nil) (bytesAt_nil _ _) (lies_nil _ _) rfl (lies_nil _ _) rfl
/-- a block of the call's own, kept while the reader goes on -/
theorem blkGo {w w1 : World} {g b t : Nat} {A : Option Addr} {n c o s : Nat} {cs : Array Value} (h : Blk w b cs t) (k : SWent w w1 g A n c o s) (hne : b ≠ g) : Blk w1 b cs t := keepBlk h k.grown hne
theorem srFar {w : World} {g : Nat} {A : Option Addr} {n c o s : Nat} (h : Sr w g A n c o s) {b : Nat} (hb : g ≠ b) (j : Nat) (u : Value) : Sr (w.setCell ⟨b, j, none⟩ u) g A n c o s := ⟨h.blk.far hb u, h.apart, h.le, h.st⟩
theorem swFar {w w1 : World} {g : Nat} {A : Option Addr} {n c o s : Nat} (h : SWent w w1 g A n c o s) {b : Nat} (hg : g < w.heap.size) (hb : w.heap.size ≤ b) (j : Nat) (u : Value) : SWent w (w1.setCell ⟨b, j, none⟩ u) g A n c o s := ⟨grownSetNew h.grown hb u, srFar h.rd (by omega) j u⟩
theorem swAlloc {w : World} {g : Nat} {A : Option Addr} {n c o s : Nat} (h : Sr w g A n c o s) (x : Obj) : SWent w (w.alloc x) g A n c o s := ⟨grownAlloc0 w g x, ⟨h.blk.alloc x, h.apart, h.le, h.st⟩⟩
/-- the end of a value's reading -/
theorem thing_fin {w wz : World} {g k : Nat} {ty : Int} {bs : List Int} {o s o' s' : Nat} {A : Option Addr} {n c : Nat} {x : N} {y0 y1 y2 y3 y4 y5 y6 y7 y8 : Value} (hg : g < w.heap.size) (hw : SWent w wz g A n c o' s') (hd : Does (thP k ty) bs o s x o' s') (hx : x.In flT wz (PnO 0 (some g) (w.heap.size + 2) wz.heap.size) [y0, y1, y2, y3, y4, y5, y6, y7, y8]) :
    TOut k ty bs o s w (((((((((wz.setCell ⟨w.heap.size, 0, none⟩ y0).setCell ⟨w.heap.size, 1, none⟩ y1).setCell ⟨w.heap.size, 2, none⟩ y2).setCell ⟨w.heap.size, 3, none⟩ y3).setCell ⟨w.heap.size, 4, none⟩ y4).setCell ⟨w.heap.size, 5, none⟩ y5).setCell ⟨w.heap.size, 6, none⟩ y6).setCell ⟨w.heap.size, 7, none⟩ y7).setCell ⟨w.heap.size, 8, none⟩ y8) g A n c (.returned (.agg #[y0, y1, y2, y3, y4, y5, y6, y7, y8])) := by
  refine ⟨⟨x, [y0, y1, y2, y3, y4, y5, y6, y7, y8], o', s', rfl, hx.move (fun b hb => Tzs.heapNine ?_ _ _ _ _ _ _ _ _ _) (fun b hb => ?_), hd, grownNine hw.grown (Nat.le_refl _) _ _ _ _ _ _ _ _ _, Tzs.far9 hw.rd.blk (by omega) _ _ _ _ _ _ _ _ _, hw.rd.apart, hw.rd.le, hw.rd.st⟩⟩
  · rcases hb with ⟨h1, h2⟩ | ⟨h1, h2⟩ <;> omega
  · rw [Tzs.sizeNine]
    rcases hb with ⟨h1, h2⟩ | ⟨h1, h2⟩
    · exact absurd h1 (Nat.not_lt_zero _)
    · exact .inr ⟨by omega, h2⟩
/-- the two blocks of a value that is being read -/
structure TwoB (w wz : World) (cs : Array Value) : Prop where
  mk :: (res : Blk wz w.heap.size #[.int .i64 0, .bool false, .int .i64 0, .int .u64 0, .slice none 0 0, .int .i64 0, .int .i64 0, .slice none 0 0, .slice none 0 0] 27) (val : Blk wz (w.heap.size + 1) cs 27)
theorem two0 (w : World) (cs : Array Value) : TwoB w ((w.alloc (.cells #[.int .i64 0, .bool false, .int .i64 0, .int .u64 0, .slice none 0 0, .int .i64 0, .int .i64 0, .slice none 0 0, .slice none 0 0] 27)).alloc (.cells cs 27)) cs :=
  ⟨(Blk.new w _ _).alloc _, by have h := Blk.new (w.alloc (.cells #[.int .i64 0, .bool false, .int .i64 0, .int .u64 0, .slice none 0 0, .int .i64 0, .int .i64 0, .slice none 0 0, .slice none 0 0] 27)) cs 27; rw [allocSize] at h; exact h⟩
theorem TwoB.go {w wz w1 : World} {g : Nat} {A : Option Addr} {n c o s : Nat} {cs : Array Value} (h : TwoB w wz cs) (hg : g < w.heap.size) (k : SWent wz w1 g A n c o s) : TwoB w w1 cs := ⟨blkGo h.res k (by omega), blkGo h.val k (by omega)⟩
theorem TwoB.grown {w wz w1 : World} {row : Option Nat} {cs : Array Value} (h : TwoB w wz cs) (k : wz.grownBy w1 row) (hr : ∀ b, row = some b → w.heap.size + 2 ≤ b) : TwoB w w1 cs := by
  refine ⟨⟨(k.block _ h.res.lt fun e => ?_).trans h.res.out⟩, ⟨(k.block _ h.val.lt fun e => ?_).trans h.val.out⟩⟩
  · have := hr _ e.symm; omega
  · have := hr _ e.symm; omega
theorem TwoB.alloc {w wz : World} {cs : Array Value} (h : TwoB w wz cs) (x : Obj) : TwoB w (wz.alloc x) cs := ⟨h.res.alloc x, h.val.alloc x⟩
theorem TwoB.set {w wz : World} {a0 a1 a2 a3 a4 a5 a6 a7 a8 : Value} (h : TwoB w wz #[a0, a1, a2, a3, a4, a5, a6, a7, a8]) (j : Nat) (u : Value) {cs : Array Value} (hcs : #[a0, a1, a2, a3, a4, a5, a6, a7, a8].setIfInBounds j u = cs) : TwoB w (wz.setCell ⟨w.heap.size + 1, j, none⟩ u) cs := by
  have h1 := h.val.set j u
  rw [hcs] at h1
  exact ⟨h.res.far (p := ⟨w.heap.size + 1, j, none⟩) (by show w.heap.size ≠ w.heap.size + 1; omega) u, h1⟩
theorem swTwo {w : World} {g : Nat} {A : Option Addr} {n c o s : Nat} (h : Sr w g A n c o s) (x y : Obj) : SWent w ((w.alloc x).alloc y) g A n c o s := (swAlloc h x).trans (swAlloc (swAlloc h x).rd y)
theorem dead_th (k : Nat) (ty : Int) (bs : List Int) (o s : Nat) (h : s ≠ 0) : Does (thP k ty) bs o s (tyN ty) o s := Does.dead _ _ _ _ _ _ h
theorem zero_th (ty : Int) (bs : List Int) (o s : Nat) : Does (thP 0 ty) bs o s (tyN ty) o (opS s) := runs_opn (Runs.start (thP 0 ty) bs o s) _ _ _ opS_0 opS_n
theorem other_th (k : Nat) (ty : Int) (h : ¬ (3 ≤ ty ∧ ty ≤ 12)) (bs : List Int) (o s : Nat) : Does (thP (k + 1) ty) bs o s (tyN ty) o (opS s) := by
  have e : thP (k + 1) ty = opnP := by funext l; exact Tzz.th_other h l
  rw [e]
  exact runs_opn (Runs.start opnP bs o s) _ _ _ opS_0 opS_n
theorem leaf_th {k : Nat} {ty : Int} {p : Psr Int} {f : Int → Int} {bs : List Int} {o s o' s' : Nat} {v : Int} (e : thP (k + 1) ty = bindP p fun b => retP (leaf ty (f b))) (d : Does p bs o s v o' s') : Does (thP (k + 1) ty) bs o s (leaf ty (f v)) o' s' := by
  rw [e]
  exact Does.bind d (Does.ret _ _ _ _)
theorem th3 (k : Nat) : thP (k + 1) 3 = bindP byteP fun b => retP (leaf 3 (s8 b)) := by
  funext l; unfold thP; rw [if_pos rfl]
theorem th4 (k : Nat) : thP (k + 1) 4 = bindP (zigP 32768) fun b => retP (leaf 4 b) := by
  funext l; unfold thP; rw [if_neg (by omega), if_pos rfl]
theorem th5 (k : Nat) : thP (k + 1) 5 = bindP (zigP 2147483648) fun b => retP (leaf 5 b) := by
  funext l; unfold thP; rw [if_neg (by omega), if_neg (by omega), if_pos rfl]
theorem th6 (k : Nat) : thP (k + 1) 6 = bindP (zigP 9223372036854775808) fun b => retP (leaf 6 b) := by
  funext l; unfold thP; rw [if_neg (by omega), if_neg (by omega), if_neg (by omega), if_pos rfl]
theorem th7 (k : Nat) : thP (k + 1) 7 = bindP (takeP 8) fun l => retP ⟨⟨7, false, 0, eightN l, [], 0, 0⟩, .nil, .nil⟩ := by
  funext l; unfold thP; rw [if_neg (by omega), if_neg (by omega), if_neg (by omega), if_neg (by omega), if_pos rfl]
theorem th8 (k : Nat) : thP (k + 1) 8 = bindP (sizeP 10000) fun n => bindP (takeP n) fun l => retP ⟨⟨8, false, 0, 0, l, 0, 0⟩, .nil, .nil⟩ := by
  funext l; unfold thP; rw [if_neg (by omega), if_neg (by omega), if_neg (by omega), if_neg (by omega), if_neg (by omega), if_pos rfl]
theorem th910 (k : Nat) (ty : Int) (h : ty = 9 ∨ ty = 10) : thP (k + 1) ty = bindP lhP fun h => bindP (listP (thP k) h.2 h.2 h.1) fun ls => retP ⟨⟨ty, false, 0, 0, [], 0, h.2⟩, ls, .nil⟩ := by
  funext l; exact th_list h l
theorem th11 (k : Nat) : thP (k + 1) 11 = bindP mhP fun h => bindP (listP (thP k) h.2.1 h.2.2 (2 * h.1)) fun ls => retP ⟨⟨11, false, 0, 0, [], h.2.1, h.2.2⟩, ls, .nil⟩ := by
  funext l; exact th_map l
theorem th12 (k : Nat) : thP (k + 1) 12 = bindP (fieldsP (thP k) 100 0) fun fs => retP ⟨⟨12, false, 0, 0, [], 0, 0⟩, .nil, fs⟩ := by
  funext l; exact th_struct l
set_option maxHeartbeats 8000000 in
set_option maxRecDepth 100000 in
theorem thing_deep (g : Nat) (A : Option Addr) (n c : Nat) (bs : List Int) (o s : Nat) (ty : Int) (w : World) (hR : Sr w g A n c o s) (hC : (Kd.int .u8).C w A n bs) :
    Calls Tryd.prog 39 #[gP g, .int .i64 ty, .int .i64 (-1)] w fun e w' => TOut 0 ty bs o s w w' g A n c e := by
  have hg := hR.blk.lt
  have HG := Aside0.mk hg
  have HSW := Aside0.mk (swTwo hR (.cells #[.int .i64 0, .bool false, .int .i64 0, .int .u64 0, .slice none 0 0, .int .i64 0, .int .i64 0, .slice none 0 0, .slice none 0 0] 27) (.cells #[.int .i64 ty, .bool false, .int .i64 0, .int .u64 0, .slice none 0 0, .int .i64 0, .int .i64 0, .slice none 0 0, .slice none 0 0] 27))
  have HTW := Aside0.mk (two0 w #[.int .i64 ty, .bool false, .int .i64 0, .int .u64 0, .slice none 0 0, .int .i64 0, .int .i64 0, .slice none 0 0, .slice none 0 0])
  have HCW := Aside0.mk (Kd.C_alloc (Kd.C_alloc hC (.cells #[.int .i64 0, .bool false, .int .i64 0, .int .u64 0, .slice none 0 0, .int .i64 0, .int .i64 0, .slice none 0 0, .slice none 0 0] 27)) (.cells #[.int .i64 ty, .bool false, .int .i64 0, .int .u64 0, .slice none 0 0, .int .i64 0, .int .i64 0, .slice none 0 0, .slice none 0 0] 27))
  have HAP := Aside0.mk hR.apart
  clear hR hC
  go_enter Tryd.func39, Tryd.ntmps39
  go_upto_region 2 with (fail)
  generalize hW : World.alloc (World.alloc _ _) _ = W at HSW HTW HCW ⊢
  have HWS : Aside0 (W.heap.size = w.heap.size + 2) := ⟨by rw [← hW, allocSize, allocSize]⟩
  clear hW
  have d2 := HSW.out.rd.blk.cell (j := 2) rfl
  have HO := Aside0.mk (open_calls g A n c o s W HSW.out.rd)
  clear d2
  go_upto_region 4 with (first
    | (go_at_call 51; (with_reducible refine HO.out.mono ?_); rintro e w2 ⟨rfl, hw⟩; have HW2 := Aside0.mk hw; clear hw))
  have d2 := HW2.out.rd.blk.cell (j := 2) rfl
  have hq : ((opS s : Nat) : Int) ≠ 0 := by have := opS_ne s; omega
  have q0 : (((opS s : Nat) : Int) == 0) = false := by rw [beq_eq_false_iff_ne]; exact hq
  clear hq
  have HT2 := Aside0.mk (HTW.out.go hg HW2.out)
  have HFIN := Aside0.mk (thing_fin hg (HSW.out.trans HW2.out) (zero_th ty bs o s) (plain_in _ _ ty 0 0 0 0))
  obtain ⟨e0, e1, e2, e3, e4, e5, e6, e7, e8, ez⟩ := nine (HT2.out).val
  obtain ⟨f0, f1, f2, f3, f4, f5, f6, f7, f8, fz⟩ := nine (HT2.out).res
  have hne : w.heap.size ≠ w.heap.size + 1 := by omega
  have hne2 : w.heap.size + 1 ≠ w.heap.size := by omega
  have HBR := Aside0.mk (nineSet (HT2.out).res (.int .i64 ty) (.bool false) (.int .i64 0) (.int .u64 0) (.slice none 0 0) (.int .i64 0) (.int .i64 0) (.slice none 0 0) (.slice none 0 0))
  go_wp2_with (fail)
  refine bodyPost_ret (results_cell_row rfl _ _ w.heap.size 27 #[_, _, _, _, _, _, _, _, _] (0, 0) _ rfl HBR.out.out Tryd.underlying27 rfl (by kernel_rfl)) rfl ?_
  exact HFIN.out
set_option maxHeartbeats 8000000 in
set_option maxRecDepth 100000 in
theorem thing_dead (g : Nat) (A : Option Addr) (n c : Nat) (bs : List Int) (o s : Nat) (k : Nat) (ty : Int) (hs : s ≠ 0) (w : World) (hR : Sr w g A n c o s) (hC : (Kd.int .u8).C w A n bs) :
    Calls Tryd.prog 39 #[gP g, .int .i64 ty, .int .i64 (k : Int)] w fun e w' => TOut (k + 1) ty bs o s w w' g A n c e := by
  have hg := hR.blk.lt
  have HG := Aside0.mk hg
  have HSW := Aside0.mk (swTwo hR (.cells #[.int .i64 0, .bool false, .int .i64 0, .int .u64 0, .slice none 0 0, .int .i64 0, .int .i64 0, .slice none 0 0, .slice none 0 0] 27) (.cells #[.int .i64 ty, .bool false, .int .i64 0, .int .u64 0, .slice none 0 0, .int .i64 0, .int .i64 0, .slice none 0 0, .slice none 0 0] 27))
  have HTW := Aside0.mk (two0 w #[.int .i64 ty, .bool false, .int .i64 0, .int .u64 0, .slice none 0 0, .int .i64 0, .int .i64 0, .slice none 0 0, .slice none 0 0])
  have HCW := Aside0.mk (Kd.C_alloc (Kd.C_alloc hC (.cells #[.int .i64 0, .bool false, .int .i64 0, .int .u64 0, .slice none 0 0, .int .i64 0, .int .i64 0, .slice none 0 0, .slice none 0 0] 27)) (.cells #[.int .i64 ty, .bool false, .int .i64 0, .int .u64 0, .slice none 0 0, .int .i64 0, .int .i64 0, .slice none 0 0, .slice none 0 0] 27))
  have HAP := Aside0.mk hR.apart
  clear hR hC
  go_enter Tryd.func39, Tryd.ntmps39
  go_upto_region 2 with (fail)
  generalize hW : World.alloc (World.alloc _ _) _ = W at HSW HTW HCW ⊢
  have HWS : Aside0 (W.heap.size = w.heap.size + 2) := ⟨by rw [← hW, allocSize, allocSize]⟩
  clear hW
  have d2 := HSW.out.rd.blk.cell (j := 2) rfl
  have q0 : ((s : Int) == 0) = false := by rw [beq_eq_false_iff_ne]; omega
  have qk : decide ((k : Int) < 0) = false := decide_eq_false (by omega)
  have HD := Aside0.mk (dead_th (k + 1) ty bs o s hs)
  clear hs
  have HFIN := Aside0.mk (thing_fin hg HSW.out HD.out (plain_in _ _ ty 0 0 0 0))
  obtain ⟨e0, e1, e2, e3, e4, e5, e6, e7, e8, ez⟩ := nine (HTW.out).val
  obtain ⟨f0, f1, f2, f3, f4, f5, f6, f7, f8, fz⟩ := nine (HTW.out).res
  have hne : w.heap.size ≠ w.heap.size + 1 := by omega
  have hne2 : w.heap.size + 1 ≠ w.heap.size := by omega
  have HBR := Aside0.mk (nineSet (HTW.out).res (.int .i64 ty) (.bool false) (.int .i64 0) (.int .u64 0) (.slice none 0 0) (.int .i64 0) (.int .i64 0) (.slice none 0 0) (.slice none 0 0))
  go_wp2_with (fail)
  refine bodyPost_ret (results_cell_row rfl _ _ w.heap.size 27 #[_, _, _, _, _, _, _, _, _] (0, 0) _ rfl HBR.out.out Tryd.underlying27 rfl (by kernel_rfl)) rfl ?_
  exact HFIN.out
set_option maxHeartbeats 8000000 in
set_option maxRecDepth 100000 in
theorem thing_other (g : Nat) (A : Option Addr) (n c : Nat) (bs : List Int) (o : Nat) (k : Nat) (ty : Int) (ht : ¬ (3 ≤ ty ∧ ty ≤ 12)) (w : World) (hR : Sr w g A n c o 0) (hC : (Kd.int .u8).C w A n bs) :
    Calls Tryd.prog 39 #[gP g, .int .i64 ty, .int .i64 (k : Int)] w fun e w' => TOut (k + 1) ty bs o 0 w w' g A n c e := by
  have hg := hR.blk.lt
  have HG := Aside0.mk hg
  have HSW := Aside0.mk (swTwo hR (.cells #[.int .i64 0, .bool false, .int .i64 0, .int .u64 0, .slice none 0 0, .int .i64 0, .int .i64 0, .slice none 0 0, .slice none 0 0] 27) (.cells #[.int .i64 ty, .bool false, .int .i64 0, .int .u64 0, .slice none 0 0, .int .i64 0, .int .i64 0, .slice none 0 0, .slice none 0 0] 27))
  have HTW := Aside0.mk (two0 w #[.int .i64 ty, .bool false, .int .i64 0, .int .u64 0, .slice none 0 0, .int .i64 0, .int .i64 0, .slice none 0 0, .slice none 0 0])
  have HCW := Aside0.mk (Kd.C_alloc (Kd.C_alloc hC (.cells #[.int .i64 0, .bool false, .int .i64 0, .int .u64 0, .slice none 0 0, .int .i64 0, .int .i64 0, .slice none 0 0, .slice none 0 0] 27)) (.cells #[.int .i64 ty, .bool false, .int .i64 0, .int .u64 0, .slice none 0 0, .int .i64 0, .int .i64 0, .slice none 0 0, .slice none 0 0] 27))
  have HAP := Aside0.mk hR.apart
  clear hR hC
  go_enter Tryd.func39, Tryd.ntmps39
  go_upto_region 2 with (fail)
  generalize hW : World.alloc (World.alloc _ _) _ = W at HSW HTW HCW ⊢
  have HWS : Aside0 (W.heap.size = w.heap.size + 2) := ⟨by rw [← hW, allocSize, allocSize]⟩
  clear hW
  have d2 := HSW.out.rd.blk.cell (j := 2) rfl
  have qk : decide ((k : Int) < 0) = false := decide_eq_false (by omega)
  have q3 : (ty == 3) = false := by rw [beq_eq_false_iff_ne]; omega
  have q4 : (ty == 4) = false := by rw [beq_eq_false_iff_ne]; omega
  have q5 : (ty == 5) = false := by rw [beq_eq_false_iff_ne]; omega
  have q6 : (ty == 6) = false := by rw [beq_eq_false_iff_ne]; omega
  have q7 : (ty == 7) = false := by rw [beq_eq_false_iff_ne]; omega
  have q8 : (ty == 8) = false := by rw [beq_eq_false_iff_ne]; omega
  have q9 : (ty == 9) = false := by rw [beq_eq_false_iff_ne]; omega
  have q10 : (ty == 10) = false := by rw [beq_eq_false_iff_ne]; omega
  have q11 : (ty == 11) = false := by rw [beq_eq_false_iff_ne]; omega
  have q12 : (ty == 12) = false := by rw [beq_eq_false_iff_ne]; omega
  have HD := Aside0.mk (other_th k ty ht bs o 0)
  have HO := Aside0.mk (open_calls g A n c o 0 W HSW.out.rd)
  clear ht
  go_upto_region 38 with (first
    | (go_at_call 51; (with_reducible refine HO.out.mono ?_); rintro e w2 ⟨rfl, hw⟩; have HW2 := Aside0.mk hw; clear hw))
  have HT2 := Aside0.mk (HTW.out.go hg HW2.out)
  have HFIN := Aside0.mk (thing_fin hg (HSW.out.trans HW2.out) HD.out (plain_in _ _ ty 0 0 0 0))
  obtain ⟨e0, e1, e2, e3, e4, e5, e6, e7, e8, ez⟩ := nine (HT2.out).val
  obtain ⟨f0, f1, f2, f3, f4, f5, f6, f7, f8, fz⟩ := nine (HT2.out).res
  have hne : w.heap.size ≠ w.heap.size + 1 := by omega
  have hne2 : w.heap.size + 1 ≠ w.heap.size := by omega
  have HBR := Aside0.mk (nineSet (HT2.out).res (.int .i64 ty) (.bool false) (.int .i64 0) (.int .u64 0) (.slice none 0 0) (.int .i64 0) (.int .i64 0) (.slice none 0 0) (.slice none 0 0))
  go_wp2_with (fail)
  refine bodyPost_ret (results_cell_row rfl _ _ w.heap.size 27 #[_, _, _, _, _, _, _, _, _] (0, 0) _ rfl HBR.out.out Tryd.underlying27 rfl (by kernel_rfl)) rfl ?_
  exact HFIN.out
set_option maxHeartbeats 8000000 in
set_option maxRecDepth 100000 in
theorem thing_3 (g : Nat) (A : Option Addr) (n c : Nat) (bs : List Int) (o : Nat) (k : Nat) (hn : n ≤ 2147483647) (hb : bytesB bs = true) (w : World) (hR : Sr w g A n c o 0) (hC : (Kd.int .u8).C w A n bs) :
    Calls Tryd.prog 39 #[gP g, .int .i64 3, .int .i64 (k : Int)] w fun e w' => TOut (k + 1) 3 bs o 0 w w' g A n c e := by
  have hg := hR.blk.lt
  have HG := Aside0.mk hg
  have HSW := Aside0.mk (swTwo hR (.cells #[.int .i64 0, .bool false, .int .i64 0, .int .u64 0, .slice none 0 0, .int .i64 0, .int .i64 0, .slice none 0 0, .slice none 0 0] 27) (.cells #[.int .i64 3, .bool false, .int .i64 0, .int .u64 0, .slice none 0 0, .int .i64 0, .int .i64 0, .slice none 0 0, .slice none 0 0] 27))
  have HTW := Aside0.mk (two0 w #[.int .i64 3, .bool false, .int .i64 0, .int .u64 0, .slice none 0 0, .int .i64 0, .int .i64 0, .slice none 0 0, .slice none 0 0])
  have HCW := Aside0.mk (Kd.C_alloc (Kd.C_alloc hC (.cells #[.int .i64 0, .bool false, .int .i64 0, .int .u64 0, .slice none 0 0, .int .i64 0, .int .i64 0, .slice none 0 0, .slice none 0 0] 27)) (.cells #[.int .i64 3, .bool false, .int .i64 0, .int .u64 0, .slice none 0 0, .int .i64 0, .int .i64 0, .slice none 0 0, .slice none 0 0] 27))
  have HAP := Aside0.mk hR.apart
  clear hR hC
  go_enter Tryd.func39, Tryd.ntmps39
  go_upto_region 2 with (fail)
  generalize hW : World.alloc (World.alloc _ _) _ = W at HSW HTW HCW ⊢
  have HWS : Aside0 (W.heap.size = w.heap.size + 2) := ⟨by rw [← hW, allocSize, allocSize]⟩
  clear hW
  have d2 := HSW.out.rd.blk.cell (j := 2) rfl
  have qk : decide ((k : Int) < 0) = false := decide_eq_false (by omega)
  have HBY := Aside0.mk (byte_calls g A n c o 0 bs W HSW.out.rd HCW.out hn hb)
  have qw8 : ∀ v : Int, 0 ≤ v → v < 256 → IntKind.i8.wrap v = s8 v := fun v h0 h1 => by rw [wrap_i8]; unfold s8; split <;> omega
  have HQ8 := Aside0.mk qw8
  clear qw8 hb
  go_upto_region 38 with (first
    | (go_at_call 52; (with_reducible refine HBY.out.mono ?_); rintro e w2 HQ; obtain ⟨v, o2, s2, rfl, hv, hd, hw⟩ := HQ.out; have HW2 := Aside0.mk hw; have HD2 := Aside0.mk (leaf_th (f := s8) (th3 k) hd); have HT2 := Aside0.mk (HTW.out.go hg hw); have q8 := HQ8.out v hv.1 hv.2; have q88 := s8_bd v hv.1 hv.2; have g2 := HT2.out.val.cell (j := 2) rfl; have gz := HT2.out.val.free 2; clear HQ hd hw))
  generalize hwz : World.setCell _ _ _ = wz
  have HTZ : Aside0 (TwoB w wz #[.int .i64 3, .bool false, .int .i64 (s8 v), .int .u64 0, .slice none 0 0, .int .i64 0, .int .i64 0, .slice none 0 0, .slice none 0 0]) := ⟨by rw [← hwz]; exact HT2.out.set 2 (.int .i64 (s8 v)) rfl⟩
  have HSZ : Aside0 (SWent w wz g A n c o2 s2) := ⟨by rw [← hwz]; exact swFar (HSW.out.trans HW2.out) hg (by omega) 2 (.int .i64 (s8 v))⟩
  clear hwz
  have HFIN := Aside0.mk (thing_fin hg HSZ.out HD2.out (plain_in _ _ 3 (s8 v) 0 0 0))
  obtain ⟨e0, e1, e2, e3, e4, e5, e6, e7, e8, ez⟩ := nine (HTZ.out).val
  obtain ⟨f0, f1, f2, f3, f4, f5, f6, f7, f8, fz⟩ := nine (HTZ.out).res
  have hne : w.heap.size ≠ w.heap.size + 1 := by omega
  have hne2 : w.heap.size + 1 ≠ w.heap.size := by omega
  have HBR := Aside0.mk (nineSet (HTZ.out).res (.int .i64 3) (.bool false) (.int .i64 (s8 v)) (.int .u64 0) (.slice none 0 0) (.int .i64 0) (.int .i64 0) (.slice none 0 0) (.slice none 0 0))
  go_wp2_with (fail)
  refine bodyPost_ret (results_cell_row rfl _ _ w.heap.size 27 #[_, _, _, _, _, _, _, _, _] (0, 0) _ rfl HBR.out.out Tryd.underlying27 rfl (by kernel_rfl)) rfl ?_
  exact HFIN.out
set_option maxHeartbeats 8000000 in
set_option maxRecDepth 100000 in
theorem thing_4 (g : Nat) (A : Option Addr) (n c : Nat) (bs : List Int) (o : Nat) (k : Nat) (hn : n ≤ 2147483647) (hb : bytesB bs = true) (w : World) (hR : Sr w g A n c o 0) (hC : (Kd.int .u8).C w A n bs) :
    Calls Tryd.prog 39 #[gP g, .int .i64 4, .int .i64 (k : Int)] w fun e w' => TOut (k + 1) 4 bs o 0 w w' g A n c e := by
  have hg := hR.blk.lt
  have HG := Aside0.mk hg
  have HSW := Aside0.mk (swTwo hR (.cells #[.int .i64 0, .bool false, .int .i64 0, .int .u64 0, .slice none 0 0, .int .i64 0, .int .i64 0, .slice none 0 0, .slice none 0 0] 27) (.cells #[.int .i64 4, .bool false, .int .i64 0, .int .u64 0, .slice none 0 0, .int .i64 0, .int .i64 0, .slice none 0 0, .slice none 0 0] 27))
  have HTW := Aside0.mk (two0 w #[.int .i64 4, .bool false, .int .i64 0, .int .u64 0, .slice none 0 0, .int .i64 0, .int .i64 0, .slice none 0 0, .slice none 0 0])
  have HCW := Aside0.mk (Kd.C_alloc (Kd.C_alloc hC (.cells #[.int .i64 0, .bool false, .int .i64 0, .int .u64 0, .slice none 0 0, .int .i64 0, .int .i64 0, .slice none 0 0, .slice none 0 0] 27)) (.cells #[.int .i64 4, .bool false, .int .i64 0, .int .u64 0, .slice none 0 0, .int .i64 0, .int .i64 0, .slice none 0 0, .slice none 0 0] 27))
  have HAP := Aside0.mk hR.apart
  clear hR hC
  go_enter Tryd.func39, Tryd.ntmps39
  go_upto_region 2 with (fail)
  generalize hW : World.alloc (World.alloc _ _) _ = W at HSW HTW HCW ⊢
  have HWS : Aside0 (W.heap.size = w.heap.size + 2) := ⟨by rw [← hW, allocSize, allocSize]⟩
  clear hW
  have d2 := HSW.out.rd.blk.cell (j := 2) rfl
  have qk : decide ((k : Int) < 0) = false := decide_eq_false (by omega)
  have HA := Aside0.mk (swAlloc HSW.out.rd (.cells #[.int .i64 16, .int .i64 32, .int .i64 64] 3))
  have HTA := Aside0.mk (HTW.out.alloc (.cells #[.int .i64 16, .int .i64 32, .int .i64 64] 3))
  have HZG := Aside0.mk (zigzag_calls g A n c o 0 bs 16 32768 (.inr (.inl ⟨rfl, rfl⟩)) _ HA.out.rd (Kd.C_alloc HCW.out _) hn hb)
  have a4 := (Blk.new W #[.int .i64 16, .int .i64 32, .int .i64 64] 3).cell (j := 0) rfl
  clear hb
  go_upto_region 38 with (first
    | (go_at_call 53; (with_reducible refine HZG.out.mono ?_); rintro e w2 HQ; obtain ⟨v, o2, s2, rfl, hv, hd, hw⟩ := HQ.out; have HW2 := Aside0.mk (HA.out.trans hw); have HD2 := Aside0.mk (leaf_th (f := fun x => x) (th4 k) hd); have HT2 := Aside0.mk (HTA.out.go hg hw); have g2 := HT2.out.val.cell (j := 2) rfl; have gz := HT2.out.val.free 2; clear HQ hd hw))
  generalize hwz : World.setCell _ _ _ = wz
  have HTZ : Aside0 (TwoB w wz #[.int .i64 4, .bool false, .int .i64 v, .int .u64 0, .slice none 0 0, .int .i64 0, .int .i64 0, .slice none 0 0, .slice none 0 0]) := ⟨by rw [← hwz]; exact HT2.out.set 2 (.int .i64 v) rfl⟩
  have HSZ : Aside0 (SWent w wz g A n c o2 s2) := ⟨by rw [← hwz]; exact swFar (HSW.out.trans HW2.out) hg (by omega) 2 (.int .i64 v)⟩
  clear hwz
  have HFIN := Aside0.mk (thing_fin hg HSZ.out HD2.out (plain_in _ _ 4 v 0 0 0))
  obtain ⟨e0, e1, e2, e3, e4, e5, e6, e7, e8, ez⟩ := nine (HTZ.out).val
  obtain ⟨f0, f1, f2, f3, f4, f5, f6, f7, f8, fz⟩ := nine (HTZ.out).res
  have hne : w.heap.size ≠ w.heap.size + 1 := by omega
  have hne2 : w.heap.size + 1 ≠ w.heap.size := by omega
  have HBR := Aside0.mk (nineSet (HTZ.out).res (.int .i64 4) (.bool false) (.int .i64 v) (.int .u64 0) (.slice none 0 0) (.int .i64 0) (.int .i64 0) (.slice none 0 0) (.slice none 0 0))
  go_wp2_with (fail)
  refine bodyPost_ret (results_cell_row rfl _ _ w.heap.size 27 #[_, _, _, _, _, _, _, _, _] (0, 0) _ rfl HBR.out.out Tryd.underlying27 rfl (by kernel_rfl)) rfl ?_
  exact HFIN.out
set_option maxHeartbeats 8000000 in
set_option maxRecDepth 100000 in
theorem thing_5 (g : Nat) (A : Option Addr) (n c : Nat) (bs : List Int) (o : Nat) (k : Nat) (hn : n ≤ 2147483647) (hb : bytesB bs = true) (w : World) (hR : Sr w g A n c o 0) (hC : (Kd.int .u8).C w A n bs) :
    Calls Tryd.prog 39 #[gP g, .int .i64 5, .int .i64 (k : Int)] w fun e w' => TOut (k + 1) 5 bs o 0 w w' g A n c e := by
  have hg := hR.blk.lt
  have HG := Aside0.mk hg
  have HSW := Aside0.mk (swTwo hR (.cells #[.int .i64 0, .bool false, .int .i64 0, .int .u64 0, .slice none 0 0, .int .i64 0, .int .i64 0, .slice none 0 0, .slice none 0 0] 27) (.cells #[.int .i64 5, .bool false, .int .i64 0, .int .u64 0, .slice none 0 0, .int .i64 0, .int .i64 0, .slice none 0 0, .slice none 0 0] 27))
  have HTW := Aside0.mk (two0 w #[.int .i64 5, .bool false, .int .i64 0, .int .u64 0, .slice none 0 0, .int .i64 0, .int .i64 0, .slice none 0 0, .slice none 0 0])
  have HCW := Aside0.mk (Kd.C_alloc (Kd.C_alloc hC (.cells #[.int .i64 0, .bool false, .int .i64 0, .int .u64 0, .slice none 0 0, .int .i64 0, .int .i64 0, .slice none 0 0, .slice none 0 0] 27)) (.cells #[.int .i64 5, .bool false, .int .i64 0, .int .u64 0, .slice none 0 0, .int .i64 0, .int .i64 0, .slice none 0 0, .slice none 0 0] 27))
  have HAP := Aside0.mk hR.apart
  clear hR hC
  go_enter Tryd.func39, Tryd.ntmps39
  go_upto_region 2 with (fail)
  generalize hW : World.alloc (World.alloc _ _) _ = W at HSW HTW HCW ⊢
  have HWS : Aside0 (W.heap.size = w.heap.size + 2) := ⟨by rw [← hW, allocSize, allocSize]⟩
  clear hW
  have d2 := HSW.out.rd.blk.cell (j := 2) rfl
  have qk : decide ((k : Int) < 0) = false := decide_eq_false (by omega)
  have HA := Aside0.mk (swAlloc HSW.out.rd (.cells #[.int .i64 16, .int .i64 32, .int .i64 64] 3))
  have HTA := Aside0.mk (HTW.out.alloc (.cells #[.int .i64 16, .int .i64 32, .int .i64 64] 3))
  have HZG := Aside0.mk (zigzag_calls g A n c o 0 bs 32 2147483648 (.inr (.inr (.inl ⟨rfl, rfl⟩))) _ HA.out.rd (Kd.C_alloc HCW.out _) hn hb)
  have a5 := (Blk.new W #[.int .i64 16, .int .i64 32, .int .i64 64] 3).cell (j := 1) rfl
  clear hb
  go_upto_region 38 with (first
    | (go_at_call 53; (with_reducible refine HZG.out.mono ?_); rintro e w2 HQ; obtain ⟨v, o2, s2, rfl, hv, hd, hw⟩ := HQ.out; have HW2 := Aside0.mk (HA.out.trans hw); have HD2 := Aside0.mk (leaf_th (f := fun x => x) (th5 k) hd); have HT2 := Aside0.mk (HTA.out.go hg hw); have g2 := HT2.out.val.cell (j := 2) rfl; have gz := HT2.out.val.free 2; clear HQ hd hw))
  generalize hwz : World.setCell _ _ _ = wz
  have HTZ : Aside0 (TwoB w wz #[.int .i64 5, .bool false, .int .i64 v, .int .u64 0, .slice none 0 0, .int .i64 0, .int .i64 0, .slice none 0 0, .slice none 0 0]) := ⟨by rw [← hwz]; exact HT2.out.set 2 (.int .i64 v) rfl⟩
  have HSZ : Aside0 (SWent w wz g A n c o2 s2) := ⟨by rw [← hwz]; exact swFar (HSW.out.trans HW2.out) hg (by omega) 2 (.int .i64 v)⟩
  clear hwz
  have HFIN := Aside0.mk (thing_fin hg HSZ.out HD2.out (plain_in _ _ 5 v 0 0 0))
  obtain ⟨e0, e1, e2, e3, e4, e5, e6, e7, e8, ez⟩ := nine (HTZ.out).val
  obtain ⟨f0, f1, f2, f3, f4, f5, f6, f7, f8, fz⟩ := nine (HTZ.out).res
  have hne : w.heap.size ≠ w.heap.size + 1 := by omega
  have hne2 : w.heap.size + 1 ≠ w.heap.size := by omega
  have HBR := Aside0.mk (nineSet (HTZ.out).res (.int .i64 5) (.bool false) (.int .i64 v) (.int .u64 0) (.slice none 0 0) (.int .i64 0) (.int .i64 0) (.slice none 0 0) (.slice none 0 0))
  go_wp2_with (fail)
  refine bodyPost_ret (results_cell_row rfl _ _ w.heap.size 27 #[_, _, _, _, _, _, _, _, _] (0, 0) _ rfl HBR.out.out Tryd.underlying27 rfl (by kernel_rfl)) rfl ?_
  exact HFIN.out
set_option maxHeartbeats 8000000 in
set_option maxRecDepth 100000 in
theorem thing_6 (g : Nat) (A : Option Addr) (n c : Nat) (bs : List Int) (o : Nat) (k : Nat) (hn : n ≤ 2147483647) (hb : bytesB bs = true) (w : World) (hR : Sr w g A n c o 0) (hC : (Kd.int .u8).C w A n bs) :
    Calls Tryd.prog 39 #[gP g, .int .i64 6, .int .i64 (k : Int)] w fun e w' => TOut (k + 1) 6 bs o 0 w w' g A n c e := by
  have hg := hR.blk.lt
  have HG := Aside0.mk hg
  have HSW := Aside0.mk (swTwo hR (.cells #[.int .i64 0, .bool false, .int .i64 0, .int .u64 0, .slice none 0 0, .int .i64 0, .int .i64 0, .slice none 0 0, .slice none 0 0] 27) (.cells #[.int .i64 6, .bool false, .int .i64 0, .int .u64 0, .slice none 0 0, .int .i64 0, .int .i64 0, .slice none 0 0, .slice none 0 0] 27))
  have HTW := Aside0.mk (two0 w #[.int .i64 6, .bool false, .int .i64 0, .int .u64 0, .slice none 0 0, .int .i64 0, .int .i64 0, .slice none 0 0, .slice none 0 0])
  have HCW := Aside0.mk (Kd.C_alloc (Kd.C_alloc hC (.cells #[.int .i64 0, .bool false, .int .i64 0, .int .u64 0, .slice none 0 0, .int .i64 0, .int .i64 0, .slice none 0 0, .slice none 0 0] 27)) (.cells #[.int .i64 6, .bool false, .int .i64 0, .int .u64 0, .slice none 0 0, .int .i64 0, .int .i64 0, .slice none 0 0, .slice none 0 0] 27))
  have HAP := Aside0.mk hR.apart
  clear hR hC
  go_enter Tryd.func39, Tryd.ntmps39
  go_upto_region 2 with (fail)
  generalize hW : World.alloc (World.alloc _ _) _ = W at HSW HTW HCW ⊢
  have HWS : Aside0 (W.heap.size = w.heap.size + 2) := ⟨by rw [← hW, allocSize, allocSize]⟩
  clear hW
  have d2 := HSW.out.rd.blk.cell (j := 2) rfl
  have qk : decide ((k : Int) < 0) = false := decide_eq_false (by omega)
  have HA := Aside0.mk (swAlloc HSW.out.rd (.cells #[.int .i64 16, .int .i64 32, .int .i64 64] 3))
  have HTA := Aside0.mk (HTW.out.alloc (.cells #[.int .i64 16, .int .i64 32, .int .i64 64] 3))
  have HZG := Aside0.mk (zigzag_calls g A n c o 0 bs 64 9223372036854775808 (.inr (.inr (.inr ⟨rfl, rfl⟩))) _ HA.out.rd (Kd.C_alloc HCW.out _) hn hb)
  have a6 := (Blk.new W #[.int .i64 16, .int .i64 32, .int .i64 64] 3).cell (j := 2) rfl
  clear hb
  go_upto_region 38 with (first
    | (go_at_call 53; (with_reducible refine HZG.out.mono ?_); rintro e w2 HQ; obtain ⟨v, o2, s2, rfl, hv, hd, hw⟩ := HQ.out; have HW2 := Aside0.mk (HA.out.trans hw); have HD2 := Aside0.mk (leaf_th (f := fun x => x) (th6 k) hd); have HT2 := Aside0.mk (HTA.out.go hg hw); have g2 := HT2.out.val.cell (j := 2) rfl; have gz := HT2.out.val.free 2; clear HQ hd hw))
  generalize hwz : World.setCell _ _ _ = wz
  have HTZ : Aside0 (TwoB w wz #[.int .i64 6, .bool false, .int .i64 v, .int .u64 0, .slice none 0 0, .int .i64 0, .int .i64 0, .slice none 0 0, .slice none 0 0]) := ⟨by rw [← hwz]; exact HT2.out.set 2 (.int .i64 v) rfl⟩
  have HSZ : Aside0 (SWent w wz g A n c o2 s2) := ⟨by rw [← hwz]; exact swFar (HSW.out.trans HW2.out) hg (by omega) 2 (.int .i64 v)⟩
  clear hwz
  have HFIN := Aside0.mk (thing_fin hg HSZ.out HD2.out (plain_in _ _ 6 v 0 0 0))
  obtain ⟨e0, e1, e2, e3, e4, e5, e6, e7, e8, ez⟩ := nine (HTZ.out).val
  obtain ⟨f0, f1, f2, f3, f4, f5, f6, f7, f8, fz⟩ := nine (HTZ.out).res
  have hne : w.heap.size ≠ w.heap.size + 1 := by omega
  have hne2 : w.heap.size + 1 ≠ w.heap.size := by omega
  have HBR := Aside0.mk (nineSet (HTZ.out).res (.int .i64 6) (.bool false) (.int .i64 v) (.int .u64 0) (.slice none 0 0) (.int .i64 0) (.int .i64 0) (.slice none 0 0) (.slice none 0 0))
  go_wp2_with (fail)
  refine bodyPost_ret (results_cell_row rfl _ _ w.heap.size 27 #[_, _, _, _, _, _, _, _, _] (0, 0) _ rfl HBR.out.out Tryd.underlying27 rfl (by kernel_rfl)) rfl ?_
  exact HFIN.out
end Go.Proofs.YtcboegodjlfmnaaDoor.Tsg

/-! The reader of the specification: numbers with a point, bytes. -/
namespace Go.Proofs.YtcboegodjlfmnaaDoor.Tsh
open Go.Proofs.YtcboegodjlfmnaaDoor.Tsg Go.Proofs.YtcboegodjlfmnaaDoor.Tsf Go.Proofs.YtcboegodjlfmnaaDoor.Tse Go.Proofs.YtcboegodjlfmnaaDoor.Tsd Go.Proofs.YtcboegodjlfmnaaDoor.Tpv Go.Proofs.YtcboegodjlfmnaaDoor.Tsc Go.Proofs.YtcboegodjlfmnaaDoor.Tsb Go.Proofs.YtcboegodjlfmnaaDoor.Tzm Go.Proofs.YtcboegodjlfmnaaDoor.Tzl Go.Proofs.YtcboegodjlfmnaaDoor.Trh Go.Proofs.YtcboegodjlfmnaaDoor.Trn Go.Proofs.YtcboegodjlfmnaaDoor.Trm Go.Proofs.YtcboegodjlfmnaaDoor.Tuv Go.Proofs.YtcboegodjlfmnaaDoor.Tpa Go.Proofs.YtcboegodjlfmnaaDoor.Duv Go.Proofs.YtcboegodjlfmnaaDoor.Dpu Go.Proofs.YtcboegodjlfmnaaDoor.Pak Go.Proofs.YtcboegodjlfmnaaDoor.Buf Go.Proofs.YtcboegodjlfmnaaDoor.Fit Go.Proofs.YtcboegodjlfmnaaDoor.Bit Go.Proofs.YtcboegodjlfmnaaDoor.Wrd Go.Proofs.YtcboegodjlfmnaaDoor.Spl Go.Proofs.YtcboegodjlfmnaaDoor.Str Go.Proofs.YtcboegodjlfmnaaDoor.Flt Go.Proofs.YtcboegodjlfmnaaDoor.Owe Go.Proofs.YtcboegodjlfmnaaDoor.Num Go.Proofs.YtcboegodjlfmnaaDoor.Le Go.Proofs.YtcboegodjlfmnaaDoor.Lst Go.Proofs.YtcboegodjlfmnaaDoor.Aid Go.RowKit Go.Proofs.YtcboegodjlfmnaaDoorW.PrintWords Go.Proofs.YtcboegodjlfmnaaDoorW.PrintLast Go.Proofs.YtcboegodjlfmnaaDoorW.PrintMore
set_option linter.unusedVariables false
set_option linter.unusedSimpArgs false
/-- so many bytes as a number, the low ones first -/
def acc8 (l : List Int) : Nat → Nat
  | 0 => 0
  | i + 1 => acc8 l i + (rd l (i : Nat)).toNat * 2 ^ (8 * i)
theorem acc8_lt (l : List Int) (hb : bytesB l = true) : ∀ i, i ≤ l.length → acc8 l i < 2 ^ (8 * i)
  | 0, _ => by simp [acc8]
  | i + 1, h => by
    have ih := acc8_lt l hb i (by omega)
    have hr := bytesB_rd hb (i := (i : Int)) rfl (by omega)
    have h1 : (rd l (i : Nat)).toNat ≤ 255 := by obtain ⟨a, b⟩ := hr; omega
    have h2 : (rd l (i : Nat)).toNat * 2 ^ (8 * i) ≤ 255 * 2 ^ (8 * i) := Nat.mul_le_mul_right _ h1
    have e : 2 ^ (8 * (i + 1)) = 2 ^ (8 * i) * 256 := by rw [show 8 * (i + 1) = 8 * i + 8 by omega, Nat.pow_add]
    show acc8 l i + _ < _
    omega
theorem acc8_eight (l : List Int) (hb : bytesB l = true) (hl : l.length = 8) : acc8 l 8 = eightN l := by
  match l, hl with
  | [a0, a1, a2, a3, a4, a5, a6, a7], _ =>
    have h := bytesB_mem hb
    obtain ⟨l0, u0⟩ := h a0 (by simp)
    obtain ⟨l1, u1⟩ := h a1 (by simp)
    obtain ⟨l2, u2⟩ := h a2 (by simp)
    obtain ⟨l3, u3⟩ := h a3 (by simp)
    obtain ⟨l4, u4⟩ := h a4 (by simp)
    obtain ⟨l5, u5⟩ := h a5 (by simp)
    obtain ⟨l6, u6⟩ := h a6 (by simp)
    obtain ⟨l7, u7⟩ := h a7 (by simp)
    show 0 + a0.toNat * 2 ^ (8 * 0) + a1.toNat * 2 ^ (8 * 1) + a2.toNat * 2 ^ (8 * 2) + a3.toNat * 2 ^ (8 * 3) + a4.toNat * 2 ^ (8 * 4) + a5.toNat * 2 ^ (8 * 5) + a6.toNat * 2 ^ (8 * 6) + a7.toNat * 2 ^ (8 * 7) = ((a0 + a1 * 256 + a2 * 65536 + a3 * 16777216) + (a4 + a5 * 256 + a6 * 65536 + a7 * 16777216) * 4294967296).toNat
    simp only [show (2 : Nat) ^ (8 * 0) = 1 by decide, show (2 : Nat) ^ (8 * 1) = 256 by decide, show (2 : Nat) ^ (8 * 2) = 65536 by decide, show (2 : Nat) ^ (8 * 3) = 16777216 by decide, show (2 : Nat) ^ (8 * 4) = 4294967296 by decide, show (2 : Nat) ^ (8 * 5) = 1099511627776 by decide, show (2 : Nat) ^ (8 * 6) = 281474976710656 by decide, show (2 : Nat) ^ (8 * 7) = 72057594037927936 by decide]
    omega
theorem Does.any {α : Type} {p : Psr α} {bs : List Int} {o s o' s' : Nat} {v : α} (d : Does p bs o s v o' s') (hs : s' ≠ 0) (v' : α) : Does p bs o s v' o' s' :=
  ⟨fun β f => (d.out β f).trans (fate_dead _ _ _ _ _ _ hs), d.up⟩
theorem th7_does {k : Nat} {bs : List Int} {o o' s' : Nat} {l : List Int} (hb : bytesB l = true) (d : Does (takeP 8) bs o 0 l o' s') : Does (thP (k + 1) 7) bs o 0 ⟨⟨7, false, 0, acc8 l l.length, [], 0, 0⟩, .nil, .nil⟩ o' s' := by
  by_cases c : s' = 0
  · subst c
    have hl : l.length = 8 := (Tpw.take_ok (Does.okay d).2).2
    rw [hl, acc8_eight l hb hl, th7]
    exact Does.bind d (Does.ret _ _ _ _)
  · refine Does.any (v := ⟨⟨7, false, 0, eightN l, [], 0, 0⟩, .nil, .nil⟩) ?_ c _
    rw [th7]
    exact Does.bind d (Does.ret _ _ _ _)
theorem th8_does {k : Nat} {bs : List Int} {o s o1 s1 o' s' m : Nat} {l : List Int} (d : Does (sizeP 10000) bs o s m o1 s1) (d2 : Does (takeP m) bs o1 s1 l o' s') : Does (thP (k + 1) 8) bs o s ⟨⟨8, false, 0, 0, l, 0, 0⟩, .nil, .nil⟩ o' s' := by
  rw [th8]
  exact Does.bind d (Does.bind d2 (Does.ret _ _ _ _))
theorem TwoB.drewN {w wz : World} {cs : Array Value} (h : TwoB w wz cs) (k : Nat) : TwoB w (wz.drewN k) cs := ⟨h.res.drewN k, h.val.drewN k⟩
/-- bytes of the call's own, as those of a value -/
theorem own_bytes {w : World} {base : Nat} {A : Option Addr} {n c : Nat} {l : List Int} (h : Own w base 5 .u8 (.slice A n c) l) (hb : bytesB l = true) : BytesAt w (fun b => base ≤ b ∧ b < w.heap.size) (.slice A n c) l := by
  obtain ⟨A9, c9, e9, h9, hC9⟩ := h.read
  obtain ⟨rfl, rfl, rfl⟩ := Value.slice.inj e9
  refine ⟨A, c, rfl, h9, hC9, hb, fun hn => ?_⟩
  rcases h.out.2 with ⟨e, hz⟩ | ⟨g, cap, cur, e, _⟩
  · exact absurd (List.length_eq_zero_iff.1 hz) hn
  · obtain ⟨rfl, _, _⟩ := Value.slice.inj e
    exact ⟨_, rfl, own_lt h.out rfl⟩
theorem swBelow {w W w3 w1 : World} {g : Nat} {A : Option Addr} {n c o s : Nat} (hW : w.grownBy W (some g)) (h : SWent W w3 g A n c o s) (k : Below W.heap.size w3 w1) (hg : g < W.heap.size) : SWent w w1 g A n c o s := by
  have l1 := hW.size
  have l2 := h.grown.size
  refine ⟨⟨k.os.trans (h.grown.os.trans hW.os), k.tape.trans (h.grown.tape.trans hW.tape), k.output.trans (h.grown.output.trans hW.output), by have := k.size; omega, fun b hb hne => ?_⟩, h.rd.blk.below k hg, h.rd.apart, h.rd.le, h.rd.st⟩
  exact (k.block b (by omega)).trans ((h.grown.block b (by omega) hne).trans (hW.block b hb hne))
set_option maxHeartbeats 8000000 in
set_option maxRecDepth 100000 in
theorem thing_7 (g : Nat) (A : Option Addr) (n c : Nat) (bs : List Int) (o : Nat) (k : Nat) (hc : n ≤ c) (hn : n ≤ 2147483647) (hb : bytesB bs = true) (w : World) (hR : Sr w g A n c o 0) (hC : (Kd.int .u8).C w A n bs) :
    Calls Tryd.prog 39 #[gP g, .int .i64 7, .int .i64 (k : Int)] w fun e w' => TOut (k + 1) 7 bs o 0 w w' g A n c e := by
  have hg := hR.blk.lt
  have HG := Aside0.mk hg
  have HSW := Aside0.mk (swTwo hR (.cells #[.int .i64 0, .bool false, .int .i64 0, .int .u64 0, .slice none 0 0, .int .i64 0, .int .i64 0, .slice none 0 0, .slice none 0 0] 27) (.cells #[.int .i64 7, .bool false, .int .i64 0, .int .u64 0, .slice none 0 0, .int .i64 0, .int .i64 0, .slice none 0 0, .slice none 0 0] 27))
  have HTW := Aside0.mk (two0 w #[.int .i64 7, .bool false, .int .i64 0, .int .u64 0, .slice none 0 0, .int .i64 0, .int .i64 0, .slice none 0 0, .slice none 0 0])
  have HCW := Aside0.mk (Kd.C_alloc (Kd.C_alloc hC (.cells #[.int .i64 0, .bool false, .int .i64 0, .int .u64 0, .slice none 0 0, .int .i64 0, .int .i64 0, .slice none 0 0, .slice none 0 0] 27)) (.cells #[.int .i64 7, .bool false, .int .i64 0, .int .u64 0, .slice none 0 0, .int .i64 0, .int .i64 0, .slice none 0 0, .slice none 0 0] 27))
  have HAP := Aside0.mk hR.apart
  have HC0 := Aside0.mk hC
  clear hR hC
  go_enter Tryd.func39, Tryd.ntmps39
  go_upto_region 2 with (fail)
  generalize hW : World.alloc (World.alloc _ _) _ = W at HSW HTW HCW ⊢
  have HWS : Aside0 (W.heap.size = w.heap.size + 2) := ⟨by rw [← hW, allocSize, allocSize]⟩
  clear hW
  have d2 := HSW.out.rd.blk.cell (j := 2) rfl
  have qk : decide ((k : Int) < 0) = false := decide_eq_false (by omega)
  have hby := bytes_calls g A n c o 0 bs 8 (by decide) W HSW.out.rd HCW.out hc hn hb
  rw [show ((8 : Nat) : Int) = 8 from rfl] at hby
  have HBY := Aside0.mk hby
  clear hby
  clear hb
  go_wp2_with (first
    | (go_at_call 54; (with_reducible refine HBY.out.mono ?_); rintro e w2 HQ; obtain ⟨l, A', c', o2, s2, rfl, hlc, hl8, hlb, hCC, hd, hw⟩ := HQ.out; have HW2 := Aside0.mk (HSW.out.trans hw); have HD2 := Aside0.mk (th7_does (k := k) hlb hd); have HT2 := Aside0.mk (HTW.out.go hg hw); have HLB := Aside0.mk hlb; have HCC := Aside0.mk hCC; have HL8 := Aside0.mk hl8; obtain ⟨L, hL⟩ : ∃ L, l.length = L := ⟨_, rfl⟩; rw [hL]; have HLL := Aside0.mk hL; rw [hL] at hlc HCC; clear HQ hd hw hlb hCC hL hl8))
  go_loopg [8, 9, 53] L (fun kq v8 v9 v53 w' => ∃ (i : Nat), i ≤ L ∧ v53 = .int .i64 i ∧ Aside0 (TwoB w w' #[.int .i64 7, .bool false, .int .i64 0, .int .u64 (acc8 l i : Int), .slice none 0 0, .int .i64 0, .int .i64 0, .slice none 0 0, .slice none 0 0]) ∧ Aside0 (SWent w w' g A n c o2 s2) ∧ Aside0 (L - i ≤ kq))
  case atStart => exact ⟨0, Nat.zero_le _, rfl, ⟨HT2.out⟩, ⟨HW2.out⟩, ⟨by omega⟩⟩
  case round =>
    obtain ⟨i, hi, rfl, HTB, HS, HK⟩ := hrel
    by_cases ci : i < L
    · have q1 : decide ((i : Int) < (L : Int)) = true := decide_eq_true (by omega)
      have q11 : decide (i < L) = true := decide_eq_true ci
      have hCr := HCC.out _ (grownC HC0.out HS.out.grown HS.out.rd.apart)
      obtain ⟨ad, ead, hcell⟩ := Kd.at_int hCr (i : Int) (by omega) (by omega)
      rw [Int.toNat_natCast] at hcell
      subst ead
      have hbd := bytesB_rd HLB.out (i := (i : Int)) rfl (by have := HLL.out; omega)
      have ha9 := acc8_lt l HLB.out i (by have := HLL.out; omega)
      obtain ⟨y, hy⟩ : ∃ y : Nat, rd l (i : Nat) = (y : Int) := ⟨(rd l (i : Nat)).toNat, by have := hbd.1; omega⟩
      have hy9 : y < 256 := by have := hbd.2; omega
      have HAC : Aside0 (acc8 l (i + 1) = acc8 l i + y * 2 ^ (8 * i)) := ⟨by show acc8 l i + (rd l (i : Nat)).toNat * 2 ^ (8 * i) = _; rw [hy, Int.toNat_natCast]⟩
      have ha8 := acc8_lt l HLB.out (i + 1) (by have := HLL.out; omega)
      have hp64 : (2 : Nat) ^ (8 * (i + 1)) ≤ 2 ^ 64 := Nat.pow_le_pow_right (by omega) (by have := HL8.out; have := HLL.out; omega)
      rw [show (2 : Nat) ^ 64 = 18446744073709551616 by decide] at hp64
      rw [HAC.out] at ha8
      obtain ⟨a, haa⟩ : ∃ a, acc8 l i = a := ⟨_, rfl⟩
      rw [haa] at ha9 ha8 HAC
      have HOR := or_high' a y (8 * i) ha9 (by omega) (by omega)
      obtain ⟨sh, hs⟩ : ∃ s, 8 * i = s := ⟨_, rfl⟩
      rw [hs] at HOR HAC
      have qsh : IntKind.i64.wrap (sh : Int) = (sh : Int) := IntWalk.i64_in _ (by have := HL8.out; have := HLL.out; omega)
      have hsI : (8 : Int) * (i : Int) = (sh : Int) := by omega
      have hs63 : sh ≤ 63 := by have := HL8.out; have := HLL.out; omega
      have hyw : (y : Int) % 18446744073709551616 = (y : Int) := by omega
      have qyw : IntKind.u64.wrap (y : Int) = (y : Int) := IntWalk.u64_in _ (by omega)
      rw [hy] at hcell
      have HHA := Aside0.mk haa
      have hTr := HTB.out
      rw [haa] at hTr
      have HTR := Aside0.mk hTr
      have g3 := hTr.val.cell (j := 3) rfl
      have gz := hTr.val.free 3
      have HC1 := Aside0.mk ci
      have qi0 : (0 : Int) ≤ (i : Int) := by omega
      clear hCr hbd hs hp64 ha8 ha9 haa hTr ci hy
      go_wp2_with (fail)
      refine region_tail 9 (by kernel_rfl) (by kernel_rfl) ?_
      simp only [List.take_succ_cons, List.take_zero, List.drop_succ_cons, List.drop_zero]
      repeat (quiet_step ((fail)))
      refine wpQuiet_nil ?_
      rintro _ ⟨nq, rfl⟩
      go_wp2_with (fail)
      go_roundg (gk - 1)
      all_goals first
        | (have := HK.out; have := HC1.out; omega)
        | (refine ⟨i + 1, HC1.out, by go_num, ⟨(TwoB.drewN HTR.out nq).set 3 _ (by rw [HAC.out]; push_cast; rfl)⟩, ⟨swFar (HS.out.drewN nq) hg (by omega) 3 _⟩, ⟨by have := HK.out; omega⟩⟩)
    · obtain rfl : i = L := by omega
      have q1 : decide ((i : Int) < (i : Int)) = false := decide_eq_false (by omega)
      go_upto_region 38 with (fail)
      have HLI := Aside0.mk HLL.out
      have HDF : Aside0 (Does (thP (k + 1) 7) bs o 0 ⟨⟨7, false, 0, acc8 l i, [], 0, 0⟩, .nil, .nil⟩ o2 s2) := ⟨by have h := HD2.out; rw [HLL.out] at h; exact h⟩
      have HFIN := Aside0.mk (thing_fin hg HS.out HDF.out (plain_in _ _ 7 0 (acc8 l i) 0 0))
      obtain ⟨e0, e1, e2, e3, e4, e5, e6, e7, e8, ez⟩ := nine (HTB.out).val
      obtain ⟨f0, f1, f2, f3, f4, f5, f6, f7, f8, fz⟩ := nine (HTB.out).res
      have hne : w.heap.size ≠ w.heap.size + 1 := by omega
      have hne2 : w.heap.size + 1 ≠ w.heap.size := by omega
      have HBR := Aside0.mk (nineSet (HTB.out).res (.int .i64 7) (.bool false) (.int .i64 0) (.int .u64 (acc8 l i : Int)) (.slice none 0 0) (.int .i64 0) (.int .i64 0) (.slice none 0 0) (.slice none 0 0))
      go_wp2_with (fail)
      refine bodyPost_ret (results_cell_row rfl _ _ w.heap.size 27 #[_, _, _, _, _, _, _, _, _] (0, 0) _ rfl HBR.out.out Tryd.underlying27 rfl (by kernel_rfl)) rfl ?_
      exact HFIN.out
set_option maxHeartbeats 8000000 in
set_option maxRecDepth 100000 in
theorem thing_8 (g : Nat) (A : Option Addr) (n c : Nat) (bs : List Int) (o : Nat) (k : Nat) (hc : n ≤ c) (hn : n ≤ 2147483647) (hb : bytesB bs = true) (w : World) (hR : Sr w g A n c o 0) (hC : (Kd.int .u8).C w A n bs) :
    Calls Tryd.prog 39 #[gP g, .int .i64 8, .int .i64 (k : Int)] w fun e w' => TOut (k + 1) 8 bs o 0 w w' g A n c e := by
  have hg := hR.blk.lt
  have HG := Aside0.mk hg
  have HSW := Aside0.mk (swTwo hR (.cells #[.int .i64 0, .bool false, .int .i64 0, .int .u64 0, .slice none 0 0, .int .i64 0, .int .i64 0, .slice none 0 0, .slice none 0 0] 27) (.cells #[.int .i64 8, .bool false, .int .i64 0, .int .u64 0, .slice none 0 0, .int .i64 0, .int .i64 0, .slice none 0 0, .slice none 0 0] 27))
  have HTW := Aside0.mk (two0 w #[.int .i64 8, .bool false, .int .i64 0, .int .u64 0, .slice none 0 0, .int .i64 0, .int .i64 0, .slice none 0 0, .slice none 0 0])
  have HCW := Aside0.mk (Kd.C_alloc (Kd.C_alloc hC (.cells #[.int .i64 0, .bool false, .int .i64 0, .int .u64 0, .slice none 0 0, .int .i64 0, .int .i64 0, .slice none 0 0, .slice none 0 0] 27)) (.cells #[.int .i64 8, .bool false, .int .i64 0, .int .u64 0, .slice none 0 0, .int .i64 0, .int .i64 0, .slice none 0 0, .slice none 0 0] 27))
  have HAP := Aside0.mk hR.apart
  clear hR hC
  go_enter Tryd.func39, Tryd.ntmps39
  go_upto_region 2 with (fail)
  generalize hW : World.alloc (World.alloc _ _) _ = W at HSW HTW HCW ⊢
  have HWS : Aside0 (W.heap.size = w.heap.size + 2) := ⟨by rw [← hW, allocSize, allocSize]⟩
  clear hW
  have d2 := HSW.out.rd.blk.cell (j := 2) rfl
  have qk : decide ((k : Int) < 0) = false := decide_eq_false (by omega)
  have HA := Aside0.mk (swAlloc HSW.out.rd (.cells #[] 5))
  have HTA := Aside0.mk (HTW.out.alloc (.cells #[] 5))
  have HOA := Aside0.mk (Own.empty W W.heap.size 5 .u8 (Nat.le_refl _))
  have HCA := Aside0.mk (Kd.C_alloc HCW.out (.cells #[] 5))
  have hsz := size_calls g A n c o 0 bs 10000 (by decide) _ HA.out.rd HCA.out hn hb
  rw [show ((10000 : Nat) : Int) = 10000 from rfl] at hsz
  have HSZ := Aside0.mk hsz
  clear hsz
  have HBB := Aside0.mk hb
  clear hb
  go_upto_region 38 with (first
    | (go_at_call 55; (with_reducible refine HSZ.out.mono ?_); rintro e w2 HQ; obtain ⟨m, o2, s2, rfl, hm, hd, hw⟩ := HQ.out; have HWA := Aside0.mk hw; have HW2 := Aside0.mk (HA.out.trans hw); have HD2 := Aside0.mk hd; have HBY := Aside0.mk (bytes_calls g A n c o2 s2 bs m (by omega) w2 hw.rd (grownC HCA.out hw.grown HAP.out) hc hn HBB.out); clear HQ hd hw)
    | (go_at_call 54; (with_reducible refine HBY.out.mono ?_); rintro e w3 HQ; obtain ⟨l, A', c', o3, s3, rfl, hlc, hlm, hlb, hCC, hd, hw⟩ := HQ.out; have HW3 := Aside0.mk (HW2.out.trans hw); have HD3 := Aside0.mk (th8_does (k := k) HD2.out hd); have HLB := Aside0.mk hlb; have HC3 := Aside0.mk (hCC w3 (grownC HCW.out HW3.out.grown HAP.out)); have HO3 : Aside0 (Own w3 W.heap.size 5 .u8 (.slice (some ⟨W.heap.size, 0, none⟩) 0 0) []) := ⟨⟨own_move HOA.out.out (fun b hb => by have := own_lt HOA.out.out hb; exact (HWA.out.trans hw).grown.block b this.2 (fun e => by have := Option.some.inj e; have := HWS.out; omega))⟩⟩; clear HQ hd hw hlb hCC)
    | (at_builtin; (refine appendRead (w0 := w3) W.heap.size rfl (.tmp 70) (.tmp 74) 23 5 .u8 1 rfl Tryd.underlying23 infoU8 (by decide) _ [] A' l.length c' l rfl rfl HO3.out (Below.refl _ _) HW3.out.grown.size HC3.out ?hl ?_); (case hl => simp; omega); intro v4 w4 ho hb4 hg4; rw [List.nil_append] at ho; obtain ⟨A4, c4, rfl, _, _⟩ := ho.read; have HO4 := Aside0.mk ho; have HW4 := Aside0.mk (swBelow HSW.out.grown HW3.out hb4 (by have := HWS.out; omega)); have HTB4 : Aside0 (TwoB w w4 #[.int .i64 8, .bool false, .int .i64 0, .int .u64 0, .slice none 0 0, .int .i64 0, .int .i64 0, .slice none 0 0, .slice none 0 0]) := ⟨⟨(HTW.out.go hg HW3.out).res.below hb4 (by have := HWS.out; omega), (HTW.out.go hg HW3.out).val.below hb4 (by have := HWS.out; omega)⟩⟩; have g4 := HTB4.out.val.cell (j := 4) rfl; have gz := HTB4.out.val.free 4; clear ho hb4 hg4))
  generalize hwz : World.setCell _ _ _ = wz
  have HTZ : Aside0 (TwoB w wz #[.int .i64 8, .bool false, .int .i64 0, .int .u64 0, .slice A4 l.length c4, .int .i64 0, .int .i64 0, .slice none 0 0, .slice none 0 0]) := ⟨by rw [← hwz]; exact HTB4.out.set 4 (.slice A4 l.length c4) rfl⟩
  have HSF : Aside0 (SWent w wz g A n c o3 s3) := ⟨by rw [← hwz]; exact swFar HW4.out hg (by omega) 4 (.slice A4 l.length c4)⟩
  have HIN : Aside0 (N.In flT wz (PnO 0 (some g) (w.heap.size + 2) wz.heap.size) ⟨⟨8, false, 0, 0, l, 0, 0⟩, .nil, .nil⟩ [.int .i64 8, .bool false, .int .i64 0, .int .u64 0, .slice A4 l.length c4, .int .i64 0, .int .i64 0, .slice none 0 0, .slice none 0 0]) := ⟨by
    have hs : wz.heap.size = w4.heap.size := by rw [← hwz]; simp [World.setCell]
    have hba := own_bytes HO4.out HLB.out
    refine th_in ⟨8, false, 0, 0, l, 0, 0⟩ (ls := .nil) (fs := .nil) (hba.move (fun b hb => ?_) (fun b hb => .inr ⟨by have := HWS.out; omega, by omega⟩)) (lies_nil _ _) rfl (lies_nil _ _) rfl
    rw [← hwz]
    exact Below.heap_setCell _ _ _ b (by show b ≠ w.heap.size + 1; have := HWS.out; omega)⟩
  clear hwz
  have HFIN := Aside0.mk (thing_fin hg HSF.out HD3.out HIN.out)
  obtain ⟨e0, e1, e2, e3, e4, e5, e6, e7, e8, ez⟩ := nine (HTZ.out).val
  obtain ⟨f0, f1, f2, f3, f4, f5, f6, f7, f8, fz⟩ := nine (HTZ.out).res
  have hne : w.heap.size ≠ w.heap.size + 1 := by omega
  have hne2 : w.heap.size + 1 ≠ w.heap.size := by omega
  have HBR := Aside0.mk (nineSet (HTZ.out).res (.int .i64 8) (.bool false) (.int .i64 0) (.int .u64 0) (.slice A4 l.length c4) (.int .i64 0) (.int .i64 0) (.slice none 0 0) (.slice none 0 0))
  go_wp2_with (fail)
  refine bodyPost_ret (results_cell_row rfl _ _ w.heap.size 27 #[_, _, _, _, _, _, _, _, _] (0, 0) _ rfl HBR.out.out Tryd.underlying27 rfl (by kernel_rfl)) rfl ?_
  exact HFIN.out
end Go.Proofs.YtcboegodjlfmnaaDoor.Tsh

/-! The reader of the specification: lists, sets, maps, structs; all values. -/
namespace Go.Proofs.YtcboegodjlfmnaaDoor.Tsi
open Go.Proofs.YtcboegodjlfmnaaDoor.Tsh Go.Proofs.YtcboegodjlfmnaaDoor.Tsg Go.Proofs.YtcboegodjlfmnaaDoor.Tsf Go.Proofs.YtcboegodjlfmnaaDoor.Tse Go.Proofs.YtcboegodjlfmnaaDoor.Tsd Go.Proofs.YtcboegodjlfmnaaDoor.Tpv Go.Proofs.YtcboegodjlfmnaaDoor.Tsc Go.Proofs.YtcboegodjlfmnaaDoor.Tsb Go.Proofs.YtcboegodjlfmnaaDoor.Tzm Go.Proofs.YtcboegodjlfmnaaDoor.Tzl Go.Proofs.YtcboegodjlfmnaaDoor.Trh Go.Proofs.YtcboegodjlfmnaaDoor.Trn Go.Proofs.YtcboegodjlfmnaaDoor.Trm Go.Proofs.YtcboegodjlfmnaaDoor.Tuv Go.Proofs.YtcboegodjlfmnaaDoor.Tpa Go.Proofs.YtcboegodjlfmnaaDoor.Duv Go.Proofs.YtcboegodjlfmnaaDoor.Dpu Go.Proofs.YtcboegodjlfmnaaDoor.Pak Go.Proofs.YtcboegodjlfmnaaDoor.Buf Go.Proofs.YtcboegodjlfmnaaDoor.Fit Go.Proofs.YtcboegodjlfmnaaDoor.Bit Go.Proofs.YtcboegodjlfmnaaDoor.Wrd Go.Proofs.YtcboegodjlfmnaaDoor.Spl Go.Proofs.YtcboegodjlfmnaaDoor.Str Go.Proofs.YtcboegodjlfmnaaDoor.Flt Go.Proofs.YtcboegodjlfmnaaDoor.Owe Go.Proofs.YtcboegodjlfmnaaDoor.Num Go.Proofs.YtcboegodjlfmnaaDoor.Le Go.Proofs.YtcboegodjlfmnaaDoor.Lst Go.Proofs.YtcboegodjlfmnaaDoor.Aid Go.RowKit Go.Proofs.YtcboegodjlfmnaaDoorW.PrintWords Go.Proofs.YtcboegodjlfmnaaDoorW.PrintLast Go.Proofs.YtcboegodjlfmnaaDoorW.PrintMore
set_option linter.unusedVariables false
set_option linter.unusedSimpArgs false
theorem lh_short {bs : List Int} {o s o1 s1 o2 s2 y : Nat} {el : Int} (d : Does byteP bs o s (y : Int) o1 s1) (de : Does (elemP ((y : Int) % 16)) bs o1 s1 el o2 s2) (h : y / 16 ≠ 15) : Does lhP bs o s (y / 16, el) o2 s2 := by
  rw [lhP_eq]
  refine Does.bind d (Does.bind de ?_)
  rw [if_neg (by omega), show ((y : Int) / 16).toNat = y / 16 by omega]
  exact Does.ret _ _ _ _
theorem lh_long {bs : List Int} {o s o1 s1 o2 s2 o3 s3 y m : Nat} {el : Int} (d : Does byteP bs o s (y : Int) o1 s1) (de : Does (elemP ((y : Int) % 16)) bs o1 s1 el o2 s2) (h : y / 16 = 15) (ds : Does (sizeP 1000) bs o2 s2 m o3 s3) : Does lhP bs o s (m, el) o3 s3 := by
  rw [lhP_eq]
  refine Does.bind d (Does.bind de ?_)
  rw [if_pos (by omega)]
  exact Does.bind ds (Does.ret _ _ _ _)
theorem list_does {k : Nat} {ty : Int} (ht : ty = 9 ∨ ty = 10) {bs : List Int} {o s o1 s1 o2 s2 m : Nat} {el : Int} {X : F} (d : Does lhP bs o s (m, el) o1 s1) (dl : Does (listP (thP k) el el m) bs o1 s1 X o2 s2) : Does (thP (k + 1) ty) bs o s ⟨⟨ty, false, 0, 0, [], 0, el⟩, X, .nil⟩ o2 s2 := by
  rw [th910 k ty ht]
  exact Does.bind (f := fun h : Nat × Int => bindP (listP (thP k) h.2 h.2 h.1) fun ls => retP (⟨⟨ty, false, 0, 0, [], 0, h.2⟩, ls, .nil⟩ : N)) d (Does.bind dl (Does.ret _ _ _ _))
theorem mh_none {bs : List Int} {o s o1 s1 : Nat} (d : Does (sizeP 500) bs o s 0 o1 s1) : Does mhP bs o s (0, 0, 0) o1 s1 := by
  rw [mhP_eq]
  refine Does.bind d ?_
  rw [if_pos rfl]
  exact Does.ret _ _ _ _
theorem mh_some {bs : List Int} {o s o1 s1 o2 s2 o3 s3 o4 s4 m y : Nat} {ky el : Int} (d : Does (sizeP 500) bs o s m o1 s1) (hm : m ≠ 0) (db : Does byteP bs o1 s1 (y : Int) o2 s2) (dk : Does (elemP ((y : Int) / 16)) bs o2 s2 ky o3 s3) (de : Does (elemP ((y : Int) % 16)) bs o3 s3 el o4 s4) : Does mhP bs o s (m, ky, el) o4 s4 := by
  rw [mhP_eq]
  refine Does.bind d ?_
  rw [if_neg hm]
  exact Does.bind db (Does.bind dk (Does.bind de (Does.ret _ _ _ _)))
theorem map_does {k : Nat} {bs : List Int} {o s o1 s1 o2 s2 m : Nat} {ky el : Int} {X : F} (d : Does mhP bs o s (m, ky, el) o1 s1) (dl : Does (listP (thP k) ky el (2 * m)) bs o1 s1 X o2 s2) : Does (thP (k + 1) 11) bs o s ⟨⟨11, false, 0, 0, [], ky, el⟩, X, .nil⟩ o2 s2 := by
  rw [th11]
  exact Does.bind (f := fun h : Nat × Int × Int => bindP (listP (thP k) h.2.1 h.2.2 (2 * h.1)) fun ls => retP (⟨⟨11, false, 0, 0, [], h.2.1, h.2.2⟩, ls, .nil⟩ : N)) d (Does.bind dl (Does.ret _ _ _ _))
theorem struct_does {k : Nat} {bs : List Int} {o s o1 s1 : Nat} {X : F} (d : Does (fieldsP (thP k) 100 0) bs o s X o1 s1) : Does (thP (k + 1) 12) bs o s ⟨⟨12, false, 0, 0, [], 0, 0⟩, .nil, X⟩ o1 s1 := by
  rw [th12]
  exact Does.bind d (Does.ret _ _ _ _)
/-- values in a row, laid into a value -/
theorem lies_to {w w1 wz : World} {g lo : Nat} {v : Value} {X : F} {fld : Bool} {cs : List Value} {b1 j : Nat} {u : Value} (h : Lies w1 (PnO 0 (some g) w.heap.size w1.heap.size) v X.len cs) (hi : X.In flT w1 (PnO 0 (some g) w.heap.size w1.heap.size) fld cs) (hlo : lo ≤ w.heap.size) (hb : b1 < w.heap.size) (e : w1.setCell ⟨b1, j, none⟩ u = wz) :
    Lies wz (PnO 0 (some g) lo wz.heap.size) v X.len cs ∧ X.In flT wz (PnO 0 (some g) lo wz.heap.size) fld cs := by
  have hs : wz.heap.size = w1.heap.size := by rw [← e]; simp [World.setCell]
  have hk : ∀ b, PnO 0 (some g) w.heap.size w1.heap.size b → wz.heap[b]? = w1.heap[b]? := by
    rintro b (⟨h1, _⟩ | ⟨h1, _⟩)
    · exact absurd h1 (Nat.not_lt_zero _)
    · rw [← e]; exact Below.heap_setCell _ _ _ b (by show b ≠ b1; omega)
  have hP : ∀ b, PnO 0 (some g) w.heap.size w1.heap.size b → PnO 0 (some g) lo wz.heap.size b := by
    rintro b (⟨h1, _⟩ | ⟨h1, h2⟩)
    · exact absurd h1 (Nat.not_lt_zero _)
    · exact .inr ⟨by omega, by omega⟩
  exact ⟨h.move hk hP, F.In.move hk hP hi⟩
set_option maxHeartbeats 8000000 in
set_option maxRecDepth 100000 in
theorem thing_9 (g : Nat) (A : Option Addr) (n c : Nat) (bs : List Int) (o : Nat) (k : Nat) (hk : k ≤ 100) (hth : TH g A n c bs k) (hn : n ≤ 2147483647) (hb : bytesB bs = true) (w : World) (hR : Sr w g A n c o 0) (hC : (Kd.int .u8).C w A n bs) :
    Calls Tryd.prog 39 #[gP g, .int .i64 9, .int .i64 (k : Int)] w fun e w' => TOut (k + 1) 9 bs o 0 w w' g A n c e := by
  have hg := hR.blk.lt
  have HG := Aside0.mk hg
  have HSW := Aside0.mk (swTwo hR (.cells #[.int .i64 0, .bool false, .int .i64 0, .int .u64 0, .slice none 0 0, .int .i64 0, .int .i64 0, .slice none 0 0, .slice none 0 0] 27) (.cells #[.int .i64 9, .bool false, .int .i64 0, .int .u64 0, .slice none 0 0, .int .i64 0, .int .i64 0, .slice none 0 0, .slice none 0 0] 27))
  have HTW := Aside0.mk (two0 w #[.int .i64 9, .bool false, .int .i64 0, .int .u64 0, .slice none 0 0, .int .i64 0, .int .i64 0, .slice none 0 0, .slice none 0 0])
  have HCW := Aside0.mk (Kd.C_alloc (Kd.C_alloc hC (.cells #[.int .i64 0, .bool false, .int .i64 0, .int .u64 0, .slice none 0 0, .int .i64 0, .int .i64 0, .slice none 0 0, .slice none 0 0] 27)) (.cells #[.int .i64 9, .bool false, .int .i64 0, .int .u64 0, .slice none 0 0, .int .i64 0, .int .i64 0, .slice none 0 0, .slice none 0 0] 27))
  have HAP := Aside0.mk hR.apart
  have HC0 := Aside0.mk hC
  clear hR hC
  go_enter Tryd.func39, Tryd.ntmps39
  go_upto_region 2 with (fail)
  generalize hW : World.alloc (World.alloc _ _) _ = W at HSW HTW HCW ⊢
  have HWS : Aside0 (W.heap.size = w.heap.size + 2) := ⟨by rw [← hW, allocSize, allocSize]⟩
  clear hW
  have d2 := HSW.out.rd.blk.cell (j := 2) rfl
  have qk : decide ((k : Int) < 0) = false := decide_eq_false (by omega)
  have HBY := Aside0.mk (byte_calls g A n c o 0 bs W HSW.out.rd HCW.out hn hb)
  have HBB := Aside0.mk hb
  have HTH := Aside0.mk hth
  clear hb hth
  go_upto_region 25 with (first
    | (go_at_call 52; (with_reducible refine HBY.out.mono ?_); rintro e w2 HQ; obtain ⟨v, o2, s2, rfl, hv, hd, hw⟩ := HQ.out; obtain ⟨y, rfl⟩ := Int.eq_ofNat_of_zero_le hv.1; have hy := hv.2; have HW2 := Aside0.mk hw; have HD2 := Aside0.mk hd; have HE := Aside0.mk fun t => elem_calls g A n c o2 s2 bs t w2 hw.rd; have HT2 := Aside0.mk (HTW.out.go hg hw); clear HQ hd hw hv))
  have hy2 : y < 256 := by omega
  have hand := hand15 y hy2
  obtain ⟨q, hq⟩ : ∃ q, y / 16 = q := ⟨_, rfl⟩
  have qq : (y : Int) / 16 = (q : Int) := by omega
  have qwq : IntKind.i64.wrap (q : Int) = q := IntWalk.i64_in _ (by omega)
  obtain ⟨t, ht⟩ : ∃ t, y % 16 = t := ⟨_, rfl⟩
  rw [ht] at hand
  have qwt : IntKind.i64.wrap (t : Int) = t := IntWalk.i64_in _ (by omega)
  have HTT : Aside0 ((y : Int) % 16 = (t : Int)) := ⟨by omega⟩
  have HQ16 := Aside0.mk hq
  have hq16 : q < 16 := by omega
  clear hy hy2 hq ht
  go_upto_region 27 with (first
    | (go_at_call 56; (with_reducible refine (HE.out _).mono ?_); rintro e w3 HQ; obtain ⟨v5, o3, s3, rfl, hv5, hd, hw⟩ := HQ.out; subst hv5; have HD3 : Aside0 (Does (elemP ((y : Int) % 16)) bs o2 s2 (t : Int) o3 s3) := ⟨by rw [HTT.out]; exact hd⟩; have HW3 := Aside0.mk (HW2.out.trans hw); have HT3 := Aside0.mk (HT2.out.go hg hw); have g6 := HT3.out.val.cell (j := 6) rfl; have gz := HT3.out.val.free 6; clear HQ hd hw))
  generalize hwy : World.setCell _ _ _ = wy
  have HTY : Aside0 (TwoB w wy #[.int .i64 9, .bool false, .int .i64 0, .int .u64 0, .slice none 0 0, .int .i64 0, .int .i64 (t : Int), .slice none 0 0, .slice none 0 0]) := ⟨by rw [← hwy]; exact HT3.out.set 6 (.int .i64 (t : Int)) rfl⟩
  have HSY : Aside0 (SWent w wy g A n c o3 s3) := ⟨by rw [← hwy]; exact swFar (HSW.out.trans HW3.out) hg (by omega) 6 (.int .i64 (t : Int))⟩
  have HYS : Aside0 (w.heap.size + 2 ≤ wy.heap.size) := ⟨by have h1 := HW3.out.grown.size; have h2 := HWS.out; rw [← hwy]; simp only [World.setCell, Array.size_modify]; omega⟩
  have HCY : Aside0 ((Kd.int .u8).C wy A n bs) := ⟨grownC HC0.out HSY.out.grown HAP.out⟩
  clear hwy g6 gz
  have y6 := HTY.out.val.cell (j := 6) rfl
  by_cases c15 : q = 15
  · have q15 : ((q : Int) == 15) = true := by rw [beq_iff_eq]; omega
    have hsz := size_calls g A n c o3 s3 bs 1000 (by decide) wy HSY.out.rd HCY.out hn HBB.out
    rw [show ((1000 : Nat) : Int) = 1000 from rfl] at hsz
    have HSZ := Aside0.mk hsz
    have HL15 : Aside0 (y / 16 = 15) := ⟨by rw [HQ16.out, c15]⟩
    clear hsz c15
    go_upto_region 38 with (first
      | (go_at_call 55; (with_reducible refine HSZ.out.mono ?_); rintro e w4 HQ; obtain ⟨m, o4, s4, rfl, hm, hd, hw⟩ := HQ.out; have HDH := Aside0.mk (lh_long HD2.out HD3.out HL15.out hd); have HW4 := Aside0.mk (HSY.out.trans hw); have HT4 := Aside0.mk (HTY.out.go hg hw); have HS4 : Aside0 (w.heap.size + 2 ≤ w4.heap.size) := ⟨Nat.le_trans HYS.out hw.grown.size⟩; have HLC := Aside0.mk (list_calls g A n c bs k hk HTH.out m hm (t : Int) (t : Int) o4 s4 w4 hw.rd (grownC HC0.out HW4.out.grown HAP.out)); have y6 := HT4.out.val.cell (j := 6) rfl; clear HQ hd hw)
      | (go_at_call 57; (with_reducible refine HLC.out.mono ?_); rintro e w5 HQ; obtain ⟨X, Al, cl, lcs, o5, s5, rfl, hXl, hLi, hXi, hd, hw⟩ := HQ.out; have HLI := Aside0.mk hLi; have HXI := Aside0.mk hXi; have HDF := Aside0.mk (list_does (k := k) (ty := 9) (by omega) HDH.out hd); have HW5 := Aside0.mk (HW4.out.trans hw); have HT5 := Aside0.mk (HT4.out.go hg hw); have g7 := HT5.out.val.cell (j := 7) rfl; have gz := HT5.out.val.free 7; clear HQ hd hw hLi hXi))
    generalize hwz : World.setCell _ _ _ = wz
    have HTZ : Aside0 (TwoB w wz #[.int .i64 9, .bool false, .int .i64 0, .int .u64 0, .slice none 0 0, .int .i64 0, .int .i64 (t : Int), .slice Al X.len cl, .slice none 0 0]) := ⟨by rw [← hwz]; exact HT5.out.set 7 (.slice Al X.len cl) rfl⟩
    have HSF : Aside0 (SWent w wz g A n c o5 s5) := ⟨by rw [← hwz]; exact swFar HW5.out hg (by omega) 7 (.slice Al X.len cl)⟩
    have HIN : Aside0 (N.In flT wz (PnO 0 (some g) (w.heap.size + 2) wz.heap.size) ⟨⟨9, false, 0, 0, [], 0, (t : Int)⟩, X, .nil⟩ [.int .i64 9, .bool false, .int .i64 0, .int .u64 0, .slice none 0 0, .int .i64 0, .int .i64 (t : Int), .slice Al X.len cl, .slice none 0 0]) := ⟨by
      obtain ⟨h1, h2⟩ := lies_to (lo := w.heap.size + 2) HLI.out HXI.out HS4.out (by have := HS4.out; omega) hwz
      exact th_in ⟨9, false, 0, 0, [], 0, (t : Int)⟩ (bytesAt_nil _ _) h1 h2 (lies_nil _ _) rfl⟩
    clear hwz
    have HFIN := Aside0.mk (thing_fin hg HSF.out HDF.out HIN.out)
    obtain ⟨e0, e1, e2, e3, e4, e5, e6, e7, e8, ez⟩ := nine (HTZ.out).val
    obtain ⟨f0, f1, f2, f3, f4, f5, f6, f7, f8, fz⟩ := nine (HTZ.out).res
    have hne : w.heap.size ≠ w.heap.size + 1 := by omega
    have hne2 : w.heap.size + 1 ≠ w.heap.size := by omega
    have HBR := Aside0.mk (nineSet (HTZ.out).res (.int .i64 9) (.bool false) (.int .i64 0) (.int .u64 0) (.slice none 0 0) (.int .i64 0) (.int .i64 (t : Int)) (.slice Al X.len cl) (.slice none 0 0))
    go_wp2_with (fail)
    refine bodyPost_ret (results_cell_row rfl _ _ w.heap.size 27 #[_, _, _, _, _, _, _, _, _] (0, 0) _ rfl HBR.out.out Tryd.underlying27 rfl (by kernel_rfl)) rfl ?_
    exact HFIN.out
  · have q15 : ((q : Int) == 15) = false := by rw [beq_eq_false_iff_ne]; omega
    have HDH : Aside0 (Does lhP bs o 0 (q, (t : Int)) o3 s3) := ⟨by have h := lh_short HD2.out HD3.out (by rw [HQ16.out]; exact c15); rw [HQ16.out] at h; exact h⟩
    have HLC := Aside0.mk (list_calls g A n c bs k hk HTH.out q (by omega) (t : Int) (t : Int) o3 s3 wy HSY.out.rd HCY.out)
    have HS4 := HYS
    clear c15
    go_upto_region 38 with (first
      | (go_at_call 57; (with_reducible refine HLC.out.mono ?_); rintro e w5 HQ; obtain ⟨X, Al, cl, lcs, o5, s5, rfl, hXl, hLi, hXi, hd, hw⟩ := HQ.out; have HLI := Aside0.mk hLi; have HXI := Aside0.mk hXi; have HDF := Aside0.mk (list_does (k := k) (ty := 9) (by omega) HDH.out hd); have HW5 := Aside0.mk (HSY.out.trans hw); have HT5 := Aside0.mk (HTY.out.go hg hw); have g7 := HT5.out.val.cell (j := 7) rfl; have gz := HT5.out.val.free 7; clear HQ hd hw hLi hXi))
    generalize hwz : World.setCell _ _ _ = wz
    have HTZ : Aside0 (TwoB w wz #[.int .i64 9, .bool false, .int .i64 0, .int .u64 0, .slice none 0 0, .int .i64 0, .int .i64 (t : Int), .slice Al X.len cl, .slice none 0 0]) := ⟨by rw [← hwz]; exact HT5.out.set 7 (.slice Al X.len cl) rfl⟩
    have HSF : Aside0 (SWent w wz g A n c o5 s5) := ⟨by rw [← hwz]; exact swFar HW5.out hg (by omega) 7 (.slice Al X.len cl)⟩
    have HIN : Aside0 (N.In flT wz (PnO 0 (some g) (w.heap.size + 2) wz.heap.size) ⟨⟨9, false, 0, 0, [], 0, (t : Int)⟩, X, .nil⟩ [.int .i64 9, .bool false, .int .i64 0, .int .u64 0, .slice none 0 0, .int .i64 0, .int .i64 (t : Int), .slice Al X.len cl, .slice none 0 0]) := ⟨by
      obtain ⟨h1, h2⟩ := lies_to (lo := w.heap.size + 2) HLI.out HXI.out HS4.out (by have := HS4.out; omega) hwz
      exact th_in ⟨9, false, 0, 0, [], 0, (t : Int)⟩ (bytesAt_nil _ _) h1 h2 (lies_nil _ _) rfl⟩
    clear hwz
    have HFIN := Aside0.mk (thing_fin hg HSF.out HDF.out HIN.out)
    obtain ⟨e0, e1, e2, e3, e4, e5, e6, e7, e8, ez⟩ := nine (HTZ.out).val
    obtain ⟨f0, f1, f2, f3, f4, f5, f6, f7, f8, fz⟩ := nine (HTZ.out).res
    have hne : w.heap.size ≠ w.heap.size + 1 := by omega
    have hne2 : w.heap.size + 1 ≠ w.heap.size := by omega
    have HBR := Aside0.mk (nineSet (HTZ.out).res (.int .i64 9) (.bool false) (.int .i64 0) (.int .u64 0) (.slice none 0 0) (.int .i64 0) (.int .i64 (t : Int)) (.slice Al X.len cl) (.slice none 0 0))
    go_wp2_with (fail)
    refine bodyPost_ret (results_cell_row rfl _ _ w.heap.size 27 #[_, _, _, _, _, _, _, _, _] (0, 0) _ rfl HBR.out.out Tryd.underlying27 rfl (by kernel_rfl)) rfl ?_
    exact HFIN.out
set_option maxHeartbeats 8000000 in
set_option maxRecDepth 100000 in
theorem thing_10 (g : Nat) (A : Option Addr) (n c : Nat) (bs : List Int) (o : Nat) (k : Nat) (hk : k ≤ 100) (hth : TH g A n c bs k) (hn : n ≤ 2147483647) (hb : bytesB bs = true) (w : World) (hR : Sr w g A n c o 0) (hC : (Kd.int .u8).C w A n bs) :
    Calls Tryd.prog 39 #[gP g, .int .i64 10, .int .i64 (k : Int)] w fun e w' => TOut (k + 1) 10 bs o 0 w w' g A n c e := by
  have hg := hR.blk.lt
  have HG := Aside0.mk hg
  have HSW := Aside0.mk (swTwo hR (.cells #[.int .i64 0, .bool false, .int .i64 0, .int .u64 0, .slice none 0 0, .int .i64 0, .int .i64 0, .slice none 0 0, .slice none 0 0] 27) (.cells #[.int .i64 10, .bool false, .int .i64 0, .int .u64 0, .slice none 0 0, .int .i64 0, .int .i64 0, .slice none 0 0, .slice none 0 0] 27))
  have HTW := Aside0.mk (two0 w #[.int .i64 10, .bool false, .int .i64 0, .int .u64 0, .slice none 0 0, .int .i64 0, .int .i64 0, .slice none 0 0, .slice none 0 0])
  have HCW := Aside0.mk (Kd.C_alloc (Kd.C_alloc hC (.cells #[.int .i64 0, .bool false, .int .i64 0, .int .u64 0, .slice none 0 0, .int .i64 0, .int .i64 0, .slice none 0 0, .slice none 0 0] 27)) (.cells #[.int .i64 10, .bool false, .int .i64 0, .int .u64 0, .slice none 0 0, .int .i64 0, .int .i64 0, .slice none 0 0, .slice none 0 0] 27))
  have HAP := Aside0.mk hR.apart
  have HC0 := Aside0.mk hC
  clear hR hC
  go_enter Tryd.func39, Tryd.ntmps39
  go_upto_region 2 with (fail)
  generalize hW : World.alloc (World.alloc _ _) _ = W at HSW HTW HCW ⊢
  have HWS : Aside0 (W.heap.size = w.heap.size + 2) := ⟨by rw [← hW, allocSize, allocSize]⟩
  clear hW
  have d2 := HSW.out.rd.blk.cell (j := 2) rfl
  have qk : decide ((k : Int) < 0) = false := decide_eq_false (by omega)
  have HBY := Aside0.mk (byte_calls g A n c o 0 bs W HSW.out.rd HCW.out hn hb)
  have HBB := Aside0.mk hb
  have HTH := Aside0.mk hth
  clear hb hth
  go_upto_region 25 with (first
    | (go_at_call 52; (with_reducible refine HBY.out.mono ?_); rintro e w2 HQ; obtain ⟨v, o2, s2, rfl, hv, hd, hw⟩ := HQ.out; obtain ⟨y, rfl⟩ := Int.eq_ofNat_of_zero_le hv.1; have hy := hv.2; have HW2 := Aside0.mk hw; have HD2 := Aside0.mk hd; have HE := Aside0.mk fun t => elem_calls g A n c o2 s2 bs t w2 hw.rd; have HT2 := Aside0.mk (HTW.out.go hg hw); clear HQ hd hw hv))
  have hy2 : y < 256 := by omega
  have hand := hand15 y hy2
  obtain ⟨q, hq⟩ : ∃ q, y / 16 = q := ⟨_, rfl⟩
  have qq : (y : Int) / 16 = (q : Int) := by omega
  have qwq : IntKind.i64.wrap (q : Int) = q := IntWalk.i64_in _ (by omega)
  obtain ⟨t, ht⟩ : ∃ t, y % 16 = t := ⟨_, rfl⟩
  rw [ht] at hand
  have qwt : IntKind.i64.wrap (t : Int) = t := IntWalk.i64_in _ (by omega)
  have HTT : Aside0 ((y : Int) % 16 = (t : Int)) := ⟨by omega⟩
  have HQ16 := Aside0.mk hq
  have hq16 : q < 16 := by omega
  clear hy hy2 hq ht
  go_upto_region 27 with (first
    | (go_at_call 56; (with_reducible refine (HE.out _).mono ?_); rintro e w3 HQ; obtain ⟨v5, o3, s3, rfl, hv5, hd, hw⟩ := HQ.out; subst hv5; have HD3 : Aside0 (Does (elemP ((y : Int) % 16)) bs o2 s2 (t : Int) o3 s3) := ⟨by rw [HTT.out]; exact hd⟩; have HW3 := Aside0.mk (HW2.out.trans hw); have HT3 := Aside0.mk (HT2.out.go hg hw); have g6 := HT3.out.val.cell (j := 6) rfl; have gz := HT3.out.val.free 6; clear HQ hd hw))
  generalize hwy : World.setCell _ _ _ = wy
  have HTY : Aside0 (TwoB w wy #[.int .i64 10, .bool false, .int .i64 0, .int .u64 0, .slice none 0 0, .int .i64 0, .int .i64 (t : Int), .slice none 0 0, .slice none 0 0]) := ⟨by rw [← hwy]; exact HT3.out.set 6 (.int .i64 (t : Int)) rfl⟩
  have HSY : Aside0 (SWent w wy g A n c o3 s3) := ⟨by rw [← hwy]; exact swFar (HSW.out.trans HW3.out) hg (by omega) 6 (.int .i64 (t : Int))⟩
  have HYS : Aside0 (w.heap.size + 2 ≤ wy.heap.size) := ⟨by have h1 := HW3.out.grown.size; have h2 := HWS.out; rw [← hwy]; simp only [World.setCell, Array.size_modify]; omega⟩
  have HCY : Aside0 ((Kd.int .u8).C wy A n bs) := ⟨grownC HC0.out HSY.out.grown HAP.out⟩
  clear hwy g6 gz
  have y6 := HTY.out.val.cell (j := 6) rfl
  by_cases c15 : q = 15
  · have q15 : ((q : Int) == 15) = true := by rw [beq_iff_eq]; omega
    have hsz := size_calls g A n c o3 s3 bs 1000 (by decide) wy HSY.out.rd HCY.out hn HBB.out
    rw [show ((1000 : Nat) : Int) = 1000 from rfl] at hsz
    have HSZ := Aside0.mk hsz
    have HL15 : Aside0 (y / 16 = 15) := ⟨by rw [HQ16.out, c15]⟩
    clear hsz c15
    go_upto_region 38 with (first
      | (go_at_call 55; (with_reducible refine HSZ.out.mono ?_); rintro e w4 HQ; obtain ⟨m, o4, s4, rfl, hm, hd, hw⟩ := HQ.out; have HDH := Aside0.mk (lh_long HD2.out HD3.out HL15.out hd); have HW4 := Aside0.mk (HSY.out.trans hw); have HT4 := Aside0.mk (HTY.out.go hg hw); have HS4 : Aside0 (w.heap.size + 2 ≤ w4.heap.size) := ⟨Nat.le_trans HYS.out hw.grown.size⟩; have HLC := Aside0.mk (list_calls g A n c bs k hk HTH.out m hm (t : Int) (t : Int) o4 s4 w4 hw.rd (grownC HC0.out HW4.out.grown HAP.out)); have y6 := HT4.out.val.cell (j := 6) rfl; clear HQ hd hw)
      | (go_at_call 57; (with_reducible refine HLC.out.mono ?_); rintro e w5 HQ; obtain ⟨X, Al, cl, lcs, o5, s5, rfl, hXl, hLi, hXi, hd, hw⟩ := HQ.out; have HLI := Aside0.mk hLi; have HXI := Aside0.mk hXi; have HDF := Aside0.mk (list_does (k := k) (ty := 10) (by omega) HDH.out hd); have HW5 := Aside0.mk (HW4.out.trans hw); have HT5 := Aside0.mk (HT4.out.go hg hw); have g7 := HT5.out.val.cell (j := 7) rfl; have gz := HT5.out.val.free 7; clear HQ hd hw hLi hXi))
    generalize hwz : World.setCell _ _ _ = wz
    have HTZ : Aside0 (TwoB w wz #[.int .i64 10, .bool false, .int .i64 0, .int .u64 0, .slice none 0 0, .int .i64 0, .int .i64 (t : Int), .slice Al X.len cl, .slice none 0 0]) := ⟨by rw [← hwz]; exact HT5.out.set 7 (.slice Al X.len cl) rfl⟩
    have HSF : Aside0 (SWent w wz g A n c o5 s5) := ⟨by rw [← hwz]; exact swFar HW5.out hg (by omega) 7 (.slice Al X.len cl)⟩
    have HIN : Aside0 (N.In flT wz (PnO 0 (some g) (w.heap.size + 2) wz.heap.size) ⟨⟨10, false, 0, 0, [], 0, (t : Int)⟩, X, .nil⟩ [.int .i64 10, .bool false, .int .i64 0, .int .u64 0, .slice none 0 0, .int .i64 0, .int .i64 (t : Int), .slice Al X.len cl, .slice none 0 0]) := ⟨by
      obtain ⟨h1, h2⟩ := lies_to (lo := w.heap.size + 2) HLI.out HXI.out HS4.out (by have := HS4.out; omega) hwz
      exact th_in ⟨10, false, 0, 0, [], 0, (t : Int)⟩ (bytesAt_nil _ _) h1 h2 (lies_nil _ _) rfl⟩
    clear hwz
    have HFIN := Aside0.mk (thing_fin hg HSF.out HDF.out HIN.out)
    obtain ⟨e0, e1, e2, e3, e4, e5, e6, e7, e8, ez⟩ := nine (HTZ.out).val
    obtain ⟨f0, f1, f2, f3, f4, f5, f6, f7, f8, fz⟩ := nine (HTZ.out).res
    have hne : w.heap.size ≠ w.heap.size + 1 := by omega
    have hne2 : w.heap.size + 1 ≠ w.heap.size := by omega
    have HBR := Aside0.mk (nineSet (HTZ.out).res (.int .i64 10) (.bool false) (.int .i64 0) (.int .u64 0) (.slice none 0 0) (.int .i64 0) (.int .i64 (t : Int)) (.slice Al X.len cl) (.slice none 0 0))
    go_wp2_with (fail)
    refine bodyPost_ret (results_cell_row rfl _ _ w.heap.size 27 #[_, _, _, _, _, _, _, _, _] (0, 0) _ rfl HBR.out.out Tryd.underlying27 rfl (by kernel_rfl)) rfl ?_
    exact HFIN.out
  · have q15 : ((q : Int) == 15) = false := by rw [beq_eq_false_iff_ne]; omega
    have HDH : Aside0 (Does lhP bs o 0 (q, (t : Int)) o3 s3) := ⟨by have h := lh_short HD2.out HD3.out (by rw [HQ16.out]; exact c15); rw [HQ16.out] at h; exact h⟩
    have HLC := Aside0.mk (list_calls g A n c bs k hk HTH.out q (by omega) (t : Int) (t : Int) o3 s3 wy HSY.out.rd HCY.out)
    have HS4 := HYS
    clear c15
    go_upto_region 38 with (first
      | (go_at_call 57; (with_reducible refine HLC.out.mono ?_); rintro e w5 HQ; obtain ⟨X, Al, cl, lcs, o5, s5, rfl, hXl, hLi, hXi, hd, hw⟩ := HQ.out; have HLI := Aside0.mk hLi; have HXI := Aside0.mk hXi; have HDF := Aside0.mk (list_does (k := k) (ty := 10) (by omega) HDH.out hd); have HW5 := Aside0.mk (HSY.out.trans hw); have HT5 := Aside0.mk (HTY.out.go hg hw); have g7 := HT5.out.val.cell (j := 7) rfl; have gz := HT5.out.val.free 7; clear HQ hd hw hLi hXi))
    generalize hwz : World.setCell _ _ _ = wz
    have HTZ : Aside0 (TwoB w wz #[.int .i64 10, .bool false, .int .i64 0, .int .u64 0, .slice none 0 0, .int .i64 0, .int .i64 (t : Int), .slice Al X.len cl, .slice none 0 0]) := ⟨by rw [← hwz]; exact HT5.out.set 7 (.slice Al X.len cl) rfl⟩
    have HSF : Aside0 (SWent w wz g A n c o5 s5) := ⟨by rw [← hwz]; exact swFar HW5.out hg (by omega) 7 (.slice Al X.len cl)⟩
    have HIN : Aside0 (N.In flT wz (PnO 0 (some g) (w.heap.size + 2) wz.heap.size) ⟨⟨10, false, 0, 0, [], 0, (t : Int)⟩, X, .nil⟩ [.int .i64 10, .bool false, .int .i64 0, .int .u64 0, .slice none 0 0, .int .i64 0, .int .i64 (t : Int), .slice Al X.len cl, .slice none 0 0]) := ⟨by
      obtain ⟨h1, h2⟩ := lies_to (lo := w.heap.size + 2) HLI.out HXI.out HS4.out (by have := HS4.out; omega) hwz
      exact th_in ⟨10, false, 0, 0, [], 0, (t : Int)⟩ (bytesAt_nil _ _) h1 h2 (lies_nil _ _) rfl⟩
    clear hwz
    have HFIN := Aside0.mk (thing_fin hg HSF.out HDF.out HIN.out)
    obtain ⟨e0, e1, e2, e3, e4, e5, e6, e7, e8, ez⟩ := nine (HTZ.out).val
    obtain ⟨f0, f1, f2, f3, f4, f5, f6, f7, f8, fz⟩ := nine (HTZ.out).res
    have hne : w.heap.size ≠ w.heap.size + 1 := by omega
    have hne2 : w.heap.size + 1 ≠ w.heap.size := by omega
    have HBR := Aside0.mk (nineSet (HTZ.out).res (.int .i64 10) (.bool false) (.int .i64 0) (.int .u64 0) (.slice none 0 0) (.int .i64 0) (.int .i64 (t : Int)) (.slice Al X.len cl) (.slice none 0 0))
    go_wp2_with (fail)
    refine bodyPost_ret (results_cell_row rfl _ _ w.heap.size 27 #[_, _, _, _, _, _, _, _, _] (0, 0) _ rfl HBR.out.out Tryd.underlying27 rfl (by kernel_rfl)) rfl ?_
    exact HFIN.out
set_option maxHeartbeats 8000000 in
set_option maxRecDepth 100000 in
theorem thing_11 (g : Nat) (A : Option Addr) (n c : Nat) (bs : List Int) (o : Nat) (k : Nat) (hk : k ≤ 100) (hth : TH g A n c bs k) (hn : n ≤ 2147483647) (hb : bytesB bs = true) (w : World) (hR : Sr w g A n c o 0) (hC : (Kd.int .u8).C w A n bs) :
    Calls Tryd.prog 39 #[gP g, .int .i64 11, .int .i64 (k : Int)] w fun e w' => TOut (k + 1) 11 bs o 0 w w' g A n c e := by
  have hg := hR.blk.lt
  have HG := Aside0.mk hg
  have HSW := Aside0.mk (swTwo hR (.cells #[.int .i64 0, .bool false, .int .i64 0, .int .u64 0, .slice none 0 0, .int .i64 0, .int .i64 0, .slice none 0 0, .slice none 0 0] 27) (.cells #[.int .i64 11, .bool false, .int .i64 0, .int .u64 0, .slice none 0 0, .int .i64 0, .int .i64 0, .slice none 0 0, .slice none 0 0] 27))
  have HTW := Aside0.mk (two0 w #[.int .i64 11, .bool false, .int .i64 0, .int .u64 0, .slice none 0 0, .int .i64 0, .int .i64 0, .slice none 0 0, .slice none 0 0])
  have HCW := Aside0.mk (Kd.C_alloc (Kd.C_alloc hC (.cells #[.int .i64 0, .bool false, .int .i64 0, .int .u64 0, .slice none 0 0, .int .i64 0, .int .i64 0, .slice none 0 0, .slice none 0 0] 27)) (.cells #[.int .i64 11, .bool false, .int .i64 0, .int .u64 0, .slice none 0 0, .int .i64 0, .int .i64 0, .slice none 0 0, .slice none 0 0] 27))
  have HAP := Aside0.mk hR.apart
  have HC0 := Aside0.mk hC
  clear hR hC
  go_enter Tryd.func39, Tryd.ntmps39
  go_upto_region 2 with (fail)
  generalize hW : World.alloc (World.alloc _ _) _ = W at HSW HTW HCW ⊢
  have HWS : Aside0 (W.heap.size = w.heap.size + 2) := ⟨by rw [← hW, allocSize, allocSize]⟩
  clear hW
  have d2 := HSW.out.rd.blk.cell (j := 2) rfl
  have qk : decide ((k : Int) < 0) = false := decide_eq_false (by omega)
  have hsz := size_calls g A n c o 0 bs 500 (by decide) W HSW.out.rd HCW.out hn hb
  rw [show ((500 : Nat) : Int) = 500 from rfl] at hsz
  have HSZ := Aside0.mk hsz
  have HBB := Aside0.mk hb
  have HTH := Aside0.mk hth
  clear hb hth hsz
  go_upto_region 32 with (first
    | (go_at_call 55; (with_reducible refine HSZ.out.mono ?_); rintro e w2 HQ; obtain ⟨m, o2, s2, rfl, hm, hd, hw⟩ := HQ.out; have HW2 := Aside0.mk hw; have HD2 := Aside0.mk hd; have HBY := Aside0.mk (byte_calls g A n c o2 s2 bs w2 hw.rd (grownC HCW.out hw.grown HAP.out) hn HBB.out); have HT2 := Aside0.mk (HTW.out.go hg hw); clear HQ hd hw))
  by_cases c0 : m = 0
  · subst c0
    have HDH := Aside0.mk (mh_none HD2.out)
    have hlc := list_calls g A n c bs k hk HTH.out (2 * 0) (by omega) 0 0 o2 s2 w2 HW2.out.rd (grownC HCW.out HW2.out.grown HAP.out)
    rw [show ((2 * 0 : Nat) : Int) = 0 from rfl] at hlc
    have HLC := Aside0.mk hlc
    have HS4 : Aside0 (w.heap.size + 2 ≤ w2.heap.size) := ⟨by have := HW2.out.grown.size; have := HWS.out; omega⟩
    have y5 := HT2.out.val.cell (j := 5) rfl
    have y6 := HT2.out.val.cell (j := 6) rfl
    clear hlc
    go_upto_region 38 with (first
      | (go_at_call 57; (with_reducible refine HLC.out.mono ?_); rintro e w5 HQ; obtain ⟨X, Al, cl, lcs, o5, s5, rfl, hXl, hLi, hXi, hd, hw⟩ := HQ.out; have HLI := Aside0.mk hLi; have HXI := Aside0.mk hXi; have HDF := Aside0.mk (map_does (k := k) HDH.out hd); have HW5 := Aside0.mk ((HSW.out.trans HW2.out).trans hw); have HT5 := Aside0.mk (HT2.out.go hg hw); have g7 := HT5.out.val.cell (j := 7) rfl; have gz := HT5.out.val.free 7; clear HQ hd hw hLi hXi))
    generalize hwz : World.setCell _ _ _ = wz
    have HTZ : Aside0 (TwoB w wz #[.int .i64 11, .bool false, .int .i64 0, .int .u64 0, .slice none 0 0, .int .i64 0, .int .i64 0, .slice Al X.len cl, .slice none 0 0]) := ⟨by rw [← hwz]; exact HT5.out.set 7 (.slice Al X.len cl) rfl⟩
    have HSF : Aside0 (SWent w wz g A n c o5 s5) := ⟨by rw [← hwz]; exact swFar HW5.out hg (by omega) 7 (.slice Al X.len cl)⟩
    have HIN : Aside0 (N.In flT wz (PnO 0 (some g) (w.heap.size + 2) wz.heap.size) ⟨⟨11, false, 0, 0, [], 0, 0⟩, X, .nil⟩ [.int .i64 11, .bool false, .int .i64 0, .int .u64 0, .slice none 0 0, .int .i64 0, .int .i64 0, .slice Al X.len cl, .slice none 0 0]) := ⟨by
      obtain ⟨h1, h2⟩ := lies_to (lo := w.heap.size + 2) HLI.out HXI.out HS4.out (by have := HS4.out; omega) hwz
      exact th_in ⟨11, false, 0, 0, [], 0, 0⟩ (bytesAt_nil _ _) h1 h2 (lies_nil _ _) rfl⟩
    clear hwz
    have HFIN := Aside0.mk (thing_fin hg HSF.out HDF.out HIN.out)
    obtain ⟨e0, e1, e2, e3, e4, e5, e6, e7, e8, ez⟩ := nine (HTZ.out).val
    obtain ⟨f0, f1, f2, f3, f4, f5, f6, f7, f8, fz⟩ := nine (HTZ.out).res
    have hne : w.heap.size ≠ w.heap.size + 1 := by omega
    have hne2 : w.heap.size + 1 ≠ w.heap.size := by omega
    have HBR := Aside0.mk (nineSet (HTZ.out).res (.int .i64 11) (.bool false) (.int .i64 0) (.int .u64 0) (.slice none 0 0) (.int .i64 0) (.int .i64 0) (.slice Al X.len cl) (.slice none 0 0))
    go_wp2_with (fail)
    refine bodyPost_ret (results_cell_row rfl _ _ w.heap.size 27 #[_, _, _, _, _, _, _, _, _] (0, 0) _ rfl HBR.out.out Tryd.underlying27 rfl (by kernel_rfl)) rfl ?_
    exact HFIN.out
  · have q0 : decide (0 < (m : Int)) = true := decide_eq_true (by omega)
    have q00 : decide (0 < m) = true := decide_eq_true (by omega)
    have HM0 := Aside0.mk c0
    clear c0
    go_upto_region 34 with (first
      | (go_at_call 52; (with_reducible refine HBY.out.mono ?_); rintro e w3 HQ; obtain ⟨v, o3, s3, rfl, hv, hd, hw⟩ := HQ.out; obtain ⟨y, rfl⟩ := Int.eq_ofNat_of_zero_le hv.1; have hy := hv.2; have HW3 := Aside0.mk (HW2.out.trans hw); have HD3 := Aside0.mk hd; have HE := Aside0.mk fun t => elem_calls g A n c o3 s3 bs t w3 hw.rd; have HT3 := Aside0.mk (HT2.out.go hg hw); clear HQ hd hw hv))
    have hy2 : y < 256 := by omega
    have hand := hand15 y hy2
    obtain ⟨q, hq⟩ : ∃ q, y / 16 = q := ⟨_, rfl⟩
    have qq : (y : Int) / 16 = (q : Int) := by omega
    have qwq : IntKind.i64.wrap (q : Int) = q := IntWalk.i64_in _ (by omega)
    obtain ⟨t, ht⟩ : ∃ t, y % 16 = t := ⟨_, rfl⟩
    rw [ht] at hand
    have qwt : IntKind.i64.wrap (t : Int) = t := IntWalk.i64_in _ (by omega)
    have HTT : Aside0 ((y : Int) % 16 = (t : Int)) := ⟨by omega⟩
    have HQQ : Aside0 ((y : Int) / 16 = (q : Int)) := ⟨qq⟩
    clear hy hy2 hq ht
    go_upto_region 35 with (first
      | (go_at_call 56; (with_reducible refine (HE.out _).mono ?_); rintro e w4 HQ; obtain ⟨v5, o4, s4, rfl, hv5, hd, hw⟩ := HQ.out; subst hv5; have HD4 : Aside0 (Does (elemP ((y : Int) / 16)) bs o3 s3 (q : Int) o4 s4) := ⟨by rw [HQQ.out]; exact hd⟩; have HW4 := Aside0.mk (HW3.out.trans hw); have HE4 := Aside0.mk fun t => elem_calls g A n c o4 s4 bs t w4 hw.rd; have HT4 := Aside0.mk (HT3.out.go hg hw); clear HE HQ hd hw)
      | (go_at_call 56; (with_reducible refine (HE4.out _).mono ?_); rintro e w6 HQ; obtain ⟨v5, o6, s6, rfl, hv5, hd, hw⟩ := HQ.out; subst hv5; have HD6 : Aside0 (Does (elemP ((y : Int) % 16)) bs o4 s4 (t : Int) o6 s6) := ⟨by rw [HTT.out]; exact hd⟩; have HW6 := Aside0.mk (HW4.out.trans hw); have HT6 := Aside0.mk (HT4.out.go hg hw); have g5 := HT6.out.val.cell (j := 5) rfl; have gz5 := HT6.out.val.free 5; have g6 := HT6.out.val.cell (j := 6) rfl; have gz := HT6.out.val.free 6; clear HQ hd hw))
    generalize hwy : World.setCell _ _ _ = wy
    have HTY : Aside0 (TwoB w wy #[.int .i64 11, .bool false, .int .i64 0, .int .u64 0, .slice none 0 0, .int .i64 (q : Int), .int .i64 (t : Int), .slice none 0 0, .slice none 0 0]) := ⟨by rw [← hwy]; exact (HT6.out.set 5 (.int .i64 (q : Int)) rfl).set 6 (.int .i64 (t : Int)) rfl⟩
    have HSY : Aside0 (SWent w wy g A n c o6 s6) := ⟨by rw [← hwy]; exact swFar (swFar (HSW.out.trans HW6.out) hg (by omega) 5 (.int .i64 (q : Int))) hg (by omega) 6 (.int .i64 (t : Int))⟩
    have HYS : Aside0 (w.heap.size + 2 ≤ wy.heap.size) := ⟨by have h1 := HW6.out.grown.size; have h2 := HWS.out; rw [← hwy]; simp only [World.setCell, Array.size_modify]; omega⟩
    have HCY : Aside0 ((Kd.int .u8).C wy A n bs) := ⟨grownC HC0.out HSY.out.grown HAP.out⟩
    have HS4 := HYS
    clear hwy g6 gz g5 gz5
    have y5 := HTY.out.val.cell (j := 5) rfl
    have y6 := HTY.out.val.cell (j := 6) rfl
    have HDH := Aside0.mk (mh_some HD2.out HM0.out HD3.out HD4.out HD6.out)
    have HLC := Aside0.mk (list_calls g A n c bs k hk HTH.out (2 * m) (by omega) (q : Int) (t : Int) o6 s6 wy HSY.out.rd HCY.out)
    have qm2 : IntKind.i64.wrap (2 * (m : Int)) = ((2 * m : Nat) : Int) := by rw [IntWalk.i64_in _ (by omega)]; push_cast; rfl
    have qm3 : (2 : Int) * (m : Int) = ((2 * m : Nat) : Int) := by push_cast; rfl
    obtain ⟨M, hM⟩ : ∃ M, 2 * m = M := ⟨_, rfl⟩
    rw [hM] at HLC qm2 qm3
    have hM9 : M ≤ 1000 := by omega
    have qMM : IntKind.i64.wrap (M : Int) = M := IntWalk.i64_in _ (by omega)
    have HMM := Aside0.mk hM
    clear hM
    go_upto_region 38 with (first
      | (go_at_call 57; (with_reducible refine HLC.out.mono ?_); rintro e w5 HQ; obtain ⟨X, Al, cl, lcs, o5, s5, rfl, hXl, hLi, hXi, hd, hw⟩ := HQ.out; rw [← HMM.out] at hd; have HLI := Aside0.mk hLi; have HXI := Aside0.mk hXi; have HDF := Aside0.mk (map_does (k := k) HDH.out hd); have HW5 := Aside0.mk (HSY.out.trans hw); have HT5 := Aside0.mk (HTY.out.go hg hw); have g7 := HT5.out.val.cell (j := 7) rfl; have gz := HT5.out.val.free 7; clear HQ hd hw hLi hXi))
    generalize hwz : World.setCell _ _ _ = wz
    have HTZ : Aside0 (TwoB w wz #[.int .i64 11, .bool false, .int .i64 0, .int .u64 0, .slice none 0 0, .int .i64 (q : Int), .int .i64 (t : Int), .slice Al X.len cl, .slice none 0 0]) := ⟨by rw [← hwz]; exact HT5.out.set 7 (.slice Al X.len cl) rfl⟩
    have HSF : Aside0 (SWent w wz g A n c o5 s5) := ⟨by rw [← hwz]; exact swFar HW5.out hg (by omega) 7 (.slice Al X.len cl)⟩
    have HIN : Aside0 (N.In flT wz (PnO 0 (some g) (w.heap.size + 2) wz.heap.size) ⟨⟨11, false, 0, 0, [], (q : Int), (t : Int)⟩, X, .nil⟩ [.int .i64 11, .bool false, .int .i64 0, .int .u64 0, .slice none 0 0, .int .i64 (q : Int), .int .i64 (t : Int), .slice Al X.len cl, .slice none 0 0]) := ⟨by
      obtain ⟨h1, h2⟩ := lies_to (lo := w.heap.size + 2) HLI.out HXI.out HS4.out (by have := HS4.out; omega) hwz
      exact th_in ⟨11, false, 0, 0, [], (q : Int), (t : Int)⟩ (bytesAt_nil _ _) h1 h2 (lies_nil _ _) rfl⟩
    clear hwz
    have HFIN := Aside0.mk (thing_fin hg HSF.out HDF.out HIN.out)
    obtain ⟨e0, e1, e2, e3, e4, e5, e6, e7, e8, ez⟩ := nine (HTZ.out).val
    obtain ⟨f0, f1, f2, f3, f4, f5, f6, f7, f8, fz⟩ := nine (HTZ.out).res
    have hne : w.heap.size ≠ w.heap.size + 1 := by omega
    have hne2 : w.heap.size + 1 ≠ w.heap.size := by omega
    have HBR := Aside0.mk (nineSet (HTZ.out).res (.int .i64 11) (.bool false) (.int .i64 0) (.int .u64 0) (.slice none 0 0) (.int .i64 (q : Int)) (.int .i64 (t : Int)) (.slice Al X.len cl) (.slice none 0 0))
    go_wp2_with (fail)
    refine bodyPost_ret (results_cell_row rfl _ _ w.heap.size 27 #[_, _, _, _, _, _, _, _, _] (0, 0) _ rfl HBR.out.out Tryd.underlying27 rfl (by kernel_rfl)) rfl ?_
    exact HFIN.out
set_option maxHeartbeats 8000000 in
set_option maxRecDepth 100000 in
theorem thing_12 (g : Nat) (A : Option Addr) (n c : Nat) (bs : List Int) (o : Nat) (k : Nat) (hk : k ≤ 100) (hth : TH g A n c bs k) (hn : n ≤ 2147483647) (hb : bytesB bs = true) (w : World) (hR : Sr w g A n c o 0) (hC : (Kd.int .u8).C w A n bs) :
    Calls Tryd.prog 39 #[gP g, .int .i64 12, .int .i64 (k : Int)] w fun e w' => TOut (k + 1) 12 bs o 0 w w' g A n c e := by
  have hg := hR.blk.lt
  have HG := Aside0.mk hg
  have HSW := Aside0.mk (swTwo hR (.cells #[.int .i64 0, .bool false, .int .i64 0, .int .u64 0, .slice none 0 0, .int .i64 0, .int .i64 0, .slice none 0 0, .slice none 0 0] 27) (.cells #[.int .i64 12, .bool false, .int .i64 0, .int .u64 0, .slice none 0 0, .int .i64 0, .int .i64 0, .slice none 0 0, .slice none 0 0] 27))
  have HTW := Aside0.mk (two0 w #[.int .i64 12, .bool false, .int .i64 0, .int .u64 0, .slice none 0 0, .int .i64 0, .int .i64 0, .slice none 0 0, .slice none 0 0])
  have HCW := Aside0.mk (Kd.C_alloc (Kd.C_alloc hC (.cells #[.int .i64 0, .bool false, .int .i64 0, .int .u64 0, .slice none 0 0, .int .i64 0, .int .i64 0, .slice none 0 0, .slice none 0 0] 27)) (.cells #[.int .i64 12, .bool false, .int .i64 0, .int .u64 0, .slice none 0 0, .int .i64 0, .int .i64 0, .slice none 0 0, .slice none 0 0] 27))
  have HAP := Aside0.mk hR.apart
  clear hR hC
  go_enter Tryd.func39, Tryd.ntmps39
  go_upto_region 2 with (fail)
  generalize hW : World.alloc (World.alloc _ _) _ = W at HSW HTW HCW ⊢
  have HWS : Aside0 (W.heap.size = w.heap.size + 2) := ⟨by rw [← hW, allocSize, allocSize]⟩
  clear hW
  have d2 := HSW.out.rd.blk.cell (j := 2) rfl
  have qk : decide ((k : Int) < 0) = false := decide_eq_false (by omega)
  have HFC := Aside0.mk (fields_calls g A n c bs k hk hth hn hb o 0 W HSW.out.rd HCW.out)
  clear hb hth
  go_upto_region 38 with (first
    | (go_at_call 58; (with_reducible refine HFC.out.mono ?_); rintro e w5 HQ; obtain ⟨X, Al, cl, lcs, o5, s5, rfl, hXl, hLi, hXi, hd, hw⟩ := HQ.out; have HLI := Aside0.mk hLi; have HXI := Aside0.mk hXi; have HDF := Aside0.mk (struct_does (k := k) hd); have HW5 := Aside0.mk (HSW.out.trans hw); have HT5 := Aside0.mk (HTW.out.go hg hw); have g8 := HT5.out.val.cell (j := 8) rfl; have gz := HT5.out.val.free 8; clear HQ hd hw hLi hXi))
  generalize hwz : World.setCell _ _ _ = wz
  have HTZ : Aside0 (TwoB w wz #[.int .i64 12, .bool false, .int .i64 0, .int .u64 0, .slice none 0 0, .int .i64 0, .int .i64 0, .slice none 0 0, .slice Al X.len cl]) := ⟨by rw [← hwz]; exact HT5.out.set 8 (.slice Al X.len cl) rfl⟩
  have HSF : Aside0 (SWent w wz g A n c o5 s5) := ⟨by rw [← hwz]; exact swFar HW5.out hg (by omega) 8 (.slice Al X.len cl)⟩
  have HIN : Aside0 (N.In flT wz (PnO 0 (some g) (w.heap.size + 2) wz.heap.size) ⟨⟨12, false, 0, 0, [], 0, 0⟩, .nil, X⟩ [.int .i64 12, .bool false, .int .i64 0, .int .u64 0, .slice none 0 0, .int .i64 0, .int .i64 0, .slice none 0 0, .slice Al X.len cl]) := ⟨by
    obtain ⟨h1, h2⟩ := lies_to (lo := w.heap.size + 2) HLI.out HXI.out (by have := HWS.out; omega) (by have := HWS.out; omega) hwz
    exact th_in ⟨12, false, 0, 0, [], 0, 0⟩ (bytesAt_nil _ _) (lies_nil _ _) rfl h1 h2⟩
  clear hwz
  have HFIN := Aside0.mk (thing_fin hg HSF.out HDF.out HIN.out)
  obtain ⟨e0, e1, e2, e3, e4, e5, e6, e7, e8, ez⟩ := nine (HTZ.out).val
  obtain ⟨f0, f1, f2, f3, f4, f5, f6, f7, f8, fz⟩ := nine (HTZ.out).res
  have hne : w.heap.size ≠ w.heap.size + 1 := by omega
  have hne2 : w.heap.size + 1 ≠ w.heap.size := by omega
  have HBR := Aside0.mk (nineSet (HTZ.out).res (.int .i64 12) (.bool false) (.int .i64 0) (.int .u64 0) (.slice none 0 0) (.int .i64 0) (.int .i64 0) (.slice none 0 0) (.slice Al X.len cl))
  go_wp2_with (fail)
  refine bodyPost_ret (results_cell_row rfl _ _ w.heap.size 27 #[_, _, _, _, _, _, _, _, _] (0, 0) _ rfl HBR.out.out Tryd.underlying27 rfl (by kernel_rfl)) rfl ?_
  exact HFIN.out
/-- the reader reads as the parser says -/
theorem th_all (g : Nat) (A : Option Addr) (n c : Nat) (bs : List Int) (hc : n ≤ c) (hn : n ≤ 2147483647) (hb : bytesB bs = true) : ∀ k, k ≤ 100 → TH g A n c bs k
  | 0, _ => ⟨fun ty o s w hR hC => thing_deep g A n c bs o s ty w hR hC⟩
  | k + 1, hk => ⟨fun ty o s w hR hC => by
    have ih := th_all g A n c bs hc hn hb k (by omega)
    rw [show ((k + 1 : Nat) : Int) - 1 = (k : Int) by omega]
    by_cases hs : s = 0
    · subst hs
      by_cases ht : 3 ≤ ty ∧ ty ≤ 12
      · have : ty = 3 ∨ ty = 4 ∨ ty = 5 ∨ ty = 6 ∨ ty = 7 ∨ ty = 8 ∨ ty = 9 ∨ ty = 10 ∨ ty = 11 ∨ ty = 12 := by omega
        rcases this with rfl | rfl | rfl | rfl | rfl | rfl | rfl | rfl | rfl | rfl
        · exact thing_3 g A n c bs o k hn hb w hR hC
        · exact thing_4 g A n c bs o k hn hb w hR hC
        · exact thing_5 g A n c bs o k hn hb w hR hC
        · exact thing_6 g A n c bs o k hn hb w hR hC
        · exact thing_7 g A n c bs o k hc hn hb w hR hC
        · exact thing_8 g A n c bs o k hc hn hb w hR hC
        · exact thing_9 g A n c bs o k (by omega) ih hn hb w hR hC
        · exact thing_10 g A n c bs o k (by omega) ih hn hb w hR hC
        · exact thing_11 g A n c bs o k (by omega) ih hn hb w hR hC
        · exact thing_12 g A n c bs o k (by omega) ih hn hb w hR hC
      · exact thing_other g A n c bs o k ty ht w hR hC
    · exact thing_dead g A n c bs o s k ty hs w hR hC⟩
end Go.Proofs.YtcboegodjlfmnaaDoor.Tsi
