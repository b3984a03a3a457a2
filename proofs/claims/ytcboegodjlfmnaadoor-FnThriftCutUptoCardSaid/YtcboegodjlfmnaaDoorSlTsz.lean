import Derived.Test.YtcboegodjlfmnaaDoorSlTpw
namespace Go.Proofs.YtcboegodjlfmnaaDoor.Tsm
open Go.Proofs.YtcboegodjlfmnaaDoor.Tpv Go.Proofs.YtcboegodjlfmnaaDoor.Tzm Go.Proofs.YtcboegodjlfmnaaDoor.Tzl Go.Proofs.YtcboegodjlfmnaaDoor.Trh Go.Proofs.YtcboegodjlfmnaaDoor.Trn Go.Proofs.YtcboegodjlfmnaaDoor.Trm Go.Proofs.YtcboegodjlfmnaaDoor.Tuv Go.Proofs.YtcboegodjlfmnaaDoor.Tpa Go.Proofs.YtcboegodjlfmnaaDoor.Duv Go.Proofs.YtcboegodjlfmnaaDoor.Dpu Go.Proofs.YtcboegodjlfmnaaDoor.Pak Go.Proofs.YtcboegodjlfmnaaDoor.Buf Go.Proofs.YtcboegodjlfmnaaDoor.Fit Go.Proofs.YtcboegodjlfmnaaDoor.Bit Go.Proofs.YtcboegodjlfmnaaDoor.Wrd Go.Proofs.YtcboegodjlfmnaaDoor.Spl Go.Proofs.YtcboegodjlfmnaaDoor.Str Go.Proofs.YtcboegodjlfmnaaDoor.Flt Go.Proofs.YtcboegodjlfmnaaDoor.Owe Go.Proofs.YtcboegodjlfmnaaDoor.Num Go.Proofs.YtcboegodjlfmnaaDoor.Le Go.Proofs.YtcboegodjlfmnaaDoor.Lst Go.Proofs.YtcboegodjlfmnaaDoor.Aid Go.RowKit Go.Proofs.YtcboegodjlfmnaaDoorW.PrintWords Go.Proofs.YtcboegodjlfmnaaDoorW.PrintLast Go.Proofs.YtcboegodjlfmnaaDoorW.PrintMore
set_option linter.unusedVariables false
set_option linter.unusedSimpArgs false
structure Tct (w : World) (Pb : Nat → Prop) (x : N) (cs : List Value) : Prop where
  mk :: (out : ∃ (A1 : Option Addr) (A1c : Nat) (A2 : Option Addr) (A2c : Nat) (A3 : Option Addr) (A3c : Nat) (lcs fcs : List Value), cs = [.int .i64 x.d.ty, .bool x.d.bo, .int .i64 x.d.n, .int .u64 (x.d.bits : Int), .slice A1 x.d.bs.length A1c, .int .i64 x.d.ky, .int .i64 x.d.el, .slice A2 x.ls.len A2c, .slice A3 x.fs.len A3c] ∧ (Kd.int .u8).C w A1 x.d.bs.length x.d.bs ∧ x.d.bs.length ≤ A1c ∧
    (lcs ≠ [] → ∃ ad, A2 = some ad ∧ Pb ad.block ∧ ∀ j u, lcs[j]? = some u → w.cell? (ad.add j) = some u) ∧ x.ls.In flT w Pb false lcs ∧
    (fcs ≠ [] → ∃ ad, A3 = some ad ∧ Pb ad.block ∧ ∀ j u, fcs[j]? = some u → w.cell? (ad.add j) = some u) ∧ x.fs.In flT w Pb true fcs ∧ x.ls.len ≤ A2c ∧ x.fs.len ≤ A3c)
theorem tct {w : World} {Pb : Nat → Prop} {x : N} {cs : List Value} (h : x.In flT w Pb cs) : Tct w Pb x cs := by
  obtain ⟨bsv, lsv, fsv, lcs, fcs, e, hb, hl, hli, hf, hfi⟩ := h.out
  obtain ⟨A1, c1, rfl, hc1, hC, _, _⟩ := hb.out
  obtain ⟨A2, c2, rfl, hc2, hL⟩ := hl.out
  obtain ⟨A3, c3, rfl, hc3, hF⟩ := hf.out
  exact ⟨⟨A1, c1, A2, c2, A3, c3, lcs, fcs, e, hC, hc1, hL, hli, hF, hfi, hc2, hc3⟩⟩
def Sm (x : N) : Prop := NWf x → ∀ (w : World) (cs ds : List Value), x.In flT w (fun b => b < w.heap.size) cs → x.In flT w (fun b => b < w.heap.size) ds → Calls Tryd.prog 28 #[.agg cs.toArray, .agg ds.toArray] w fun e w' => e = .returned (.bool true) ∧ Below w.heap.size w w'
set_option maxHeartbeats 16000000 in
set_option maxRecDepth 100000 in
theorem same_thing (x : N) (ihl : F.all Sm x.ls) (ihf : F.all Sm x.fs) : Sm x := by
  intro hwf w cs ds hin1 hin2
  obtain ⟨A1, A1c, A2, A2c, A3, A3c, lcs, fcs, hcs, hC1, hA1c, hL1, hLi1, hF1, hFi1, hA2c, hA3c⟩ := (tct hin1).out
  obtain ⟨E1, E1c, E2, E2c, E3, E3c, les, fes, hds, hC2, hE1c, hL2, hLi2, hF2, hFi2, hE2c, hE3c⟩ := (tct hin2).out
  subst hcs hds
  have HWF := Aside0.mk hwf
  have HIL := Aside0.mk ihl
  have HIF := Aside0.mk ihf
  have HL1 := Aside0.mk hL1
  have HLi1 := Aside0.mk hLi1
  have HF1 := Aside0.mk hF1
  have HFi1 := Aside0.mk hFi1
  have HL2 := Aside0.mk hL2
  have HLi2 := Aside0.mk hLi2
  have HF2 := Aside0.mk hF2
  have HFi2 := Aside0.mk hFi2
  have hln := hwf.nl
  have hfn := hwf.nf
  have HSM : Aside0 (Calls Tryd.prog 30 #[.slice A1 x.d.bs.length A1c, .slice E1 x.d.bs.length E1c] ((w.alloc (.cells #[.int .i64 x.d.ty, .bool x.d.bo, .int .i64 x.d.n, .int .u64 (x.d.bits : Int), .slice A1 x.d.bs.length A1c, .int .i64 x.d.ky, .int .i64 x.d.el, .slice A2 x.ls.len A2c, .slice A3 x.fs.len A3c] 27)).alloc (.cells #[.int .i64 x.d.ty, .bool x.d.bo, .int .i64 x.d.n, .int .u64 (x.d.bits : Int), .slice E1 x.d.bs.length E1c, .int .i64 x.d.ky, .int .i64 x.d.el, .slice E2 x.ls.len E2c, .slice E3 x.fs.len E3c] 27)) fun e w' => e = .returned (.bool true) ∧ Drawn0 ((w.alloc (.cells #[.int .i64 x.d.ty, .bool x.d.bo, .int .i64 x.d.n, .int .u64 (x.d.bits : Int), .slice A1 x.d.bs.length A1c, .int .i64 x.d.ky, .int .i64 x.d.el, .slice A2 x.ls.len A2c, .slice A3 x.fs.len A3c] 27)).alloc (.cells #[.int .i64 x.d.ty, .bool x.d.bo, .int .i64 x.d.n, .int .u64 (x.d.bits : Int), .slice E1 x.d.bs.length E1c, .int .i64 x.d.ky, .int .i64 x.d.el, .slice E2 x.ls.len E2c, .slice E3 x.fs.len E3c] 27)) w') := ⟨same_calls A1 E1 x.d.bs.length A1c E1c x.d.bs _ (Kd.C_alloc (Kd.C_alloc hC1 _) _) (Kd.C_alloc (Kd.C_alloc hC2 _) _)⟩
  have HBW : Aside0 (Below w.heap.size w ((w.alloc (.cells #[.int .i64 x.d.ty, .bool x.d.bo, .int .i64 x.d.n, .int .u64 (x.d.bits : Int), .slice A1 x.d.bs.length A1c, .int .i64 x.d.ky, .int .i64 x.d.el, .slice A2 x.ls.len A2c, .slice A3 x.fs.len A3c] 27)).alloc (.cells #[.int .i64 x.d.ty, .bool x.d.bo, .int .i64 x.d.n, .int .u64 (x.d.bits : Int), .slice E1 x.d.bs.length E1c, .int .i64 x.d.ky, .int .i64 x.d.el, .slice E2 x.ls.len E2c, .slice E3 x.fs.len E3c] 27))) := ⟨((Below.refl _ _).alloc (Nat.le_refl _) _).alloc (by rw [allocSize]; omega) _⟩
  have HV1 : Aside0 (Blk ((w.alloc (.cells #[.int .i64 x.d.ty, .bool x.d.bo, .int .i64 x.d.n, .int .u64 (x.d.bits : Int), .slice A1 x.d.bs.length A1c, .int .i64 x.d.ky, .int .i64 x.d.el, .slice A2 x.ls.len A2c, .slice A3 x.fs.len A3c] 27)).alloc (.cells #[.int .i64 x.d.ty, .bool x.d.bo, .int .i64 x.d.n, .int .u64 (x.d.bits : Int), .slice E1 x.d.bs.length E1c, .int .i64 x.d.ky, .int .i64 x.d.el, .slice E2 x.ls.len E2c, .slice E3 x.fs.len E3c] 27)) w.heap.size #[.int .i64 x.d.ty, .bool x.d.bo, .int .i64 x.d.n, .int .u64 (x.d.bits : Int), .slice A1 x.d.bs.length A1c, .int .i64 x.d.ky, .int .i64 x.d.el, .slice A2 x.ls.len A2c, .slice A3 x.fs.len A3c] 27) := ⟨(Blk.new w _ _).alloc _⟩
  have HV2 : Aside0 (Blk ((w.alloc (.cells #[.int .i64 x.d.ty, .bool x.d.bo, .int .i64 x.d.n, .int .u64 (x.d.bits : Int), .slice A1 x.d.bs.length A1c, .int .i64 x.d.ky, .int .i64 x.d.el, .slice A2 x.ls.len A2c, .slice A3 x.fs.len A3c] 27)).alloc (.cells #[.int .i64 x.d.ty, .bool x.d.bo, .int .i64 x.d.n, .int .u64 (x.d.bits : Int), .slice E1 x.d.bs.length E1c, .int .i64 x.d.ky, .int .i64 x.d.el, .slice E2 x.ls.len E2c, .slice E3 x.fs.len E3c] 27)) (w.heap.size + 1) #[.int .i64 x.d.ty, .bool x.d.bo, .int .i64 x.d.n, .int .u64 (x.d.bits : Int), .slice E1 x.d.bs.length E1c, .int .i64 x.d.ky, .int .i64 x.d.el, .slice E2 x.ls.len E2c, .slice E3 x.fs.len E3c] 27) := ⟨by have h := Blk.new (w.alloc (.cells #[.int .i64 x.d.ty, .bool x.d.bo, .int .i64 x.d.n, .int .u64 (x.d.bits : Int), .slice A1 x.d.bs.length A1c, .int .i64 x.d.ky, .int .i64 x.d.el, .slice A2 x.ls.len A2c, .slice A3 x.fs.len A3c] 27)) #[.int .i64 x.d.ty, .bool x.d.bo, .int .i64 x.d.n, .int .u64 (x.d.bits : Int), .slice E1 x.d.bs.length E1c, .int .i64 x.d.ky, .int .i64 x.d.el, .slice E2 x.ls.len E2c, .slice E3 x.fs.len E3c] 27; rw [allocSize] at h; exact h⟩
  have HWS : Aside0 (((w.alloc (.cells #[.int .i64 x.d.ty, .bool x.d.bo, .int .i64 x.d.n, .int .u64 (x.d.bits : Int), .slice A1 x.d.bs.length A1c, .int .i64 x.d.ky, .int .i64 x.d.el, .slice A2 x.ls.len A2c, .slice A3 x.fs.len A3c] 27)).alloc (.cells #[.int .i64 x.d.ty, .bool x.d.bo, .int .i64 x.d.n, .int .u64 (x.d.bits : Int), .slice E1 x.d.bs.length E1c, .int .i64 x.d.ky, .int .i64 x.d.el, .slice E2 x.ls.len E2c, .slice E3 x.fs.len E3c] 27)).heap.size = w.heap.size + 2) := ⟨by rw [allocSize, allocSize]⟩
  clear hwf ihl ihf hin1 hin2 hC1 hC2 hL1 hLi1 hF1 hFi1 hL2 hLi2 hF2 hFi2
  go_enter Tryd.func28, Tryd.ntmps28
  go_upto_region 1 with (fail)
  generalize hW : World.alloc (World.alloc _ _) _ = W at HSM HBW HV1 HV2 HWS ⊢
  clear hW
  obtain ⟨q0, q1, q2, q3, q4, q5, q6, q7, q8, qz⟩ := nine HV1.out
  obtain ⟨p0, p1, p2, p3, p4, p5, p6, p7, p8, pz⟩ := nine HV2.out
  obtain ⟨L, hL⟩ : ∃ L, x.ls.len = L := ⟨_, rfl⟩
  obtain ⟨K, hK⟩ : ∃ K, x.fs.len = K := ⟨_, rfl⟩
  obtain ⟨B, hB⟩ : ∃ B, x.d.bs.length = B := ⟨_, rfl⟩
  have b0 : (x.d.ty == x.d.ty) = true := by simp
  have b1 : (x.d.bo == x.d.bo) = true := by simp
  have b2 : (x.d.n == x.d.n) = true := by simp
  have b3 : ((x.d.bits : Int) == (x.d.bits : Int)) = true := by simp
  have b4 : (x.d.ky == x.d.ky) = true := by simp
  have b5 : (x.d.el == x.d.el) = true := by simp
  have b6 : ((x.ls.len : Int) == (x.ls.len : Int)) = true := by simp
  have b7 : ((x.fs.len : Int) == (x.fs.len : Int)) = true := by simp
  have HBX := HBW
  clear hL hK hB L K B
  go_wp2_with (first
    | (go_at_call 30; (with_reducible refine HSM.out.mono ?_); rintro e w2 ⟨rfl, ⟨⟨nd, rfl⟩⟩⟩))
  go_loopg [5, 77] x.ls.len (fun kq v5 v77 w' => ∃ (i : Nat) (G : F) (gc1 gc2 pr1 pr2 : List Value), i ≤ x.ls.len ∧ v77 = .int .i64 i ∧ Aside0 (G.len + i = x.ls.len) ∧ Aside0 (lcs = pr1 ++ gc1) ∧ Aside0 (pr1.length = i * 9) ∧ Aside0 (les = pr2 ++ gc2) ∧ Aside0 (pr2.length = i * 9) ∧ Aside0 (G.In flT w (fun b => b < w.heap.size) false gc1) ∧ Aside0 (G.In flT w (fun b => b < w.heap.size) false gc2) ∧ Aside0 (F.all Sm G) ∧ Aside0 (F.wf G) ∧ Aside0 (Below w.heap.size w w') ∧ Aside0 (Blk w' w.heap.size #[.int .i64 x.d.ty, .bool x.d.bo, .int .i64 x.d.n, .int .u64 (x.d.bits : Int), .slice A1 x.d.bs.length A1c, .int .i64 x.d.ky, .int .i64 x.d.el, .slice A2 x.ls.len A2c, .slice A3 x.fs.len A3c] 27) ∧ Aside0 (Blk w' (w.heap.size + 1) #[.int .i64 x.d.ty, .bool x.d.bo, .int .i64 x.d.n, .int .u64 (x.d.bits : Int), .slice E1 x.d.bs.length E1c, .int .i64 x.d.ky, .int .i64 x.d.el, .slice E2 x.ls.len E2c, .slice E3 x.fs.len E3c] 27) ∧ Aside0 (x.ls.len - i ≤ kq))
  case atStart => exact ⟨0, x.ls, lcs, les, [], [], Nat.zero_le _, rfl, ⟨rfl⟩, ⟨rfl⟩, ⟨by simp⟩, ⟨rfl⟩, ⟨by simp⟩, HLi1, HLi2, HIL, ⟨HWF.out.ls⟩, ⟨HBW.out.trans ((drewN_below W nd).mono HBW.out.size)⟩, ⟨HV1.out.drewN nd⟩, ⟨HV2.out.drewN nd⟩, ⟨by omega⟩⟩
  case round =>
    clear q0 q1 q2 q3 q4 q5 q6 q7 q8 qz p0 p1 p2 p3 p4 p5 p6 p7 p8 pz HSM
    obtain ⟨i, G, gc1, gc2, pr1, pr2, hi, rfl, HGl, HLE, HPR, HLE2, HPR2, HGI, HGI2, HGA, HGW, HBr, HVB, HVE, HK⟩ := hrel
    obtain ⟨q0, q1, q2, q3, q4, q5, q6, q7, q8, qz⟩ := nine HVB.out
    obtain ⟨p0, p1, p2, p3, p4, p5, p6, p7, p8, pz⟩ := nine HVE.out
    by_cases ci : i < x.ls.len
    · have ct : decide ((i : Int) < (x.ls.len : Nat)) = true := decide_eq_true (by omega)
      cases G with
      | nil => exact absurd HGl.out (by show ¬ (0 + i = _); omega)
      | cons d id ls fs tl =>
        obtain ⟨bsv, lsv, fsv, l1, f1, t1, g1, g2, g3, g4, g5, g6, g7⟩ := HGI.out
        obtain ⟨bsv', lsv', fsv', l2, f2, t2, h1, h2, h3, h4, h5, h6, h7⟩ := HGI2.out
        have hy1 : N.In flT w (fun b => b < w.heap.size) ⟨d, ls, fs⟩ (nodeC flT d bsv lsv fsv) := ⟨⟨bsv, lsv, fsv, l1, f1, rfl, g2, g3, g4, g5, g6⟩⟩
        have hy2 : N.In flT w (fun b => b < w.heap.size) ⟨d, ls, fs⟩ (nodeC flT d bsv' lsv' fsv') := ⟨⟨bsv', lsv', fsv', l2, f2, rfl, h2, h3, h4, h5, h6⟩⟩
        obtain ⟨X4, Xn4, Xk4, X7, Xn7, Xk7, X8, Xn8, Xk8, hcs⟩ := openT hy1
        obtain ⟨Y4, Yn4, Yk4, Y7, Yn7, Yk7, Y8, Yn8, Yk8, hds⟩ := openT hy2
        rw [hcs] at hy1 g1
        rw [hds] at hy2 h1
        obtain ⟨ad, hA2, hadl, hcell⟩ := HL1.out (by rw [HLE.out, g1]; simp)
        obtain ⟨ae, hE2, hael, hcele⟩ := HL2.out (by rw [HLE2.out, h1]; simp)
        subst hA2 hE2
        have hrow := rowCell hcell HLE.out HPR.out
        have hroe := rowCell hcele HLE2.out HPR2.out
        obtain ⟨z0, z1, z2, z3, z4, z5, z6, z7, z8⟩ := nineRow (w := wr) (ad := ad) (k := i * 9) (rest := t1) (fun q u hq => (World.cell?_of_block (by rw [add_block]; exact HBr.out.block _ hadl)).trans (hrow q u hq)) g1
        obtain ⟨y0, y1, y2, y3, y4, y5, y6, y7, y8⟩ := nineRow (w := wr) (ad := ae) (k := i * 9) (rest := t2) (fun q u hq => (World.cell?_of_block (by rw [add_block]; exact HBr.out.block _ hael)).trans (hroe q u hq)) h1
        have HYP := Aside0.mk (HGA.out.1 ⟨HGW.out.1, HGW.out.2.2.2.1, HGW.out.2.2.2.2.1, HGW.out.2.2.2.2.2.1, HGW.out.2.2.2.2.2.2.1⟩ wr.drew _ _ (hy1.move (Pc := fun b => b < wr.drew.heap.size) (fun b hb => show wr.heap[b]? = _ from HBr.out.block b hb) (fun b hb => Nat.lt_of_lt_of_le hb HBr.out.size)) (hy2.move (Pc := fun b => b < wr.drew.heap.size) (fun b hb => show wr.heap[b]? = _ from HBr.out.block b hb) (fun b hb => Nat.lt_of_lt_of_le hb HBr.out.size)))
        have HG7 := Aside0.mk g7
        have HH7 := Aside0.mk h7
        have HL9 : Aside0 (lcs = pr1 ++ ([.int .i64 d.ty, .bool d.bo, .int .i64 d.n, .int .u64 (d.bits : Int), .slice X4 Xn4 Xk4, .int .i64 d.ky, .int .i64 d.el, .slice X7 Xn7 Xk7, .slice X8 Xn8 Xk8] ++ t1)) := ⟨by rw [HLE.out, g1]; rfl⟩
        have HE9 : Aside0 (les = pr2 ++ ([.int .i64 d.ty, .bool d.bo, .int .i64 d.n, .int .u64 (d.bits : Int), .slice Y4 Yn4 Yk4, .int .i64 d.ky, .int .i64 d.el, .slice Y7 Yn7 Yk7, .slice Y8 Yn8 Yk8] ++ t2)) := ⟨by rw [HLE2.out, h1]; rfl⟩
        have hi9 : i < 1000 := by omega
        have qi1 : ((i : Int) < (x.ls.len : Int)) = True := eq_true (by omega)
        have qi2 : (i < x.ls.len) = True := eq_true ci
        have qi0 : (0 ≤ (i : Int)) = True := eq_true (by omega)
        have HCI := Aside0.mk ci
        clear g1 g2 g3 g4 g5 g6 g7 h1 h2 h3 h4 h5 h6 h7 hy1 hy2 hrow hroe hcell hcele hcs hds ci
        have HSX : Aside0 (∀ V : World, Below wr.heap.size wr V → V.cell? ⟨w.heap.size, 7, none⟩ = some (.slice (some ad) x.ls.len A2c) ∧ V.cell? ⟨w.heap.size + 1, 7, none⟩ = some (.slice (some ae) x.ls.len E2c) ∧ V.cell? (ad.add (i * 9)) = some (.int .i64 d.ty) ∧ V.cell? ⟨(ad.add (i * 9)).block, (ad.add (i * 9)).off + 1, none⟩ = some (.bool d.bo) ∧ V.cell? ⟨(ad.add (i * 9)).block, (ad.add (i * 9)).off + 2, none⟩ = some (.int .i64 d.n) ∧ V.cell? ⟨(ad.add (i * 9)).block, (ad.add (i * 9)).off + 3, none⟩ = some (.int .u64 (d.bits : Int)) ∧ V.cell? ⟨(ad.add (i * 9)).block, (ad.add (i * 9)).off + 4, none⟩ = some (.slice X4 Xn4 Xk4) ∧ V.cell? ⟨(ad.add (i * 9)).block, (ad.add (i * 9)).off + 5, none⟩ = some (.int .i64 d.ky) ∧ V.cell? ⟨(ad.add (i * 9)).block, (ad.add (i * 9)).off + 6, none⟩ = some (.int .i64 d.el) ∧ V.cell? ⟨(ad.add (i * 9)).block, (ad.add (i * 9)).off + 7, none⟩ = some (.slice X7 Xn7 Xk7) ∧ V.cell? ⟨(ad.add (i * 9)).block, (ad.add (i * 9)).off + 8, none⟩ = some (.slice X8 Xn8 Xk8) ∧ V.cell? (ae.add (i * 9)) = some (.int .i64 d.ty) ∧ V.cell? ⟨(ae.add (i * 9)).block, (ae.add (i * 9)).off + 1, none⟩ = some (.bool d.bo) ∧ V.cell? ⟨(ae.add (i * 9)).block, (ae.add (i * 9)).off + 2, none⟩ = some (.int .i64 d.n) ∧ V.cell? ⟨(ae.add (i * 9)).block, (ae.add (i * 9)).off + 3, none⟩ = some (.int .u64 (d.bits : Int)) ∧ V.cell? ⟨(ae.add (i * 9)).block, (ae.add (i * 9)).off + 4, none⟩ = some (.slice Y4 Yn4 Yk4) ∧ V.cell? ⟨(ae.add (i * 9)).block, (ae.add (i * 9)).off + 5, none⟩ = some (.int .i64 d.ky) ∧ V.cell? ⟨(ae.add (i * 9)).block, (ae.add (i * 9)).off + 6, none⟩ = some (.int .i64 d.el) ∧ V.cell? ⟨(ae.add (i * 9)).block, (ae.add (i * 9)).off + 7, none⟩ = some (.slice Y7 Yn7 Yk7) ∧ V.cell? ⟨(ae.add (i * 9)).block, (ae.add (i * 9)).off + 8, none⟩ = some (.slice Y8 Yn8 Yk8)) := ⟨fun V hV => by
          have hk : ∀ a v, wr.cell? a = some v → V.cell? a = some v := fun a v h => (hV.cell (block_lt_of_cell h)).trans h
          exact ⟨hk _ _ q7, hk _ _ p7, hk _ _ z0, hk _ _ z1, hk _ _ z2, hk _ _ z3, hk _ _ z4, hk _ _ z5, hk _ _ z6, hk _ _ z7, hk _ _ z8, hk _ _ y0, hk _ _ y1, hk _ _ y2, hk _ _ y3, hk _ _ y4, hk _ _ y5, hk _ _ y6, hk _ _ y7, hk _ _ y8⟩⟩
        go_wp2_with (fail)
        go_region_held3 (fun (V : World) => V.cell? ⟨w.heap.size, 7, none⟩ = some (.slice (some ad) x.ls.len A2c) ∧ V.cell? ⟨w.heap.size + 1, 7, none⟩ = some (.slice (some ae) x.ls.len E2c) ∧ V.cell? (ad.add (i * 9)) = some (.int .i64 d.ty) ∧ V.cell? ⟨(ad.add (i * 9)).block, (ad.add (i * 9)).off + 1, none⟩ = some (.bool d.bo) ∧ V.cell? ⟨(ad.add (i * 9)).block, (ad.add (i * 9)).off + 2, none⟩ = some (.int .i64 d.n) ∧ V.cell? ⟨(ad.add (i * 9)).block, (ad.add (i * 9)).off + 3, none⟩ = some (.int .u64 (d.bits : Int)) ∧ V.cell? ⟨(ad.add (i * 9)).block, (ad.add (i * 9)).off + 4, none⟩ = some (.slice X4 Xn4 Xk4) ∧ V.cell? ⟨(ad.add (i * 9)).block, (ad.add (i * 9)).off + 5, none⟩ = some (.int .i64 d.ky) ∧ V.cell? ⟨(ad.add (i * 9)).block, (ad.add (i * 9)).off + 6, none⟩ = some (.int .i64 d.el) ∧ V.cell? ⟨(ad.add (i * 9)).block, (ad.add (i * 9)).off + 7, none⟩ = some (.slice X7 Xn7 Xk7) ∧ V.cell? ⟨(ad.add (i * 9)).block, (ad.add (i * 9)).off + 8, none⟩ = some (.slice X8 Xn8 Xk8) ∧ V.cell? (ae.add (i * 9)) = some (.int .i64 d.ty) ∧ V.cell? ⟨(ae.add (i * 9)).block, (ae.add (i * 9)).off + 1, none⟩ = some (.bool d.bo) ∧ V.cell? ⟨(ae.add (i * 9)).block, (ae.add (i * 9)).off + 2, none⟩ = some (.int .i64 d.n) ∧ V.cell? ⟨(ae.add (i * 9)).block, (ae.add (i * 9)).off + 3, none⟩ = some (.int .u64 (d.bits : Int)) ∧ V.cell? ⟨(ae.add (i * 9)).block, (ae.add (i * 9)).off + 4, none⟩ = some (.slice Y4 Yn4 Yk4) ∧ V.cell? ⟨(ae.add (i * 9)).block, (ae.add (i * 9)).off + 5, none⟩ = some (.int .i64 d.ky) ∧ V.cell? ⟨(ae.add (i * 9)).block, (ae.add (i * 9)).off + 6, none⟩ = some (.int .i64 d.el) ∧ V.cell? ⟨(ae.add (i * 9)).block, (ae.add (i * 9)).off + 7, none⟩ = some (.slice Y7 Yn7 Yk7) ∧ V.cell? ⟨(ae.add (i * 9)).block, (ae.add (i * 9)).off + 8, none⟩ = some (.slice Y8 Yn8 Yk8))
          (first
            | with_reducible exact HK5.out
            | with_reducible exact HSX.out _ (Tzv.belowDrew (Below.refl _ _)))
          ((first
            | (go_at_call 28; (with_reducible refine HYP.out.mono ?_); rintro e w5 ⟨rfl, hb5⟩; have HB5 := Aside0.mk hb5; have HK5 := Aside0.mk (HSX.out w5 ((Tzv.belowDrew (Below.refl _ _)).trans hb5)); clear hb5)
            | fail "no arm"))
        all_goals go_wp2_with (fail)
        all_goals go_roundg (gk - 1)
        all_goals first
          | (have := HK.out; have := HCI.out; omega)
          | (refine ⟨i + 1, tl, t1, t2, pr1 ++ [.int .i64 d.ty, .bool d.bo, .int .i64 d.n, .int .u64 (d.bits : Int), .slice X4 Xn4 Xk4, .int .i64 d.ky, .int .i64 d.el, .slice X7 Xn7 Xk7, .slice X8 Xn8 Xk8], pr2 ++ [.int .i64 d.ty, .bool d.bo, .int .i64 d.n, .int .u64 (d.bits : Int), .slice Y4 Yn4 Yk4, .int .i64 d.ky, .int .i64 d.el, .slice Y7 Yn7 Yk7, .slice Y8 Yn8 Yk8], HCI.out, by go_num, ⟨by have := HGl.out; have : (F.cons d id ls fs tl).len = tl.len + 1 := rfl; omega⟩, ⟨by rw [HL9.out, List.append_assoc]⟩, ⟨by rw [List.length_append, HPR.out]; show i * 9 + 9 = (i + 1) * 9; omega⟩, ⟨by rw [HE9.out, List.append_assoc]⟩, ⟨by rw [List.length_append, HPR2.out]; show i * 9 + 9 = (i + 1) * 9; omega⟩, HG7, HH7, ⟨HGA.out.2⟩, ⟨HGW.out.2.2.2.2.2.2.2⟩, ⟨HBr.out.trans ((Tzv.belowDrew (Below.refl _ _)).trans HB5.out |>.mono HBr.out.size)⟩, ⟨HVB.out.drew.below HB5.out HVB.out.lt⟩, ⟨HVE.out.drew.below HB5.out HVE.out.lt⟩, ⟨by have := HK.out; omega⟩⟩)
    · have hin : i = x.ls.len := by omega
      subst hin
      have ct : decide (((x.ls.len : Nat) : Int) < (x.ls.len : Nat)) = false := decide_eq_false (by omega)
      clear HGl HLE HPR HLE2 HPR2 HGI HGI2 HGA HGW HK ci hi
      have HBs := HBr
      have HVB1 := HVB
      have HVE1 := HVE
      clear HBr HVB HVE
      go_wp2_with (fail)
      go_loopg [6, 7, 96] x.fs.len (fun kq v6 v7 v96 w' => ∃ (i : Nat) (G : F) (gc1 gc2 pr1 pr2 : List Value), i ≤ x.fs.len ∧ v96 = .int .i64 i ∧ Aside0 (G.len + i = x.fs.len) ∧ Aside0 (fcs = pr1 ++ gc1) ∧ Aside0 (pr1.length = i * 10) ∧ Aside0 (fes = pr2 ++ gc2) ∧ Aside0 (pr2.length = i * 10) ∧ Aside0 (G.In flT w (fun b => b < w.heap.size) true gc1) ∧ Aside0 (G.In flT w (fun b => b < w.heap.size) true gc2) ∧ Aside0 (F.all Sm G) ∧ Aside0 (F.wf G) ∧ Aside0 (Below w.heap.size w w') ∧ Aside0 (Blk w' w.heap.size #[.int .i64 x.d.ty, .bool x.d.bo, .int .i64 x.d.n, .int .u64 (x.d.bits : Int), .slice A1 x.d.bs.length A1c, .int .i64 x.d.ky, .int .i64 x.d.el, .slice A2 x.ls.len A2c, .slice A3 x.fs.len A3c] 27) ∧ Aside0 (Blk w' (w.heap.size + 1) #[.int .i64 x.d.ty, .bool x.d.bo, .int .i64 x.d.n, .int .u64 (x.d.bits : Int), .slice E1 x.d.bs.length E1c, .int .i64 x.d.ky, .int .i64 x.d.el, .slice E2 x.ls.len E2c, .slice E3 x.fs.len E3c] 27) ∧ Aside0 (x.fs.len - i ≤ kq))
      case atStart => exact ⟨0, x.fs, fcs, fes, [], [], Nat.zero_le _, rfl, ⟨rfl⟩, ⟨rfl⟩, ⟨by simp⟩, ⟨rfl⟩, ⟨by simp⟩, HFi1, HFi2, HIF, ⟨HWF.out.fs⟩, HBs, HVB1, HVE1, ⟨by omega⟩⟩
      case round =>
        clear q0 q1 q2 q3 q4 q5 q6 q7 q8 qz p0 p1 p2 p3 p4 p5 p6 p7 p8 pz
        obtain ⟨i, G, gc1, gc2, pr1, pr2, hi, rfl, HGl, HLE, HPR, HLE2, HPR2, HGI, HGI2, HGA, HGW, HBr, HVB, HVE, HK⟩ := hrel
        obtain ⟨q0, q1, q2, q3, q4, q5, q6, q7, q8, qz⟩ := nine HVB.out
        obtain ⟨p0, p1, p2, p3, p4, p5, p6, p7, p8, pz⟩ := nine HVE.out
        by_cases ci : i < x.fs.len
        · have ct : decide ((i : Int) < (x.fs.len : Nat)) = true := decide_eq_true (by omega)
          cases G with
          | nil => exact absurd HGl.out (by show ¬ (0 + i = _); omega)
          | cons d id ls fs tl =>
            obtain ⟨bsv, lsv, fsv, l1, f1, t1, g1, g2, g3, g4, g5, g6, g7⟩ := HGI.out
            obtain ⟨bsv', lsv', fsv', l2, f2, t2, h1, h2, h3, h4, h5, h6, h7⟩ := HGI2.out
            have hy1 : N.In flT w (fun b => b < w.heap.size) ⟨d, ls, fs⟩ (nodeC flT d bsv lsv fsv) := ⟨⟨bsv, lsv, fsv, l1, f1, rfl, g2, g3, g4, g5, g6⟩⟩
            have hy2 : N.In flT w (fun b => b < w.heap.size) ⟨d, ls, fs⟩ (nodeC flT d bsv' lsv' fsv') := ⟨⟨bsv', lsv', fsv', l2, f2, rfl, h2, h3, h4, h5, h6⟩⟩
            obtain ⟨X4, Xn4, Xk4, X7, Xn7, Xk7, X8, Xn8, Xk8, hcs⟩ := openT hy1
            obtain ⟨Y4, Yn4, Yk4, Y7, Yn7, Yk7, Y8, Yn8, Yk8, hds⟩ := openT hy2
            rw [hcs] at hy1 g1
            rw [hds] at hy2 h1
            obtain ⟨ad, hA2, hadl, hcell⟩ := HF1.out (by rw [HLE.out, g1]; simp)
            obtain ⟨ae, hE2, hael, hcele⟩ := HF2.out (by rw [HLE2.out, h1]; simp)
            subst hA2 hE2
            have hrow := rowCell hcell HLE.out HPR.out
            have hroe := rowCell hcele HLE2.out HPR2.out
            obtain ⟨z0, z1, z2, z3, z4, z5, z6, z7, z8, z9⟩ := tenRow (w := wr) (a0 := .int .i64 id) (ad := ad) (k := i * 10) (rest := t1) (fun q u hq => (World.cell?_of_block (by rw [add_block]; exact HBr.out.block _ hadl)).trans (hrow q u hq)) g1
            have hbr2 : Below w.heap.size w (wr.alloc (.cells #[.int .i64 id, .int .i64 d.ty, .bool d.bo, .int .i64 d.n, .int .u64 (d.bits : Int), .slice X4 Xn4 Xk4, .int .i64 d.ky, .int .i64 d.el, .slice X7 Xn7 Xk7, .slice X8 Xn8 Xk8] 48)) := HBr.out.alloc HBr.out.size _
            have HYP := Aside0.mk (HGA.out.1 ⟨HGW.out.1, HGW.out.2.2.2.1, HGW.out.2.2.2.2.1, HGW.out.2.2.2.2.2.1, HGW.out.2.2.2.2.2.2.1⟩ (wr.alloc (.cells #[.int .i64 id, .int .i64 d.ty, .bool d.bo, .int .i64 d.n, .int .u64 (d.bits : Int), .slice X4 Xn4 Xk4, .int .i64 d.ky, .int .i64 d.el, .slice X7 Xn7 Xk7, .slice X8 Xn8 Xk8] 48)).drew _ _ (hy1.move (Pc := fun b => b < (wr.alloc (.cells #[.int .i64 id, .int .i64 d.ty, .bool d.bo, .int .i64 d.n, .int .u64 (d.bits : Int), .slice X4 Xn4 Xk4, .int .i64 d.ky, .int .i64 d.el, .slice X7 Xn7 Xk7, .slice X8 Xn8 Xk8] 48)).drew.heap.size) (fun b hb => show (wr.alloc _).heap[b]? = _ from hbr2.block b hb) (fun b hb => Nat.lt_of_lt_of_le hb hbr2.size)) (hy2.move (Pc := fun b => b < (wr.alloc (.cells #[.int .i64 id, .int .i64 d.ty, .bool d.bo, .int .i64 d.n, .int .u64 (d.bits : Int), .slice X4 Xn4 Xk4, .int .i64 d.ky, .int .i64 d.el, .slice X7 Xn7 Xk7, .slice X8 Xn8 Xk8] 48)).drew.heap.size) (fun b hb => show (wr.alloc _).heap[b]? = _ from hbr2.block b hb) (fun b hb => Nat.lt_of_lt_of_le hb hbr2.size)))
            have HG7 := Aside0.mk g7
            have HH7 := Aside0.mk h7
            have HL9 : Aside0 (fcs = pr1 ++ ([.int .i64 id, .int .i64 d.ty, .bool d.bo, .int .i64 d.n, .int .u64 (d.bits : Int), .slice X4 Xn4 Xk4, .int .i64 d.ky, .int .i64 d.el, .slice X7 Xn7 Xk7, .slice X8 Xn8 Xk8] ++ t1)) := ⟨by rw [HLE.out, g1]; rfl⟩
            have HE9 : Aside0 (fes = pr2 ++ ([.int .i64 id, .int .i64 d.ty, .bool d.bo, .int .i64 d.n, .int .u64 (d.bits : Int), .slice Y4 Yn4 Yk4, .int .i64 d.ky, .int .i64 d.el, .slice Y7 Yn7 Yk7, .slice Y8 Yn8 Yk8] ++ t2)) := ⟨by rw [HLE2.out, h1]; rfl⟩
            have hi9 : i < 1001 := by omega
            have qi1 : ((i : Int) < (x.fs.len : Int)) = True := eq_true (by omega)
            have qi2 : (i < x.fs.len) = True := eq_true ci
            have qi0 : (0 ≤ (i : Int)) = True := eq_true (by omega)
            have HCI := Aside0.mk ci
            have bid : (id == id) = true := by simp
            go_upto_region 12 with (fail)
            have HV2 := Aside0.mk (HVE.out.alloc (.cells #[.int .i64 id, .int .i64 d.ty, .bool d.bo, .int .i64 d.n, .int .u64 (d.bits : Int), .slice X4 Xn4 Xk4, .int .i64 d.ky, .int .i64 d.el, .slice X7 Xn7 Xk7, .slice X8 Xn8 Xk8] 48))
            have HVA := Aside0.mk (HVB.out.alloc (.cells #[.int .i64 id, .int .i64 d.ty, .bool d.bo, .int .i64 d.n, .int .u64 (d.bits : Int), .slice X4 Xn4 Xk4, .int .i64 d.ky, .int .i64 d.el, .slice X7 Xn7 Xk7, .slice X8 Xn8 Xk8] 48))
            have HPN := Aside0.mk (Blk.new wr #[.int .i64 id, .int .i64 d.ty, .bool d.bo, .int .i64 d.n, .int .u64 (d.bits : Int), .slice X4 Xn4 Xk4, .int .i64 d.ky, .int .i64 d.el, .slice X7 Xn7 Xk7, .slice X8 Xn8 Xk8] 48)
            have HB7 := Aside0.mk hbr2
            obtain ⟨y0, y1, y2, y3, y4, y5, y6, y7, y8, y9⟩ := tenRow (w := wr.alloc (.cells #[.int .i64 id, .int .i64 d.ty, .bool d.bo, .int .i64 d.n, .int .u64 (d.bits : Int), .slice X4 Xn4 Xk4, .int .i64 d.ky, .int .i64 d.el, .slice X7 Xn7 Xk7, .slice X8 Xn8 Xk8] 48)) (a0 := .int .i64 id) (ad := ae) (k := i * 10) (rest := t2) (fun q u hq => (World.cell?_of_block (by rw [add_block]; exact hbr2.block _ hael)).trans (hroe q u hq)) h1
            clear g1 g2 g3 g4 g5 g6 g7 h1 h2 h3 h4 h5 h6 h7 hy1 hy2 hrow hroe hcell hcele hcs hds ci z0 z1 z2 z3 z4 z5 z6 z7 z8 z9 hbr2
            generalize hw7 : World.alloc _ _ = w7 at HYP HV2 HVA HPN HB7 y0 y1 y2 y3 y4 y5 y6 y7 y8 y9 ⊢
            clear hw7
            obtain ⟨u0, u1, u2, u3, u4, u5, u6, u7, u8, u9, uz⟩ := ten HPN.out
            have v8 := HV2.out.cell (j := 8) rfl
            go_region_law ((first
              | (go_simp; go_at_call 28; (with_reducible refine HYP.out.mono ?_); rintro e w5 ⟨rfl, hb5⟩; have HB5 := Aside0.mk hb5; clear hb5; dsimp only)
              | fail "no arm"))
            all_goals go_wp2_with (fail)
            all_goals go_roundg (gk - 1)
            all_goals first
              | (have := HK.out; have := HCI.out; omega)
              | (refine ⟨i + 1, tl, t1, t2, pr1 ++ [.int .i64 id, .int .i64 d.ty, .bool d.bo, .int .i64 d.n, .int .u64 (d.bits : Int), .slice X4 Xn4 Xk4, .int .i64 d.ky, .int .i64 d.el, .slice X7 Xn7 Xk7, .slice X8 Xn8 Xk8], pr2 ++ [.int .i64 id, .int .i64 d.ty, .bool d.bo, .int .i64 d.n, .int .u64 (d.bits : Int), .slice Y4 Yn4 Yk4, .int .i64 d.ky, .int .i64 d.el, .slice Y7 Yn7 Yk7, .slice Y8 Yn8 Yk8], HCI.out, by go_num, ⟨by have := HGl.out; have : (F.cons d id ls fs tl).len = tl.len + 1 := rfl; omega⟩, ⟨by rw [HL9.out, List.append_assoc]⟩, ⟨by rw [List.length_append, HPR.out]; show i * 10 + 10 = (i + 1) * 10; omega⟩, ⟨by rw [HE9.out, List.append_assoc]⟩, ⟨by rw [List.length_append, HPR2.out]; show i * 10 + 10 = (i + 1) * 10; omega⟩, HG7, HH7, ⟨HGA.out.2⟩, ⟨HGW.out.2.2.2.2.2.2.2⟩, ⟨HB7.out.trans ((Tzv.belowDrew (Below.refl _ _)).trans HB5.out |>.mono HB7.out.size)⟩, ⟨HVA.out.drew.below HB5.out HVA.out.lt⟩, ⟨HV2.out.drew.below HB5.out HV2.out.lt⟩, ⟨by have := HK.out; omega⟩⟩)
        · have hin : i = x.fs.len := by omega
          subst hin
          have ct2 : decide (((x.fs.len : Nat) : Int) < (x.fs.len : Nat)) = false := decide_eq_false (by omega)
          clear HGl HLE HPR HLE2 HPR2 HGI HGI2 HGA HGW HK ci hi
          go_wp2_with (fail)
          go_ret
          exact ⟨rfl, HBr.out⟩
theorem same_all (x : N) : Sm x := same_thing x (F.induct same_thing x.ls) (F.induct same_thing x.fs)
end Go.Proofs.YtcboegodjlfmnaaDoor.Tsm
