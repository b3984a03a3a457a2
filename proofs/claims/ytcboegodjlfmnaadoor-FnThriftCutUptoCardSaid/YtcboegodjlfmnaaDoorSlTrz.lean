import Derived.Test.YtcboegodjlfmnaaDoorSlTpw
import Derived.Test.YtcboegodjlfmnaaDoorSlMtg
import Derived.Test.YtcboegodjlfmnaaDoorSlTzs
import Derived.Stop.LaidTwo
import Derived.LaidMore
import Derived.Stop.Joined
namespace Go.Proofs.YtcboegodjlfmnaaDoor.Trs
open Go.Proofs.YtcboegodjlfmnaaDoor.Tpw Go.Proofs.YtcboegodjlfmnaaDoor.Tpv Go.Proofs.YtcboegodjlfmnaaDoor.Tzm Go.Proofs.YtcboegodjlfmnaaDoor.Tzl Go.Proofs.YtcboegodjlfmnaaDoor.Trh Go.Proofs.YtcboegodjlfmnaaDoor.Trn Go.Proofs.YtcboegodjlfmnaaDoor.Trm Go.Proofs.YtcboegodjlfmnaaDoor.Tuv Go.Proofs.YtcboegodjlfmnaaDoor.Tpa Go.Proofs.YtcboegodjlfmnaaDoor.Duv Go.Proofs.YtcboegodjlfmnaaDoor.Dpu Go.Proofs.YtcboegodjlfmnaaDoor.Pak Go.Proofs.YtcboegodjlfmnaaDoor.Buf Go.Proofs.YtcboegodjlfmnaaDoor.Fit Go.Proofs.YtcboegodjlfmnaaDoor.Bit Go.Proofs.YtcboegodjlfmnaaDoor.Wrd Go.Proofs.YtcboegodjlfmnaaDoor.Spl Go.Proofs.YtcboegodjlfmnaaDoor.Str Go.Proofs.YtcboegodjlfmnaaDoor.Flt Go.Proofs.YtcboegodjlfmnaaDoor.Owe Go.Proofs.YtcboegodjlfmnaaDoor.Num Go.Proofs.YtcboegodjlfmnaaDoor.Le Go.Proofs.YtcboegodjlfmnaaDoor.Lst Go.Proofs.YtcboegodjlfmnaaDoor.Aid Go.RowKit Go.Proofs.YtcboegodjlfmnaaDoorW.PrintWords Go.Proofs.YtcboegodjlfmnaaDoorW.PrintLast Go.Proofs.YtcboegodjlfmnaaDoorW.PrintMore
set_option linter.unusedVariables false
set_option linter.unusedSimpArgs false
theorem below_res {w w1 : World} (h : Below w.heap.size w w1) (y0 y1 y2 y3 y4 y5 y6 y7 y8 : Value) : Below w.heap.size w (((((((((w1.setCell ⟨w.heap.size, 0, none⟩ y0).setCell ⟨w.heap.size, 1, none⟩ y1).setCell ⟨w.heap.size, 2, none⟩ y2).setCell ⟨w.heap.size, 3, none⟩ y3).setCell ⟨w.heap.size, 4, none⟩ y4).setCell ⟨w.heap.size, 5, none⟩ y5).setCell ⟨w.heap.size, 6, none⟩ y6).setCell ⟨w.heap.size, 7, none⟩ y7).setCell ⟨w.heap.size, 8, none⟩ y8) :=
  belowSets (Nat.le_refl _) h
end Go.Proofs.YtcboegodjlfmnaaDoor.Trs
namespace Go.Proofs.YtcboegodjlfmnaaDoor.Trt
open Go.Proofs.YtcboegodjlfmnaaDoor.Trs Go.Proofs.YtcboegodjlfmnaaDoor.Tpw Go.Proofs.YtcboegodjlfmnaaDoor.Tpv Go.Proofs.YtcboegodjlfmnaaDoor.Tzm Go.Proofs.YtcboegodjlfmnaaDoor.Tzl Go.Proofs.YtcboegodjlfmnaaDoor.Trh Go.Proofs.YtcboegodjlfmnaaDoor.Trn Go.Proofs.YtcboegodjlfmnaaDoor.Trm Go.Proofs.YtcboegodjlfmnaaDoor.Tuv Go.Proofs.YtcboegodjlfmnaaDoor.Tpa Go.Proofs.YtcboegodjlfmnaaDoor.Duv Go.Proofs.YtcboegodjlfmnaaDoor.Dpu Go.Proofs.YtcboegodjlfmnaaDoor.Pak Go.Proofs.YtcboegodjlfmnaaDoor.Buf Go.Proofs.YtcboegodjlfmnaaDoor.Fit Go.Proofs.YtcboegodjlfmnaaDoor.Bit Go.Proofs.YtcboegodjlfmnaaDoor.Wrd Go.Proofs.YtcboegodjlfmnaaDoor.Spl Go.Proofs.YtcboegodjlfmnaaDoor.Str Go.Proofs.YtcboegodjlfmnaaDoor.Flt Go.Proofs.YtcboegodjlfmnaaDoor.Owe Go.Proofs.YtcboegodjlfmnaaDoor.Num Go.Proofs.YtcboegodjlfmnaaDoor.Le Go.Proofs.YtcboegodjlfmnaaDoor.Lst Go.Proofs.YtcboegodjlfmnaaDoor.Aid Go.RowKit Go.Proofs.YtcboegodjlfmnaaDoorW.PrintWords Go.Proofs.YtcboegodjlfmnaaDoorW.PrintLast Go.Proofs.YtcboegodjlfmnaaDoorW.PrintMore
theorem in_res2 {w w1 : World} {Pb : Nat → Prop} {x : N} {cs : List Value} (h : x.In flT w1 Pb cs) (hp : ∀ b, Pb b → w.heap.size < b ∧ b < w1.heap.size) (y0 y1 y2 y3 y4 y5 y6 y7 y8 : Value) : x.In flT (((((((((w1.setCell ⟨w.heap.size, 0, none⟩ y0).setCell ⟨w.heap.size, 1, none⟩ y1).setCell ⟨w.heap.size, 2, none⟩ y2).setCell ⟨w.heap.size, 3, none⟩ y3).setCell ⟨w.heap.size, 4, none⟩ y4).setCell ⟨w.heap.size, 5, none⟩ y5).setCell ⟨w.heap.size, 6, none⟩ y6).setCell ⟨w.heap.size, 7, none⟩ y7).setCell ⟨w.heap.size, 8, none⟩ y8) (fun b => w.heap.size ≤ b ∧ b < (((((((((w1.setCell ⟨w.heap.size, 0, none⟩ y0).setCell ⟨w.heap.size, 1, none⟩ y1).setCell ⟨w.heap.size, 2, none⟩ y2).setCell ⟨w.heap.size, 3, none⟩ y3).setCell ⟨w.heap.size, 4, none⟩ y4).setCell ⟨w.heap.size, 5, none⟩ y5).setCell ⟨w.heap.size, 6, none⟩ y6).setCell ⟨w.heap.size, 7, none⟩ y7).setCell ⟨w.heap.size, 8, none⟩ y8).heap.size) cs := by
  refine h.move (fun b hb => Tzs.heapNine (by have := hp b hb; omega) _ _ _ _ _ _ _ _ _) (fun b hb => ?_)
  rw [Tzs.sizeNine]
  have := hp b hb
  exact ⟨by omega, this.2⟩
structure RtOutS (bs : List Int) (n : Nat) (R : Res N) (w w' : World) (e : Ending) : Prop where
  mk :: (ok : ∀ x r, R = .ok x r → ∃ (o' : Nat) (cs : List Value), r = bs.drop o' ∧ o' ≤ n ∧ e = .returned (.tuple #[.agg (List.toArray cs), .int .i64 (o' : Int), .bool true]) ∧ x.In flT w' (fun b => w.heap.size ≤ b ∧ b < w'.heap.size) cs) (cut : R = .cut → e = .returned (.tuple #[.agg #[.int .i64 0, .bool false, .int .i64 0, .int .u64 0, .slice none 0 0, .int .i64 0, .int .i64 0, .slice none 0 0, .slice none 0 0], .int .i64 0, .bool false])) (below : Below w.heap.size w w')
set_option maxHeartbeats 8000000 in
set_option maxRecDepth 100000 in
theorem readThing_callsS (A : Option Addr) (n c : Nat) (bs : List Int) (ty : Int) (p1 p2 : Addr) (w : World) (hC : (Kd.int .u8).C w A n bs) (hn : n ≤ 2147483647) (hb : bytesB bs = true) (hE : Tzv.E0 w p1 p2) (hty : -128 ≤ ty ∧ ty < 128) (hno : thP 7 ty bs ≠ .opn) :
    Calls Tryd.prog 13 #[.slice A n c, .int .i64 ty] w fun e w' => RtOutS bs n (thP 7 ty bs) w w' e := by
  have HBB := Aside0.mk hb
  have HNO := Aside0.mk hno
  have HLN : Aside0 (bs.length = n) := ⟨hC.1⟩
  have qty : IntKind.i8.wrap ty = ty := by rw [wrap_i8]; omega
  obtain ⟨W, hW⟩ : ∃ W, w.alloc (.cells #[.int .i64 0, .bool false, .int .i64 0, .int .u64 0, .slice none 0 0, .int .i64 0, .int .i64 0, .slice none 0 0, .slice none 0 0] 27) = W := ⟨_, rfl⟩
  have HWS : Aside0 (W.heap.size = w.heap.size + 1) := ⟨by rw [← hW, allocSize]⟩
  have HB0 : Aside0 (Blk W w.heap.size #[.int .i64 0, .bool false, .int .i64 0, .int .u64 0, .slice none 0 0, .int .i64 0, .int .i64 0, .slice none 0 0, .slice none 0 0] 27) := ⟨by rw [← hW]; exact Blk.new w _ _⟩
  have HBW : Aside0 (Below w.heap.size w W) := ⟨by rw [← hW]; exact (Below.refl _ _).alloc (Nat.le_refl _) _⟩
  have HCW : Aside0 ((Kd.int .u8).C (W.alloc (.cells #[] 5)) A n bs) := ⟨by rw [← hW]; exact Kd.C_alloc (Kd.C_alloc hC _) _⟩
  have HEW : Aside0 (Tzv.E0 W p1 p2) := ⟨hE.below fun b hb => HBW.out.block b hb⟩
  have HOE := Aside0.mk (Own.empty W W.heap.size 5 .u8 (Nat.le_refl _))
  have HBE : Aside0 (Below W.heap.size W (W.alloc (.cells #[] 5))) := ⟨(Below.refl _ _).alloc (Nat.le_refl _) _⟩
  have HTY := Aside0.mk hty
  clear hC hE hb hty hno
  have hst := fun (f : Nat) (a : Addr) (W : World) m => run_store Tryd.prog W a (.float .f64 f) m rfl
  obtain ⟨R, hR⟩ : ∃ R, thP 7 ty bs = R := ⟨_, rfl⟩
  have HRR := Aside0.mk hR
  have HNR : Aside0 (R ≠ .opn) := ⟨hR ▸ HNO.out⟩
  rw [hR]
  clear hR
  go_enter Tryd.func13, Tryd.ntmps13
  cases R with
  | opn => exact absurd rfl HNR.out
  | cut =>
    go_upto_region 1 with (fail)
    clear hW
    go_upto_region 3 with (first
      | (at_builtin; (refine appendRead (w0 := W) W.heap.size rfl (.tmp 11) (.tmp 12) 23 5 .u8 1 rfl Tryd.underlying23 infoU8 (by decide) _ [] A n c bs rfl rfl HOE.out HBE.out HBE.out.size HCW.out ?hl ?_); (case hl => simp; omega); intro v1 w1 ho hb1 hg1; rw [List.nil_append] at ho; obtain ⟨A1, c1, rfl, hc1, hr1⟩ := ho.read; rw [HLN.out] at hc1 hr1; rw [HLN.out]; have HB1 := Aside0.mk hb1; have HA1 : Aside0 (∀ a, A1 = some a → a.block < w1.heap.size) := ⟨fun a ha => (own_lt ho.out (by rw [ha]; rfl)).2⟩; have HE1 : Aside0 (Tzv.E0 w1 p1 p2) := ⟨HEW.out.below fun b hb => hb1.block b hb⟩; have HZT := Aside0.mk (Tzv.zzTop_calls A1 n c1 bs ty p1 p2 w1 hr1 HA1.out HE1.out (fun g p B0 hB => Tzz.zh g p A1 n c1 B0 p1 p2 bs hc1 hn HBB.out hB 7) HNO.out); clear ho hb1 hg1 hr1)
      | (go_at_call 26; (with_reducible refine HZT.out.mono ?_); rintro e w2 HQ; rw [HRR.out] at HQ; obtain ⟨cs2, q, m, ⟨a0, a1, a2, a3, A4, n4, k4, a5, a6, A7, n7, k7, A8, n8, k8, rfl⟩, rfl⟩ := HQ.cut rfl; have HB2 := Aside0.mk HQ.below; clear HQ))
    generalize hw3 : World.alloc _ _ = w3
    have HBL : Aside0 (Below W.heap.size W w3) := ⟨by rw [← hw3]; exact (HB1.out.trans (HB2.out.mono HB1.out.size)).alloc (by have := HB1.out.size; have := HB2.out.size; omega) _⟩
    have HB3 := Aside0.mk (HB0.out.below HBL.out (by have := HWS.out; omega))
    have HBX : Aside0 (Below w.heap.size w w3) := ⟨HBW.out.trans (HBL.out.mono HBW.out.size)⟩
    clear hw3
    obtain ⟨f0, f1, f2, f3, f4, f5, f6, f7, f8, fz⟩ := nine HB3.out
    have HFIN : Aside0 (RtOutS bs n .cut w _ (.returned (.tuple #[.agg #[.int .i64 0, .bool false, .int .i64 0, .int .u64 0, .slice none 0 0, .int .i64 0, .int .i64 0, .slice none 0 0, .slice none 0 0], .int .i64 0, .bool false]))) := ⟨(fun x r h => nomatch h), fun _ => rfl, below_res HBX.out (.int .i64 0) (.bool false) (.int .i64 0) (.int .u64 0) (.slice none 0 0) (.int .i64 0) (.int .i64 0) (.slice none 0 0) (.slice none 0 0)⟩
    have HBR := Aside0.mk (nineSet HB3.out (.int .i64 0) (.bool false) (.int .i64 0) (.int .u64 0) (.slice none 0 0) (.int .i64 0) (.int .i64 0) (.slice none 0 0) (.slice none 0 0))
    go_wp2_with (fail)
    refine bodyPost_ret (Tzv.ret_cell_tmp2 rfl _ _ w.heap.size 27 #[_, _, _, _, _, _, _, _, _] (0, 0) _ rfl HBR.out.out Tryd.underlying27 rfl (by kernel_rfl)) rfl ?_
    exact HFIN.out
  | ok x r =>
    go_upto_region 1 with (fail)
    clear hW
    go_upto_region 4 with (first
      | (at_builtin; (refine appendRead (w0 := W) W.heap.size rfl (.tmp 11) (.tmp 12) 23 5 .u8 1 rfl Tryd.underlying23 infoU8 (by decide) _ [] A n c bs rfl rfl HOE.out HBE.out HBE.out.size HCW.out ?hl ?_); (case hl => simp; omega); intro v1 w1 ho hb1 hg1; rw [List.nil_append] at ho; obtain ⟨A1, c1, rfl, hc1, hr1⟩ := ho.read; rw [HLN.out] at hc1 hr1; rw [HLN.out]; have HB1 := Aside0.mk hb1; have HA1 : Aside0 (∀ a, A1 = some a → a.block < w1.heap.size) := ⟨fun a ha => (own_lt ho.out (by rw [ha]; rfl)).2⟩; have HE1 : Aside0 (Tzv.E0 w1 p1 p2) := ⟨HEW.out.below fun b hb => hb1.block b hb⟩; have HZT := Aside0.mk (Tzv.zzTop_calls A1 n c1 bs ty p1 p2 w1 hr1 HA1.out HE1.out (fun g p B0 hB => Tzz.zh g p A1 n c1 B0 p1 p2 bs hc1 hn HBB.out hB 7) HNO.out); clear ho hb1 hg1 hr1)
      | (go_at_call 26; (with_reducible refine HZT.out.mono ?_); rintro e w2 HQ; rw [HRR.out] at HQ; obtain ⟨o2, xcs, hr, ho2, rfl, hxin⟩ := HQ.ok x r rfl; have HRD := Aside0.mk hr; have HXI := Aside0.mk hxin; obtain ⟨A4, n4, k4, A7, n7, k7, A8, n8, k8, hxe⟩ := openV hxin; have HXE := Aside0.mk hxe; rw [hxe]; have HB2 := Aside0.mk HQ.below; clear HQ hr hxin hxe))
    have HXI3 : Aside0 (x.In flV (w2.alloc (.cells #[.int .i8 x.d.ty, .bool x.d.bo, .int .i64 x.d.n, .float .f64 x.d.bits, .slice A4 n4 k4, .int .i8 x.d.ky, .int .i8 x.d.el, .slice A7 n7 k7, .slice A8 n8 k8] 60)) (fun b => b < (w2.alloc (.cells #[.int .i8 x.d.ty, .bool x.d.bo, .int .i64 x.d.n, .float .f64 x.d.bits, .slice A4 n4 k4, .int .i8 x.d.ky, .int .i8 x.d.el, .slice A7 n7 k7, .slice A8 n8 k8] 60)).heap.size) [.int .i8 x.d.ty, .bool x.d.bo, .int .i64 x.d.n, .float .f64 x.d.bits, .slice A4 n4 k4, .int .i8 x.d.ky, .int .i8 x.d.el, .slice A7 n7 k7, .slice A8 n8 k8]) := ⟨by have h := HXI.out; rw [HXE.out] at h; exact h.move (fun b hb => Below.heap_alloc _ _ b hb) (fun b hb => by rw [allocSize]; exact Nat.lt_succ_of_lt hb)⟩
    have HV3 := Aside0.mk (Blk.new w2 #[.int .i8 x.d.ty, .bool x.d.bo, .int .i64 x.d.n, .float .f64 x.d.bits, .slice A4 n4 k4, .int .i8 x.d.ky, .int .i8 x.d.el, .slice A7 n7 k7, .slice A8 n8 k8] 60)
    have HBL : Aside0 (Below W.heap.size W (w2.alloc (.cells #[.int .i8 x.d.ty, .bool x.d.bo, .int .i64 x.d.n, .float .f64 x.d.bits, .slice A4 n4 k4, .int .i8 x.d.ky, .int .i8 x.d.el, .slice A7 n7 k7, .slice A8 n8 k8] 60))) := ⟨(HB1.out.trans (HB2.out.mono HB1.out.size)).alloc (by have := HB1.out.size; have := HB2.out.size; omega) _⟩
    generalize hw3 : World.alloc _ _ = w3 at HXI3 HV3 HBL ⊢
    have HB3 := Aside0.mk (HB0.out.below HBL.out (by have := HWS.out; omega))
    have HBX : Aside0 (Below w.heap.size w w3) := ⟨HBW.out.trans (HBL.out.mono HBW.out.size)⟩
    have HPV := Aside0.mk (Tpw.pv_all x (Tpw.th_wf 7 ty bs x r HRR.out HBB.out) w3 _ HXI3.out)
    clear hw3
    obtain ⟨e0, e1, e2, e3, e4, e5, e6, e7, e8, ez⟩ := nine HV3.out
    obtain ⟨b2, hb2⟩ : ∃ b, w2.heap.size = b := ⟨_, rfl⟩
    rw [hb2] at e0 e1 e2 e3 e4 e5 e6 e7 e8 ⊢
    clear hb2 ez
    go_wp2_with (first
      | (go_at_call 27; (with_reducible refine HPV.out.mono ?_); rintro e w5 HP5; obtain ⟨ycs, rfl, hyin⟩ := HP5.out; obtain ⟨B5, m5, j5, B7, m7, j7, B8, m8, j8, hye⟩ := openT hyin; rw [hye] at hyin; rw [hye]; have HYI := Aside0.mk hyin; have HBP := Aside0.mk HP5.below; have HB5 := Aside0.mk (HB3.out.below HP5.below HB3.out.lt); obtain ⟨f0, f1, f2, f3, f4, f5, f6, f7, f8, fz⟩ := nine HB5.out; clear HP5 hyin hye))
    have HFIN : Aside0 (RtOutS bs n (.ok x r) w _ (.returned (.tuple #[.agg #[.int .i64 x.d.ty, .bool x.d.bo, .int .i64 x.d.n, .int .u64 (x.d.bits : Int), .slice B5 m5 j5, .int .i64 x.d.ky, .int .i64 x.d.el, .slice B7 m7 j7, .slice B8 m8 j8], .int .i64 (o2 : Int), .bool true]))) := ⟨fun y r' h => by
      obtain ⟨rfl, rfl⟩ := Res.ok.inj h
      refine ⟨o2, [.int .i64 x.d.ty, .bool x.d.bo, .int .i64 x.d.n, .int .u64 (x.d.bits : Int), .slice B5 m5 j5, .int .i64 x.d.ky, .int .i64 x.d.el, .slice B7 m7 j7, .slice B8 m8 j8], HRD.out, ho2, rfl, in_res2 (w := w) (w1 := w5) HYI.out ?_ (.int .i64 x.d.ty) (.bool x.d.bo) (.int .i64 x.d.n) (.int .u64 (x.d.bits : Int)) (.slice B5 m5 j5) (.int .i64 x.d.ky) (.int .i64 x.d.el) (.slice B7 m7 j7) (.slice B8 m8 j8)⟩
      rintro b (⟨h1, _⟩ | ⟨h1, h2⟩)
      · exact absurd h1 (Nat.not_lt_zero _)
      · exact ⟨by have := HBX.out.size; have := HBL.out.size; have := HWS.out; omega, h2⟩, (fun h => nomatch h), below_res (HBX.out.trans (HBP.out.mono HBX.out.size)) (.int .i64 x.d.ty) (.bool x.d.bo) (.int .i64 x.d.n) (.int .u64 (x.d.bits : Int)) (.slice B5 m5 j5) (.int .i64 x.d.ky) (.int .i64 x.d.el) (.slice B7 m7 j7) (.slice B8 m8 j8)⟩
    have HBR := Aside0.mk (nineSet HB5.out (.int .i64 x.d.ty) (.bool x.d.bo) (.int .i64 x.d.n) (.int .u64 (x.d.bits : Int)) (.slice B5 m5 j5) (.int .i64 x.d.ky) (.int .i64 x.d.el) (.slice B7 m7 j7) (.slice B8 m8 j8))
    refine bodyPost_ret (Tzv.ret_cell_tmp2 rfl _ _ w.heap.size 27 #[_, _, _, _, _, _, _, _, _] (0, 0) _ rfl HBR.out.out Tryd.underlying27 rfl (by kernel_rfl)) rfl ?_
    exact HFIN.out
end Go.Proofs.YtcboegodjlfmnaaDoor.Trt
namespace Go.Proofs.YtcboegodjlfmnaaDoor.Tla
open Go.Proofs.YtcboegodjlfmnaaDoor.Trt Go.Proofs.YtcboegodjlfmnaaDoor.Trs Go.Proofs.YtcboegodjlfmnaaDoor.Tpv Go.Proofs.YtcboegodjlfmnaaDoor.Tzm Go.Proofs.YtcboegodjlfmnaaDoor.Tzl Go.Proofs.YtcboegodjlfmnaaDoor.Trh Go.Proofs.YtcboegodjlfmnaaDoor.Trn Go.Proofs.YtcboegodjlfmnaaDoor.Trm Go.Proofs.YtcboegodjlfmnaaDoor.Tuv Go.Proofs.YtcboegodjlfmnaaDoor.Tpa Go.Proofs.YtcboegodjlfmnaaDoor.Duv Go.Proofs.YtcboegodjlfmnaaDoor.Dpu Go.Proofs.YtcboegodjlfmnaaDoor.Pak Go.Proofs.YtcboegodjlfmnaaDoor.Buf Go.Proofs.YtcboegodjlfmnaaDoor.Fit Go.Proofs.YtcboegodjlfmnaaDoor.Bit Go.Proofs.YtcboegodjlfmnaaDoor.Wrd Go.Proofs.YtcboegodjlfmnaaDoor.Spl Go.Proofs.YtcboegodjlfmnaaDoor.Str Go.Proofs.YtcboegodjlfmnaaDoor.Flt Go.Proofs.YtcboegodjlfmnaaDoor.Owe Go.Proofs.YtcboegodjlfmnaaDoor.Num Go.Proofs.YtcboegodjlfmnaaDoor.Le Go.Proofs.YtcboegodjlfmnaaDoor.Lst Go.Proofs.YtcboegodjlfmnaaDoor.Aid Go.RowKit Go.Proofs.YtcboegodjlfmnaaDoorW.PrintWords Go.Proofs.YtcboegodjlfmnaaDoorW.PrintLast Go.Proofs.YtcboegodjlfmnaaDoorW.PrintMore
theorem esRow (u : TypeId) (h : Tryd.prog.typeName? 3 u = some "*errors.errorString") : u = 167 :=
  typeName_ptr_named (P := Tryd.prog) (nm := "errors.errorString") (by kernel_rfl) (by kernel_rfl) (by decide) u h
theorem e0_of_laid {W : World} (h : laidMetH Tryd.prog [("io.EOF", .iface "*errors.errorString" (.ptr (.agg [.lit (.string [69, 79, 70])]))), ("io.ErrUnexpectedEOF", .iface "*errors.errorString" (.ptr (.agg [.lit (.string [117, 110, 101, 120, 112, 101, 99, 116, 101, 100, 32, 69, 79, 70])])))] W) : ∃ p1 p2, Tzv.E0 W p1 p2 := by
  rw [MakeChecks.laidMetH_plain _ _ _ (by kernel_rfl)] at h
  have g0 : Tryd.prog.globalNamed "io.EOF" = some 1 := by kernel_rfl
  have g1 : Tryd.prog.globalNamed "io.ErrUnexpectedEOF" = some 2 := by kernel_rfl
  obtain ⟨f, hf, hf0, hft⟩ : ∃ f : Field, Tryd.prog.underlying 169 = some (.struct #[f]) ∧ f.offset = 0 ∧ f.type = 9 := ⟨_, Tryd.underlying169, rfl, rfl⟩
  obtain ⟨a0, a1, s0, s1, c0, c1, t0, t1, hv0, hv1, hc0, hs0, hz0, hc1, hs1, hz1, hne, hb0, hb1⟩ := laid_sentinels2 h g0 (by kernel_rfl) g1 (by kernel_rfl) tyE esRow esPtr hf hft hf0 Tryd.underlying9 (by kernel_rfl) (by kernel_rfl)
  exact ⟨a0, a1, by simpa using World.var?_cell g0 hv0 0, by simpa using World.var?_cell g1 hv1 0, hne, ⟨c0, t0, hb0⟩, ⟨c1, t1, hb1⟩⟩
end Go.Proofs.YtcboegodjlfmnaaDoor.Tla
