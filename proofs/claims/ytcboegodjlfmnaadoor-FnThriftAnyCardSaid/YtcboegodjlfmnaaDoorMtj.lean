import Derived.Test.YtcboegodjlfmnaaDoorMti
import Derived.Test.YtcboegodjlfmnaaDoorMtg
import Derived.Stop.LaidTwo
import Derived.LaidMore
import Derived.Lib.SlBytesConst
import Derived.Stop.Joined
/-! spec.ReadsThing: what is said of bytes. -/
namespace Go.Proofs.YtcboegodjlfmnaaDoor.Trs
open Go.Proofs.YtcboegodjlfmnaaDoor.Tsi Go.Proofs.YtcboegodjlfmnaaDoor.Tsh Go.Proofs.YtcboegodjlfmnaaDoor.Tsg Go.Proofs.YtcboegodjlfmnaaDoor.Tsf Go.Proofs.YtcboegodjlfmnaaDoor.Tse Go.Proofs.YtcboegodjlfmnaaDoor.Tsd Go.Proofs.YtcboegodjlfmnaaDoor.Tpv Go.Proofs.YtcboegodjlfmnaaDoor.Tsc Go.Proofs.YtcboegodjlfmnaaDoor.Tsb Go.Proofs.YtcboegodjlfmnaaDoor.Tzm Go.Proofs.YtcboegodjlfmnaaDoor.Tzl Go.Proofs.YtcboegodjlfmnaaDoor.Trh Go.Proofs.YtcboegodjlfmnaaDoor.Trn Go.Proofs.YtcboegodjlfmnaaDoor.Trm Go.Proofs.YtcboegodjlfmnaaDoor.Tuv Go.Proofs.YtcboegodjlfmnaaDoor.Tpa Go.Proofs.YtcboegodjlfmnaaDoor.Duv Go.Proofs.YtcboegodjlfmnaaDoor.Dpu Go.Proofs.YtcboegodjlfmnaaDoor.Pak Go.Proofs.YtcboegodjlfmnaaDoor.Buf Go.Proofs.YtcboegodjlfmnaaDoor.Fit Go.Proofs.YtcboegodjlfmnaaDoor.Bit Go.Proofs.YtcboegodjlfmnaaDoor.Wrd Go.Proofs.YtcboegodjlfmnaaDoor.Spl Go.Proofs.YtcboegodjlfmnaaDoor.Str Go.Proofs.YtcboegodjlfmnaaDoor.Flt Go.Proofs.YtcboegodjlfmnaaDoor.Owe Go.Proofs.YtcboegodjlfmnaaDoor.Num Go.Proofs.YtcboegodjlfmnaaDoor.Le Go.Proofs.YtcboegodjlfmnaaDoor.Lst Go.Proofs.YtcboegodjlfmnaaDoor.Aid Go.RowKit Go.Proofs.YtcboegodjlfmnaaDoorW.PrintWords Go.Proofs.YtcboegodjlfmnaaDoorW.PrintLast Go.Proofs.YtcboegodjlfmnaaDoorW.PrintMore
set_option linter.unusedVariables false
set_option linter.unusedSimpArgs false
/-- what is said of bytes that are read as a value -/
structure RsOut (ty : Int) (bs : List Int) (n : Nat) (w w' : World) (e : Ending) : Prop where
  mk :: (out : ∃ (x : N) (cs : List Value) (o' s' : Nat), e = .returned (.tuple #[.agg (List.toArray cs), .int .i64 (o' : Int), .int .i64 (s' : Int)]) ∧ x.In flT w' (fun b => b < w'.heap.size) cs ∧ Does (thP 7 ty) bs 0 0 x o' s' ∧ o' ≤ n ∧ s' ≤ 2) (below : Below w.heap.size w w')
theorem drew_rs {ty : Int} {bs : List Int} {n : Nat} {w w' : World} {e : Ending} (h : RsOut ty bs n w w' e) : RsOut ty bs n w w'.drew e := by
  obtain ⟨x, cs, o', s', h1, h2, h3⟩ := h.out
  exact ⟨⟨x, cs, o', s', h1, h2.move (fun _ _ => rfl) (fun b hb => hb), h3⟩, Tzv.belowDrew h.below⟩
theorem below_res {w w1 : World} (h : Below w.heap.size w w1) (y0 y1 y2 y3 y4 y5 y6 y7 y8 : Value) : Below w.heap.size w (((((((((w1.setCell ⟨w.heap.size, 0, none⟩ y0).setCell ⟨w.heap.size, 1, none⟩ y1).setCell ⟨w.heap.size, 2, none⟩ y2).setCell ⟨w.heap.size, 3, none⟩ y3).setCell ⟨w.heap.size, 4, none⟩ y4).setCell ⟨w.heap.size, 5, none⟩ y5).setCell ⟨w.heap.size, 6, none⟩ y6).setCell ⟨w.heap.size, 7, none⟩ y7).setCell ⟨w.heap.size, 8, none⟩ y8) :=
  belowSets (Nat.le_refl _) h
theorem in_res {w w1 : World} {Pb : Nat → Prop} {x : N} {cs : List Value} (h : x.In flT w1 Pb cs) (hp : ∀ b, Pb b → w.heap.size < b ∧ b < w1.heap.size) (y0 y1 y2 y3 y4 y5 y6 y7 y8 : Value) : x.In flT (((((((((w1.setCell ⟨w.heap.size, 0, none⟩ y0).setCell ⟨w.heap.size, 1, none⟩ y1).setCell ⟨w.heap.size, 2, none⟩ y2).setCell ⟨w.heap.size, 3, none⟩ y3).setCell ⟨w.heap.size, 4, none⟩ y4).setCell ⟨w.heap.size, 5, none⟩ y5).setCell ⟨w.heap.size, 6, none⟩ y6).setCell ⟨w.heap.size, 7, none⟩ y7).setCell ⟨w.heap.size, 8, none⟩ y8) (fun b => b < (((((((((w1.setCell ⟨w.heap.size, 0, none⟩ y0).setCell ⟨w.heap.size, 1, none⟩ y1).setCell ⟨w.heap.size, 2, none⟩ y2).setCell ⟨w.heap.size, 3, none⟩ y3).setCell ⟨w.heap.size, 4, none⟩ y4).setCell ⟨w.heap.size, 5, none⟩ y5).setCell ⟨w.heap.size, 6, none⟩ y6).setCell ⟨w.heap.size, 7, none⟩ y7).setCell ⟨w.heap.size, 8, none⟩ y8).heap.size) cs := by
  refine h.move (fun b hb => Tzs.heapNine (by have := hp b hb; omega) _ _ _ _ _ _ _ _ _) (fun b hb => ?_)
  rw [Tzs.sizeNine]
  exact (hp b hb).2
set_option maxHeartbeats 8000000 in
set_option maxRecDepth 100000 in
theorem readsThing_calls (A : Option Addr) (n c : Nat) (bs : List Int) (ty : Int) (w : World) (hC : (Kd.int .u8).C w A n bs) (hc : n ≤ c) (hn : n ≤ 2147483647) (hb : bytesB bs = true) :
    Calls Tryd.prog 31 #[.slice A n c, .int .i64 ty, .int .i64 6] w fun e w' => RsOut ty bs n w w' e := by
  have hs1 := allocSize w (.cells #[.int .i64 0, .bool false, .int .i64 0, .int .u64 0, .slice none 0 0, .int .i64 0, .int .i64 0, .slice none 0 0, .slice none 0 0] 27)
  have hr := Blk.new (w.alloc (.cells #[.int .i64 0, .bool false, .int .i64 0, .int .u64 0, .slice none 0 0, .int .i64 0, .int .i64 0, .slice none 0 0, .slice none 0 0] 27)) #[.slice A n c, .int .i64 0, .int .i64 0] 91
  rw [hs1] at hr
  have hsr : Sr ((w.alloc (.cells #[.int .i64 0, .bool false, .int .i64 0, .int .u64 0, .slice none 0 0, .int .i64 0, .int .i64 0, .slice none 0 0, .slice none 0 0] 27)).alloc (.cells #[.slice A n c, .int .i64 0, .int .i64 0] 91)) (w.heap.size + 1) A n c 0 0 := ⟨hr, fun hp a ha => by have := C_block hC hp a ha; omega, Nat.zero_le _, Nat.zero_le _⟩
  have hth := (th_all (w.heap.size + 1) A n c bs hc hn hb 7 (by omega)).out ty 0 0 ((w.alloc (.cells #[.int .i64 0, .bool false, .int .i64 0, .int .u64 0, .slice none 0 0, .int .i64 0, .int .i64 0, .slice none 0 0, .slice none 0 0] 27)).alloc (.cells #[.slice A n c, .int .i64 0, .int .i64 0] 91)) hsr (Kd.C_alloc (Kd.C_alloc hC _) _)
  rw [show ((7 : Nat) : Int) - 1 = 6 from rfl] at hth
  have HTH := Aside0.mk hth
  have hb0 : Blk ((w.alloc (.cells #[.int .i64 0, .bool false, .int .i64 0, .int .u64 0, .slice none 0 0, .int .i64 0, .int .i64 0, .slice none 0 0, .slice none 0 0] 27)).alloc (.cells #[.slice A n c, .int .i64 0, .int .i64 0] 91)) w.heap.size #[.int .i64 0, .bool false, .int .i64 0, .int .u64 0, .slice none 0 0, .int .i64 0, .int .i64 0, .slice none 0 0, .slice none 0 0] 27 := (Blk.new w _ _).alloc _
  have hbw : Below w.heap.size w ((w.alloc (.cells #[.int .i64 0, .bool false, .int .i64 0, .int .u64 0, .slice none 0 0, .int .i64 0, .int .i64 0, .slice none 0 0, .slice none 0 0] 27)).alloc (.cells #[.slice A n c, .int .i64 0, .int .i64 0] 91)) := ((Below.refl _ _).alloc (Nat.le_refl _) _).alloc (by rw [hs1]; omega) _
  obtain ⟨W, hW⟩ : ∃ W, ((w.alloc (.cells #[.int .i64 0, .bool false, .int .i64 0, .int .u64 0, .slice none 0 0, .int .i64 0, .int .i64 0, .slice none 0 0, .slice none 0 0] 27)).alloc (.cells #[.slice A n c, .int .i64 0, .int .i64 0] 91)) = W := ⟨_, rfl⟩
  rw [hW] at HTH hb0 hbw
  have HB0 := Aside0.mk hb0
  have HBW := Aside0.mk hbw
  have HW := Aside0.mk hW
  have HWS : Aside0 (W.heap.size = w.heap.size + 2) := ⟨by rw [← hW, allocSize, allocSize]⟩
  clear hr hsr hth hb0 hbw hW hC hs1
  go_enter Tryd.func31, Tryd.ntmps31
  go_upto_region 3 with (first
    | (go_at_call 39; rw [HW.out]; (with_reducible refine HTH.out.mono ?_); rintro e w2 HQ; obtain ⟨x, xcs, o2, s2, rfl, hxin, hd, hw⟩ := HQ.out; obtain ⟨B5, m5, j5, B7, m7, j7, B8, m8, j8, hxe⟩ := openT hxin; rw [hxe] at hxin; rw [hxe]; have HXI := Aside0.mk hxin; have HDO := Aside0.mk hd; have HW2 := Aside0.mk hw; clear HQ hd hw hxe hxin))
  have HXB := Aside0.mk (Blk.new w2 #[.int .i64 x.d.ty, .bool x.d.bo, .int .i64 x.d.n, .int .u64 (x.d.bits : Int), .slice B5 m5 j5, .int .i64 x.d.ky, .int .i64 x.d.el, .slice B7 m7 j7, .slice B8 m8 j8] 27)
  have HRA := Aside0.mk (HW2.out.rd.blk.alloc (.cells #[.int .i64 x.d.ty, .bool x.d.bo, .int .i64 x.d.n, .int .u64 (x.d.bits : Int), .slice B5 m5 j5, .int .i64 x.d.ky, .int .i64 x.d.el, .slice B7 m7 j7, .slice B8 m8 j8] 27))
  have HBA := Aside0.mk ((keepBlk HB0.out HW2.out.grown (by omega)).alloc (.cells #[.int .i64 x.d.ty, .bool x.d.bo, .int .i64 x.d.n, .int .u64 (x.d.bits : Int), .slice B5 m5 j5, .int .i64 x.d.ky, .int .i64 x.d.el, .slice B7 m7 j7, .slice B8 m8 j8] 27))
  have HBL : Aside0 (Below w.heap.size w (w2.alloc (.cells #[.int .i64 x.d.ty, .bool x.d.bo, .int .i64 x.d.n, .int .u64 (x.d.bits : Int), .slice B5 m5 j5, .int .i64 x.d.ky, .int .i64 x.d.el, .slice B7 m7 j7, .slice B8 m8 j8] 27))) := ⟨(HBW.out.trans (Tzv.below_grown HW2.out.grown (by omega) HBW.out.size)).alloc (by have := HBW.out.size; have := HW2.out.grown.size; omega) _⟩
  have HIN : Aside0 (x.In flT (w2.alloc (.cells #[.int .i64 x.d.ty, .bool x.d.bo, .int .i64 x.d.n, .int .u64 (x.d.bits : Int), .slice B5 m5 j5, .int .i64 x.d.ky, .int .i64 x.d.el, .slice B7 m7 j7, .slice B8 m8 j8] 27)) (PnO 0 (some (w.heap.size + 1)) W.heap.size (w2.alloc (.cells #[.int .i64 x.d.ty, .bool x.d.bo, .int .i64 x.d.n, .int .u64 (x.d.bits : Int), .slice B5 m5 j5, .int .i64 x.d.ky, .int .i64 x.d.el, .slice B7 m7 j7, .slice B8 m8 j8] 27)).heap.size) [.int .i64 x.d.ty, .bool x.d.bo, .int .i64 x.d.n, .int .u64 (x.d.bits : Int), .slice B5 m5 j5, .int .i64 x.d.ky, .int .i64 x.d.el, .slice B7 m7 j7, .slice B8 m8 j8]) := ⟨inAlloc HXI.out (Nat.zero_le _) _⟩
  generalize hw3 : World.alloc _ _ = w3 at HXB HRA HBA HBL HIN ⊢
  have HN3 : Aside0 (w2.heap.size < w3.heap.size) := ⟨by rw [← hw3, allocSize]; omega⟩
  clear hw3
  obtain ⟨e0, e1, e2, e3, e4, e5, e6, e7, e8, ez⟩ := nine HXB.out
  have r1 := HRA.out.cell (j := 1) rfl
  have r2 := HRA.out.cell (j := 2) rfl
  have HBQ := Aside0.mk HBA.out
  have HFIN : Aside0 (RsOut ty bs n w (World.drew _) (.returned (.tuple #[.agg #[.int .i64 x.d.ty, .bool x.d.bo, .int .i64 x.d.n, .int .u64 (x.d.bits : Int), .slice B5 m5 j5, .int .i64 x.d.ky, .int .i64 x.d.el, .slice B7 m7 j7, .slice B8 m8 j8], .int .i64 (o2 : Int), .int .i64 (s2 : Int)]))) := ⟨drew_rs ⟨⟨x, [.int .i64 x.d.ty, .bool x.d.bo, .int .i64 x.d.n, .int .u64 (x.d.bits : Int), .slice B5 m5 j5, .int .i64 x.d.ky, .int .i64 x.d.el, .slice B7 m7 j7, .slice B8 m8 j8], o2, s2, rfl, in_res (w := w) (w1 := w3) (HIN.out.move (fun _ _ => rfl) (fun b hb => hb)) (by rintro b (⟨h1, _⟩ | ⟨h1, h2⟩); exact absurd h1 (Nat.not_lt_zero _); exact ⟨by have := HWS.out; omega, h2⟩) (.int .i64 x.d.ty) (.bool x.d.bo) (.int .i64 x.d.n) (.int .u64 (x.d.bits : Int)) (.slice B5 m5 j5) (.int .i64 x.d.ky) (.int .i64 x.d.el) (.slice B7 m7 j7) (.slice B8 m8 j8), HDO.out, HW2.out.rd.le, HW2.out.rd.st⟩, below_res HBL.out (.int .i64 x.d.ty) (.bool x.d.bo) (.int .i64 x.d.n) (.int .u64 (x.d.bits : Int)) (.slice B5 m5 j5) (.int .i64 x.d.ky) (.int .i64 x.d.el) (.slice B7 m7 j7) (.slice B8 m8 j8)⟩⟩
  have HBR := Aside0.mk (nineSet HBQ.out (.int .i64 x.d.ty) (.bool x.d.bo) (.int .i64 x.d.n) (.int .u64 (x.d.bits : Int)) (.slice B5 m5 j5) (.int .i64 x.d.ky) (.int .i64 x.d.el) (.slice B7 m7 j7) (.slice B8 m8 j8))
  obtain ⟨f0, f1, f2, f3, f4, f5, f6, f7, f8, fz⟩ := nine HBQ.out
  have hne : w.heap.size ≠ w.heap.size + 1 := by omega
  have hne1 : w.heap.size + 1 ≠ w.heap.size := by omega
  have hne2 : w2.heap.size ≠ w.heap.size := by have := HW2.out.grown.size; have := HWS.out; omega
  have hne3 : w.heap.size ≠ w2.heap.size := fun e => hne2 e.symm
  obtain ⟨b2, hb2⟩ : ∃ b, w2.heap.size = b := ⟨_, rfl⟩
  rw [hb2] at e0 e1 e2 e3 e4 e5 e6 e7 e8 hne2 hne3 ⊢
  clear hb2 HN3 ez
  go_region_with ((fail "no arm"))
  all_goals go_wp2_with (fail)
  all_goals
    refine bodyPost_ret (Tzv.ret_cell_tmp2 rfl _ _ w.heap.size 27 #[_, _, _, _, _, _, _, _, _] (0, 0) _ rfl (HBR.out.drew).out Tryd.underlying27 rfl (by kernel_rfl)) rfl ?_
    exact HFIN.out
end Go.Proofs.YtcboegodjlfmnaaDoor.Trs

/-! impl.ReadThing: bytes are read as a value. -/
namespace Go.Proofs.YtcboegodjlfmnaaDoor.Trt
open Go.Proofs.YtcboegodjlfmnaaDoor.Trs Go.Proofs.YtcboegodjlfmnaaDoor.Tsi Go.Proofs.YtcboegodjlfmnaaDoor.Tsh Go.Proofs.YtcboegodjlfmnaaDoor.Tsg Go.Proofs.YtcboegodjlfmnaaDoor.Tsf Go.Proofs.YtcboegodjlfmnaaDoor.Tse Go.Proofs.YtcboegodjlfmnaaDoor.Tsd Go.Proofs.YtcboegodjlfmnaaDoor.Tpv Go.Proofs.YtcboegodjlfmnaaDoor.Tsc Go.Proofs.YtcboegodjlfmnaaDoor.Tsb Go.Proofs.YtcboegodjlfmnaaDoor.Tzm Go.Proofs.YtcboegodjlfmnaaDoor.Tzl Go.Proofs.YtcboegodjlfmnaaDoor.Trh Go.Proofs.YtcboegodjlfmnaaDoor.Trn Go.Proofs.YtcboegodjlfmnaaDoor.Trm Go.Proofs.YtcboegodjlfmnaaDoor.Tuv Go.Proofs.YtcboegodjlfmnaaDoor.Tpa Go.Proofs.YtcboegodjlfmnaaDoor.Duv Go.Proofs.YtcboegodjlfmnaaDoor.Dpu Go.Proofs.YtcboegodjlfmnaaDoor.Pak Go.Proofs.YtcboegodjlfmnaaDoor.Buf Go.Proofs.YtcboegodjlfmnaaDoor.Fit Go.Proofs.YtcboegodjlfmnaaDoor.Bit Go.Proofs.YtcboegodjlfmnaaDoor.Wrd Go.Proofs.YtcboegodjlfmnaaDoor.Spl Go.Proofs.YtcboegodjlfmnaaDoor.Str Go.Proofs.YtcboegodjlfmnaaDoor.Flt Go.Proofs.YtcboegodjlfmnaaDoor.Owe Go.Proofs.YtcboegodjlfmnaaDoor.Num Go.Proofs.YtcboegodjlfmnaaDoor.Le Go.Proofs.YtcboegodjlfmnaaDoor.Lst Go.Proofs.YtcboegodjlfmnaaDoor.Aid Go.RowKit Go.Proofs.YtcboegodjlfmnaaDoorW.PrintWords Go.Proofs.YtcboegodjlfmnaaDoorW.PrintLast Go.Proofs.YtcboegodjlfmnaaDoorW.PrintMore
set_option linter.unusedVariables false
set_option linter.unusedSimpArgs false
/-- a value has been read, or bytes have broken off -/
structure RtOut (bs : List Int) (n : Nat) (R : Res N) (w w' : World) (e : Ending) : Prop where
  mk :: (ok : ∀ x r, R = .ok x r → ∃ (o' : Nat) (cs : List Value), r = bs.drop o' ∧ o' ≤ n ∧ e = .returned (.tuple #[.agg (List.toArray cs), .int .i64 (o' : Int), .bool true]) ∧ x.In flT w' (fun b => b < w'.heap.size) cs) (cut : R = .cut → e = .returned (.tuple #[.agg #[.int .i64 0, .bool false, .int .i64 0, .int .u64 0, .slice none 0 0, .int .i64 0, .int .i64 0, .slice none 0 0, .slice none 0 0], .int .i64 0, .bool false])) (below : Below w.heap.size w w')
set_option maxHeartbeats 8000000 in
set_option maxRecDepth 100000 in
theorem readThing_calls (A : Option Addr) (n c : Nat) (bs : List Int) (ty : Int) (p1 p2 : Addr) (w : World) (hC : (Kd.int .u8).C w A n bs) (hn : n ≤ 2147483647) (hb : bytesB bs = true) (hE : Tzv.E0 w p1 p2) (hty : -128 ≤ ty ∧ ty < 128) (hno : thP 7 ty bs ≠ .opn) :
    Calls Tryd.prog 13 #[.slice A n c, .int .i64 ty] w fun e w' => RtOut bs n (thP 7 ty bs) w w' e := by
  have HBB := Aside0.mk hb
  have HNO := Aside0.mk hno
  have HLN : Aside0 (bs.length = n) := ⟨hC.1⟩
  have qty : IntKind.i8.wrap ty = ty := by rw [wrap_i8]; omega
  obtain ⟨W, hW⟩ : ∃ W, w.alloc (.cells #[.int .i64 0, .bool false, .int .i64 0, .int .u64 0, .slice none 0 0, .int .i64 0, .int .i64 0, .slice none 0 0, .slice none 0 0] 27) = W := ⟨_, rfl⟩
  have HWS : Aside0 (W.heap.size = w.heap.size + 1) := ⟨by rw [← hW, allocSize]⟩
  have HB0 : Aside0 (Blk W w.heap.size #[.int .i64 0, .bool false, .int .i64 0, .int .u64 0, .slice none 0 0, .int .i64 0, .int .i64 0, .slice none 0 0, .slice none 0 0] 27) := ⟨by rw [← hW]; exact Blk.new w _ _⟩
  have HBW : Aside0 (Below w.heap.size w W) := ⟨by rw [← hW]; exact (Below.refl _ _).alloc (Nat.le_refl _) _⟩
  have HCW : Aside0 ((Kd.int .u8).C (W.alloc (.cells #[] 5)) A n bs) := ⟨by rw [← hW]; exact Kd.C_alloc (Kd.C_alloc hC _) _⟩
  have HEW : Aside0 (Tzv.E0 W p1 p2) := ⟨hE.below fun b hb => HBW.out.block b hb⟩
  have HOE := Aside0.mk (Own.empty W W.heap.size 5 .u8 (Nat.le_refl _))
  have HBE : Aside0 (Below W.heap.size W (W.alloc (.cells #[] 5))) := ⟨(Below.refl _ _).alloc (Nat.le_refl _) _⟩
  have HTY := Aside0.mk hty
  clear hC hE hb hty hno
  have hst := fun (f : Nat) (a : Addr) (W : World) m => run_store Tryd.prog W a (.float .f64 f) m rfl
  obtain ⟨R, hR⟩ : ∃ R, thP 7 ty bs = R := ⟨_, rfl⟩
  have HRR := Aside0.mk hR
  have HNR : Aside0 (R ≠ .opn) := ⟨hR ▸ HNO.out⟩
  rw [hR]
  clear hR
  go_enter Tryd.func13, Tryd.ntmps13
  cases R with
  | opn => exact absurd rfl HNR.out
  | cut =>
    go_upto_region 1 with (fail)
    clear hW
    go_upto_region 3 with (first
      | (at_builtin; (refine appendRead (w0 := W) W.heap.size rfl (.tmp 11) (.tmp 12) 23 5 .u8 1 rfl Tryd.underlying23 infoU8 (by decide) _ [] A n c bs rfl rfl HOE.out HBE.out HBE.out.size HCW.out ?hl ?_); (case hl => simp; omega); intro v1 w1 ho hb1 hg1; rw [List.nil_append] at ho; obtain ⟨A1, c1, rfl, hc1, hr1⟩ := ho.read; rw [HLN.out] at hc1 hr1; rw [HLN.out]; have HB1 := Aside0.mk hb1; have HA1 : Aside0 (∀ a, A1 = some a → a.block < w1.heap.size) := ⟨fun a ha => (own_lt ho.out (by rw [ha]; rfl)).2⟩; have HE1 : Aside0 (Tzv.E0 w1 p1 p2) := ⟨HEW.out.below fun b hb => hb1.block b hb⟩; have HZT := Aside0.mk (Tzv.zzTop_calls A1 n c1 bs ty p1 p2 w1 hr1 HA1.out HE1.out (fun g p B0 hB => Tzz.zh g p A1 n c1 B0 p1 p2 bs hc1 hn HBB.out hB 7) HNO.out); clear ho hb1 hg1 hr1)
      | (go_at_call 26; (with_reducible refine HZT.out.mono ?_); rintro e w2 HQ; rw [HRR.out] at HQ; obtain ⟨cs2, q, m, ⟨a0, a1, a2, a3, A4, n4, k4, a5, a6, A7, n7, k7, A8, n8, k8, rfl⟩, rfl⟩ := HQ.cut rfl; have HB2 := Aside0.mk HQ.below; clear HQ))
    generalize hw3 : World.alloc _ _ = w3
    have HBL : Aside0 (Below W.heap.size W w3) := ⟨by rw [← hw3]; exact (HB1.out.trans (HB2.out.mono HB1.out.size)).alloc (by have := HB1.out.size; have := HB2.out.size; omega) _⟩
    have HB3 := Aside0.mk (HB0.out.below HBL.out (by have := HWS.out; omega))
    have HBX : Aside0 (Below w.heap.size w w3) := ⟨HBW.out.trans (HBL.out.mono HBW.out.size)⟩
    clear hw3
    obtain ⟨f0, f1, f2, f3, f4, f5, f6, f7, f8, fz⟩ := nine HB3.out
    have HFIN : Aside0 (RtOut bs n .cut w _ (.returned (.tuple #[.agg #[.int .i64 0, .bool false, .int .i64 0, .int .u64 0, .slice none 0 0, .int .i64 0, .int .i64 0, .slice none 0 0, .slice none 0 0], .int .i64 0, .bool false]))) := ⟨(fun x r h => nomatch h), fun _ => rfl, below_res HBX.out (.int .i64 0) (.bool false) (.int .i64 0) (.int .u64 0) (.slice none 0 0) (.int .i64 0) (.int .i64 0) (.slice none 0 0) (.slice none 0 0)⟩
    have HBR := Aside0.mk (nineSet HB3.out (.int .i64 0) (.bool false) (.int .i64 0) (.int .u64 0) (.slice none 0 0) (.int .i64 0) (.int .i64 0) (.slice none 0 0) (.slice none 0 0))
    go_wp2_with (fail)
    refine bodyPost_ret (Tzv.ret_cell_tmp2 rfl _ _ w.heap.size 27 #[_, _, _, _, _, _, _, _, _] (0, 0) _ rfl HBR.out.out Tryd.underlying27 rfl (by kernel_rfl)) rfl ?_
    exact HFIN.out
  | ok x r =>
    go_upto_region 1 with (fail)
    clear hW
    go_upto_region 4 with (first
      | (at_builtin; (refine appendRead (w0 := W) W.heap.size rfl (.tmp 11) (.tmp 12) 23 5 .u8 1 rfl Tryd.underlying23 infoU8 (by decide) _ [] A n c bs rfl rfl HOE.out HBE.out HBE.out.size HCW.out ?hl ?_); (case hl => simp; omega); intro v1 w1 ho hb1 hg1; rw [List.nil_append] at ho; obtain ⟨A1, c1, rfl, hc1, hr1⟩ := ho.read; rw [HLN.out] at hc1 hr1; rw [HLN.out]; have HB1 := Aside0.mk hb1; have HA1 : Aside0 (∀ a, A1 = some a → a.block < w1.heap.size) := ⟨fun a ha => (own_lt ho.out (by rw [ha]; rfl)).2⟩; have HE1 : Aside0 (Tzv.E0 w1 p1 p2) := ⟨HEW.out.below fun b hb => hb1.block b hb⟩; have HZT := Aside0.mk (Tzv.zzTop_calls A1 n c1 bs ty p1 p2 w1 hr1 HA1.out HE1.out (fun g p B0 hB => Tzz.zh g p A1 n c1 B0 p1 p2 bs hc1 hn HBB.out hB 7) HNO.out); clear ho hb1 hg1 hr1)
      | (go_at_call 26; (with_reducible refine HZT.out.mono ?_); rintro e w2 HQ; rw [HRR.out] at HQ; obtain ⟨o2, xcs, hr, ho2, rfl, hxin⟩ := HQ.ok x r rfl; have HRD := Aside0.mk hr; have HXI := Aside0.mk hxin; obtain ⟨A4, n4, k4, A7, n7, k7, A8, n8, k8, hxe⟩ := openV hxin; have HXE := Aside0.mk hxe; rw [hxe]; have HB2 := Aside0.mk HQ.below; clear HQ hr hxin hxe))
    have HXI3 : Aside0 (x.In flV (w2.alloc (.cells #[.int .i8 x.d.ty, .bool x.d.bo, .int .i64 x.d.n, .float .f64 x.d.bits, .slice A4 n4 k4, .int .i8 x.d.ky, .int .i8 x.d.el, .slice A7 n7 k7, .slice A8 n8 k8] 60)) (fun b => b < (w2.alloc (.cells #[.int .i8 x.d.ty, .bool x.d.bo, .int .i64 x.d.n, .float .f64 x.d.bits, .slice A4 n4 k4, .int .i8 x.d.ky, .int .i8 x.d.el, .slice A7 n7 k7, .slice A8 n8 k8] 60)).heap.size) [.int .i8 x.d.ty, .bool x.d.bo, .int .i64 x.d.n, .float .f64 x.d.bits, .slice A4 n4 k4, .int .i8 x.d.ky, .int .i8 x.d.el, .slice A7 n7 k7, .slice A8 n8 k8]) := ⟨by have h := HXI.out; rw [HXE.out] at h; exact h.move (fun b hb => Below.heap_alloc _ _ b hb) (fun b hb => by rw [allocSize]; exact Nat.lt_succ_of_lt hb)⟩
    have HV3 := Aside0.mk (Blk.new w2 #[.int .i8 x.d.ty, .bool x.d.bo, .int .i64 x.d.n, .float .f64 x.d.bits, .slice A4 n4 k4, .int .i8 x.d.ky, .int .i8 x.d.el, .slice A7 n7 k7, .slice A8 n8 k8] 60)
    have HBL : Aside0 (Below W.heap.size W (w2.alloc (.cells #[.int .i8 x.d.ty, .bool x.d.bo, .int .i64 x.d.n, .float .f64 x.d.bits, .slice A4 n4 k4, .int .i8 x.d.ky, .int .i8 x.d.el, .slice A7 n7 k7, .slice A8 n8 k8] 60))) := ⟨(HB1.out.trans (HB2.out.mono HB1.out.size)).alloc (by have := HB1.out.size; have := HB2.out.size; omega) _⟩
    generalize hw3 : World.alloc _ _ = w3 at HXI3 HV3 HBL ⊢
    have HB3 := Aside0.mk (HB0.out.below HBL.out (by have := HWS.out; omega))
    have HBX : Aside0 (Below w.heap.size w w3) := ⟨HBW.out.trans (HBL.out.mono HBW.out.size)⟩
    have HPV := Aside0.mk (Tpw.pv_all x (Tpw.th_wf 7 ty bs x r HRR.out HBB.out) w3 _ HXI3.out)
    clear hw3
    obtain ⟨e0, e1, e2, e3, e4, e5, e6, e7, e8, ez⟩ := nine HV3.out
    obtain ⟨b2, hb2⟩ : ∃ b, w2.heap.size = b := ⟨_, rfl⟩
    rw [hb2] at e0 e1 e2 e3 e4 e5 e6 e7 e8 ⊢
    clear hb2 ez
    go_wp2_with (first
      | (go_at_call 27; (with_reducible refine HPV.out.mono ?_); rintro e w5 HP5; obtain ⟨ycs, rfl, hyin⟩ := HP5.out; obtain ⟨B5, m5, j5, B7, m7, j7, B8, m8, j8, hye⟩ := openT hyin; rw [hye] at hyin; rw [hye]; have HYI := Aside0.mk hyin; have HBP := Aside0.mk HP5.below; have HB5 := Aside0.mk (HB3.out.below HP5.below HB3.out.lt); obtain ⟨f0, f1, f2, f3, f4, f5, f6, f7, f8, fz⟩ := nine HB5.out; clear HP5 hyin hye))
    have HFIN : Aside0 (RtOut bs n (.ok x r) w _ (.returned (.tuple #[.agg #[.int .i64 x.d.ty, .bool x.d.bo, .int .i64 x.d.n, .int .u64 (x.d.bits : Int), .slice B5 m5 j5, .int .i64 x.d.ky, .int .i64 x.d.el, .slice B7 m7 j7, .slice B8 m8 j8], .int .i64 (o2 : Int), .bool true]))) := ⟨fun y r' h => by
      obtain ⟨rfl, rfl⟩ := Res.ok.inj h
      refine ⟨o2, [.int .i64 x.d.ty, .bool x.d.bo, .int .i64 x.d.n, .int .u64 (x.d.bits : Int), .slice B5 m5 j5, .int .i64 x.d.ky, .int .i64 x.d.el, .slice B7 m7 j7, .slice B8 m8 j8], HRD.out, ho2, rfl, in_res (w := w) (w1 := w5) HYI.out ?_ (.int .i64 x.d.ty) (.bool x.d.bo) (.int .i64 x.d.n) (.int .u64 (x.d.bits : Int)) (.slice B5 m5 j5) (.int .i64 x.d.ky) (.int .i64 x.d.el) (.slice B7 m7 j7) (.slice B8 m8 j8)⟩
      rintro b (⟨h1, _⟩ | ⟨h1, h2⟩)
      · exact absurd h1 (Nat.not_lt_zero _)
      · exact ⟨by have := HBX.out.size; have := HBL.out.size; have := HWS.out; omega, h2⟩, (fun h => nomatch h), below_res (HBX.out.trans (HBP.out.mono HBX.out.size)) (.int .i64 x.d.ty) (.bool x.d.bo) (.int .i64 x.d.n) (.int .u64 (x.d.bits : Int)) (.slice B5 m5 j5) (.int .i64 x.d.ky) (.int .i64 x.d.el) (.slice B7 m7 j7) (.slice B8 m8 j8)⟩
    have HBR := Aside0.mk (nineSet HB5.out (.int .i64 x.d.ty) (.bool x.d.bo) (.int .i64 x.d.n) (.int .u64 (x.d.bits : Int)) (.slice B5 m5 j5) (.int .i64 x.d.ky) (.int .i64 x.d.el) (.slice B7 m7 j7) (.slice B8 m8 j8))
    refine bodyPost_ret (Tzv.ret_cell_tmp2 rfl _ _ w.heap.size 27 #[_, _, _, _, _, _, _, _, _] (0, 0) _ rfl HBR.out.out Tryd.underlying27 rfl (by kernel_rfl)) rfl ?_
    exact HFIN.out
end Go.Proofs.YtcboegodjlfmnaaDoor.Trt

/-! Any bytes: what is laid, a small value that is read. -/
namespace Go.Proofs.YtcboegodjlfmnaaDoor.Tla
open Go.Proofs.YtcboegodjlfmnaaDoor.Trt Go.Proofs.YtcboegodjlfmnaaDoor.Trs Go.Proofs.YtcboegodjlfmnaaDoor.Tsi Go.Proofs.YtcboegodjlfmnaaDoor.Tsh Go.Proofs.YtcboegodjlfmnaaDoor.Tsg Go.Proofs.YtcboegodjlfmnaaDoor.Tsf Go.Proofs.YtcboegodjlfmnaaDoor.Tse Go.Proofs.YtcboegodjlfmnaaDoor.Tsd Go.Proofs.YtcboegodjlfmnaaDoor.Tpv Go.Proofs.YtcboegodjlfmnaaDoor.Tsc Go.Proofs.YtcboegodjlfmnaaDoor.Tsb Go.Proofs.YtcboegodjlfmnaaDoor.Tzm Go.Proofs.YtcboegodjlfmnaaDoor.Tzl Go.Proofs.YtcboegodjlfmnaaDoor.Trh Go.Proofs.YtcboegodjlfmnaaDoor.Trn Go.Proofs.YtcboegodjlfmnaaDoor.Trm Go.Proofs.YtcboegodjlfmnaaDoor.Tuv Go.Proofs.YtcboegodjlfmnaaDoor.Tpa Go.Proofs.YtcboegodjlfmnaaDoor.Duv Go.Proofs.YtcboegodjlfmnaaDoor.Dpu Go.Proofs.YtcboegodjlfmnaaDoor.Pak Go.Proofs.YtcboegodjlfmnaaDoor.Buf Go.Proofs.YtcboegodjlfmnaaDoor.Fit Go.Proofs.YtcboegodjlfmnaaDoor.Bit Go.Proofs.YtcboegodjlfmnaaDoor.Wrd Go.Proofs.YtcboegodjlfmnaaDoor.Spl Go.Proofs.YtcboegodjlfmnaaDoor.Str Go.Proofs.YtcboegodjlfmnaaDoor.Flt Go.Proofs.YtcboegodjlfmnaaDoor.Owe Go.Proofs.YtcboegodjlfmnaaDoor.Num Go.Proofs.YtcboegodjlfmnaaDoor.Le Go.Proofs.YtcboegodjlfmnaaDoor.Lst Go.Proofs.YtcboegodjlfmnaaDoor.Aid Go.RowKit Go.Proofs.YtcboegodjlfmnaaDoorW.PrintWords Go.Proofs.YtcboegodjlfmnaaDoorW.PrintLast Go.Proofs.YtcboegodjlfmnaaDoorW.PrintMore
set_option linter.unusedVariables false
set_option linter.unusedSimpArgs false
theorem esRow (u : TypeId) (h : Tryd.prog.typeName? 3 u = some "*errors.errorString") : u = 167 :=
  typeName_ptr_named (P := Tryd.prog) (nm := "errors.errorString") (by kernel_rfl) (by kernel_rfl) (by decide) u h
theorem e0_of_laid {W : World} (h : laidMetH Tryd.prog [("io.EOF", .iface "*errors.errorString" (.ptr (.agg [.lit (.string [69, 79, 70])]))), ("io.ErrUnexpectedEOF", .iface "*errors.errorString" (.ptr (.agg [.lit (.string [117, 110, 101, 120, 112, 101, 99, 116, 101, 100, 32, 69, 79, 70])])))] W) : ∃ p1 p2, Tzv.E0 W p1 p2 := by
  rw [MakeChecks.laidMetH_plain _ _ _ (by kernel_rfl)] at h
  have g0 : Tryd.prog.globalNamed "io.EOF" = some 1 := by kernel_rfl
  have g1 : Tryd.prog.globalNamed "io.ErrUnexpectedEOF" = some 2 := by kernel_rfl
  obtain ⟨f, hf, hf0, hft⟩ : ∃ f : Field, Tryd.prog.underlying 169 = some (.struct #[f]) ∧ f.offset = 0 ∧ f.type = 9 := ⟨_, Tryd.underlying169, rfl, rfl⟩
  obtain ⟨a0, a1, s0, s1, c0, c1, t0, t1, hv0, hv1, hc0, hs0, hz0, hc1, hs1, hz1, hne, hb0, hb1⟩ := laid_sentinels2 h g0 (by kernel_rfl) g1 (by kernel_rfl) tyE esRow esPtr hf hft hf0 Tryd.underlying9 (by kernel_rfl) (by kernel_rfl)
  exact ⟨a0, a1, by simpa using World.var?_cell g0 hv0 0, by simpa using World.var?_cell g1 hv1 0, hne, ⟨c0, t0, hb0⟩, ⟨c1, t1, hb1⟩⟩
/-- bytes that are written out, as a row -/
theorem lit_C (w : World) (t : TypeId) (xs : List Int) (hl : xs.length ≤ 100) : (Kd.int .u8).C (w.alloc (.cells (nums .u8 xs).toArray t)) (some ⟨w.heap.size, 0, none⟩) xs.length xs := by
  have ho : Own (w.alloc (.cells (nums .u8 xs).toArray t)) w.heap.size t .u8 (.slice (some ⟨w.heap.size, 0, none⟩) xs.length xs.length) xs :=
    ⟨⟨by simp [nums], .inr ⟨w.heap.size, xs.length, (nums .u8 xs).toArray, rfl, Nat.le_refl _, heap_alloc_new w _, Nat.le_refl _, by simp [maxLen]; omega, by simp [nums], by simp [nums]; exact List.take_of_length_le (by simp)⟩⟩⟩
  obtain ⟨A9, c9, e9, h9, hC9⟩ := ho.read
  obtain ⟨rfl, _, rfl⟩ := Value.slice.inj e9
  exact hC9
theorem mark_cell (w : World) (C : Array Value) (t : TypeId) (fr : Nat × Nat) (a : Addr) : (w.alloc (.cells C t fr)).cell? a = (w.alloc (.cells C t)).cell? a := by
  unfold World.cell? World.alloc
  by_cases h : a.block = w.heap.size
  · simp [h]
  · simp [Array.getElem?_push, h]
theorem C_mark {w : World} {A : Option Addr} {n : Nat} {l : List Int} {C : Array Value} {t : TypeId} {fr : Nat × Nat} (h : (Kd.int .u8).C (w.alloc (.cells C t)) A n l) : (Kd.int .u8).C (w.alloc (.cells C t fr)) A n l := by
  obtain ⟨h1, h2, h3⟩ := h
  refine ⟨h1, h2, fun hp => ?_⟩
  obtain ⟨ad, rfl, h4⟩ := h3 hp
  refine ⟨ad, rfl, fun j x hj => ?_⟩
  obtain ⟨c, c1, c2, c3⟩ := h4 j x hj
  exact ⟨c, c1, c2, fun i u hu => (mark_cell _ _ _ _ _).trans (c3 i u hu)⟩
theorem th_small : thP 7 8 [2, 97, 98, 99] = .ok ⟨⟨8, false, 0, 0, [97, 98], 0, 0⟩, .nil, .nil⟩ [99] := by
  rw [th8]; rfl
theorem th_small_cut : thP 7 8 [2, 97] = .cut := by
  rw [th8]; rfl
theorem off3 (o : Nat) (ho : o ≤ 4) (h : [99] = List.drop o ([2, 97, 98, 99] : List Int)) : o = 3 := by
  have : o = 0 ∨ o = 1 ∨ o = 2 ∨ o = 3 ∨ o = 4 := by omega
  rcases this with rfl | rfl | rfl | rfl | rfl <;> first | rfl | (exfalso; revert h; decide)
set_option maxHeartbeats 8000000 in
set_option maxRecDepth 100000 in
theorem works_calls (p1 p2 : Addr) (w : World) (hE : Tzv.E0 w p1 p2) :
    Calls Tryd.prog 16 #[] w fun e w' => e = .returned (.bool true) ∧ Below w.heap.size w w' := by
  have hlit := lit_C w 5 [2, 97, 98, 99] (by decide)
  have hb1 : Below w.heap.size w (w.alloc (.cells (nums .u8 [2, 97, 98, 99]).toArray 5)) := (Below.refl _ _).alloc (Nat.le_refl _) _
  have hr1 := readThing_calls (some ⟨w.heap.size, 0, none⟩) 4 4 [2, 97, 98, 99] 8 p1 p2 (w.alloc (.cells (nums .u8 [2, 97, 98, 99]).toArray 5)) hlit (by decide) (by decide) (hE.below fun b hb => hb1.block b hb) (by decide) (by rw [th_small]; intro h; cases h)
  rw [th_small] at hr1
  have ea : (nums .u8 [2, 97, 98, 99]).toArray = #[.int .u8 2, .int .u8 97, .int .u8 98, .int .u8 99] := rfl
  have eb : (nums .u8 [2, 97]).toArray = #[.int .u8 2, .int .u8 97] := rfl
  have ec : (nums .u8 [97, 98]).toArray = #[.int .u8 97, .int .u8 98] := rfl
  rw [ea] at hr1 hb1
  have HR1 := Aside0.mk hr1
  have HB1 := Aside0.mk hb1
  have HE := Aside0.mk hE
  have HR2 : Aside0 (∀ w1 : World, Below w.heap.size w w1 → Calls Tryd.prog 13 #[.slice (some ⟨w1.heap.size, 0, none⟩) 2 2, .int .i64 8] (w1.alloc (.cells (nums .u8 [2, 97]).toArray 5)) fun e w' => RtOut [2, 97] 2 .cut (w1.alloc (.cells (nums .u8 [2, 97]).toArray 5)) w' e) := ⟨fun w1 hb => by
    have h := readThing_calls (some ⟨w1.heap.size, 0, none⟩) 2 2 [2, 97] 8 p1 p2 (w1.alloc (.cells (nums .u8 [2, 97]).toArray 5)) (lit_C w1 5 [2, 97] (by decide)) (by decide) (by decide) (HE.out.below fun b hlt => (Below.heap_alloc _ _ b (Nat.lt_of_lt_of_le hlt hb.size)).trans (hb.block b hlt)) (by decide) (by rw [th_small_cut]; intro h; cases h)
    rw [th_small_cut] at h
    exact h⟩
  rw [eb] at HR2
  clear hlit hb1 hr1 hE ea eb
  go_enter Tryd.func16, Tryd.ntmps16
  go_upto_region 3 with (first
    | (go_at_call 13; (with_reducible refine HR1.out.mono ?_); rintro e w2 HQ; obtain ⟨o', cs, hr, ho, rfl, hin⟩ := HQ.ok _ _ rfl; obtain rfl := off3 o' ho hr; obtain ⟨B5, m5, j5, B7, m7, j7, B8, m8, j8, hxe⟩ := openT hin; rw [hxe] at hin; rw [hxe]; have HIN := Aside0.mk hin; have HB2 := Aside0.mk (HB1.out.trans (HQ.below.mono HB1.out.size)); have HT1 := Aside0.mk (Blk.new w2 #[.int .i64 8, .bool false, .int .i64 0, .int .u64 0, .slice B5 m5 j5, .int .i64 0, .int .i64 0, .slice B7 m7 j7, .slice B8 m8 j8] 27); have HB3 : Aside0 (Below w.heap.size w (w2.alloc (.cells #[.int .i64 8, .bool false, .int .i64 0, .int .u64 0, .slice B5 m5 j5, .int .i64 0, .int .i64 0, .slice B7 m7 j7, .slice B8 m8 j8] 27))) := ⟨HB2.out.alloc HB2.out.size _⟩; have hr3 := HR2.out _ HB3.out; rw [allocSize] at hr3; have HR3 := Aside0.mk hr3; clear HR1 HQ hin hxe ho hr hr3)
    | (go_at_call 13; (with_reducible refine HR3.out.mono ?_); rintro e w4 HQ; obtain rfl := HQ.cut rfl; have HB4 : Aside0 (Below w.heap.size w w4) := ⟨(HB3.out.alloc HB3.out.size _).trans (HQ.below.mono (by rw [allocSize]; have := HB3.out.size; omega))⟩; have HT4 : Aside0 (Below w2.heap.size w2 w4) := ⟨(((Below.refl _ _).alloc (Nat.le_refl _) _).alloc (by rw [allocSize]; omega) _).trans (HQ.below.mono (by rw [allocSize, allocSize]; omega))⟩; have HT14 := Aside0.mk ((HT1.out.alloc (.cells #[.int .u8 2, .int .u8 97] 5)).below HQ.below (by rw [allocSize, allocSize]; omega)); clear HQ))
  have HB5 : Aside0 (Below w.heap.size w (w4.alloc (.cells #[.int .i64 0, .bool false, .int .i64 0, .int .u64 0, .slice none 0 0, .int .i64 0, .int .i64 0, .slice none 0 0, .slice none 0 0] 27))) := ⟨HB4.out.alloc HB4.out.size _⟩
  have HT5 : Aside0 (Below w2.heap.size w2 (w4.alloc (.cells #[.int .i64 0, .bool false, .int .i64 0, .int .u64 0, .slice none 0 0, .int .i64 0, .int .i64 0, .slice none 0 0, .slice none 0 0] 27))) := ⟨HT4.out.alloc HT4.out.size _⟩
  have HTB := Aside0.mk (HT14.out.alloc (.cells #[.int .i64 0, .bool false, .int .i64 0, .int .u64 0, .slice none 0 0, .int .i64 0, .int .i64 0, .slice none 0 0, .slice none 0 0] 27))
  generalize hw5 : World.alloc _ _ = w5 at HB5 HT5 HTB ⊢
  clear hw5
  have t4 := HTB.out.cell (j := 4) rfl
  obtain ⟨bsv, lsv, fsv, lcs, fcs, e1, e2, _⟩ := HIN.out.out
  simp only [nodeC, List.cons.injEq] at e1
  obtain ⟨_, _, _, _, rfl, _⟩ := e1
  obtain ⟨A5, c5, e5, h5, hC5, _, _⟩ := (e2.move (w1 := w5) (Pc := fun b => b < w2.heap.size) (fun b hb => HT5.out.block b hb) (fun b hb => hb)).out
  obtain ⟨rfl, rfl, rfl⟩ := Value.slice.inj e5
  have hlit5 := lit_C w5 5 [97, 98] (by decide)
  rw [ec] at hlit5
  have HSM := Aside0.mk (same_calls B5 (some ⟨w5.heap.size, 0, none⟩) 2 j5 2 [97, 98] (w5.alloc (.cells #[.int .u8 97, .int .u8 98] 5 (2, 3))) (Kd.C_alloc hC5 _) (C_mark hlit5))
  have hcv : (convert 23 23 (.slice (some ⟨w5.heap.size, 0, none⟩) 2 2)).run Tryd.prog (w5.alloc (.cells #[.int .u8 97, .int .u8 98] 5)) = .ok (.slice (some ⟨w5.heap.size, 0, none⟩) 2 2) (w5.alloc (.cells #[.int .u8 97, .int .u8 98] 5 (2, 3))) := Lib.run_convert_bytes_const w5 23 5 #[.int .u8 97, .int .u8 98] 2 2 Tryd.underlying23 Tryd.underlying5
  have HB6 : Aside0 (Below w.heap.size w (w5.alloc (.cells #[.int .u8 97, .int .u8 98] 5 (2, 3)))) := ⟨HB5.out.alloc HB5.out.size _⟩
  clear e2 h5 hC5 hlit5 ec
  go_wp2_with (first
    | (go_at_call 30; (with_reducible refine HSM.out.mono ?_); rintro e w6 ⟨rfl, ⟨⟨nd, rfl⟩⟩⟩))
  go_ret
  exact ⟨rfl, HB6.out.trans ((drewN_below _ nd).mono HB6.out.size)⟩
end Go.Proofs.YtcboegodjlfmnaaDoor.Tla
