import Derived.Test.YtcboegodjlfmnaaDoorMtj
import Derived.Test.YtcboegodjlfmnaaDoorTsm
import Derived.Test.YtcboegodjlfmnaaDoorTsn
/-! Any bytes are read as the compact protocol says: the law. -/
namespace Go.Proofs.YtcboegodjlfmnaaDoor.Tld
open Go.Proofs.YtcboegodjlfmnaaDoor.Tla Go.Proofs.YtcboegodjlfmnaaDoor.Trt Go.Proofs.YtcboegodjlfmnaaDoor.Trs Go.Proofs.YtcboegodjlfmnaaDoor.Tsi Go.Proofs.YtcboegodjlfmnaaDoor.Tsh Go.Proofs.YtcboegodjlfmnaaDoor.Tsg Go.Proofs.YtcboegodjlfmnaaDoor.Tsf Go.Proofs.YtcboegodjlfmnaaDoor.Tse Go.Proofs.YtcboegodjlfmnaaDoor.Tsd Go.Proofs.YtcboegodjlfmnaaDoor.Tpv Go.Proofs.YtcboegodjlfmnaaDoor.Tsc Go.Proofs.YtcboegodjlfmnaaDoor.Tsb Go.Proofs.YtcboegodjlfmnaaDoor.Tzm Go.Proofs.YtcboegodjlfmnaaDoor.Tzl Go.Proofs.YtcboegodjlfmnaaDoor.Trh Go.Proofs.YtcboegodjlfmnaaDoor.Trn Go.Proofs.YtcboegodjlfmnaaDoor.Trm Go.Proofs.YtcboegodjlfmnaaDoor.Tuv Go.Proofs.YtcboegodjlfmnaaDoor.Tpa Go.Proofs.YtcboegodjlfmnaaDoor.Duv Go.Proofs.YtcboegodjlfmnaaDoor.Dpu Go.Proofs.YtcboegodjlfmnaaDoor.Pak Go.Proofs.YtcboegodjlfmnaaDoor.Buf Go.Proofs.YtcboegodjlfmnaaDoor.Fit Go.Proofs.YtcboegodjlfmnaaDoor.Bit Go.Proofs.YtcboegodjlfmnaaDoor.Wrd Go.Proofs.YtcboegodjlfmnaaDoor.Spl Go.Proofs.YtcboegodjlfmnaaDoor.Str Go.Proofs.YtcboegodjlfmnaaDoor.Flt Go.Proofs.YtcboegodjlfmnaaDoor.Owe Go.Proofs.YtcboegodjlfmnaaDoor.Num Go.Proofs.YtcboegodjlfmnaaDoor.Le Go.Proofs.YtcboegodjlfmnaaDoor.Lst Go.Proofs.YtcboegodjlfmnaaDoor.Aid Go.RowKit Go.Proofs.YtcboegodjlfmnaaDoorW.PrintWords Go.Proofs.YtcboegodjlfmnaaDoorW.PrintLast Go.Proofs.YtcboegodjlfmnaaDoorW.PrintMore
set_option linter.unusedVariables false
set_option linter.unusedSimpArgs false
set_option maxHeartbeats 8000000 in
set_option maxRecDepth 100000 in
theorem thAny_told (A : Option Addr) (n c : Nat) (bs : List Int) (ty : Int) (p1 p2 : Addr) (w : World) (hC : (Kd.int .u8).C w A n bs) (hc : n ≤ c) (hn : n ≤ 2147483647) (hb : bytesB bs = true) (hE : Tzv.E0 w p1 p2) :
    Calls Tryd.prog 17 #[.slice A n c, .int .i64 ty, .int .i64 0] w fun e w' => e = .returned (.bool true) ∧ Below w.heap.size w w' := by
  have HRS := Aside0.mk (Trs.readsThing_calls A n c bs ty w hC hc hn hb)
  have HLN : Aside0 (bs.length = n) := ⟨hC.1⟩
  have HC := Aside0.mk hC
  have HE := Aside0.mk hE
  have HBB := Aside0.mk hb
  clear hC hE hb
  go_enter Tryd.func17, Tryd.ntmps17
  by_cases c1 : 100000 < n
  · have q1 : decide (100000 < (n : Int)) = true := decide_eq_true (by omega)
    have q2 : decide (100000 < n) = true := decide_eq_true c1
    clear c1
    go_wp2_with (fail)
    go_ret
    exact ⟨rfl, Below.refl _ _⟩
  · have q1 : decide (100000 < (n : Int)) = false := decide_eq_false (by omega)
    have q2 : decide (100000 < n) = false := decide_eq_false c1
    clear c1
    go_upto_region 4 with (first
      | (go_at_call 31; (with_reducible refine HRS.out.mono ?_); rintro e w2 HQ; obtain ⟨x, cs, o2, s2, rfl, hin, hd, ho, hs⟩ := HQ.out; obtain ⟨B5, m5, mj5, B7, m7, mj7, B8, m8, mj8, hxe⟩ := openT hin; rw [hxe] at hin; rw [hxe]; have HI2 := Aside0.mk hin; have HD := Aside0.mk (hd.fin hs); have HB2 := Aside0.mk HQ.below; clear HQ hin hxe hd))
    have HB3 : Aside0 (Below w.heap.size w (w2.alloc (.cells #[.int .i64 x.d.ty, .bool x.d.bo, .int .i64 x.d.n, .int .u64 (x.d.bits : Int), .slice B5 m5 mj5, .int .i64 x.d.ky, .int .i64 x.d.el, .slice B7 m7 mj7, .slice B8 m8 mj8] 27))) := ⟨HB2.out.alloc HB2.out.size _⟩
    have HX3 := Aside0.mk (Blk.new w2 #[.int .i64 x.d.ty, .bool x.d.bo, .int .i64 x.d.n, .int .u64 (x.d.bits : Int), .slice B5 m5 mj5, .int .i64 x.d.ky, .int .i64 x.d.el, .slice B7 m7 mj7, .slice B8 m8 mj8] 27)
    have HI3 : Aside0 (x.In flT (w2.alloc (.cells #[.int .i64 x.d.ty, .bool x.d.bo, .int .i64 x.d.n, .int .u64 (x.d.bits : Int), .slice B5 m5 mj5, .int .i64 x.d.ky, .int .i64 x.d.el, .slice B7 m7 mj7, .slice B8 m8 mj8] 27)) (fun b => b < (w2.alloc (.cells #[.int .i64 x.d.ty, .bool x.d.bo, .int .i64 x.d.n, .int .u64 (x.d.bits : Int), .slice B5 m5 mj5, .int .i64 x.d.ky, .int .i64 x.d.el, .slice B7 m7 mj7, .slice B8 m8 mj8] 27)).heap.size) [.int .i64 x.d.ty, .bool x.d.bo, .int .i64 x.d.n, .int .u64 (x.d.bits : Int), .slice B5 m5 mj5, .int .i64 x.d.ky, .int .i64 x.d.el, .slice B7 m7 mj7, .slice B8 m8 mj8]) := ⟨HI2.out.move (fun b hb => Below.heap_alloc _ _ b hb) (fun b hb => by rw [allocSize]; exact Nat.lt_succ_of_lt hb)⟩
    generalize hw3 : World.alloc _ _ = w3 at HB3 HX3 HI3 ⊢
    clear hw3
    by_cases c2 : s2 = 0
    · obtain ⟨hok, ho2⟩ : thP 7 ty bs = .ok x (bs.drop o2) ∧ o2 ≤ n := by
        rcases HD.out with ⟨_, h⟩ | ⟨h1, _⟩ | ⟨h1, _⟩
        · exact ⟨h, ho⟩
        · omega
        · omega
      have hno : thP 7 ty bs ≠ .opn := by rw [hok]; intro h; cases h
      have hty := Tsk.ok_type hok
      have hrt := readThing_calls A n c bs ty p1 p2 w3 (Kd.C_below HC.out HB3.out) hn HBB.out (HE.out.below fun b hb => HB3.out.block b hb) (by omega) hno
      rw [hok] at hrt
      have HRT := Aside0.mk hrt
      have HOK := Aside0.mk hok
      have HWF := Aside0.mk (Tpw.th_wf 7 ty bs x _ hok HBB.out)
      have q5 : ((o2 : Int) == (o2 : Int)) = true := by simp
      subst c2
      clear hok hno hty hrt
      go_upto_region 7 with (first
        | (go_at_call 13; (with_reducible refine HRT.out.mono ?_); rintro e w4 HQ; obtain ⟨o', cs', hr, ho', rfl, hin⟩ := HQ.ok _ _ rfl; obtain rfl := off_uniq hr rfl (by have := HLN.out; omega) (by have := HLN.out; omega); obtain ⟨E5, k5, kj5, E7, k7, kj7, E8, k8, kj8, hye⟩ := openT hin; rw [hye] at hin; rw [hye]; have HI4 := Aside0.mk hin; have HB34 := Aside0.mk HQ.below; clear HQ hin hye hr ho'))
      have HB5 : Aside0 (Below w3.heap.size w3 (w4.alloc (.cells #[.int .i64 x.d.ty, .bool x.d.bo, .int .i64 x.d.n, .int .u64 (x.d.bits : Int), .slice E5 k5 kj5, .int .i64 x.d.ky, .int .i64 x.d.el, .slice E7 k7 kj7, .slice E8 k8 kj8] 27))) := ⟨HB34.out.alloc HB34.out.size _⟩
      have HX5 := Aside0.mk (Blk.new w4 #[.int .i64 x.d.ty, .bool x.d.bo, .int .i64 x.d.n, .int .u64 (x.d.bits : Int), .slice E5 k5 kj5, .int .i64 x.d.ky, .int .i64 x.d.el, .slice E7 k7 kj7, .slice E8 k8 kj8] 27)
      have HI5 : Aside0 (x.In flT (w4.alloc (.cells #[.int .i64 x.d.ty, .bool x.d.bo, .int .i64 x.d.n, .int .u64 (x.d.bits : Int), .slice E5 k5 kj5, .int .i64 x.d.ky, .int .i64 x.d.el, .slice E7 k7 kj7, .slice E8 k8 kj8] 27)) (fun b => b < (w4.alloc (.cells #[.int .i64 x.d.ty, .bool x.d.bo, .int .i64 x.d.n, .int .u64 (x.d.bits : Int), .slice E5 k5 kj5, .int .i64 x.d.ky, .int .i64 x.d.el, .slice E7 k7 kj7, .slice E8 k8 kj8] 27)).heap.size) [.int .i64 x.d.ty, .bool x.d.bo, .int .i64 x.d.n, .int .u64 (x.d.bits : Int), .slice E5 k5 kj5, .int .i64 x.d.ky, .int .i64 x.d.el, .slice E7 k7 kj7, .slice E8 k8 kj8]) := ⟨HI4.out.move (fun b hb => Below.heap_alloc _ _ b hb) (fun b hb => by rw [allocSize]; exact Nat.lt_succ_of_lt hb)⟩
      generalize hw5 : World.alloc _ _ = w5 at HB5 HX5 HI5 ⊢
      clear hw5
      have HB15 : Aside0 (Below w.heap.size w w5) := ⟨HB3.out.trans (HB5.out.mono HB3.out.size)⟩
      have HSK := Aside0.mk (Tsn.skipThing_calls A n c o' bs _ ty false x w5 (Kd.C_below HC.out HB15.out) hn HBB.out HOK.out rfl ho2)
      go_upto_region 10 with (first
        | (go_at_call 15; (with_reducible refine HSK.out.mono ?_); rintro e w6 ⟨rfl, hb6⟩; have HB6 := Aside0.mk hb6; clear hb6))
      have HX56 := Aside0.mk (HX5.out.below HB6.out HX5.out.lt)
      have HX36 := Aside0.mk ((HX3.out.below HB5.out HX3.out.lt).below HB6.out (by have := HX3.out.lt; have := HB5.out.size; omega))
      obtain ⟨e0, e1, e2, e3, e4, e5, e6, e7, e8, ez⟩ := nine HX56.out
      obtain ⟨f0, f1, f2, f3, f4, f5, f6, f7, f8, fz⟩ := nine HX36.out
      have HSM := Aside0.mk (Tsm.same_all x HWF.out w6 [.int .i64 x.d.ty, .bool x.d.bo, .int .i64 x.d.n, .int .u64 (x.d.bits : Int), .slice E5 k5 kj5, .int .i64 x.d.ky, .int .i64 x.d.el, .slice E7 k7 kj7, .slice E8 k8 kj8] [.int .i64 x.d.ty, .bool x.d.bo, .int .i64 x.d.n, .int .u64 (x.d.bits : Int), .slice B5 m5 mj5, .int .i64 x.d.ky, .int .i64 x.d.el, .slice B7 m7 mj7, .slice B8 m8 mj8] (HI5.out.move (fun b hb => HB6.out.block b hb) (fun b hb => Nat.lt_of_lt_of_le hb HB6.out.size)) (HI3.out.move (fun b hb => (HB6.out.block b (Nat.lt_of_lt_of_le hb HB5.out.size)).trans (HB5.out.block b hb)) (fun b hb => Nat.lt_of_lt_of_le hb (Nat.le_trans HB5.out.size HB6.out.size))))
      clear ez fz
      go_wp2_with (first
        | (go_at_call 28; (with_reducible refine HSM.out.mono ?_); rintro e w7 ⟨rfl, hb7⟩; have HB7 := Aside0.mk hb7; clear hb7))
      go_ret
      exact ⟨rfl, HB15.out.trans ((HB6.out.mono HB15.out.size).trans (HB7.out.mono (by have := HB15.out.size; have := HB6.out.size; omega)))⟩
    · have q3 : ((s2 : Int) == 0) = false := by rw [beq_eq_false_iff_ne]; omega
      clear c2 hs
      go_wp2_with (fail)
      go_ret
      exact ⟨rfl, HB3.out⟩
set_option maxHeartbeats 8000000 in
set_option maxRecDepth 100000 in
theorem any_holds0 (A : Option Addr) (N c : Nat) (zs : List Int) (ty : Int) (W : World) (w0 : IsRow .u8 W A N c zs) (y0 : N * 1 ≤ 140737488351232) (w1 : (Lit.int .i64 ty).wf = true) (hL : laidMetH Tryd.prog [("io.EOF", .iface "*errors.errorString" (.ptr (.agg [.lit (.string [69, 79, 70])]))), ("io.ErrUnexpectedEOF", .iface "*errors.errorString" (.ptr (.agg [.lit (.string [117, 110, 101, 120, 112, 101, 99, 116, 101, 100, 32, 69, 79, 70])])))] W) :
    Calls Tryd.prog 7 #[.slice A N c, .int .i64 ty] W fun e w' => e = .returned (.bool true) ∧ Below W.heap.size W w' := by
  obtain ⟨l, hlen, hc, hC, hwf⟩ := isRow_open w0
  obtain ⟨p1, p2, hE⟩ := e0_of_laid hL
  have hb : bytesB l = true := bytesB_of fun x hx => byt_of_wf (hwf x hx)
  have HC := Aside0.mk hC
  have HE := Aside0.mk hE
  have HBB := Aside0.mk hb
  have HW := Aside0.mk (works_calls p1 p2 W hE)
  clear w0 hwf hC hE hb hL
  go_enter Tryd.func7, Tryd.ntmps7
  by_cases c1 : 2147483647 < N
  · have q1 : decide (2147483647 < (N : Int)) = true := decide_eq_true (by omega)
    have q2 : decide (2147483647 < N) = true := decide_eq_true c1
    clear c1
    go_wp2_with (fail)
    go_ret
    exact ⟨rfl, Below.refl _ _⟩
  · have q1 : decide (2147483647 < (N : Int)) = false := decide_eq_false (by omega)
    have q2 : decide (2147483647 < N) = false := decide_eq_false c1
    have hN : N ≤ 2147483647 := by omega
    clear c1
    go_wp2_with (first
      | (go_at_call 16; (with_reducible refine HW.out.mono ?_); rintro e w2 ⟨rfl, hb2⟩; have HB2 := Aside0.mk hb2; have HAN := Aside0.mk (thAny_told A N c l ty p1 p2 w2 (Kd.C_below HC.out hb2) hc hN HBB.out (HE.out.below fun b hb => hb2.block b hb)); clear hb2)
      | (go_at_call 17; (with_reducible refine HAN.out.mono ?_); rintro e w3 ⟨rfl, hb3⟩; have HB3 := Aside0.mk (HB2.out.trans (hb3.mono HB2.out.size)); clear hb3))
    go_ret
    exact ⟨rfl, HB3.out⟩
end Go.Proofs.YtcboegodjlfmnaaDoor.Tld
