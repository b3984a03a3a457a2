import Derived.Test.YtcboegodjlfmnaaDoorMtj
/-! Any bytes that break off are refused: the law. -/
namespace Go.Proofs.YtcboegodjlfmnaaDoor.Tlc
open Go.Proofs.YtcboegodjlfmnaaDoor.Tla Go.Proofs.YtcboegodjlfmnaaDoor.Trt Go.Proofs.YtcboegodjlfmnaaDoor.Trs Go.Proofs.YtcboegodjlfmnaaDoor.Tsi Go.Proofs.YtcboegodjlfmnaaDoor.Tsh Go.Proofs.YtcboegodjlfmnaaDoor.Tsg Go.Proofs.YtcboegodjlfmnaaDoor.Tsf Go.Proofs.YtcboegodjlfmnaaDoor.Tse Go.Proofs.YtcboegodjlfmnaaDoor.Tsd Go.Proofs.YtcboegodjlfmnaaDoor.Tpv Go.Proofs.YtcboegodjlfmnaaDoor.Tsc Go.Proofs.YtcboegodjlfmnaaDoor.Tsb Go.Proofs.YtcboegodjlfmnaaDoor.Tzm Go.Proofs.YtcboegodjlfmnaaDoor.Tzl Go.Proofs.YtcboegodjlfmnaaDoor.Trh Go.Proofs.YtcboegodjlfmnaaDoor.Trn Go.Proofs.YtcboegodjlfmnaaDoor.Trm Go.Proofs.YtcboegodjlfmnaaDoor.Tuv Go.Proofs.YtcboegodjlfmnaaDoor.Tpa Go.Proofs.YtcboegodjlfmnaaDoor.Duv Go.Proofs.YtcboegodjlfmnaaDoor.Dpu Go.Proofs.YtcboegodjlfmnaaDoor.Pak Go.Proofs.YtcboegodjlfmnaaDoor.Buf Go.Proofs.YtcboegodjlfmnaaDoor.Fit Go.Proofs.YtcboegodjlfmnaaDoor.Bit Go.Proofs.YtcboegodjlfmnaaDoor.Wrd Go.Proofs.YtcboegodjlfmnaaDoor.Spl Go.Proofs.YtcboegodjlfmnaaDoor.Str Go.Proofs.YtcboegodjlfmnaaDoor.Flt Go.Proofs.YtcboegodjlfmnaaDoor.Owe Go.Proofs.YtcboegodjlfmnaaDoor.Num Go.Proofs.YtcboegodjlfmnaaDoor.Le Go.Proofs.YtcboegodjlfmnaaDoor.Lst Go.Proofs.YtcboegodjlfmnaaDoor.Aid Go.RowKit Go.Proofs.YtcboegodjlfmnaaDoorW.PrintWords Go.Proofs.YtcboegodjlfmnaaDoorW.PrintLast Go.Proofs.YtcboegodjlfmnaaDoorW.PrintMore
set_option linter.unusedVariables false
set_option linter.unusedSimpArgs false
theorem th_type {k : Nat} {ty : Int} {bs : List Int} (h : thP (k + 1) ty bs ≠ .opn) : 3 ≤ ty ∧ ty ≤ 12 := by
  by_cases c : 3 ≤ ty ∧ ty ≤ 12
  · exact c
  · exact absurd (Tzz.th_other c bs) h
set_option maxHeartbeats 8000000 in
set_option maxRecDepth 100000 in
theorem thAny_cut (A : Option Addr) (n c : Nat) (bs : List Int) (ty : Int) (p1 p2 : Addr) (w : World) (hC : (Kd.int .u8).C w A n bs) (hc : n ≤ c) (hn : n ≤ 2147483647) (hb : bytesB bs = true) (hE : Tzv.E0 w p1 p2) :
    Calls Tryd.prog 17 #[.slice A n c, .int .i64 ty, .int .i64 1] w fun e w' => e = .returned (.bool true) ∧ Below w.heap.size w w' := by
  have HRS := Aside0.mk (Trs.readsThing_calls A n c bs ty w hC hc hn hb)
  have HC := Aside0.mk hC
  have HE := Aside0.mk hE
  have HBB := Aside0.mk hb
  clear hC hE hb
  go_enter Tryd.func17, Tryd.ntmps17
  by_cases c1 : 100000 < n
  · have q1 : decide (100000 < (n : Int)) = true := decide_eq_true (by omega)
    have q2 : decide (100000 < n) = true := decide_eq_true c1
    clear c1
    go_wp2_with (fail)
    go_ret
    exact ⟨rfl, Below.refl _ _⟩
  · have q1 : decide (100000 < (n : Int)) = false := decide_eq_false (by omega)
    have q2 : decide (100000 < n) = false := decide_eq_false c1
    clear c1
    go_upto_region 4 with (first
      | (go_at_call 31; (with_reducible refine HRS.out.mono ?_); rintro e w2 HQ; obtain ⟨x, cs, o2, s2, rfl, hin, hd, ho, hs⟩ := HQ.out; obtain ⟨B5, m5, j5, B7, m7, j7, B8, m8, j8, hxe⟩ := openT hin; rw [hxe]; have HD := Aside0.mk (hd.fin hs); have HB2 := Aside0.mk HQ.below; clear HQ hin hxe hd))
    have HB3 : Aside0 (Below w.heap.size w (w2.alloc (.cells #[.int .i64 x.d.ty, .bool x.d.bo, .int .i64 x.d.n, .int .u64 (x.d.bits : Int), .slice B5 m5 j5, .int .i64 x.d.ky, .int .i64 x.d.el, .slice B7 m7 j7, .slice B8 m8 j8] 27))) := ⟨HB2.out.alloc HB2.out.size _⟩
    generalize hw3 : World.alloc _ _ = w3 at HB3 ⊢
    clear hw3
    by_cases c2 : s2 = 1
    · have hcut : thP 7 ty bs = .cut := by
        rcases HD.out with ⟨h1, _⟩ | ⟨_, h⟩ | ⟨h1, _⟩
        · omega
        · exact h
        · omega
      have hno : thP 7 ty bs ≠ .opn := by rw [hcut]; intro h; cases h
      have hty := th_type hno
      have hrt := readThing_calls A n c bs ty p1 p2 w3 (Kd.C_below HC.out HB3.out) hn HBB.out (HE.out.below fun b hb => HB3.out.block b hb) (by omega) hno
      rw [hcut] at hrt
      have HRT := Aside0.mk hrt
      subst c2
      clear hcut hno hty hrt
      go_wp2_with (first
        | (go_at_call 13; (with_reducible refine HRT.out.mono ?_); rintro e w4 HQ; obtain rfl := HQ.cut rfl; have HB4 : Aside0 (Below w.heap.size w w4) := ⟨HB3.out.trans (HQ.below.mono HB3.out.size)⟩; clear HQ))
      go_ret
      exact ⟨rfl, HB4.out.alloc HB4.out.size _⟩
    · have q3 : ((s2 : Int) == 1) = false := by rw [beq_eq_false_iff_ne]; omega
      clear c2 hs
      go_wp2_with (fail)
      go_ret
      exact ⟨rfl, HB3.out⟩
set_option maxHeartbeats 8000000 in
set_option maxRecDepth 100000 in
theorem anyCut_holds0 (A : Option Addr) (N c : Nat) (zs : List Int) (ty : Int) (W : World) (w0 : IsRow .u8 W A N c zs) (y0 : N * 1 ≤ 140737488351232) (w1 : (Lit.int .i64 ty).wf = true) (hL : laidMetH Tryd.prog [("io.EOF", .iface "*errors.errorString" (.ptr (.agg [.lit (.string [69, 79, 70])]))), ("io.ErrUnexpectedEOF", .iface "*errors.errorString" (.ptr (.agg [.lit (.string [117, 110, 101, 120, 112, 101, 99, 116, 101, 100, 32, 69, 79, 70])])))] W) :
    Calls Tryd.prog 8 #[.slice A N c, .int .i64 ty] W fun e w' => e = .returned (.bool true) ∧ Below W.heap.size W w' := by
  obtain ⟨l, hlen, hc, hC, hwf⟩ := isRow_open w0
  obtain ⟨p1, p2, hE⟩ := e0_of_laid hL
  have hb : bytesB l = true := bytesB_of fun x hx => byt_of_wf (hwf x hx)
  have HC := Aside0.mk hC
  have HE := Aside0.mk hE
  have HBB := Aside0.mk hb
  have HW := Aside0.mk (works_calls p1 p2 W hE)
  clear w0 hwf hC hE hb hL
  go_enter Tryd.func8, Tryd.ntmps8
  by_cases c1 : 2147483647 < N
  · have q1 : decide (2147483647 < (N : Int)) = true := decide_eq_true (by omega)
    have q2 : decide (2147483647 < N) = true := decide_eq_true c1
    clear c1
    go_wp2_with (fail)
    go_ret
    exact ⟨rfl, Below.refl _ _⟩
  · have q1 : decide (2147483647 < (N : Int)) = false := decide_eq_false (by omega)
    have q2 : decide (2147483647 < N) = false := decide_eq_false c1
    have hN : N ≤ 2147483647 := by omega
    clear c1
    go_wp2_with (first
      | (go_at_call 16; (with_reducible refine HW.out.mono ?_); rintro e w2 ⟨rfl, hb2⟩; have HB2 := Aside0.mk hb2; have HAN := Aside0.mk (thAny_cut A N c l ty p1 p2 w2 (Kd.C_below HC.out hb2) hc hN HBB.out (HE.out.below fun b hb => hb2.block b hb)); clear hb2)
      | (go_at_call 17; (with_reducible refine HAN.out.mono ?_); rintro e w3 ⟨rfl, hb3⟩; have HB3 := Aside0.mk (HB2.out.trans (hb3.mono HB2.out.size)); clear hb3))
    go_ret
    exact ⟨rfl, HB3.out⟩
end Go.Proofs.YtcboegodjlfmnaaDoor.Tlc
