import Derived.Test.YtcboegodjlfmnaaDoorSlTwe
import Derived.Test.YtcboegodjlfmnaaDoorSlTrz
import Derived.Deep.RegionHeld3
namespace Go.Proofs.YtcboegodjlfmnaaDoor.Twg
open Go.Proofs.YtcboegodjlfmnaaDoor.Twe Go.Proofs.YtcboegodjlfmnaaDoor.Tit Go.Proofs.YtcboegodjlfmnaaDoor.Twd Go.Proofs.YtcboegodjlfmnaaDoor.Trt Go.Proofs.YtcboegodjlfmnaaDoor.Twb Go.Proofs.YtcboegodjlfmnaaDoor.Tbk Go.Proofs.YtcboegodjlfmnaaDoor.Twc Go.Proofs.YtcboegodjlfmnaaDoor.Twb Go.Proofs.YtcboegodjlfmnaaDoor.Twa Go.Proofs.YtcboegodjlfmnaaDoor.Tit Go.Proofs.YtcboegodjlfmnaaDoor.Tsd Go.Proofs.YtcboegodjlfmnaaDoor.Ton Go.Proofs.YtcboegodjlfmnaaDoor.Tpw Go.Proofs.YtcboegodjlfmnaaDoor.Tap Go.Proofs.YtcboegodjlfmnaaDoor.Tzm Go.Proofs.YtcboegodjlfmnaaDoor.Tzl Go.Proofs.YtcboegodjlfmnaaDoor.Trh Go.Proofs.YtcboegodjlfmnaaDoor.Trn Go.Proofs.YtcboegodjlfmnaaDoor.Trm Go.Proofs.YtcboegodjlfmnaaDoor.Tuv Go.Proofs.YtcboegodjlfmnaaDoor.Tpa Go.Proofs.YtcboegodjlfmnaaDoor.Duv Go.Proofs.YtcboegodjlfmnaaDoor.Dpu Go.Proofs.YtcboegodjlfmnaaDoor.Pak Go.Proofs.YtcboegodjlfmnaaDoor.Buf Go.Proofs.YtcboegodjlfmnaaDoor.Fit Go.Proofs.YtcboegodjlfmnaaDoor.Bit Go.Proofs.YtcboegodjlfmnaaDoor.Wrd Go.Proofs.YtcboegodjlfmnaaDoor.Spl Go.Proofs.YtcboegodjlfmnaaDoor.Str Go.Proofs.YtcboegodjlfmnaaDoor.Flt Go.Proofs.YtcboegodjlfmnaaDoor.Owe Go.Proofs.YtcboegodjlfmnaaDoor.Num Go.Proofs.YtcboegodjlfmnaaDoor.Le Go.Proofs.YtcboegodjlfmnaaDoor.Lst Go.Proofs.YtcboegodjlfmnaaDoor.Aid Go.RowKit Go.Proofs.YtcboegodjlfmnaaDoorW.PrintWords Go.Proofs.YtcboegodjlfmnaaDoorW.PrintLast Go.Proofs.YtcboegodjlfmnaaDoorW.PrintMore Go.Proofs.YtcboegodjlfmnaaDoor.Tpv Go.Proofs.YtcboegodjlfmnaaDoor.Tzz
set_option linter.unusedVariables false
set_option linter.unusedSimpArgs false
theorem len_sz : ∀ X : F, X.len ≤ F.sz X
  | .nil => Nat.le_refl _
  | .cons d id ls fs tl => by
    have := len_sz tl
    show tl.len + 1 ≤ 9 + d.bs.length + F.sz ls + F.sz fs + F.sz tl
    omega
set_option maxHeartbeats 8000000 in
set_option maxRecDepth 100000 in
theorem read_holds0 (x : N) (cs : List Value) (A : Option Addr) (NN c : Nat) (zs : List Int) (W : World) (hin : x.In flT W (fun b => b < W.heap.size) cs) (how : NOw x) (hsz : N.sz x ≤ 1048576) (w0 : IsRow .u8 W A NN c zs) (y0 : NN * 1 ≤ 140737488351232) (hL : laidMetH Tryd.prog [("io.EOF", .iface "*errors.errorString" (.ptr (.agg [.lit (.string [69, 79, 70])]))), ("io.ErrUnexpectedEOF", .iface "*errors.errorString" (.ptr (.agg [.lit (.string [117, 110, 101, 120, 112, 101, 99, 116, 101, 100, 32, 69, 79, 70])])))] W) :
    Calls Tryd.prog 5 #[.agg cs.toArray, .slice A NN c] W fun e w' => e = .returned (.bool true) ∧ Below W.heap.size W w' := by
  obtain ⟨ys, hlen, hc, hC, hwf⟩ := isRow_open w0
  have hby : bytesB ys = true := bytesB_of fun x hx => byt_of_wf (hwf x hx)
  have HC := Aside0.mk hC
  have HBY := Aside0.mk hby
  have HLY : Aside0 (ys.length = NN) := ⟨hC.1⟩
  clear w0 y0 hwf hC hby hlen
  obtain ⟨bsv, lsv, fsv, lcs, fcs, e, hb1, hl1, _, hf1, _⟩ := hin.out
  obtain ⟨A1, c1, rfl, _⟩ := hb1.out
  obtain ⟨A2, c2, rfl, _⟩ := hl1.out
  obtain ⟨A3, c3, rfl, _⟩ := hf1.out
  have hsz2 : 9 + x.d.bs.length + F.sz x.ls + F.sz x.fs ≤ 1048576 := hsz
  have hn1 : x.d.bs.length ≤ 2147483647 := by omega
  have hn2 : x.ls.len ≤ 2147483647 := by have := len_sz x.ls; omega
  have hn3 : x.fs.len ≤ 2147483647 := by have := len_sz x.fs; omega
  have HFT := Aside0.mk fun V => fits_calls x.d.ty x.d.bo x.d.n x.d.bits A1 x.d.bs.length c1 x.d.ky x.d.el A2 x.ls.len c2 A3 x.fs.len c3 V hn1 hn2 hn3
  obtain ⟨n1, hq1⟩ : ∃ n1, x.d.bs.length = n1 := ⟨_, rfl⟩
  obtain ⟨n2, hq2⟩ : ∃ n2, x.ls.len = n2 := ⟨_, rfl⟩
  obtain ⟨n3, hq3⟩ : ∃ n3, x.fs.len = n3 := ⟨_, rfl⟩
  have e2 : cs = [.int .i64 x.d.ty, .bool x.d.bo, .int .i64 x.d.n, .int .u64 (x.d.bits : Int), .slice A1 n1 c1, .int .i64 x.d.ky, .int .i64 x.d.el, .slice A2 n2 c2, .slice A3 n3 c3] := by rw [e, ← hq1, ← hq2, ← hq3]; rfl
  subst e2
  rw [hq1, hq2, hq3] at HFT
  clear e hb1 hl1 hf1 hn1 hn2 hn3 hsz2 hq1 hq2 hq3
  obtain ⟨p1, p2, hE⟩ := Tla.e0_of_laid hL
  have HE := Aside0.mk hE
  have HI := Aside0.mk hin
  have HIT : Aside0 (∀ V, Below W.heap.size W V → Calls Tryd.prog 11 #[.agg #[.int .i64 x.d.ty, .bool x.d.bo, .int .i64 x.d.n, .int .u64 (x.d.bits : Int), .slice A1 n1 c1, .int .i64 x.d.ky, .int .i64 x.d.el, .slice A2 n2 c2, .slice A3 n3 c3], .int .i64 6, .bool false] V fun e w' => ItR (N.ok x 6 false) V w' e) := ⟨fun V hb => Tiv.isThing_all x how 6 false V _ (by omega) (hin.move (fun b h => hb.block b h) (fun b h => Nat.lt_of_lt_of_le h hb.size))⟩
  have HFX : Aside0 (N.ok x 6 false → ∀ long, Fx long x) := ⟨fun h long => fx_of long x how hsz h⟩
  have HTB : Aside0 (N.ok x 6 false → ∀ (long : Bool) (V : World), Below W.heap.size W V → Calls Tryd.prog 12 #[.agg #[.int .i64 x.d.ty, .bool x.d.bo, .int .i64 x.d.n, .int .u64 (x.d.bits : Int), .slice A1 n1 c1, .int .i64 x.d.ky, .int .i64 x.d.el, .slice A2 n2 c2, .slice A3 n3 c3], .bool long] V fun e w' => WB V w' (x.byB long) e) := ⟨fun h long V hb => Twc.thingBytes_all long x 6 false V _ how h (fx_of long x how hsz h).len (hin.move (fun b h => hb.block b h) (fun b h => Nat.lt_of_lt_of_le h hb.size))⟩
  clear hin how hsz hE hL
  have HB : Aside0 (Below W.heap.size W (W.alloc (.cells #[.int .i64 x.d.ty, .bool x.d.bo, .int .i64 x.d.n, .int .u64 (x.d.bits : Int), .slice A1 n1 c1, .int .i64 x.d.ky, .int .i64 x.d.el, .slice A2 n2 c2, .slice A3 n3 c3] 27))) := ⟨(Below.refl _ _).alloc (Nat.le_refl _) _⟩
  have HV := Aside0.mk (Blk.new W #[.int .i64 x.d.ty, .bool x.d.bo, .int .i64 x.d.n, .int .u64 (x.d.bits : Int), .slice A1 n1 c1, .int .i64 x.d.ky, .int .i64 x.d.el, .slice A2 n2 c2, .slice A3 n3 c3] 27)
  go_enter Tryd.func5, Tryd.ntmps5
  go_upto_region 1 with (fail)
  generalize hW1 : World.alloc _ _ = W1 at HB HV ⊢
  clear hW1
  obtain ⟨q0, q1, q2, q3, q4, q5, q6, q7, q8, qz⟩ := nine HV.out
  by_cases z1 : 2147483647 < NN
  · have k1 : decide (2147483647 < (NN : Int)) = true := decide_eq_true (by omega)
    have k11 : decide (2147483647 < NN) = true := decide_eq_true z1
    clear z1
    go_wp2_with (first
      | (go_at_call 10; (with_reducible refine (HFT.out _).mono ?_); rintro e w2 ⟨rfl, hb⟩; have HB2 := Aside0.mk (HB.out.trans (hb.mono HB.out.size)); clear hb))
    go_ret
    exact ⟨rfl, HB2.out⟩
  have k1 : decide (2147483647 < (NN : Int)) = false := decide_eq_false (by omega)
  have k11 : decide (2147483647 < NN) = false := decide_eq_false z1
  clear z1
  go_upto_region 3 with (first
    | (go_at_call 10; (with_reducible refine (HFT.out _).mono ?_); rintro e w2 ⟨rfl, hb⟩; have HB2 := Aside0.mk (HB.out.trans (hb.mono HB.out.size)); have HV2 := Aside0.mk (HV.out.below hb HV.out.lt); clear hb))
  have HXA : Aside0 (∀ V, Below w2.heap.size w2 V → V.cell? ⟨W.heap.size, 0, none⟩ = some (.int .i64 x.d.ty) ∧ V.cell? ⟨W.heap.size, 1, none⟩ = some (.bool x.d.bo) ∧ V.cell? ⟨W.heap.size, 2, none⟩ = some (.int .i64 x.d.n) ∧ V.cell? ⟨W.heap.size, 3, none⟩ = some (.int .u64 (x.d.bits : Int)) ∧ V.cell? ⟨W.heap.size, 4, none⟩ = some (.slice A1 n1 c1) ∧ V.cell? ⟨W.heap.size, 5, none⟩ = some (.int .i64 x.d.ky) ∧ V.cell? ⟨W.heap.size, 6, none⟩ = some (.int .i64 x.d.el) ∧ V.cell? ⟨W.heap.size, 7, none⟩ = some (.slice A2 n2 c2) ∧ V.cell? ⟨W.heap.size, 8, none⟩ = some (.slice A3 n3 c3)) := ⟨fun V h => by
    obtain ⟨q0, q1, q2, q3, q4, q5, q6, q7, q8, qz⟩ := nine (HV2.out.below h HV2.out.lt)
    exact ⟨q0, q1, q2, q3, q4, q5, q6, q7, q8⟩⟩
  have HBd : Aside0 (Below w2.heap.size w2 w2.drew) := ⟨(Below.refl _ _).drew⟩
  clear q0 q1 q2 q3 q4 q5 q6 q7 q8 qz
  by_cases hk : N.ok x 6 false
  case neg =>
    have HI2 : Aside0 (∀ V, Below w2.heap.size w2 V → Calls Tryd.prog 11 #[.agg #[.int .i64 x.d.ty, .bool x.d.bo, .int .i64 x.d.n, .int .u64 (x.d.bits : Int), .slice A1 n1 c1, .int .i64 x.d.ky, .int .i64 x.d.el, .slice A2 n2 c2, .slice A3 n3 c3], .int .i64 6, .bool false] V fun e w' => e = .returned (.bool false) ∧ Below V.heap.size V w') := ⟨fun V hb => (HIT.out V (HB2.out.trans (hb.mono HB2.out.size))).mono fun e w' h => by
      obtain ⟨r, rfl, hr⟩ := h.out
      obtain rfl : r = false := by cases r with | false => rfl | true => exact absurd (hr.1 rfl) hk
      exact ⟨rfl, h.below⟩⟩
    clear hk
    obtain ⟨q0, q1, q2, q3, q4, q5, q6, q7, q8, qz⟩ := nine HV2.out
    refine wp_region_any (by kernel_rfl) ?_
    try (change wpAny _ _ _ _ _ _ _ (World.drew _))
    refine wpAny_ready (rs := [0]) (by kernel_rfl) (by simp) ?_
    refine AllReady.cons rfl (fun K hK => ?_) AllReady.nil
    go_simp
    refine hK _ _ ?_
    clear hK K
    (try simp only [Act.put, List.setIfInBounds_toArray, List.set_cons_zero, List.set_cons_succ])
    refine wpAny_ready (rs := [1]) (by kernel_rfl) (by simp) ?_
    refine AllReady.cons rfl (fun K hK => ?_) AllReady.nil
    go_simp
    go_wp2_with ((go_at_call 11; (with_reducible refine (HI2.out _ HBd.out).mono ?_); rintro e w3 ⟨rfl, hb⟩; have HB3 := Aside0.mk (HBd.out.trans (hb.mono HBd.out.size)); clear hb))
    try (refine hK _ _ ?_; clear hK K)
    (try simp only [Act.put, List.setIfInBounds_toArray, List.set_cons_zero, List.set_cons_succ])
    refine wpAny_ready (rs := [2]) (by kernel_rfl) (by simp) ?_
    refine AllReady.cons rfl (fun K hK => ?_) AllReady.nil
    go_simp
    refine hK _ _ ?_
    clear hK K
    (try simp only [Act.put, List.setIfInBounds_toArray, List.set_cons_zero, List.set_cons_succ])
    refine wpAny_ready (rs := [3]) (by kernel_rfl) (by simp) ?_
    refine AllReady.cons rfl (fun K hK => ?_) AllReady.nil
    go_simp
    refine hK _ _ ?_
    clear hK K
    (try simp only [Act.put, List.setIfInBounds_toArray, List.set_cons_zero, List.set_cons_succ])
    refine wpAny_ready (rs := [4]) (by kernel_rfl) (by simp) ?_
    refine AllReady.cons rfl (fun K hK => ?_) AllReady.nil
    go_simp
    refine hK _ _ ?_
    clear hK K
    (try simp only [Act.put, List.setIfInBounds_toArray, List.set_cons_zero, List.set_cons_succ])
    refine wpAny_ready (rs := [5]) (by kernel_rfl) (by simp) ?_
    refine AllReady.cons rfl (fun K hK => ?_) AllReady.nil
    go_simp
    refine hK _ _ ?_
    clear hK K
    (try simp only [Act.put, List.setIfInBounds_toArray, List.set_cons_zero, List.set_cons_succ])
    refine wpAny_ready (rs := [6]) (by kernel_rfl) (by simp) ?_
    refine AllReady.cons rfl (fun K hK => ?_) AllReady.nil
    go_simp
    refine hK _ _ ?_
    clear hK K
    (try simp only [Act.put, List.setIfInBounds_toArray, List.set_cons_zero, List.set_cons_succ])
    refine wpAny_ready (rs := [7]) (by kernel_rfl) (by simp) ?_
    refine AllReady.cons rfl (fun K hK => ?_) AllReady.nil
    go_simp
    refine hK _ _ ?_
    clear hK K
    (try simp only [Act.put, List.setIfInBounds_toArray, List.set_cons_zero, List.set_cons_succ])
    refine wpAny_ready (rs := [8]) (by kernel_rfl) (by simp) ?_
    refine AllReady.cons rfl (fun K hK => ?_) AllReady.nil
    go_simp
    refine hK _ _ ?_
    clear hK K
    (try simp only [Act.put, List.setIfInBounds_toArray, List.set_cons_zero, List.set_cons_succ])
    refine wpAny_take (i := 12) (v := undef) rfl (by kernel_rfl) (by kernel_rfl) (by kernel_rfl) (fun _ _ _ h => h) (Or.inr ⟨by rfl, rfl⟩) ?_
    (try simp only [Act.put, List.setIfInBounds_toArray, List.set_cons_zero, List.set_cons_succ])
    refine wpAny_ready (rs := [9, 10]) (by kernel_rfl) (by simp) ?_
    refine AllReady.cons rfl (fun K hK => ?_) (AllReady.cons rfl (fun K hK => ?_) AllReady.nil)
    · go_simp
      refine hK _ _ ?_
      clear hK K
      (try simp only [Act.put, List.setIfInBounds_toArray, List.set_cons_zero, List.set_cons_succ])
      refine wpAny_ready (rs := [10]) (by kernel_rfl) (by simp) ?_
      refine AllReady.cons rfl (fun K hK => ?_) AllReady.nil
      go_simp
      refine hK _ _ ?_
      clear hK K
      (try simp only [Act.put, List.setIfInBounds_toArray, List.set_cons_zero, List.set_cons_succ])
      refine wpAny_ready (rs := [11]) (by kernel_rfl) (by simp) ?_
      refine AllReady.cons rfl (fun K hK => ?_) AllReady.nil
      go_simp
      refine hK _ _ ?_
      clear hK K
      (try simp only [Act.put, List.setIfInBounds_toArray, List.set_cons_zero, List.set_cons_succ])
      refine wpAny_ready (rs := [13]) (by kernel_rfl) (by simp) ?_
      refine AllReady.cons rfl (fun K hK => ?_) AllReady.nil
      go_simp
      refine hK _ _ ?_
      clear hK K
      (try simp only [Act.put, List.setIfInBounds_toArray, List.set_cons_zero, List.set_cons_succ])
      refine wpAny_ready (rs := [14]) (by kernel_rfl) (by simp) ?_
      refine AllReady.cons rfl (fun K hK => ?_) AllReady.nil
      go_simp
      refine hK _ _ ?_
      clear hK K
      (try simp only [Act.put, List.setIfInBounds_toArray, List.set_cons_zero, List.set_cons_succ])
      refine wpAny_ready (rs := [15]) (by kernel_rfl) (by simp) ?_
      refine AllReady.cons rfl (fun K hK => ?_) AllReady.nil
      go_simp
      refine hK _ _ ?_
      clear hK K
      (try simp only [Act.put, List.setIfInBounds_toArray, List.set_cons_zero, List.set_cons_succ])
      refine wpAny_done (by kernel_rfl) ?_ _
      go_wp2_with (fail)
      go_ret
      exact ⟨rfl, HB2.out.trans (HB3.out.mono HB2.out.size)⟩
    · go_simp
      refine hK _ _ ?_
      clear hK K
      (try simp only [Act.put, List.setIfInBounds_toArray, List.set_cons_zero, List.set_cons_succ])
      refine wpAny_ready (rs := [9, 11]) (by kernel_rfl) (by simp) ?_
      refine AllReady.cons rfl (fun K hK => ?_) (AllReady.cons rfl (fun K hK => ?_) AllReady.nil)
      · go_simp
        refine hK _ _ ?_
        clear hK K
        (try simp only [Act.put, List.setIfInBounds_toArray, List.set_cons_zero, List.set_cons_succ])
        refine wpAny_ready (rs := [11]) (by kernel_rfl) (by simp) ?_
        refine AllReady.cons rfl (fun K hK => ?_) AllReady.nil
        go_simp
        refine hK _ _ ?_
        clear hK K
        (try simp only [Act.put, List.setIfInBounds_toArray, List.set_cons_zero, List.set_cons_succ])
        refine wpAny_ready (rs := [13]) (by kernel_rfl) (by simp) ?_
        refine AllReady.cons rfl (fun K hK => ?_) AllReady.nil
        go_simp
        refine hK _ _ ?_
        clear hK K
        (try simp only [Act.put, List.setIfInBounds_toArray, List.set_cons_zero, List.set_cons_succ])
        refine wpAny_ready (rs := [14]) (by kernel_rfl) (by simp) ?_
        refine AllReady.cons rfl (fun K hK => ?_) AllReady.nil
        go_simp
        refine hK _ _ ?_
        clear hK K
        (try simp only [Act.put, List.setIfInBounds_toArray, List.set_cons_zero, List.set_cons_succ])
        refine wpAny_ready (rs := [15]) (by kernel_rfl) (by simp) ?_
        refine AllReady.cons rfl (fun K hK => ?_) AllReady.nil
        go_simp
        refine hK _ _ ?_
        clear hK K
        (try simp only [Act.put, List.setIfInBounds_toArray, List.set_cons_zero, List.set_cons_succ])
        refine wpAny_done (by kernel_rfl) ?_ _
        go_wp2_with (fail)
        go_ret
        exact ⟨rfl, HB2.out.trans (HB3.out.mono HB2.out.size)⟩
      · go_simp
        refine hK _ _ ?_
        clear hK K
        (try simp only [Act.put, List.setIfInBounds_toArray, List.set_cons_zero, List.set_cons_succ])
        refine wpAny_ready (rs := [9]) (by kernel_rfl) (by simp) ?_
        refine AllReady.cons rfl (fun K hK => ?_) AllReady.nil
        go_simp
        refine hK _ _ ?_
        clear hK K
        (try simp only [Act.put, List.setIfInBounds_toArray, List.set_cons_zero, List.set_cons_succ])
        refine wpAny_ready (rs := [13]) (by kernel_rfl) (by simp) ?_
        refine AllReady.cons rfl (fun K hK => ?_) AllReady.nil
        go_simp
        refine hK _ _ ?_
        clear hK K
        (try simp only [Act.put, List.setIfInBounds_toArray, List.set_cons_zero, List.set_cons_succ])
        refine wpAny_ready (rs := [14]) (by kernel_rfl) (by simp) ?_
        refine AllReady.cons rfl (fun K hK => ?_) AllReady.nil
        go_simp
        refine hK _ _ ?_
        clear hK K
        (try simp only [Act.put, List.setIfInBounds_toArray, List.set_cons_zero, List.set_cons_succ])
        refine wpAny_ready (rs := [15]) (by kernel_rfl) (by simp) ?_
        refine AllReady.cons rfl (fun K hK => ?_) AllReady.nil
        go_simp
        refine hK _ _ ?_
        clear hK K
        (try simp only [Act.put, List.setIfInBounds_toArray, List.set_cons_zero, List.set_cons_succ])
        refine wpAny_done (by kernel_rfl) ?_ _
        go_wp2_with (fail)
        go_ret
        exact ⟨rfl, HB2.out.trans (HB3.out.mono HB2.out.size)⟩
  have HI2 : Aside0 (∀ V, Below w2.heap.size w2 V → Calls Tryd.prog 11 #[.agg #[.int .i64 x.d.ty, .bool x.d.bo, .int .i64 x.d.n, .int .u64 (x.d.bits : Int), .slice A1 n1 c1, .int .i64 x.d.ky, .int .i64 x.d.el, .slice A2 n2 c2, .slice A3 n3 c3], .int .i64 6, .bool false] V fun e w' => e = .returned (.bool true) ∧ Below V.heap.size V w') := ⟨fun V hb => (HIT.out V (HB2.out.trans (hb.mono HB2.out.size))).mono fun e w' h => by
    obtain ⟨r, rfl, hr⟩ := h.out
    obtain rfl : r = true := by exact hr.2 hk
    exact ⟨rfl, h.below⟩⟩
  have HF := Aside0.mk (HFX.out hk false)
  have HTX := Aside0.mk (HTB.out hk false)
  clear hk HFX HTB HIT
  by_cases z2 : 1000 < NN
  · have k2 : decide (1000 < (NN : Int)) = true := decide_eq_true (by omega)
    have k22 : decide (1000 < NN) = true := decide_eq_true z2
    clear z2
    obtain ⟨q0, q1, q2, q3, q4, q5, q6, q7, q8, qz⟩ := nine HV2.out
    refine wp_region_any (by kernel_rfl) ?_
    try (change wpAny _ _ _ _ _ _ _ (World.drew _))
    refine wpAny_ready (rs := [0]) (by kernel_rfl) (by simp) ?_
    refine AllReady.cons rfl (fun K hK => ?_) AllReady.nil
    go_simp
    refine hK _ _ ?_
    clear hK K
    (try simp only [Act.put, List.setIfInBounds_toArray, List.set_cons_zero, List.set_cons_succ])
    refine wpAny_ready (rs := [1]) (by kernel_rfl) (by simp) ?_
    refine AllReady.cons rfl (fun K hK => ?_) AllReady.nil
    go_simp
    go_wp2_with ((go_at_call 11; (with_reducible refine (HI2.out _ HBd.out).mono ?_); rintro e w3 ⟨rfl, hb⟩; have HB3 := Aside0.mk (HBd.out.trans (hb.mono HBd.out.size)); clear hb))
    try (refine hK _ _ ?_; clear hK K)
    (try simp only [Act.put, List.setIfInBounds_toArray, List.set_cons_zero, List.set_cons_succ])
    refine wpAny_ready (rs := [2]) (by kernel_rfl) (by simp) ?_
    refine AllReady.cons rfl (fun K hK => ?_) AllReady.nil
    go_simp
    refine hK _ _ ?_
    clear hK K
    (try simp only [Act.put, List.setIfInBounds_toArray, List.set_cons_zero, List.set_cons_succ])
    refine wpAny_ready (rs := [3]) (by kernel_rfl) (by simp) ?_
    refine AllReady.cons rfl (fun K hK => ?_) AllReady.nil
    go_simp
    refine hK _ _ ?_
    clear hK K
    (try simp only [Act.put, List.setIfInBounds_toArray, List.set_cons_zero, List.set_cons_succ])
    refine wpAny_ready (rs := [4]) (by kernel_rfl) (by simp) ?_
    refine AllReady.cons rfl (fun K hK => ?_) AllReady.nil
    go_simp
    refine hK _ _ ?_
    clear hK K
    (try simp only [Act.put, List.setIfInBounds_toArray, List.set_cons_zero, List.set_cons_succ])
    refine wpAny_ready (rs := [5]) (by kernel_rfl) (by simp) ?_
    refine AllReady.cons rfl (fun K hK => ?_) AllReady.nil
    go_simp
    refine hK _ _ ?_
    clear hK K
    (try simp only [Act.put, List.setIfInBounds_toArray, List.set_cons_zero, List.set_cons_succ])
    refine wpAny_ready (rs := [6]) (by kernel_rfl) (by simp) ?_
    refine AllReady.cons rfl (fun K hK => ?_) AllReady.nil
    go_simp
    refine hK _ _ ?_
    clear hK K
    (try simp only [Act.put, List.setIfInBounds_toArray, List.set_cons_zero, List.set_cons_succ])
    refine wpAny_ready (rs := [7]) (by kernel_rfl) (by simp) ?_
    refine AllReady.cons rfl (fun K hK => ?_) AllReady.nil
    go_simp
    refine hK _ _ ?_
    clear hK K
    (try simp only [Act.put, List.setIfInBounds_toArray, List.set_cons_zero, List.set_cons_succ])
    refine wpAny_ready (rs := [8]) (by kernel_rfl) (by simp) ?_
    refine AllReady.cons rfl (fun K hK => ?_) AllReady.nil
    go_simp
    refine hK _ _ ?_
    clear hK K
    (try simp only [Act.put, List.setIfInBounds_toArray, List.set_cons_zero, List.set_cons_succ])
    refine wpAny_take (i := 12) (v := undef) rfl (by kernel_rfl) (by kernel_rfl) (by kernel_rfl) (fun _ _ _ h => h) (Or.inr ⟨by rfl, rfl⟩) ?_
    (try simp only [Act.put, List.setIfInBounds_toArray, List.set_cons_zero, List.set_cons_succ])
    refine wpAny_ready (rs := [9, 10]) (by kernel_rfl) (by simp) ?_
    refine AllReady.cons rfl (fun K hK => ?_) (AllReady.cons rfl (fun K hK => ?_) AllReady.nil)
    · go_simp
      refine hK _ _ ?_
      clear hK K
      (try simp only [Act.put, List.setIfInBounds_toArray, List.set_cons_zero, List.set_cons_succ])
      refine wpAny_ready (rs := [10]) (by kernel_rfl) (by simp) ?_
      refine AllReady.cons rfl (fun K hK => ?_) AllReady.nil
      go_simp
      refine hK _ _ ?_
      clear hK K
      (try simp only [Act.put, List.setIfInBounds_toArray, List.set_cons_zero, List.set_cons_succ])
      refine wpAny_ready (rs := [11]) (by kernel_rfl) (by simp) ?_
      refine AllReady.cons rfl (fun K hK => ?_) AllReady.nil
      go_simp
      refine hK _ _ ?_
      clear hK K
      (try simp only [Act.put, List.setIfInBounds_toArray, List.set_cons_zero, List.set_cons_succ])
      refine wpAny_ready (rs := [13]) (by kernel_rfl) (by simp) ?_
      refine AllReady.cons rfl (fun K hK => ?_) AllReady.nil
      go_simp
      refine hK _ _ ?_
      clear hK K
      (try simp only [Act.put, List.setIfInBounds_toArray, List.set_cons_zero, List.set_cons_succ])
      refine wpAny_ready (rs := [14]) (by kernel_rfl) (by simp) ?_
      refine AllReady.cons rfl (fun K hK => ?_) AllReady.nil
      go_simp
      refine hK _ _ ?_
      clear hK K
      (try simp only [Act.put, List.setIfInBounds_toArray, List.set_cons_zero, List.set_cons_succ])
      refine wpAny_ready (rs := [15]) (by kernel_rfl) (by simp) ?_
      refine AllReady.cons rfl (fun K hK => ?_) AllReady.nil
      go_simp
      refine hK _ _ ?_
      clear hK K
      (try simp only [Act.put, List.setIfInBounds_toArray, List.set_cons_zero, List.set_cons_succ])
      refine wpAny_done (by kernel_rfl) ?_ _
      go_wp2_with (fail)
      go_ret
      exact ⟨rfl, HB2.out.trans (HB3.out.mono HB2.out.size)⟩
    · go_simp
      refine hK _ _ ?_
      clear hK K
      (try simp only [Act.put, List.setIfInBounds_toArray, List.set_cons_zero, List.set_cons_succ])
      refine wpAny_ready (rs := [9, 11]) (by kernel_rfl) (by simp) ?_
      refine AllReady.cons rfl (fun K hK => ?_) (AllReady.cons rfl (fun K hK => ?_) AllReady.nil)
      · go_simp
        refine hK _ _ ?_
        clear hK K
        (try simp only [Act.put, List.setIfInBounds_toArray, List.set_cons_zero, List.set_cons_succ])
        refine wpAny_ready (rs := [11]) (by kernel_rfl) (by simp) ?_
        refine AllReady.cons rfl (fun K hK => ?_) AllReady.nil
        go_simp
        refine hK _ _ ?_
        clear hK K
        (try simp only [Act.put, List.setIfInBounds_toArray, List.set_cons_zero, List.set_cons_succ])
        refine wpAny_ready (rs := [13]) (by kernel_rfl) (by simp) ?_
        refine AllReady.cons rfl (fun K hK => ?_) AllReady.nil
        go_simp
        refine hK _ _ ?_
        clear hK K
        (try simp only [Act.put, List.setIfInBounds_toArray, List.set_cons_zero, List.set_cons_succ])
        refine wpAny_ready (rs := [14]) (by kernel_rfl) (by simp) ?_
        refine AllReady.cons rfl (fun K hK => ?_) AllReady.nil
        go_simp
        refine hK _ _ ?_
        clear hK K
        (try simp only [Act.put, List.setIfInBounds_toArray, List.set_cons_zero, List.set_cons_succ])
        refine wpAny_ready (rs := [15]) (by kernel_rfl) (by simp) ?_
        refine AllReady.cons rfl (fun K hK => ?_) AllReady.nil
        go_simp
        refine hK _ _ ?_
        clear hK K
        (try simp only [Act.put, List.setIfInBounds_toArray, List.set_cons_zero, List.set_cons_succ])
        refine wpAny_done (by kernel_rfl) ?_ _
        go_wp2_with (fail)
        go_ret
        exact ⟨rfl, HB2.out.trans (HB3.out.mono HB2.out.size)⟩
      · go_simp
        refine hK _ _ ?_
        clear hK K
        (try simp only [Act.put, List.setIfInBounds_toArray, List.set_cons_zero, List.set_cons_succ])
        refine wpAny_ready (rs := [9]) (by kernel_rfl) (by simp) ?_
        refine AllReady.cons rfl (fun K hK => ?_) AllReady.nil
        go_simp
        refine hK _ _ ?_
        clear hK K
        (try simp only [Act.put, List.setIfInBounds_toArray, List.set_cons_zero, List.set_cons_succ])
        refine wpAny_ready (rs := [13]) (by kernel_rfl) (by simp) ?_
        refine AllReady.cons rfl (fun K hK => ?_) AllReady.nil
        go_simp
        refine hK _ _ ?_
        clear hK K
        (try simp only [Act.put, List.setIfInBounds_toArray, List.set_cons_zero, List.set_cons_succ])
        refine wpAny_ready (rs := [14]) (by kernel_rfl) (by simp) ?_
        refine AllReady.cons rfl (fun K hK => ?_) AllReady.nil
        go_simp
        refine hK _ _ ?_
        clear hK K
        (try simp only [Act.put, List.setIfInBounds_toArray, List.set_cons_zero, List.set_cons_succ])
        refine wpAny_ready (rs := [15]) (by kernel_rfl) (by simp) ?_
        refine AllReady.cons rfl (fun K hK => ?_) AllReady.nil
        go_simp
        refine hK _ _ ?_
        clear hK K
        (try simp only [Act.put, List.setIfInBounds_toArray, List.set_cons_zero, List.set_cons_succ])
        refine wpAny_done (by kernel_rfl) ?_ _
        go_wp2_with (fail)
        go_ret
        exact ⟨rfl, HB2.out.trans (HB3.out.mono HB2.out.size)⟩
  have k2 : decide (1000 < (NN : Int)) = false := decide_eq_false (by omega)
  have k22 : decide (1000 < NN) = false := decide_eq_false z2
  have hn9 : NN ≤ 1000 := by omega
  clear z2
  obtain ⟨BX, hBX⟩ : ∃ BX, x.byB false = BX := ⟨_, rfl⟩
  obtain ⟨M, hM⟩ : ∃ M, BX.length = M := ⟨_, rfl⟩
  have hM9 : M ≤ 4000000 := by have := HF.out.len; rw [hBX, hM] at this; exact this
  rw [hBX] at HTX
  have hth := HF.out.th ys
  have hbx := HF.out.byt
  rw [hBX] at hth hbx
  have HM := Aside0.mk hM
  have HTH := Aside0.mk hth
  have HTB2 : Aside0 (bytesB (BX ++ ys) = true) := ⟨Twe.bytes_app hbx HBY.out⟩
  have HTI : Aside0 (∀ (A4 : Option Addr) (c4 : Nat) (V : World), Below W.heap.size W V → (Kd.int .u8).C V A4 M BX → Calls Tryd.prog 14 #[.agg #[.int .i64 x.d.ty, .bool x.d.bo, .int .i64 x.d.n, .int .u64 (x.d.bits : Int), .slice A1 n1 c1, .int .i64 x.d.ky, .int .i64 x.d.el, .slice A2 n2 c2, .slice A3 n3 c3], .slice A4 M c4, .slice A NN c] V fun e w' => e = .returned (.bool true) ∧ Below V.heap.size V w') := ⟨fun A4 c4 V hb hc => Twd.thIs_calls x HF.out.wf A1 n1 c1 A2 n2 c2 A3 n3 c3 A4 M c4 BX A NN c ys p1 p2 V (HI.out.move (fun b h => hb.block b h) (fun b h => Nat.lt_of_lt_of_le h hb.size)) hc (Kd.C_below HC.out hb) (by omega) (by omega) HTB2.out (HE.out.below fun b h => hb.block b h) HF.out.ty HTH.out⟩
  clear hBX hM hth hbx
  go_region_held3 (fun (V : World) => V.cell? ⟨W.heap.size, 0, none⟩ = some (.int .i64 x.d.ty) ∧ V.cell? ⟨W.heap.size, 1, none⟩ = some (.bool x.d.bo) ∧ V.cell? ⟨W.heap.size, 2, none⟩ = some (.int .i64 x.d.n) ∧ V.cell? ⟨W.heap.size, 3, none⟩ = some (.int .u64 (x.d.bits : Int)) ∧ V.cell? ⟨W.heap.size, 4, none⟩ = some (.slice A1 n1 c1) ∧ V.cell? ⟨W.heap.size, 5, none⟩ = some (.int .i64 x.d.ky) ∧ V.cell? ⟨W.heap.size, 6, none⟩ = some (.int .i64 x.d.el) ∧ V.cell? ⟨W.heap.size, 7, none⟩ = some (.slice A2 n2 c2) ∧ V.cell? ⟨W.heap.size, 8, none⟩ = some (.slice A3 n3 c3))
    (first
      | with_reducible exact HXA.out _ HB5.out
      | with_reducible exact HXA.out _ HB4.out
      | with_reducible exact HXA.out _ HB3.out
      | with_reducible exact HXA.out _ HBd.out)
    ((first
      | (go_at_call 11; (with_reducible refine (HI2.out _ HBd.out).mono ?_); rintro e w3 ⟨rfl, hb⟩; have HB3 := Aside0.mk (HBd.out.trans (hb.mono HBd.out.size)); clear hb)
      | (go_at_call 12; (with_reducible refine (HTX.out _ (HB2.out.trans (HB3.out.mono HB2.out.size))).mono ?_); rintro e w4 HQ; obtain ⟨v4, rfl, ho⟩ := HQ.out; obtain ⟨A4, c4, rfl, hc4, hr4⟩ := ho.read; rw [HM.out] at hc4 hr4; rw [HM.out]; have HR4 := Aside0.mk hr4; have HB4 := Aside0.mk (HB3.out.trans (HQ.below.mono HB3.out.size)); clear HQ ho hr4)
      | (go_at_call 14; (with_reducible refine (HTI.out A4 c4 _ (HB2.out.trans (HB4.out.mono HB2.out.size)) HR4.out).mono ?_); rintro e w5 ⟨rfl, hb⟩; have HB5 := Aside0.mk (HB4.out.trans (hb.mono HB4.out.size)); clear hb)
      | fail "no arm"))
  all_goals go_wp2_with (fail)
  all_goals go_ret
  all_goals exact ⟨rfl, HB2.out.trans (HB5.out.mono HB2.out.size)⟩
set_option maxHeartbeats 8000000 in
set_option maxRecDepth 100000 in
theorem long_holds0 (x : N) (cs : List Value) (A : Option Addr) (NN c : Nat) (zs : List Int) (W : World) (hin : x.In flT W (fun b => b < W.heap.size) cs) (how : NOw x) (hsz : N.sz x ≤ 1048576) (w0 : IsRow .u8 W A NN c zs) (y0 : NN * 1 ≤ 140737488351232) (hL : laidMetH Tryd.prog [("io.EOF", .iface "*errors.errorString" (.ptr (.agg [.lit (.string [69, 79, 70])]))), ("io.ErrUnexpectedEOF", .iface "*errors.errorString" (.ptr (.agg [.lit (.string [117, 110, 101, 120, 112, 101, 99, 116, 101, 100, 32, 69, 79, 70])])))] W) :
    Calls Tryd.prog 4 #[.agg cs.toArray, .slice A NN c] W fun e w' => e = .returned (.bool true) ∧ Below W.heap.size W w' := by
  obtain ⟨ys, hlen, hc, hC, hwf⟩ := isRow_open w0
  have hby : bytesB ys = true := bytesB_of fun x hx => byt_of_wf (hwf x hx)
  have HC := Aside0.mk hC
  have HBY := Aside0.mk hby
  have HLY : Aside0 (ys.length = NN) := ⟨hC.1⟩
  clear w0 y0 hwf hC hby hlen
  obtain ⟨bsv, lsv, fsv, lcs, fcs, e, hb1, hl1, _, hf1, _⟩ := hin.out
  obtain ⟨A1, c1, rfl, _⟩ := hb1.out
  obtain ⟨A2, c2, rfl, _⟩ := hl1.out
  obtain ⟨A3, c3, rfl, _⟩ := hf1.out
  have hsz2 : 9 + x.d.bs.length + F.sz x.ls + F.sz x.fs ≤ 1048576 := hsz
  have hn1 : x.d.bs.length ≤ 2147483647 := by omega
  have hn2 : x.ls.len ≤ 2147483647 := by have := len_sz x.ls; omega
  have hn3 : x.fs.len ≤ 2147483647 := by have := len_sz x.fs; omega
  have HFT := Aside0.mk fun V => fits_calls x.d.ty x.d.bo x.d.n x.d.bits A1 x.d.bs.length c1 x.d.ky x.d.el A2 x.ls.len c2 A3 x.fs.len c3 V hn1 hn2 hn3
  obtain ⟨n1, hq1⟩ : ∃ n1, x.d.bs.length = n1 := ⟨_, rfl⟩
  obtain ⟨n2, hq2⟩ : ∃ n2, x.ls.len = n2 := ⟨_, rfl⟩
  obtain ⟨n3, hq3⟩ : ∃ n3, x.fs.len = n3 := ⟨_, rfl⟩
  have e2 : cs = [.int .i64 x.d.ty, .bool x.d.bo, .int .i64 x.d.n, .int .u64 (x.d.bits : Int), .slice A1 n1 c1, .int .i64 x.d.ky, .int .i64 x.d.el, .slice A2 n2 c2, .slice A3 n3 c3] := by rw [e, ← hq1, ← hq2, ← hq3]; rfl
  subst e2
  rw [hq1, hq2, hq3] at HFT
  clear e hb1 hl1 hf1 hn1 hn2 hn3 hsz2 hq1 hq2 hq3
  obtain ⟨p1, p2, hE⟩ := Tla.e0_of_laid hL
  have HE := Aside0.mk hE
  have HI := Aside0.mk hin
  have HIT : Aside0 (∀ V, Below W.heap.size W V → Calls Tryd.prog 11 #[.agg #[.int .i64 x.d.ty, .bool x.d.bo, .int .i64 x.d.n, .int .u64 (x.d.bits : Int), .slice A1 n1 c1, .int .i64 x.d.ky, .int .i64 x.d.el, .slice A2 n2 c2, .slice A3 n3 c3], .int .i64 6, .bool false] V fun e w' => ItR (N.ok x 6 false) V w' e) := ⟨fun V hb => Tiv.isThing_all x how 6 false V _ (by omega) (hin.move (fun b h => hb.block b h) (fun b h => Nat.lt_of_lt_of_le h hb.size))⟩
  have HFX : Aside0 (N.ok x 6 false → ∀ long, Fx long x) := ⟨fun h long => fx_of long x how hsz h⟩
  have HTB : Aside0 (N.ok x 6 false → ∀ (long : Bool) (V : World), Below W.heap.size W V → Calls Tryd.prog 12 #[.agg #[.int .i64 x.d.ty, .bool x.d.bo, .int .i64 x.d.n, .int .u64 (x.d.bits : Int), .slice A1 n1 c1, .int .i64 x.d.ky, .int .i64 x.d.el, .slice A2 n2 c2, .slice A3 n3 c3], .bool long] V fun e w' => WB V w' (x.byB long) e) := ⟨fun h long V hb => Twc.thingBytes_all long x 6 false V _ how h (fx_of long x how hsz h).len (hin.move (fun b h => hb.block b h) (fun b h => Nat.lt_of_lt_of_le h hb.size))⟩
  clear hin how hsz hE hL
  have HB : Aside0 (Below W.heap.size W (W.alloc (.cells #[.int .i64 x.d.ty, .bool x.d.bo, .int .i64 x.d.n, .int .u64 (x.d.bits : Int), .slice A1 n1 c1, .int .i64 x.d.ky, .int .i64 x.d.el, .slice A2 n2 c2, .slice A3 n3 c3] 27))) := ⟨(Below.refl _ _).alloc (Nat.le_refl _) _⟩
  have HV := Aside0.mk (Blk.new W #[.int .i64 x.d.ty, .bool x.d.bo, .int .i64 x.d.n, .int .u64 (x.d.bits : Int), .slice A1 n1 c1, .int .i64 x.d.ky, .int .i64 x.d.el, .slice A2 n2 c2, .slice A3 n3 c3] 27)
  go_enter Tryd.func4, Tryd.ntmps4
  go_upto_region 1 with (fail)
  generalize hW1 : World.alloc _ _ = W1 at HB HV ⊢
  clear hW1
  obtain ⟨q0, q1, q2, q3, q4, q5, q6, q7, q8, qz⟩ := nine HV.out
  by_cases z1 : 2147483647 < NN
  · have k1 : decide (2147483647 < (NN : Int)) = true := decide_eq_true (by omega)
    have k11 : decide (2147483647 < NN) = true := decide_eq_true z1
    clear z1
    go_wp2_with (first
      | (go_at_call 10; (with_reducible refine (HFT.out _).mono ?_); rintro e w2 ⟨rfl, hb⟩; have HB2 := Aside0.mk (HB.out.trans (hb.mono HB.out.size)); clear hb))
    go_ret
    exact ⟨rfl, HB2.out⟩
  have k1 : decide (2147483647 < (NN : Int)) = false := decide_eq_false (by omega)
  have k11 : decide (2147483647 < NN) = false := decide_eq_false z1
  clear z1
  go_upto_region 3 with (first
    | (go_at_call 10; (with_reducible refine (HFT.out _).mono ?_); rintro e w2 ⟨rfl, hb⟩; have HB2 := Aside0.mk (HB.out.trans (hb.mono HB.out.size)); have HV2 := Aside0.mk (HV.out.below hb HV.out.lt); clear hb))
  have HXA : Aside0 (∀ V, Below w2.heap.size w2 V → V.cell? ⟨W.heap.size, 0, none⟩ = some (.int .i64 x.d.ty) ∧ V.cell? ⟨W.heap.size, 1, none⟩ = some (.bool x.d.bo) ∧ V.cell? ⟨W.heap.size, 2, none⟩ = some (.int .i64 x.d.n) ∧ V.cell? ⟨W.heap.size, 3, none⟩ = some (.int .u64 (x.d.bits : Int)) ∧ V.cell? ⟨W.heap.size, 4, none⟩ = some (.slice A1 n1 c1) ∧ V.cell? ⟨W.heap.size, 5, none⟩ = some (.int .i64 x.d.ky) ∧ V.cell? ⟨W.heap.size, 6, none⟩ = some (.int .i64 x.d.el) ∧ V.cell? ⟨W.heap.size, 7, none⟩ = some (.slice A2 n2 c2) ∧ V.cell? ⟨W.heap.size, 8, none⟩ = some (.slice A3 n3 c3)) := ⟨fun V h => by
    obtain ⟨q0, q1, q2, q3, q4, q5, q6, q7, q8, qz⟩ := nine (HV2.out.below h HV2.out.lt)
    exact ⟨q0, q1, q2, q3, q4, q5, q6, q7, q8⟩⟩
  have HBd : Aside0 (Below w2.heap.size w2 w2.drew) := ⟨(Below.refl _ _).drew⟩
  clear q0 q1 q2 q3 q4 q5 q6 q7 q8 qz
  by_cases hk : N.ok x 6 false
  case neg =>
    have HI2 : Aside0 (∀ V, Below w2.heap.size w2 V → Calls Tryd.prog 11 #[.agg #[.int .i64 x.d.ty, .bool x.d.bo, .int .i64 x.d.n, .int .u64 (x.d.bits : Int), .slice A1 n1 c1, .int .i64 x.d.ky, .int .i64 x.d.el, .slice A2 n2 c2, .slice A3 n3 c3], .int .i64 6, .bool false] V fun e w' => e = .returned (.bool false) ∧ Below V.heap.size V w') := ⟨fun V hb => (HIT.out V (HB2.out.trans (hb.mono HB2.out.size))).mono fun e w' h => by
      obtain ⟨r, rfl, hr⟩ := h.out
      obtain rfl : r = false := by cases r with | false => rfl | true => exact absurd (hr.1 rfl) hk
      exact ⟨rfl, h.below⟩⟩
    clear hk
    obtain ⟨q0, q1, q2, q3, q4, q5, q6, q7, q8, qz⟩ := nine HV2.out
    refine wp_region_any (by kernel_rfl) ?_
    try (change wpAny _ _ _ _ _ _ _ (World.drew _))
    refine wpAny_ready (rs := [0]) (by kernel_rfl) (by simp) ?_
    refine AllReady.cons rfl (fun K hK => ?_) AllReady.nil
    go_simp
    refine hK _ _ ?_
    clear hK K
    (try simp only [Act.put, List.setIfInBounds_toArray, List.set_cons_zero, List.set_cons_succ])
    refine wpAny_ready (rs := [1]) (by kernel_rfl) (by simp) ?_
    refine AllReady.cons rfl (fun K hK => ?_) AllReady.nil
    go_simp
    go_wp2_with ((go_at_call 11; (with_reducible refine (HI2.out _ HBd.out).mono ?_); rintro e w3 ⟨rfl, hb⟩; have HB3 := Aside0.mk (HBd.out.trans (hb.mono HBd.out.size)); clear hb))
    try (refine hK _ _ ?_; clear hK K)
    (try simp only [Act.put, List.setIfInBounds_toArray, List.set_cons_zero, List.set_cons_succ])
    refine wpAny_ready (rs := [2]) (by kernel_rfl) (by simp) ?_
    refine AllReady.cons rfl (fun K hK => ?_) AllReady.nil
    go_simp
    refine hK _ _ ?_
    clear hK K
    (try simp only [Act.put, List.setIfInBounds_toArray, List.set_cons_zero, List.set_cons_succ])
    refine wpAny_ready (rs := [3]) (by kernel_rfl) (by simp) ?_
    refine AllReady.cons rfl (fun K hK => ?_) AllReady.nil
    go_simp
    refine hK _ _ ?_
    clear hK K
    (try simp only [Act.put, List.setIfInBounds_toArray, List.set_cons_zero, List.set_cons_succ])
    refine wpAny_ready (rs := [4]) (by kernel_rfl) (by simp) ?_
    refine AllReady.cons rfl (fun K hK => ?_) AllReady.nil
    go_simp
    refine hK _ _ ?_
    clear hK K
    (try simp only [Act.put, List.setIfInBounds_toArray, List.set_cons_zero, List.set_cons_succ])
    refine wpAny_ready (rs := [5]) (by kernel_rfl) (by simp) ?_
    refine AllReady.cons rfl (fun K hK => ?_) AllReady.nil
    go_simp
    refine hK _ _ ?_
    clear hK K
    (try simp only [Act.put, List.setIfInBounds_toArray, List.set_cons_zero, List.set_cons_succ])
    refine wpAny_ready (rs := [6]) (by kernel_rfl) (by simp) ?_
    refine AllReady.cons rfl (fun K hK => ?_) AllReady.nil
    go_simp
    refine hK _ _ ?_
    clear hK K
    (try simp only [Act.put, List.setIfInBounds_toArray, List.set_cons_zero, List.set_cons_succ])
    refine wpAny_ready (rs := [7]) (by kernel_rfl) (by simp) ?_
    refine AllReady.cons rfl (fun K hK => ?_) AllReady.nil
    go_simp
    refine hK _ _ ?_
    clear hK K
    (try simp only [Act.put, List.setIfInBounds_toArray, List.set_cons_zero, List.set_cons_succ])
    refine wpAny_ready (rs := [8]) (by kernel_rfl) (by simp) ?_
    refine AllReady.cons rfl (fun K hK => ?_) AllReady.nil
    go_simp
    refine hK _ _ ?_
    clear hK K
    (try simp only [Act.put, List.setIfInBounds_toArray, List.set_cons_zero, List.set_cons_succ])
    refine wpAny_take (i := 12) (v := undef) rfl (by kernel_rfl) (by kernel_rfl) (by kernel_rfl) (fun _ _ _ h => h) (Or.inr ⟨by rfl, rfl⟩) ?_
    (try simp only [Act.put, List.setIfInBounds_toArray, List.set_cons_zero, List.set_cons_succ])
    refine wpAny_ready (rs := [9, 10]) (by kernel_rfl) (by simp) ?_
    refine AllReady.cons rfl (fun K hK => ?_) (AllReady.cons rfl (fun K hK => ?_) AllReady.nil)
    · go_simp
      refine hK _ _ ?_
      clear hK K
      (try simp only [Act.put, List.setIfInBounds_toArray, List.set_cons_zero, List.set_cons_succ])
      refine wpAny_ready (rs := [10]) (by kernel_rfl) (by simp) ?_
      refine AllReady.cons rfl (fun K hK => ?_) AllReady.nil
      go_simp
      refine hK _ _ ?_
      clear hK K
      (try simp only [Act.put, List.setIfInBounds_toArray, List.set_cons_zero, List.set_cons_succ])
      refine wpAny_ready (rs := [11]) (by kernel_rfl) (by simp) ?_
      refine AllReady.cons rfl (fun K hK => ?_) AllReady.nil
      go_simp
      refine hK _ _ ?_
      clear hK K
      (try simp only [Act.put, List.setIfInBounds_toArray, List.set_cons_zero, List.set_cons_succ])
      refine wpAny_ready (rs := [13]) (by kernel_rfl) (by simp) ?_
      refine AllReady.cons rfl (fun K hK => ?_) AllReady.nil
      go_simp
      refine hK _ _ ?_
      clear hK K
      (try simp only [Act.put, List.setIfInBounds_toArray, List.set_cons_zero, List.set_cons_succ])
      refine wpAny_ready (rs := [14]) (by kernel_rfl) (by simp) ?_
      refine AllReady.cons rfl (fun K hK => ?_) AllReady.nil
      go_simp
      refine hK _ _ ?_
      clear hK K
      (try simp only [Act.put, List.setIfInBounds_toArray, List.set_cons_zero, List.set_cons_succ])
      refine wpAny_ready (rs := [15]) (by kernel_rfl) (by simp) ?_
      refine AllReady.cons rfl (fun K hK => ?_) AllReady.nil
      go_simp
      refine hK _ _ ?_
      clear hK K
      (try simp only [Act.put, List.setIfInBounds_toArray, List.set_cons_zero, List.set_cons_succ])
      refine wpAny_done (by kernel_rfl) ?_ _
      go_wp2_with (fail)
      go_ret
      exact ⟨rfl, HB2.out.trans (HB3.out.mono HB2.out.size)⟩
    · go_simp
      refine hK _ _ ?_
      clear hK K
      (try simp only [Act.put, List.setIfInBounds_toArray, List.set_cons_zero, List.set_cons_succ])
      refine wpAny_ready (rs := [9, 11]) (by kernel_rfl) (by simp) ?_
      refine AllReady.cons rfl (fun K hK => ?_) (AllReady.cons rfl (fun K hK => ?_) AllReady.nil)
      · go_simp
        refine hK _ _ ?_
        clear hK K
        (try simp only [Act.put, List.setIfInBounds_toArray, List.set_cons_zero, List.set_cons_succ])
        refine wpAny_ready (rs := [11]) (by kernel_rfl) (by simp) ?_
        refine AllReady.cons rfl (fun K hK => ?_) AllReady.nil
        go_simp
        refine hK _ _ ?_
        clear hK K
        (try simp only [Act.put, List.setIfInBounds_toArray, List.set_cons_zero, List.set_cons_succ])
        refine wpAny_ready (rs := [13]) (by kernel_rfl) (by simp) ?_
        refine AllReady.cons rfl (fun K hK => ?_) AllReady.nil
        go_simp
        refine hK _ _ ?_
        clear hK K
        (try simp only [Act.put, List.setIfInBounds_toArray, List.set_cons_zero, List.set_cons_succ])
        refine wpAny_ready (rs := [14]) (by kernel_rfl) (by simp) ?_
        refine AllReady.cons rfl (fun K hK => ?_) AllReady.nil
        go_simp
        refine hK _ _ ?_
        clear hK K
        (try simp only [Act.put, List.setIfInBounds_toArray, List.set_cons_zero, List.set_cons_succ])
        refine wpAny_ready (rs := [15]) (by kernel_rfl) (by simp) ?_
        refine AllReady.cons rfl (fun K hK => ?_) AllReady.nil
        go_simp
        refine hK _ _ ?_
        clear hK K
        (try simp only [Act.put, List.setIfInBounds_toArray, List.set_cons_zero, List.set_cons_succ])
        refine wpAny_done (by kernel_rfl) ?_ _
        go_wp2_with (fail)
        go_ret
        exact ⟨rfl, HB2.out.trans (HB3.out.mono HB2.out.size)⟩
      · go_simp
        refine hK _ _ ?_
        clear hK K
        (try simp only [Act.put, List.setIfInBounds_toArray, List.set_cons_zero, List.set_cons_succ])
        refine wpAny_ready (rs := [9]) (by kernel_rfl) (by simp) ?_
        refine AllReady.cons rfl (fun K hK => ?_) AllReady.nil
        go_simp
        refine hK _ _ ?_
        clear hK K
        (try simp only [Act.put, List.setIfInBounds_toArray, List.set_cons_zero, List.set_cons_succ])
        refine wpAny_ready (rs := [13]) (by kernel_rfl) (by simp) ?_
        refine AllReady.cons rfl (fun K hK => ?_) AllReady.nil
        go_simp
        refine hK _ _ ?_
        clear hK K
        (try simp only [Act.put, List.setIfInBounds_toArray, List.set_cons_zero, List.set_cons_succ])
        refine wpAny_ready (rs := [14]) (by kernel_rfl) (by simp) ?_
        refine AllReady.cons rfl (fun K hK => ?_) AllReady.nil
        go_simp
        refine hK _ _ ?_
        clear hK K
        (try simp only [Act.put, List.setIfInBounds_toArray, List.set_cons_zero, List.set_cons_succ])
        refine wpAny_ready (rs := [15]) (by kernel_rfl) (by simp) ?_
        refine AllReady.cons rfl (fun K hK => ?_) AllReady.nil
        go_simp
        refine hK _ _ ?_
        clear hK K
        (try simp only [Act.put, List.setIfInBounds_toArray, List.set_cons_zero, List.set_cons_succ])
        refine wpAny_done (by kernel_rfl) ?_ _
        go_wp2_with (fail)
        go_ret
        exact ⟨rfl, HB2.out.trans (HB3.out.mono HB2.out.size)⟩
  have HI2 : Aside0 (∀ V, Below w2.heap.size w2 V → Calls Tryd.prog 11 #[.agg #[.int .i64 x.d.ty, .bool x.d.bo, .int .i64 x.d.n, .int .u64 (x.d.bits : Int), .slice A1 n1 c1, .int .i64 x.d.ky, .int .i64 x.d.el, .slice A2 n2 c2, .slice A3 n3 c3], .int .i64 6, .bool false] V fun e w' => e = .returned (.bool true) ∧ Below V.heap.size V w') := ⟨fun V hb => (HIT.out V (HB2.out.trans (hb.mono HB2.out.size))).mono fun e w' h => by
    obtain ⟨r, rfl, hr⟩ := h.out
    obtain rfl : r = true := by exact hr.2 hk
    exact ⟨rfl, h.below⟩⟩
  have HF := Aside0.mk (HFX.out hk true)
  have HTX := Aside0.mk (HTB.out hk true)
  clear hk HFX HTB HIT
  by_cases z2 : 1000 < NN
  · have k2 : decide (1000 < (NN : Int)) = true := decide_eq_true (by omega)
    have k22 : decide (1000 < NN) = true := decide_eq_true z2
    clear z2
    obtain ⟨q0, q1, q2, q3, q4, q5, q6, q7, q8, qz⟩ := nine HV2.out
    refine wp_region_any (by kernel_rfl) ?_
    try (change wpAny _ _ _ _ _ _ _ (World.drew _))
    refine wpAny_ready (rs := [0]) (by kernel_rfl) (by simp) ?_
    refine AllReady.cons rfl (fun K hK => ?_) AllReady.nil
    go_simp
    refine hK _ _ ?_
    clear hK K
    (try simp only [Act.put, List.setIfInBounds_toArray, List.set_cons_zero, List.set_cons_succ])
    refine wpAny_ready (rs := [1]) (by kernel_rfl) (by simp) ?_
    refine AllReady.cons rfl (fun K hK => ?_) AllReady.nil
    go_simp
    go_wp2_with ((go_at_call 11; (with_reducible refine (HI2.out _ HBd.out).mono ?_); rintro e w3 ⟨rfl, hb⟩; have HB3 := Aside0.mk (HBd.out.trans (hb.mono HBd.out.size)); clear hb))
    try (refine hK _ _ ?_; clear hK K)
    (try simp only [Act.put, List.setIfInBounds_toArray, List.set_cons_zero, List.set_cons_succ])
    refine wpAny_ready (rs := [2]) (by kernel_rfl) (by simp) ?_
    refine AllReady.cons rfl (fun K hK => ?_) AllReady.nil
    go_simp
    refine hK _ _ ?_
    clear hK K
    (try simp only [Act.put, List.setIfInBounds_toArray, List.set_cons_zero, List.set_cons_succ])
    refine wpAny_ready (rs := [3]) (by kernel_rfl) (by simp) ?_
    refine AllReady.cons rfl (fun K hK => ?_) AllReady.nil
    go_simp
    refine hK _ _ ?_
    clear hK K
    (try simp only [Act.put, List.setIfInBounds_toArray, List.set_cons_zero, List.set_cons_succ])
    refine wpAny_ready (rs := [4]) (by kernel_rfl) (by simp) ?_
    refine AllReady.cons rfl (fun K hK => ?_) AllReady.nil
    go_simp
    refine hK _ _ ?_
    clear hK K
    (try simp only [Act.put, List.setIfInBounds_toArray, List.set_cons_zero, List.set_cons_succ])
    refine wpAny_ready (rs := [5]) (by kernel_rfl) (by simp) ?_
    refine AllReady.cons rfl (fun K hK => ?_) AllReady.nil
    go_simp
    refine hK _ _ ?_
    clear hK K
    (try simp only [Act.put, List.setIfInBounds_toArray, List.set_cons_zero, List.set_cons_succ])
    refine wpAny_ready (rs := [6]) (by kernel_rfl) (by simp) ?_
    refine AllReady.cons rfl (fun K hK => ?_) AllReady.nil
    go_simp
    refine hK _ _ ?_
    clear hK K
    (try simp only [Act.put, List.setIfInBounds_toArray, List.set_cons_zero, List.set_cons_succ])
    refine wpAny_ready (rs := [7]) (by kernel_rfl) (by simp) ?_
    refine AllReady.cons rfl (fun K hK => ?_) AllReady.nil
    go_simp
    refine hK _ _ ?_
    clear hK K
    (try simp only [Act.put, List.setIfInBounds_toArray, List.set_cons_zero, List.set_cons_succ])
    refine wpAny_ready (rs := [8]) (by kernel_rfl) (by simp) ?_
    refine AllReady.cons rfl (fun K hK => ?_) AllReady.nil
    go_simp
    refine hK _ _ ?_
    clear hK K
    (try simp only [Act.put, List.setIfInBounds_toArray, List.set_cons_zero, List.set_cons_succ])
    refine wpAny_take (i := 12) (v := undef) rfl (by kernel_rfl) (by kernel_rfl) (by kernel_rfl) (fun _ _ _ h => h) (Or.inr ⟨by rfl, rfl⟩) ?_
    (try simp only [Act.put, List.setIfInBounds_toArray, List.set_cons_zero, List.set_cons_succ])
    refine wpAny_ready (rs := [9, 10]) (by kernel_rfl) (by simp) ?_
    refine AllReady.cons rfl (fun K hK => ?_) (AllReady.cons rfl (fun K hK => ?_) AllReady.nil)
    · go_simp
      refine hK _ _ ?_
      clear hK K
      (try simp only [Act.put, List.setIfInBounds_toArray, List.set_cons_zero, List.set_cons_succ])
      refine wpAny_ready (rs := [10]) (by kernel_rfl) (by simp) ?_
      refine AllReady.cons rfl (fun K hK => ?_) AllReady.nil
      go_simp
      refine hK _ _ ?_
      clear hK K
      (try simp only [Act.put, List.setIfInBounds_toArray, List.set_cons_zero, List.set_cons_succ])
      refine wpAny_ready (rs := [11]) (by kernel_rfl) (by simp) ?_
      refine AllReady.cons rfl (fun K hK => ?_) AllReady.nil
      go_simp
      refine hK _ _ ?_
      clear hK K
      (try simp only [Act.put, List.setIfInBounds_toArray, List.set_cons_zero, List.set_cons_succ])
      refine wpAny_ready (rs := [13]) (by kernel_rfl) (by simp) ?_
      refine AllReady.cons rfl (fun K hK => ?_) AllReady.nil
      go_simp
      refine hK _ _ ?_
      clear hK K
      (try simp only [Act.put, List.setIfInBounds_toArray, List.set_cons_zero, List.set_cons_succ])
      refine wpAny_ready (rs := [14]) (by kernel_rfl) (by simp) ?_
      refine AllReady.cons rfl (fun K hK => ?_) AllReady.nil
      go_simp
      refine hK _ _ ?_
      clear hK K
      (try simp only [Act.put, List.setIfInBounds_toArray, List.set_cons_zero, List.set_cons_succ])
      refine wpAny_ready (rs := [15]) (by kernel_rfl) (by simp) ?_
      refine AllReady.cons rfl (fun K hK => ?_) AllReady.nil
      go_simp
      refine hK _ _ ?_
      clear hK K
      (try simp only [Act.put, List.setIfInBounds_toArray, List.set_cons_zero, List.set_cons_succ])
      refine wpAny_done (by kernel_rfl) ?_ _
      go_wp2_with (fail)
      go_ret
      exact ⟨rfl, HB2.out.trans (HB3.out.mono HB2.out.size)⟩
    · go_simp
      refine hK _ _ ?_
      clear hK K
      (try simp only [Act.put, List.setIfInBounds_toArray, List.set_cons_zero, List.set_cons_succ])
      refine wpAny_ready (rs := [9, 11]) (by kernel_rfl) (by simp) ?_
      refine AllReady.cons rfl (fun K hK => ?_) (AllReady.cons rfl (fun K hK => ?_) AllReady.nil)
      · go_simp
        refine hK _ _ ?_
        clear hK K
        (try simp only [Act.put, List.setIfInBounds_toArray, List.set_cons_zero, List.set_cons_succ])
        refine wpAny_ready (rs := [11]) (by kernel_rfl) (by simp) ?_
        refine AllReady.cons rfl (fun K hK => ?_) AllReady.nil
        go_simp
        refine hK _ _ ?_
        clear hK K
        (try simp only [Act.put, List.setIfInBounds_toArray, List.set_cons_zero, List.set_cons_succ])
        refine wpAny_ready (rs := [13]) (by kernel_rfl) (by simp) ?_
        refine AllReady.cons rfl (fun K hK => ?_) AllReady.nil
        go_simp
        refine hK _ _ ?_
        clear hK K
        (try simp only [Act.put, List.setIfInBounds_toArray, List.set_cons_zero, List.set_cons_succ])
        refine wpAny_ready (rs := [14]) (by kernel_rfl) (by simp) ?_
        refine AllReady.cons rfl (fun K hK => ?_) AllReady.nil
        go_simp
        refine hK _ _ ?_
        clear hK K
        (try simp only [Act.put, List.setIfInBounds_toArray, List.set_cons_zero, List.set_cons_succ])
        refine wpAny_ready (rs := [15]) (by kernel_rfl) (by simp) ?_
        refine AllReady.cons rfl (fun K hK => ?_) AllReady.nil
        go_simp
        refine hK _ _ ?_
        clear hK K
        (try simp only [Act.put, List.setIfInBounds_toArray, List.set_cons_zero, List.set_cons_succ])
        refine wpAny_done (by kernel_rfl) ?_ _
        go_wp2_with (fail)
        go_ret
        exact ⟨rfl, HB2.out.trans (HB3.out.mono HB2.out.size)⟩
      · go_simp
        refine hK _ _ ?_
        clear hK K
        (try simp only [Act.put, List.setIfInBounds_toArray, List.set_cons_zero, List.set_cons_succ])
        refine wpAny_ready (rs := [9]) (by kernel_rfl) (by simp) ?_
        refine AllReady.cons rfl (fun K hK => ?_) AllReady.nil
        go_simp
        refine hK _ _ ?_
        clear hK K
        (try simp only [Act.put, List.setIfInBounds_toArray, List.set_cons_zero, List.set_cons_succ])
        refine wpAny_ready (rs := [13]) (by kernel_rfl) (by simp) ?_
        refine AllReady.cons rfl (fun K hK => ?_) AllReady.nil
        go_simp
        refine hK _ _ ?_
        clear hK K
        (try simp only [Act.put, List.setIfInBounds_toArray, List.set_cons_zero, List.set_cons_succ])
        refine wpAny_ready (rs := [14]) (by kernel_rfl) (by simp) ?_
        refine AllReady.cons rfl (fun K hK => ?_) AllReady.nil
        go_simp
        refine hK _ _ ?_
        clear hK K
        (try simp only [Act.put, List.setIfInBounds_toArray, List.set_cons_zero, List.set_cons_succ])
        refine wpAny_ready (rs := [15]) (by kernel_rfl) (by simp) ?_
        refine AllReady.cons rfl (fun K hK => ?_) AllReady.nil
        go_simp
        refine hK _ _ ?_
        clear hK K
        (try simp only [Act.put, List.setIfInBounds_toArray, List.set_cons_zero, List.set_cons_succ])
        refine wpAny_done (by kernel_rfl) ?_ _
        go_wp2_with (fail)
        go_ret
        exact ⟨rfl, HB2.out.trans (HB3.out.mono HB2.out.size)⟩
  have k2 : decide (1000 < (NN : Int)) = false := decide_eq_false (by omega)
  have k22 : decide (1000 < NN) = false := decide_eq_false z2
  have hn9 : NN ≤ 1000 := by omega
  clear z2
  obtain ⟨BX, hBX⟩ : ∃ BX, x.byB true = BX := ⟨_, rfl⟩
  obtain ⟨M, hM⟩ : ∃ M, BX.length = M := ⟨_, rfl⟩
  have hM9 : M ≤ 4000000 := by have := HF.out.len; rw [hBX, hM] at this; exact this
  rw [hBX] at HTX
  have hth := HF.out.th ys
  have hbx := HF.out.byt
  rw [hBX] at hth hbx
  have HM := Aside0.mk hM
  have HTH := Aside0.mk hth
  have HTB2 : Aside0 (bytesB (BX ++ ys) = true) := ⟨Twe.bytes_app hbx HBY.out⟩
  have HTI : Aside0 (∀ (A4 : Option Addr) (c4 : Nat) (V : World), Below W.heap.size W V → (Kd.int .u8).C V A4 M BX → Calls Tryd.prog 14 #[.agg #[.int .i64 x.d.ty, .bool x.d.bo, .int .i64 x.d.n, .int .u64 (x.d.bits : Int), .slice A1 n1 c1, .int .i64 x.d.ky, .int .i64 x.d.el, .slice A2 n2 c2, .slice A3 n3 c3], .slice A4 M c4, .slice A NN c] V fun e w' => e = .returned (.bool true) ∧ Below V.heap.size V w') := ⟨fun A4 c4 V hb hc => Twd.thIs_calls x HF.out.wf A1 n1 c1 A2 n2 c2 A3 n3 c3 A4 M c4 BX A NN c ys p1 p2 V (HI.out.move (fun b h => hb.block b h) (fun b h => Nat.lt_of_lt_of_le h hb.size)) hc (Kd.C_below HC.out hb) (by omega) (by omega) HTB2.out (HE.out.below fun b h => hb.block b h) HF.out.ty HTH.out⟩
  clear hBX hM hth hbx
  go_region_held3 (fun (V : World) => V.cell? ⟨W.heap.size, 0, none⟩ = some (.int .i64 x.d.ty) ∧ V.cell? ⟨W.heap.size, 1, none⟩ = some (.bool x.d.bo) ∧ V.cell? ⟨W.heap.size, 2, none⟩ = some (.int .i64 x.d.n) ∧ V.cell? ⟨W.heap.size, 3, none⟩ = some (.int .u64 (x.d.bits : Int)) ∧ V.cell? ⟨W.heap.size, 4, none⟩ = some (.slice A1 n1 c1) ∧ V.cell? ⟨W.heap.size, 5, none⟩ = some (.int .i64 x.d.ky) ∧ V.cell? ⟨W.heap.size, 6, none⟩ = some (.int .i64 x.d.el) ∧ V.cell? ⟨W.heap.size, 7, none⟩ = some (.slice A2 n2 c2) ∧ V.cell? ⟨W.heap.size, 8, none⟩ = some (.slice A3 n3 c3))
    (first
      | with_reducible exact HXA.out _ HB5.out
      | with_reducible exact HXA.out _ HB4.out
      | with_reducible exact HXA.out _ HB3.out
      | with_reducible exact HXA.out _ HBd.out)
    ((first
      | (go_at_call 11; (with_reducible refine (HI2.out _ HBd.out).mono ?_); rintro e w3 ⟨rfl, hb⟩; have HB3 := Aside0.mk (HBd.out.trans (hb.mono HBd.out.size)); clear hb)
      | (go_at_call 12; (with_reducible refine (HTX.out _ (HB2.out.trans (HB3.out.mono HB2.out.size))).mono ?_); rintro e w4 HQ; obtain ⟨v4, rfl, ho⟩ := HQ.out; obtain ⟨A4, c4, rfl, hc4, hr4⟩ := ho.read; rw [HM.out] at hc4 hr4; rw [HM.out]; have HR4 := Aside0.mk hr4; have HB4 := Aside0.mk (HB3.out.trans (HQ.below.mono HB3.out.size)); clear HQ ho hr4)
      | (go_at_call 14; (with_reducible refine (HTI.out A4 c4 _ (HB2.out.trans (HB4.out.mono HB2.out.size)) HR4.out).mono ?_); rintro e w5 ⟨rfl, hb⟩; have HB5 := Aside0.mk (HB4.out.trans (hb.mono HB4.out.size)); clear hb)
      | fail "no arm"))
  all_goals go_wp2_with (fail)
  all_goals go_ret
  all_goals exact ⟨rfl, HB2.out.trans (HB5.out.mono HB2.out.size)⟩
end Go.Proofs.YtcboegodjlfmnaaDoor.Twg
