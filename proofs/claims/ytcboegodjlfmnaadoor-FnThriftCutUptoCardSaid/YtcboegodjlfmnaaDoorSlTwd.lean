import Derived.Test.YtcboegodjlfmnaaDoorSlTbk
import Derived.Test.YtcboegodjlfmnaaDoorSlTrz
import Derived.Test.YtcboegodjlfmnaaDoorSlTsz
import Derived.Test.YtcboegodjlfmnaaDoorSlTwb
import Derived.Deep.RegionHeld3
import Derived.Deep.RegionLaw
namespace Go.Proofs.YtcboegodjlfmnaaDoor.Twd
open Go.Proofs.YtcboegodjlfmnaaDoor.Trt Go.Proofs.YtcboegodjlfmnaaDoor.Twb Go.Proofs.YtcboegodjlfmnaaDoor.Tbk Go.Proofs.YtcboegodjlfmnaaDoor.Twc Go.Proofs.YtcboegodjlfmnaaDoor.Twb Go.Proofs.YtcboegodjlfmnaaDoor.Twa Go.Proofs.YtcboegodjlfmnaaDoor.Tit Go.Proofs.YtcboegodjlfmnaaDoor.Tsd Go.Proofs.YtcboegodjlfmnaaDoor.Ton Go.Proofs.YtcboegodjlfmnaaDoor.Tpw Go.Proofs.YtcboegodjlfmnaaDoor.Tap Go.Proofs.YtcboegodjlfmnaaDoor.Tzm Go.Proofs.YtcboegodjlfmnaaDoor.Tzl Go.Proofs.YtcboegodjlfmnaaDoor.Trh Go.Proofs.YtcboegodjlfmnaaDoor.Trn Go.Proofs.YtcboegodjlfmnaaDoor.Trm Go.Proofs.YtcboegodjlfmnaaDoor.Tuv Go.Proofs.YtcboegodjlfmnaaDoor.Tpa Go.Proofs.YtcboegodjlfmnaaDoor.Duv Go.Proofs.YtcboegodjlfmnaaDoor.Dpu Go.Proofs.YtcboegodjlfmnaaDoor.Pak Go.Proofs.YtcboegodjlfmnaaDoor.Buf Go.Proofs.YtcboegodjlfmnaaDoor.Fit Go.Proofs.YtcboegodjlfmnaaDoor.Bit Go.Proofs.YtcboegodjlfmnaaDoor.Wrd Go.Proofs.YtcboegodjlfmnaaDoor.Spl Go.Proofs.YtcboegodjlfmnaaDoor.Str Go.Proofs.YtcboegodjlfmnaaDoor.Flt Go.Proofs.YtcboegodjlfmnaaDoor.Owe Go.Proofs.YtcboegodjlfmnaaDoor.Num Go.Proofs.YtcboegodjlfmnaaDoor.Le Go.Proofs.YtcboegodjlfmnaaDoor.Lst Go.Proofs.YtcboegodjlfmnaaDoor.Aid Go.RowKit Go.Proofs.YtcboegodjlfmnaaDoorW.PrintWords Go.Proofs.YtcboegodjlfmnaaDoorW.PrintLast Go.Proofs.YtcboegodjlfmnaaDoorW.PrintMore Go.Proofs.YtcboegodjlfmnaaDoor.Tpv Go.Proofs.YtcboegodjlfmnaaDoor.Tzz
set_option linter.unusedVariables false
set_option linter.unusedSimpArgs false
theorem own_ne {v v1 : Value} {z n : Nat} (hat : v1.ownBlock = v.ownBlock ∨ v1.ownBlock = some n) (h : v.ownBlock ≠ some z) (hn : z < n) : v1.ownBlock = none ∨ v1.ownBlock ≠ some z :=
  .inr (by rcases hat with e | e
           · rw [e]; exact h
           · rw [e]; intro k; injection k with k; omega)
theorem own_new {w : World} {base t : Nat} {k : IntKind} {v : Value} {xs : List Int} (h : Own w base t k v xs) : v.ownBlock = none ∨ v.ownBlock ≠ some w.heap.size :=
  .inr (fun e => by have := (own_lt h.out e).2; omega)
theorem own_ne2 {w : World} {o : Obj} {base t : Nat} {k : IntKind} {v v1 : Value} {xs : List Int} (hat : v1.ownBlock = v.ownBlock ∨ v1.ownBlock = some (w.alloc o).heap.size) (h : Own w base t k v xs) : v1.ownBlock = none ∨ v1.ownBlock ≠ some w.heap.size :=
  .inr (by rcases hat with e | e
           · rw [e]; exact fun e => by have := (own_lt h.out e).2; omega
           · rw [e]; intro k; injection k with k; rw [allocSize] at k; omega)
structure Got (x : N) (M : Nat) (W wx : World) (v7 v8 v9 : Value) : Prop where
  mk :: (out : ∃ (g k5 kj5 k7 kj7 k8 kj8 : Nat) (E5 E7 E8 : Option Addr), v7 = .pointer (some ⟨g, 0, none⟩) ∧ v8 = .int .i64 M ∧ v9 = .bool true ∧ Below W.heap.size W wx ∧ W.heap.size ≤ g ∧ Blk wx g #[.int .i64 x.d.ty, .bool x.d.bo, .int .i64 x.d.n, .int .u64 (x.d.bits : Int), .slice E5 k5 kj5, .int .i64 x.d.ky, .int .i64 x.d.el, .slice E7 k7 kj7, .slice E8 k8 kj8] 27 ∧ x.In flT wx (fun b => b < wx.heap.size) [.int .i64 x.d.ty, .bool x.d.bo, .int .i64 x.d.n, .int .u64 (x.d.bits : Int), .slice E5 k5 kj5, .int .i64 x.d.ky, .int .i64 x.d.el, .slice E7 k7 kj7, .slice E8 k8 kj8])
theorem got_late {x : N} {M lo : Nat} {W w4 : World} {E5 E7 E8 : Option Addr} {k5 kj5 k7 kj7 k8 kj8 : Nat} (hb : Below W.heap.size W w4) (hi : x.In flT w4 (fun b => lo ≤ b ∧ b < w4.heap.size) [.int .i64 x.d.ty, .bool x.d.bo, .int .i64 x.d.n, .int .u64 (x.d.bits : Int), .slice E5 k5 kj5, .int .i64 x.d.ky, .int .i64 x.d.el, .slice E7 k7 kj7, .slice E8 k8 kj8]) :
    Got x M W (w4.alloc (.cells #[.int .i64 x.d.ty, .bool x.d.bo, .int .i64 x.d.n, .int .u64 (x.d.bits : Int), .slice E5 k5 kj5, .int .i64 x.d.ky, .int .i64 x.d.el, .slice E7 k7 kj7, .slice E8 k8 kj8] 27)) (.pointer (some ⟨w4.heap.size, 0, none⟩)) (.int .i64 M) (.bool true) :=
  ⟨⟨w4.heap.size, k5, kj5, k7, kj7, k8, kj8, E5, E7, E8, rfl, rfl, rfl, hb.alloc hb.size _, hb.size, Blk.new w4 _ _, hi.move (fun b hb => Below.heap_alloc _ _ b hb.2) (fun b hb => by rw [allocSize]; exact Nat.lt_succ_of_lt hb.2)⟩⟩
theorem got_early {x : N} {M lo z : Nat} {W w4 : World} {E5 E7 E8 : Option Addr} {k5 kj5 k7 kj7 k8 kj8 : Nat} {c0 c1 c2 c3 c4 c5 c6 c7 c8 : Value} (hb : Below W.heap.size W w4) (hi : x.In flT w4 (fun b => lo ≤ b ∧ b < w4.heap.size) [.int .i64 x.d.ty, .bool x.d.bo, .int .i64 x.d.n, .int .u64 (x.d.bits : Int), .slice E5 k5 kj5, .int .i64 x.d.ky, .int .i64 x.d.el, .slice E7 k7 kj7, .slice E8 k8 kj8]) (hz : W.heap.size ≤ z) (hl : z < lo) (hZ : Blk w4 z #[c0, c1, c2, c3, c4, c5, c6, c7, c8] 27) :
    Got x M W (((((((((w4.setCell ⟨z, 0, none⟩ (.int .i64 x.d.ty)).setCell ⟨z, 1, none⟩ (.bool x.d.bo)).setCell ⟨z, 2, none⟩ (.int .i64 x.d.n)).setCell ⟨z, 3, none⟩ (.int .u64 (x.d.bits : Int))).setCell ⟨z, 4, none⟩ (.slice E5 k5 kj5)).setCell ⟨z, 5, none⟩ (.int .i64 x.d.ky)).setCell ⟨z, 6, none⟩ (.int .i64 x.d.el)).setCell ⟨z, 7, none⟩ (.slice E7 k7 kj7)).setCell ⟨z, 8, none⟩ (.slice E8 k8 kj8)) (.pointer (some ⟨z, 0, none⟩)) (.int .i64 M) (.bool true) :=
  ⟨⟨z, k5, kj5, k7, kj7, k8, kj8, E5, E7, E8, rfl, rfl, rfl, belowSets hz hb, hz, nineSet hZ (.int .i64 x.d.ty) (.bool x.d.bo) (.int .i64 x.d.n) (.int .u64 (x.d.bits : Int)) (.slice E5 k5 kj5) (.int .i64 x.d.ky) (.int .i64 x.d.el) (.slice E7 k7 kj7) (.slice E8 k8 kj8), hi.move (fun b hb => Tzs.heapNine (by omega) _ _ _ _ _ _ _ _ _) (fun b hb => by rw [Tzs.sizeNine]; exact hb.2)⟩⟩
set_option maxHeartbeats 8000000 in
theorem fits_calls (ty : Int) (bo : Bool) (n : Int) (bits : Nat) (A1 : Option Addr) (n1 c1 : Nat) (ky el : Int) (A2 : Option Addr) (n2 c2 : Nat) (A3 : Option Addr) (n3 c3 : Nat) (w : World) (h1 : n1 ≤ 2147483647) (h2 : n2 ≤ 2147483647) (h3 : n3 ≤ 2147483647) :
    Calls Tryd.prog 10 #[.agg #[.int .i64 ty, .bool bo, .int .i64 n, .int .u64 (bits : Int), .slice A1 n1 c1, .int .i64 ky, .int .i64 el, .slice A2 n2 c2, .slice A3 n3 c3]] w fun e w' => e = .returned (.bool true) ∧ Below w.heap.size w w' := by
  have HB : Aside0 (Below w.heap.size w (w.alloc (.cells #[.int .i64 ty, .bool bo, .int .i64 n, .int .u64 (bits : Int), .slice A1 n1 c1, .int .i64 ky, .int .i64 el, .slice A2 n2 c2, .slice A3 n3 c3] 27))) := ⟨(Below.refl _ _).alloc (Nat.le_refl _) _⟩
  have HV := Aside0.mk (Blk.new w #[.int .i64 ty, .bool bo, .int .i64 n, .int .u64 (bits : Int), .slice A1 n1 c1, .int .i64 ky, .int .i64 el, .slice A2 n2 c2, .slice A3 n3 c3] 27)
  have k1 : decide (2147483647 < (n1 : Int)) = false := decide_eq_false (by omega)
  have k11 : decide (2147483647 < n1) = false := decide_eq_false (by omega)
  have k2 : decide (2147483647 < (n2 : Int)) = false := decide_eq_false (by omega)
  have k22 : decide (2147483647 < n2) = false := decide_eq_false (by omega)
  have k3 : decide (2147483647 < (n3 : Int)) = false := decide_eq_false (by omega)
  have k33 : decide (2147483647 < n3) = false := decide_eq_false (by omega)
  clear h1 h2 h3
  go_enter Tryd.func10, Tryd.ntmps10
  go_upto_region 1 with (fail)
  generalize hW : World.alloc _ _ = W at HB HV ⊢
  clear hW
  obtain ⟨q0, q1, q2, q3, q4, q5, q6, q7, q8, qz⟩ := nine HV.out
  go_wp2_with (fail)
  go_ret
  exact ⟨rfl, HB.out⟩
set_option maxHeartbeats 8000000 in
set_option maxRecDepth 100000 in
/-- bytes that are read as a value whole, with others behind them -/
theorem thIs_calls (x : N) (hwf : NWf x) (A1 : Option Addr) (n1 c1 : Nat) (A2 : Option Addr) (n2 c2 : Nat) (A3 : Option Addr) (n3 c3 : Nat) (B : Option Addr) (M cB : Nat) (bx : List Int) (Y : Option Addr) (m cY : Nat) (ys : List Int) (p1 p2 : Addr) (w : World)
    (hin : x.In flT w (fun b => b < w.heap.size) [.int .i64 x.d.ty, .bool x.d.bo, .int .i64 x.d.n, .int .u64 (x.d.bits : Int), .slice A1 n1 c1, .int .i64 x.d.ky, .int .i64 x.d.el, .slice A2 n2 c2, .slice A3 n3 c3]) (hB : (Kd.int .u8).C w B M bx) (hY : (Kd.int .u8).C w Y m ys) (hM : M ≤ 1000000000) (hm : m ≤ 1000000000) (hb : bytesB (bx ++ ys) = true) (hE : Tzv.E0 w p1 p2) (hty : 3 ≤ x.d.ty ∧ x.d.ty ≤ 12) (hth : thP 7 x.d.ty (bx ++ ys) = .ok x ys) :
    Calls Tryd.prog 14 #[.agg #[.int .i64 x.d.ty, .bool x.d.bo, .int .i64 x.d.n, .int .u64 (x.d.bits : Int), .slice A1 n1 c1, .int .i64 x.d.ky, .int .i64 x.d.el, .slice A2 n2 c2, .slice A3 n3 c3], .slice B M cB, .slice Y m cY] w fun e w' => e = .returned (.bool true) ∧ Below w.heap.size w w' := by
  have HB : Aside0 (Below w.heap.size w (w.alloc (.cells #[.int .i64 x.d.ty, .bool x.d.bo, .int .i64 x.d.n, .int .u64 (x.d.bits : Int), .slice A1 n1 c1, .int .i64 x.d.ky, .int .i64 x.d.el, .slice A2 n2 c2, .slice A3 n3 c3] 27))) := ⟨(Below.refl _ _).alloc (Nat.le_refl _) _⟩
  have HV := Aside0.mk (Blk.new w #[.int .i64 x.d.ty, .bool x.d.bo, .int .i64 x.d.n, .int .u64 (x.d.bits : Int), .slice A1 n1 c1, .int .i64 x.d.ky, .int .i64 x.d.el, .slice A2 n2 c2, .slice A3 n3 c3] 27)
  have HI := Aside0.mk hin
  have HCB := Aside0.mk hB
  have HCY := Aside0.mk hY
  have HLB : Aside0 (bx.length = M) := ⟨hB.1⟩
  have HLY : Aside0 (ys.length = m) := ⟨hY.1⟩
  have HE := Aside0.mk hE
  have HWF := Aside0.mk hwf
  obtain ⟨TT, hTT⟩ : ∃ TT, bx ++ ys = TT := ⟨_, rfl⟩
  rw [hTT] at hb hth
  have HTT := Aside0.mk hTT
  have HTL : Aside0 (TT.length = M + m) := ⟨by rw [← hTT, List.length_append, hB.1, hY.1]⟩
  have HNO : Aside0 (thP 7 x.d.ty TT ≠ .opn) := ⟨by rw [hth]; intro h; cases h⟩
  have HTH := Aside0.mk hth
  have HBB := Aside0.mk hb
  have HTY := Aside0.mk hty
  have q5 : ((M : Int) == (M : Int)) = true := by simp
  clear hin hB hY hE hwf hTT hth hb hty
  go_enter Tryd.func14, Tryd.ntmps14
  go_upto_region 1 with (fail)
  generalize hW : World.alloc _ _ = W at HB HV ⊢
  clear hW
  obtain ⟨q0, q1, q2, q3, q4, q5, q6, q7, q8, qz⟩ := nine HV.out
  obtain ⟨U1, hU1⟩ : ∃ U1, W.alloc (.cells #[] 5) = U1 := ⟨_, rfl⟩
  obtain ⟨U2, hU2⟩ : ∃ U2, U1.alloc (.cells #[.int .i64 0, .bool false, .int .i64 0, .int .u64 0, .slice none 0 0, .int .i64 0, .int .i64 0, .slice none 0 0, .slice none 0 0] 27) = U2 := ⟨_, rfl⟩
  obtain ⟨U3, hU3⟩ : ∃ U3, W.alloc (.cells #[.int .i64 0, .bool false, .int .i64 0, .int .u64 0, .slice none 0 0, .int .i64 0, .int .i64 0, .slice none 0 0, .slice none 0 0] 27) = U3 := ⟨_, rfl⟩
  obtain ⟨U4, hU4⟩ : ∃ U4, U3.alloc (.cells #[] 5) = U4 := ⟨_, rfl⟩
  have s1 : U1.heap.size = W.heap.size + 1 := by rw [← hU1, allocSize]
  have s3 : U3.heap.size = W.heap.size + 1 := by rw [← hU3, allocSize]
  have HS1 := Aside0.mk s1
  have HS3 := Aside0.mk s3
  have HB1 : Aside0 (Below W.heap.size W U1.drew) := ⟨hU1 ▸ ((Below.refl _ _).alloc (Nat.le_refl _) _).drew⟩
  have HB2 : Aside0 (Below W.heap.size W U2.drew) := ⟨hU2 ▸ hU1 ▸ (((Below.refl _ _).alloc (Nat.le_refl _) _).alloc (by rw [allocSize]; omega) _).drew⟩
  have HB3 : Aside0 (Below W.heap.size W U3.drew) := ⟨hU3 ▸ ((Below.refl _ _).alloc (Nat.le_refl _) _).drew⟩
  have HB4 : Aside0 (Below W.heap.size W U4.drew) := ⟨hU4 ▸ hU3 ▸ (((Below.refl _ _).alloc (Nat.le_refl _) _).alloc (by rw [allocSize]; omega) _).drew⟩
  have o1 : Own U1 W.heap.size 5 .u8 (.slice (some ⟨W.heap.size, 0, none⟩) 0 0) [] := hU1 ▸ Own.empty W W.heap.size 5 .u8 (Nat.le_refl _)
  have HO1 : Aside0 (Own U1.drew W.heap.size 5 .u8 (.slice (some ⟨W.heap.size, 0, none⟩) 0 0) []) := ⟨o1.drewN 1⟩
  have HO2 : Aside0 (Own U2.drew W.heap.size 5 .u8 (.slice (some ⟨W.heap.size, 0, none⟩) 0 0) []) := ⟨(hU2 ▸ o1.alloc _ : Own U2 _ _ _ _ _).drewN 1⟩
  have HO4 : Aside0 (Own U4.drew W.heap.size 5 .u8 (.slice (some ⟨U3.heap.size, 0, none⟩) 0 0) []) := ⟨by
    have h := Own.empty U3 W.heap.size 5 .u8 (by omega)
    rw [hU4] at h
    exact h.drewN 1⟩
  have HZ2 : Aside0 (Blk U2.drew U1.heap.size #[.int .i64 0, .bool false, .int .i64 0, .int .u64 0, .slice none 0 0, .int .i64 0, .int .i64 0, .slice none 0 0, .slice none 0 0] 27) := ⟨by have h := Blk.new U1 #[.int .i64 0, .bool false, .int .i64 0, .int .u64 0, .slice none 0 0, .int .i64 0, .int .i64 0, .slice none 0 0, .slice none 0 0] 27; rw [hU2] at h; exact h.drew⟩
  have HZ4 : Aside0 (Blk U4.drew W.heap.size #[.int .i64 0, .bool false, .int .i64 0, .int .u64 0, .slice none 0 0, .int .i64 0, .int .i64 0, .slice none 0 0, .slice none 0 0] 27) := ⟨by have h := (Blk.new W #[.int .i64 0, .bool false, .int .i64 0, .int .u64 0, .slice none 0 0, .int .i64 0, .int .i64 0, .slice none 0 0, .slice none 0 0] 27); rw [hU3] at h; have h2 := h.alloc (.cells #[] 5); rw [hU4] at h2; exact h2.drew⟩
  have HXA : Aside0 (∀ V, Below W.heap.size W V → V.cell? ⟨w.heap.size, 0, none⟩ = some (.int .i64 x.d.ty)) := ⟨fun V h => (h.cell HV.out.lt).trans q0⟩
  have HCW : Aside0 (∀ V, Below W.heap.size W V → (Kd.int .u8).C V B M bx ∧ (Kd.int .u8).C V Y m ys) := ⟨fun V h => ⟨Kd.C_below (Kd.C_below HCB.out HB.out) h, Kd.C_below (Kd.C_below HCY.out HB.out) h⟩⟩
  have HRT : Aside0 (∀ (V : World) (A' : Option Addr) (c' : Nat), Below W.heap.size W V → (Kd.int .u8).C V A' (M + m) TT → Calls Tryd.prog 13 #[.slice A' ((M : Nat) + m) c', .int .i64 x.d.ty] V fun e w' => RtOutS TT (M + m) (.ok x ys) V w' e) := ⟨fun V A' c' hV hC => by
    have h := readThing_callsS A' (M + m) c' TT x.d.ty p1 p2 V hC (by omega) HBB.out ((HE.out.below fun b hb => HB.out.block b hb).below fun b hb => hV.block b hb) (by have := HTY.out; omega) HNO.out
    rw [HTH.out] at h
    exact h⟩
  clear o1 s1 s3
  go_cut [7, 8, 9] from 10 to 22 (fun v7 v8 v9 wx => Got x M W wx v7 v8 v9)
  case first =>
    go_region_held3 (fun (V : World) => V.cell? ⟨w.heap.size, 0, none⟩ = some (.int .i64 x.d.ty))
      (first
        | with_reducible exact HXA.out _ (belowSets (Nat.le_refl _) HBr.out)
        | with_reducible exact HXA.out _ (belowSets HLZ.out HBr.out)
        | with_reducible exact HXA.out _ HBr.out
        | with_reducible exact HXA.out _ (HBr.out.alloc HBr.out.size _)
        | with_reducible exact HXA.out _ HBq.out
        | with_reducible exact HXA.out _ (HBq.out.alloc HBq.out.size _)
        | with_reducible exact HXA.out _ HBp.out
        | with_reducible exact HXA.out _ (HBp.out.alloc HBp.out.size _)
        | with_reducible exact HXA.out _ HB1.out
        | with_reducible exact HXA.out _ HB2.out
        | with_reducible exact HXA.out _ HB3.out
        | with_reducible exact HXA.out _ HB4.out
        | with_reducible exact HXA.out _ (Below.refl _ _).drew)
      ((first
        | ((with_reducible refine appendReadStepAt (w0 := W) (W := U1.drew) W.heap.size ?g (.tmp 11) (.tmp 12) 23 5 .u8 1 ?o Tryd.underlying23 infoU8 ?d (.slice (some ⟨W.heap.size, 0, none⟩) 0 0) [] B M cB bx ?e1 ?e2 HO1.out HB1.out HB1.out.size ?hC ?hl ?_); (case g => rfl); (case o => rfl); (case d => decide); (case e1 => rfl); (case e2 => rfl); (case hC => exact (HCW.out _ HB1.out).1); (case hl => show (0 + M) * 1 ≤ _; omega); intro v2 w2 ho2 hb2 hg2 hat2; rw [List.nil_append] at ho2; have HOp := Aside0.mk ho2; have HBp := Aside0.mk hb2; clear ho2 hb2 hg2 hat2)
        | ((with_reducible refine appendReadStepAt (w0 := W) (W := U2.drew) W.heap.size ?g (.tmp 11) (.tmp 12) 23 5 .u8 1 ?o Tryd.underlying23 infoU8 ?d (.slice (some ⟨W.heap.size, 0, none⟩) 0 0) [] B M cB bx ?e1 ?e2 HO2.out HB2.out HB2.out.size ?hC ?hl ?_); (case g => rfl); (case o => rfl); (case d => decide); (case e1 => rfl); (case e2 => rfl); (case hC => exact (HCW.out _ HB2.out).1); (case hl => show (0 + M) * 1 ≤ _; omega); intro v2 w2 ho2 hb2 hg2 hat2; rw [List.nil_append] at ho2; have HOp := Aside0.mk ho2; have HBp := Aside0.mk hb2; have HZp := Aside0.mk (blkGrown HZ2.out hg2 (Or.inr (by intro h; have h2 : W.heap.size = U1.heap.size := Option.some.inj h; have := HS1.out; have := HS3.out; omega))); have HNp : Aside0 (v2.ownBlock = none ∨ v2.ownBlock ≠ some U1.heap.size) := Aside0.mk (own_ne hat2 (by intro h; have h2 : W.heap.size = U1.heap.size := Option.some.inj h; have := HS1.out; have := HS3.out; omega) (by have := HZ2.out.lt; omega)); have HLZ : Aside0 (W.heap.size ≤ U1.heap.size) := Aside0.mk (by have := HS1.out; omega); clear ho2 hb2 hg2 hat2)
        | ((with_reducible refine appendReadStepAt (w0 := W) (W := U4.drew) W.heap.size ?g (.tmp 11) (.tmp 12) 23 5 .u8 1 ?o Tryd.underlying23 infoU8 ?d (.slice (some ⟨U3.heap.size, 0, none⟩) 0 0) [] B M cB bx ?e1 ?e2 HO4.out HB4.out HB4.out.size ?hC ?hl ?_); (case g => rfl); (case o => rfl); (case d => decide); (case e1 => rfl); (case e2 => rfl); (case hC => exact (HCW.out _ HB4.out).1); (case hl => show (0 + M) * 1 ≤ _; omega); intro v2 w2 ho2 hb2 hg2 hat2; rw [List.nil_append] at ho2; have HOp := Aside0.mk ho2; have HBp := Aside0.mk hb2; have HZp := Aside0.mk (blkGrown HZ4.out hg2 (Or.inr (by intro h; have h2 : U3.heap.size = W.heap.size := Option.some.inj h; have := HS1.out; have := HS3.out; omega))); have HNp : Aside0 (v2.ownBlock = none ∨ v2.ownBlock ≠ some (W.heap.size)) := Aside0.mk (own_ne hat2 (by intro h; have h2 : U3.heap.size = W.heap.size := Option.some.inj h; have := HS1.out; have := HS3.out; omega) (by have := HZ4.out.lt; omega)); have HLZ : Aside0 (W.heap.size ≤ W.heap.size) := Aside0.mk (by have := HS1.out; omega); clear ho2 hb2 hg2 hat2)
        | ((with_reducible refine appendReadStepAt (w0 := W) (W := w2.alloc (.cells #[.int .i64 0, .bool false, .int .i64 0, .int .u64 0, .slice none 0 0, .int .i64 0, .int .i64 0, .slice none 0 0, .slice none 0 0] 27)) W.heap.size ?g (.tmp 13) (.tmp 14) 23 5 .u8 1 ?o Tryd.underlying23 infoU8 ?d _ bx Y m cY ys ?e1 ?e2 (HOp.out.alloc _) (HBp.out.alloc HBp.out.size _) ((HBp.out.alloc HBp.out.size _)).size ?hC ?hl ?_); (case g => rfl); (case o => rfl); (case d => decide); (case e1 => rfl); (case e2 => rfl); (case hC => exact (HCW.out _ (HBp.out.alloc HBp.out.size _)).2); (case hl => rw [HLB.out]; omega); intro v3 w3 ho3 hb3 hg3 hat3; rw [HTT.out] at ho3; have HZq := Aside0.mk (blkGrown (Blk.new w2 _ _) hg3 (own_new HOp.out)); have HNq := Aside0.mk (own_ne2 hat3 HOp.out); have HLZ : Aside0 (W.heap.size ≤ w2.heap.size) := Aside0.mk HBp.out.size; obtain ⟨A3', c3', rfl, hc3', hr3⟩ := ho3.read; rw [HTL.out] at hc3' hr3; rw [HTL.out]; have HRq := Aside0.mk hr3; have HBq := Aside0.mk hb3; clear ho3 hb3 hg3 hat3)
        | ((with_reducible refine appendReadStepAt (w0 := W) (W := w2) W.heap.size ?g (.tmp 13) (.tmp 14) 23 5 .u8 1 ?o Tryd.underlying23 infoU8 ?d _ bx Y m cY ys ?e1 ?e2 (HOp.out) HBp.out (HBp.out).size ?hC ?hl ?_); (case g => rfl); (case o => rfl); (case d => decide); (case e1 => rfl); (case e2 => rfl); (case hC => exact (HCW.out _ HBp.out).2); (case hl => rw [HLB.out]; omega); intro v3 w3 ho3 hb3 hg3 hat3; rw [HTT.out] at ho3; have HZq := Aside0.mk (blkGrown HZp.out hg3 HNp.out); obtain ⟨A3', c3', rfl, hc3', hr3⟩ := ho3.read; rw [HTL.out] at hc3' hr3; rw [HTL.out]; have HRq := Aside0.mk hr3; have HBq := Aside0.mk hb3; clear ho3 hb3 hg3 hat3)
        | ((with_reducible refine appendReadStepAt (w0 := W) (W := w2) W.heap.size ?g (.tmp 13) (.tmp 14) 23 5 .u8 1 ?o Tryd.underlying23 infoU8 ?d _ bx Y m cY ys ?e1 ?e2 (HOp.out) HBp.out (HBp.out).size ?hC ?hl ?_); (case g => rfl); (case o => rfl); (case d => decide); (case e1 => rfl); (case e2 => rfl); (case hC => exact (HCW.out _ HBp.out).2); (case hl => rw [HLB.out]; omega); intro v3 w3 ho3 hb3 hg3 hat3; rw [HTT.out] at ho3; obtain ⟨A3', c3', rfl, hc3', hr3⟩ := ho3.read; rw [HTL.out] at hc3' hr3; rw [HTL.out]; have HRq := Aside0.mk hr3; have HBq := Aside0.mk hb3; clear ho3 hb3 hg3 hat3)
        | (go_at_call 13; (with_reducible refine (HRT.out (w3.alloc (.cells #[.int .i64 0, .bool false, .int .i64 0, .int .u64 0, .slice none 0 0, .int .i64 0, .int .i64 0, .slice none 0 0, .slice none 0 0] 27)) A3' c3' (HBq.out.alloc HBq.out.size _) (Kd.C_alloc HRq.out _)).mono ?_); rintro e w4 HQ; obtain ⟨o', cs', hr, ho', rfl, hin⟩ := HQ.ok _ _ rfl; have HOM := off_uniq hr (show ys = TT.drop M by rw [← HTT.out, ← HLB.out, List.drop_left]) (by have := HTL.out; omega) (by have := HTL.out; omega); subst HOM; obtain ⟨E5, k5, kj5, E7, k7, kj7, E8, k8, kj8, hye⟩ := openT hin; rw [hye] at hin; rw [hye]; have HIr := Aside0.mk hin; have HBr := Aside0.mk ((HBq.out.alloc HBq.out.size _).trans (HQ.below.mono ((HBq.out.alloc HBq.out.size _)).size)); have HLZ : Aside0 (W.heap.size ≤ w3.heap.size) := Aside0.mk HBq.out.size; have hzr := (Blk.new w3 _ _).below HQ.below (Blk.new w3 _ _).lt; have HZr := Aside0.mk hzr; obtain ⟨z0, z1, z2, z3, z4, z5, z6, z7, z8, zz⟩ := nine hzr; clear hzr; clear HQ hin hye hr ho')
        | (go_at_call 13; (with_reducible refine (HRT.out w3 A3' c3' HBq.out HRq.out).mono ?_); rintro e w4 HQ; obtain ⟨o', cs', hr, ho', rfl, hin⟩ := HQ.ok _ _ rfl; have HOM := off_uniq hr (show ys = TT.drop M by rw [← HTT.out, ← HLB.out, List.drop_left]) (by have := HTL.out; omega) (by have := HTL.out; omega); subst HOM; obtain ⟨E5, k5, kj5, E7, k7, kj7, E8, k8, kj8, hye⟩ := openT hin; rw [hye] at hin; rw [hye]; have HIr := Aside0.mk hin; have HBr := Aside0.mk (HBq.out.trans (HQ.below.mono (HBq.out).size)); have hzr := HZq.out.below HQ.below HZq.out.lt; have HZr := Aside0.mk hzr; obtain ⟨z0, z1, z2, z3, z4, z5, z6, z7, z8, zz⟩ := nine hzr; clear hzr; clear HQ hin hye hr ho')
        | (go_at_call 13; (with_reducible refine (HRT.out w3 A3' c3' HBq.out HRq.out).mono ?_); rintro e w4 HQ; obtain ⟨o', cs', hr, ho', rfl, hin⟩ := HQ.ok _ _ rfl; have HOM := off_uniq hr (show ys = TT.drop M by rw [← HTT.out, ← HLB.out, List.drop_left]) (by have := HTL.out; omega) (by have := HTL.out; omega); subst HOM; obtain ⟨E5, k5, kj5, E7, k7, kj7, E8, k8, kj8, hye⟩ := openT hin; rw [hye] at hin; rw [hye]; have HIr := Aside0.mk hin; have HBr := Aside0.mk (HBq.out.trans (HQ.below.mono (HBq.out).size)); clear HQ hin hye hr ho')
        | fail "no arm"))
    all_goals (go_wp2_with (fail); go_meet)
    all_goals first
      | (with_reducible exact got_late HBr.out HIr.out)
      | (with_reducible exact got_early HBr.out HIr.out HLZ.out (by have := HZq.out.lt; omega) HZr.out)
      | (with_reducible exact got_early HBr.out HIr.out HLZ.out (by rw [allocSize]; omega) HZr.out)
  case rest =>
    obtain ⟨g, k5, kj5, k7, kj7, k8, kj8, E5, E7, E8, rfl, rfl, rfl, hbc, hgc, hG, hi⟩ := hcut.out
    have HVc := Aside0.mk (HV.out.below hbc HV.out.lt)
    have HGc := Aside0.mk hG
    have HBc := Aside0.mk (HB.out.trans (hbc.mono HB.out.size))
    have HSM := Aside0.mk (Tsm.same_all x HWF.out wc [.int .i64 x.d.ty, .bool x.d.bo, .int .i64 x.d.n, .int .u64 (x.d.bits : Int), .slice E5 k5 kj5, .int .i64 x.d.ky, .int .i64 x.d.el, .slice E7 k7 kj7, .slice E8 k8 kj8] [.int .i64 x.d.ty, .bool x.d.bo, .int .i64 x.d.n, .int .u64 (x.d.bits : Int), .slice A1 n1 c1, .int .i64 x.d.ky, .int .i64 x.d.el, .slice A2 n2 c2, .slice A3 n3 c3] hi (HI.out.move (fun b hb => HBc.out.block b hb) (fun b hb => Nat.lt_of_lt_of_le hb HBc.out.size)))
    clear hcut hbc hG hi q0 q1 q2 q3 q4 q5 q6 q7 q8 qz
    obtain ⟨q0, q1, q2, q3, q4, q5, q6, q7, q8, qz⟩ := nine HVc.out
    obtain ⟨r0, r1, r2, r3, r4, r5, r6, r7, r8, rz⟩ := nine HGc.out
    have qM : ((M : Int) == (M : Int)) = true := by simp
    go_wp2_with (first
      | (go_at_call 28; (with_reducible refine HSM.out.mono ?_); rintro e w7 ⟨rfl, hb7⟩; have HB7 := Aside0.mk hb7; clear hb7))
    go_ret
    exact ⟨rfl, HBc.out.trans (HB7.out.mono HBc.out.size)⟩
end Go.Proofs.YtcboegodjlfmnaaDoor.Twd
