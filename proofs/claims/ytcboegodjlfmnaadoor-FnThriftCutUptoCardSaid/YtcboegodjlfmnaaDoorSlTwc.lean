import Derived.Test.YtcboegodjlfmnaaDoorSlTwb
namespace Go.Proofs.YtcboegodjlfmnaaDoor.Twc
open Go.Proofs.YtcboegodjlfmnaaDoor.Twb Go.Proofs.YtcboegodjlfmnaaDoor.Twa Go.Proofs.YtcboegodjlfmnaaDoor.Tit Go.Proofs.YtcboegodjlfmnaaDoor.Tsd Go.Proofs.YtcboegodjlfmnaaDoor.Ton Go.Proofs.YtcboegodjlfmnaaDoor.Tpw Go.Proofs.YtcboegodjlfmnaaDoor.Tap Go.Proofs.YtcboegodjlfmnaaDoor.Tzm Go.Proofs.YtcboegodjlfmnaaDoor.Tzl Go.Proofs.YtcboegodjlfmnaaDoor.Trh Go.Proofs.YtcboegodjlfmnaaDoor.Trn Go.Proofs.YtcboegodjlfmnaaDoor.Trm Go.Proofs.YtcboegodjlfmnaaDoor.Tuv Go.Proofs.YtcboegodjlfmnaaDoor.Tpa Go.Proofs.YtcboegodjlfmnaaDoor.Duv Go.Proofs.YtcboegodjlfmnaaDoor.Dpu Go.Proofs.YtcboegodjlfmnaaDoor.Pak Go.Proofs.YtcboegodjlfmnaaDoor.Buf Go.Proofs.YtcboegodjlfmnaaDoor.Fit Go.Proofs.YtcboegodjlfmnaaDoor.Bit Go.Proofs.YtcboegodjlfmnaaDoor.Wrd Go.Proofs.YtcboegodjlfmnaaDoor.Spl Go.Proofs.YtcboegodjlfmnaaDoor.Str Go.Proofs.YtcboegodjlfmnaaDoor.Flt Go.Proofs.YtcboegodjlfmnaaDoor.Owe Go.Proofs.YtcboegodjlfmnaaDoor.Num Go.Proofs.YtcboegodjlfmnaaDoor.Le Go.Proofs.YtcboegodjlfmnaaDoor.Lst Go.Proofs.YtcboegodjlfmnaaDoor.Aid Go.RowKit Go.Proofs.YtcboegodjlfmnaaDoorW.PrintWords Go.Proofs.YtcboegodjlfmnaaDoorW.PrintLast Go.Proofs.YtcboegodjlfmnaaDoorW.PrintMore Go.Proofs.YtcboegodjlfmnaaDoor.Tpv Go.Proofs.YtcboegodjlfmnaaDoor.Tzz
set_option linter.unusedVariables false
set_option linter.unusedSimpArgs false
set_option maxHeartbeats 8000000 in
set_option maxRecDepth 100000 in
theorem by_12 (long : Bool) (fs : F) (g : Nat) (fcs : List Value) (hif : F.all (By long) fs) (how : F.ow fs true) (hok : fs.ok g true 0 0 0) (hn : fs.len ≤ 100) (A1 : Option Addr) (c1 : Nat) (A2 : Option Addr) (c2 : Nat) (A3 : Option Addr) (c3 : Nat) (w : World) (hl : Lies w (fun b => b < w.heap.size) (.slice A3 fs.len c3) fs.len fcs) (hfi : fs.In flT w (fun b => b < w.heap.size) true fcs) (htl : (fs.byB long true 0 ++ [0]).length ≤ 4000000) :
    Calls Tryd.prog 12 #[.agg #[.int .i64 12, .bool false, .int .i64 0, .int .u64 0, .slice A1 0 c1, .int .i64 0, .int .i64 0, .slice A2 0 c2, .slice A3 fs.len c3], .bool long] w fun e w' => WB w w' (fs.byB long true 0 ++ [0]) e := by
  obtain ⟨A0, c0, e0, _, hrw⟩ := hl.out
  obtain ⟨rfl, _, rfl⟩ := Value.slice.inj e0
  have HL := Aside0.mk hrw
  have HFi := Aside0.mk hfi
  have HIF := Aside0.mk hif
  have HOW := Aside0.mk how
  have HOK := Aside0.mk hok
  rw [List.length_append] at htl
  have htl2 : (fs.byB long true 0).length + 1 ≤ 4000000 := htl
  obtain ⟨TOT, hTOT⟩ : ∃ TOT, fs.byB long true 0 = TOT := ⟨_, rfl⟩
  have HTT : Aside0 (([] : List Int) ++ fs.byB long true 0 = TOT) := ⟨hTOT⟩
  rw [hTOT] at htl2 ⊢
  have HTL := Aside0.mk htl2
  clear hl hfi hif how hok htl htl2 hrw e0 hTOT
  have HB : Aside0 (Below w.heap.size w (w.alloc (.cells #[.int .i64 12, .bool false, .int .i64 0, .int .u64 0, .slice A1 0 c1, .int .i64 0, .int .i64 0, .slice A2 0 c2, .slice A3 fs.len c3] 27))) := ⟨(Below.refl _ _).alloc (Nat.le_refl _) _⟩
  have HV := Aside0.mk (Blk.new w #[.int .i64 12, .bool false, .int .i64 0, .int .u64 0, .slice A1 0 c1, .int .i64 0, .int .i64 0, .slice A2 0 c2, .slice A3 fs.len c3] 27)
  go_enter Tryd.func12, Tryd.ntmps12
  go_upto_region 1 with (fail)
  generalize hW : World.alloc _ _ = W at HB HV ⊢
  clear hW
  obtain ⟨q0, q1, q2, q3, q4, q5, q6, q7, q8, qz⟩ := nine HV.out
  have HBP := HB
  have HOP : Aside0 (Own W w.heap.size 5 .u8 (.slice none 0 0) []) := ⟨Own.nil _ _ _ _⟩
  go_wp2_with (fail)
  go_loopg [5, 6, 8, 9, 80] fs.len (fun kq v5 v6 v8 v9 v80 w' => ∃ (i : Nat) (last : Int) (G : F) (gc pr : List Value) (P : List Int), i ≤ fs.len ∧ v80 = .int .i64 i ∧ v6 = .int .i64 last ∧ Aside0 (0 ≤ last) ∧ Aside0 (G.len + i = fs.len) ∧ Aside0 (G.ok g true 0 0 last) ∧ Aside0 (fcs = pr ++ gc) ∧ Aside0 (pr.length = i * 10) ∧ Aside0 (G.In flT w (fun b => b < w.heap.size) true gc) ∧ Aside0 (F.all (By long) G) ∧ Aside0 (F.ow G true) ∧ Aside0 (Own w' w.heap.size 5 .u8 v5 P) ∧ Aside0 (P ++ G.byB long true last = TOT) ∧ Aside0 (Below w.heap.size w w') ∧ Aside0 (fs.len - i ≤ kq))
  case atStart => exact ⟨0, 0, fs, fcs, [], [], Nat.zero_le _, rfl, rfl, ⟨Int.le_refl _⟩, ⟨rfl⟩, HOK, ⟨rfl⟩, ⟨by simp⟩, HFi, HIF, HOW, HOP, HTT, HBP, ⟨by omega⟩⟩
  case round =>
    obtain ⟨i, last, G, gc, pr, P, hi, rfl, rfl, HL0, HGl, HGO, HLE, HPR, HGI, HGA, HGW, HO, HTO, HBr, HK⟩ := hrel
    by_cases ci : i < fs.len
    · have ct : decide ((i : Int) < (fs.len : Nat)) = true := decide_eq_true (by omega)
      have ctt : decide (i < fs.len) = true := decide_eq_true ci
      cases G with
      | nil => exact absurd HGl.out (by show ¬ (0 + i = _); omega)
      | cons d id ls2 fs2 tl =>
        obtain ⟨bsv, lsv, fsv, l1, f1, t1, g1, g2, g3, g4, g5, g6, g7⟩ := HGI.out
        have hy1 : N.In flT w (fun b => b < w.heap.size) ⟨d, ls2, fs2⟩ (nodeC flT d bsv lsv fsv) := ⟨⟨bsv, lsv, fsv, l1, f1, rfl, g2, g3, g4, g5, g6⟩⟩
        obtain ⟨X4, Xn4, Xk4, X7, Xn7, Xk7, X8, Xn8, Xk8, hcs⟩ := openT hy1
        rw [hcs] at hy1 g1
        obtain ⟨ad, hA3, hadl, hcell⟩ := HL.out (by rw [HLE.out, g1]; simp)
        subst hA3
        have hrow := rowCell hcell HLE.out HPR.out
        obtain ⟨z0, z1, z2, z3, z4, z5, z6, z7, z8, z9⟩ := tenRow (w := wr) (a0 := .int .i64 id) (ad := ad) (k := i * 10) (rest := t1) (fun q u hq => (World.cell?_of_block (by rw [add_block]; exact HBr.out.block _ hadl)).trans (hrow q u hq)) g1
        have hbr2 : Below w.heap.size w (wr.alloc (.cells #[.int .i64 id, .int .i64 d.ty, .bool d.bo, .int .i64 d.n, .int .u64 (d.bits : Int), .slice X4 Xn4 Xk4, .int .i64 d.ky, .int .i64 d.el, .slice X7 Xn7 Xk7, .slice X8 Xn8 Xk8] 48)) := HBr.out.alloc HBr.out.size _
        have hids : last < id ∧ id ≤ 32767 := by have := HGO.out.1; rw [if_pos rfl] at this; exact this
        have hty := okN_ty HGO.out.2.1
        have hto := HTO.out
        rw [byB_fl, ← List.append_assoc] at hto
        have hle : (P ++ (fheadL long last id d.ty ++ N.byB long ⟨d, ls2, fs2⟩)).length + 1 ≤ 4000000 := by
          have := congrArg List.length hto
          rw [List.length_append] at this
          have := HTL.out
          omega
        have HYP0 := Aside0.mk fun (w8 : World) (hb8 : Below w.heap.size w w8) => HGA.out.1 g true w8 _ ⟨HGW.out.1, HGW.out.2.2.1, HGW.out.2.2.2.1, HGW.out.2.2.2.2.1, HGW.out.2.2.2.2.2.1⟩ HGO.out.2.1 (by rw [List.length_append, List.length_append] at hle; omega) (hy1.move (Pc := fun b => b < w8.heap.size) (fun b hb => hb8.block b hb) (fun b hb => Nat.lt_of_lt_of_le hb hb8.size))
        obtain ⟨EB, hEB⟩ : ∃ EB, N.byB long ⟨d, ls2, fs2⟩ = EB := ⟨_, rfl⟩
        rw [hEB] at hto hle HYP0
        obtain ⟨M, hM⟩ : ∃ M, EB.length = M := ⟨_, rfl⟩
        have HM := Aside0.mk hM
        have HTO2 := Aside0.mk hto
        have HLEN := Aside0.mk hle
        have HO7 := Aside0.mk (HO.out.alloc (.cells #[.int .i64 id, .int .i64 d.ty, .bool d.bo, .int .i64 d.n, .int .u64 (d.bits : Int), .slice X4 Xn4 Xk4, .int .i64 d.ky, .int .i64 d.el, .slice X7 Xn7 Xk7, .slice X8 Xn8 Xk8] 48))
        have HB7 := Aside0.mk hbr2
        have HG7 := Aside0.mk g7
        have HL9 : Aside0 (fcs = pr ++ ([.int .i64 id, .int .i64 d.ty, .bool d.bo, .int .i64 d.n, .int .u64 (d.bits : Int), .slice X4 Xn4 Xk4, .int .i64 d.ky, .int .i64 d.el, .slice X7 Xn7 Xk7, .slice X8 Xn8 Xk8] ++ t1)) := ⟨by rw [HLE.out, g1]; rfl⟩
        have HCI := Aside0.mk ci
        have HPN := Aside0.mk (Blk.new wr #[.int .i64 id, .int .i64 d.ty, .bool d.bo, .int .i64 d.n, .int .u64 (d.bits : Int), .slice X4 Xn4 Xk4, .int .i64 d.ky, .int .i64 d.el, .slice X7 Xn7 Xk7, .slice X8 Xn8 Xk8] 48)
        obtain ⟨by', hby⟩ : ∃ by', id - last = by' := ⟨_, rfl⟩
        have h0l := HL0.out
        have qby : IntKind.i64.wrap (id - last) = by' := by rw [hby]; exact IntWalk.i64_in _ (by omega)
        have HBY := Aside0.mk hby
        have hby1 : 0 < by' ∧ by' ≤ 32767 := by omega
        have hor := ori64 by'.toNat d.ty.toNat (by omega) (by omega)
        rw [Int.toNat_of_nonneg (by omega), Int.toNat_of_nonneg (by omega)] at hor
        have hw3 : IntKind.i64.wrap (by' * 16) = by' * 16 := IntWalk.i64_in _ (by omega)
        have hut : IntKind.u8.wrap d.ty = d.ty := by rw [IntKind.wrap_u8]; omega
        have hut2 : d.ty % 256 = d.ty := by omega
        have HID : Aside0 (0 ≤ id ∧ id ≤ 32767) := ⟨by omega⟩
        have HTY := Aside0.mk hty
        have HZ := Aside0.mk fun W1 => zigzag_calls id (by omega) (by omega) W1
        have hzl : zz id < 100000 := by have := zz_half_pos id (by omega); omega
        have HVA := Aside0.mk fun W1 => varint_calls (zz id) W1 (by omega)
        have HVL := Aside0.mk (varL_len5 (zz id) (by omega))
        have HHE : Aside0 (fheadL long last id d.ty = if by' < 16 ∧ long = false then [by' * 16 + d.ty] else d.ty :: varL (zz id)) := ⟨by unfold fheadL; rw [hby]⟩
        obtain ⟨ZI, hZI⟩ : ∃ ZI, zz id = ZI := ⟨_, rfl⟩
        rw [hZI] at HZ HVA HVL HHE
        obtain ⟨FH, hFH⟩ : ∃ FH, fheadL long last id d.ty = FH := ⟨_, rfl⟩
        rw [hFH] at HHE HTO2 HLEN
        have hu9 : by' < 16 → IntKind.u8.wrap (by' * 16 + d.ty) = by' * 16 + d.ty := fun h => by rw [IntKind.wrap_u8]; omega
        have hu91 : by' < 16 → (by' * 16 + d.ty) % 256 = by' * 16 + d.ty := fun h => by omega
        have HBYR := Aside0.mk hby1
        have HU9 := Aside0.mk hu9
        have HU91 := Aside0.mk hu91
        clear g1 g2 g3 g4 g5 g6 g7 hy1 hrow hcell hcs hbr2 hto hEB hM hids hle hzl hZI hFH hu9 hu91 hty h0l hby hby1
        go_upto_region 25 with (fail)
        clear z0 z1 z2 z3 z4 z5 z6 z7 z8 z9
        obtain ⟨gb, hgb⟩ : ∃ gb, wr.heap.size = gb := ⟨_, rfl⟩
        rw [hgb] at HPN ⊢
        have HOU : Aside0 (u5.ownBlock = none ∨ u5.ownBlock ≠ some gb) := ⟨.inr fun h => by have := own_lt HO.out.out h; omega⟩
        generalize hw7 : World.alloc _ _ = w7 at HB7 HPN HO7 ⊢
        clear hw7 hgb
        obtain ⟨cc0, cc1, cc2, cc3, cc4, cc5, cc6, cc7, cc8, cc9, ccz⟩ := ten HPN.out
        by_cases cb : by' < 16 ∧ long = false
        · obtain ⟨cb1, rfl⟩ := cb
          have m1 : decide (by' < 16) = true := decide_eq_true cb1
          have hx1 := HU9.out cb1
          have hx2 := HU91.out cb1
          obtain ⟨x, hx⟩ : ∃ x, by' * 16 + d.ty = x := ⟨_, rfl⟩
          rw [hx] at hor hx1 hx2 HHE
          have HFE : Aside0 (FH = [x]) := ⟨by rw [HHE.out, if_pos ⟨cb1, rfl⟩]⟩
          have HLN2 : Aside0 (P.length + 1 + M + 1 ≤ 4000000) := ⟨by have := HLEN.out; rw [List.length_append, List.length_append, HFE.out, HM.out] at this; simp only [List.length_cons, List.length_nil] at this; omega⟩
          clear hx cb1
          go_upto_region 29 with (first
            | (at_builtin; refine appendOwn (w0 := w) w.heap.size rfl (.tmp 94) (.tmp 102) 23 5 .u8 1 rfl Tryd.underlying23 infoU8 (by decide) _ P x rfl rfl HO7.out HB7.out ?hb ?hl ?_; (case hb => exact HB7.out.size); (case hl => have := HLN2.out; omega); intro v9 w9 ho hb hg; rw [← HFE.out] at ho; have HO9 := Aside0.mk ho; have HB9 := Aside0.mk hb; have HP9 := Aside0.mk (blkGrown HPN.out hg HOU.out); clear ho hb hg))
          obtain ⟨cc0, cc1, cc2, cc3, cc4, cc5, cc6, cc7, cc8, cc9, ccz⟩ := ten HP9.out
          have HYP := Aside0.mk (HYP0.out w9 HB9.out)
          go_wp2_with (first
            | (go_at_call 12; (with_reducible refine HYP.out.mono ?_); rintro e w5 HQ; obtain ⟨vv5, rfl, ho⟩ := HQ.out; obtain ⟨A5, c5, rfl, hc5, hr5⟩ := ho.read; rw [HM.out] at hc5 hr5; rw [HM.out]; have HR5 := Aside0.mk hr5; have HO5 := Aside0.mk (HO9.out.below HQ.below); have HB5 := Aside0.mk (HB9.out.trans (HQ.below.mono HB9.out.size)); clear HQ ho hr5)
            | (at_builtin; refine appendRead (w0 := w) w.heap.size rfl (.tmp 118) (.tmp 122) 23 5 .u8 1 rfl Tryd.underlying23 infoU8 (by decide) _ (P ++ FH) A5 M c5 EB rfl rfl HO5.out HB5.out ?hb HR5.out ?hl ?_; (case hb => exact HB5.out.size); (case hl => have := HLEN.out; rw [List.length_append, List.length_append, HM.out] at this; rw [List.length_append]; omega); intro v6 w6 ho hb hg; rw [List.append_assoc] at ho; have HO6 := Aside0.mk ho; have HB6 := Aside0.mk hb; clear ho hb hg))
          go_roundg (gk - 1)
          all_goals first
            | (have := HK.out; have := HCI.out; omega)
            | (exact ⟨i + 1, id, tl, t1, pr ++ [.int .i64 id, .int .i64 d.ty, .bool d.bo, .int .i64 d.n, .int .u64 (d.bits : Int), .slice X4 Xn4 Xk4, .int .i64 d.ky, .int .i64 d.el, .slice X7 Xn7 Xk7, .slice X8 Xn8 Xk8], P ++ (FH ++ EB), HCI.out, by go_num, rfl, ⟨HID.out.1⟩, ⟨by have := HGl.out; have : (F.cons d id ls2 fs2 tl).len = tl.len + 1 := rfl; omega⟩, ⟨HGO.out.2.2⟩, ⟨by rw [HL9.out, List.append_assoc]⟩, ⟨by rw [List.length_append, HPR.out]; show i * 10 + 10 = (i + 1) * 10; omega⟩, HG7, ⟨HGA.out.2⟩, ⟨HGW.out.2.2.2.2.2.2⟩, HO6, HTO2, HB6, ⟨by have := HK.out; omega⟩⟩)
        · have HFE : Aside0 (FH = [d.ty] ++ varL ZI) := ⟨by rw [HHE.out, if_neg cb]; rfl⟩
          have HLN2 : Aside0 (P.length + (1 + (varL ZI).length) + M + 1 ≤ 4000000) := ⟨by have := HLEN.out; rw [List.length_append, List.length_append, HFE.out, HM.out, List.length_append] at this; simp only [List.length_cons, List.length_nil] at this; omega⟩
          obtain ⟨L, hL⟩ : ∃ L, (varL ZI).length = L := ⟨_, rfl⟩
          rw [hL] at HLN2
          have HLL := Aside0.mk hL
          have hcb : (decide (by' < 16) && !long) = false := by
            cases hlg : long with
            | true => simp
            | false => have : ¬ by' < 16 := fun h => cb ⟨h, hlg⟩; simp [this]
          have HCB := Aside0.mk hcb
          clear hL cb hor hcb
          cases hlo : long with
          | true =>
            subst hlo
            cases m1 : decide (by' < 16) with
            | true =>
              have HXA : Aside0 (∀ W1, Blk W1 gb #[.int .i64 id, .int .i64 d.ty, .bool d.bo, .int .i64 d.n, .int .u64 (d.bits : Int), .slice X4 Xn4 Xk4, .int .i64 d.ky, .int .i64 d.el, .slice X7 Xn7 Xk7, .slice X8 Xn8 Xk8] 48 → W1.cell? ⟨gb, 0, none⟩ = some (.int .i64 id) ∧ W1.cell? ⟨gb, 1, none⟩ = some (.int .i64 d.ty)) := ⟨fun W1 h => ⟨h.cell (j := 0) rfl, h.cell (j := 1) rfl⟩⟩
              obtain ⟨wa, hwa⟩ : ∃ wa, (w7.alloc (.cells #[.int .u8 d.ty] 5)).drew = wa := ⟨_, rfl⟩
              have HBa : Aside0 (Below w.heap.size w wa) := ⟨hwa ▸ (HB7.out.alloc HB7.out.size _).drew⟩
              have HPa : Aside0 (Blk wa gb #[.int .i64 id, .int .i64 d.ty, .bool d.bo, .int .i64 d.n, .int .u64 (d.bits : Int), .slice X4 Xn4 Xk4, .int .i64 d.ky, .int .i64 d.el, .slice X7 Xn7 Xk7, .slice X8 Xn8 Xk8] 48) := ⟨hwa ▸ (HPN.out.alloc _).drew⟩
              have HOa : Aside0 (Own wa w.heap.size 5 .u8 u5 P) := ⟨hwa ▸ (HO7.out.alloc _).drewN 1⟩
              have HRa : Aside0 (Row wa w7.heap.size 5 .u8 [d.ty]) := ⟨hwa ▸ ⟨(Blk.new w7 #[.int .u8 d.ty] 5).drew⟩⟩
              go_upto_region 28 with (fail)
              go_region_held3 (fun (w0 : World) => w0.cell? ⟨gb, 0, none⟩ = some (.int .i64 id) ∧ w0.cell? ⟨gb, 1, none⟩ = some (.int .i64 d.ty))
                (first | exact HXA.out _ HP9.out | exact HXA.out _ HP4.out | exact HXA.out _ HP3.out | exact HXA.out _ HPa.out | exact HXA.out _ (hwa ▸ HPa.out) | exact HXA.out _ HPN.out.drew)
                ((first
                  | (go_at_call 23; (with_reducible refine (HZ.out _).mono ?_); rintro e w2 ⟨rfl, rfl⟩)
                  | (go_at_call 22; (with_reducible refine (HVA.out _).mono ?_); rintro e w4 ⟨v4, rfl, ho, hb⟩; obtain ⟨A4, c4, rfl, hc4, hr4⟩ := ho.read; rw [HLL.out] at hc4 hr4; rw [HLL.out]; have HR4 := Aside0.mk hr4; have HO4 := Aside0.mk (HO3.out.below hb); have HB4 := Aside0.mk (HB3.out.trans (hb.mono HB3.out.size)); have HP4 := Aside0.mk (HP3.out.below hb HP3.out.lt); clear ho hb hr4)
                  | (refine appendReadStepAt (w0 := w) w.heap.size (by rfl) (.tmp 104) (.tmp 109) 23 5 .u8 1 (by rfl) Tryd.underlying23 infoU8 (by decide) _ P (some ⟨w7.heap.size, 0, none⟩) 1 1 [d.ty] (by rfl) (by rfl) HOa.out HBa.out ?hs (rowC HRa.out rfl (by decide)) ?hl ?_; (case hs => exact HBa.out.size); (case hl => have := HLN2.out; omega); intro v3 w3 ho hb hg hat; have HO3 := Aside0.mk ho; have HB3 := Aside0.mk hb; have HP3 := Aside0.mk (blkGrown HPa.out hg HOU.out); have HOU3 : Aside0 (v3.ownBlock = none ∨ v3.ownBlock ≠ some gb) := (Aside0.mk (by rcases hat with h | h; rw [h]; exact HOU.out; exact .inr (by rw [h]; intro h2; have := HPa.out.lt; injection h2 with h2; omega))); clear ho hb hg hat)
                  | (refine appendReadStepAt (w0 := w) w.heap.size (by rfl) (.tmp 110) (.tmp 114) 23 5 .u8 1 (by rfl) Tryd.underlying23 infoU8 (by decide) _ (P ++ [d.ty]) A4 L c4 (varL ZI) (by rfl) (by rfl) HO4.out HB4.out ?hs HR4.out ?hl ?_; (case hs => exact HB4.out.size); (case hl => have := HLN2.out; rw [List.length_append]; show (P.length + 1 + L) * 1 ≤ _; omega); intro v9 w9 ho hb hg hat; rw [List.append_assoc, ← HFE.out] at ho; have HO9 := Aside0.mk ho; have HB9 := Aside0.mk hb; have HP9 := Aside0.mk (blkGrown HP4.out hg HOU3.out); clear ho hb hg hat)
                  | fail "no arm"))
              go_upto_region 29 with (fail)
              obtain ⟨cc0, cc1, cc2, cc3, cc4, cc5, cc6, cc7, cc8, cc9, ccz⟩ := ten HP9.out
              have HYP := Aside0.mk (HYP0.out w9 HB9.out)
              go_wp2_with (first
                | (go_at_call 12; (with_reducible refine HYP.out.mono ?_); rintro e w5 HQ; obtain ⟨vv5, rfl, ho⟩ := HQ.out; obtain ⟨A5, c5, rfl, hc5, hr5⟩ := ho.read; rw [HM.out] at hc5 hr5; rw [HM.out]; have HR5 := Aside0.mk hr5; have HO5 := Aside0.mk (HO9.out.below HQ.below); have HB5 := Aside0.mk (HB9.out.trans (HQ.below.mono HB9.out.size)); clear HQ ho hr5)
                | (at_builtin; refine appendRead (w0 := w) w.heap.size rfl (.tmp 118) (.tmp 122) 23 5 .u8 1 rfl Tryd.underlying23 infoU8 (by decide) _ (P ++ FH) A5 M c5 EB rfl rfl HO5.out HB5.out ?hb HR5.out ?hl ?_; (case hb => exact HB5.out.size); (case hl => have := HLEN.out; rw [List.length_append, List.length_append, HM.out] at this; rw [List.length_append]; omega); intro v6 w6 ho hb hg; rw [List.append_assoc] at ho; have HO6 := Aside0.mk ho; have HB6 := Aside0.mk hb; clear ho hb hg))
              go_roundg (gk - 1)
              all_goals first
                | (have := HK.out; have := HCI.out; omega)
                | (exact ⟨i + 1, id, tl, t1, pr ++ [.int .i64 id, .int .i64 d.ty, .bool d.bo, .int .i64 d.n, .int .u64 (d.bits : Int), .slice X4 Xn4 Xk4, .int .i64 d.ky, .int .i64 d.el, .slice X7 Xn7 Xk7, .slice X8 Xn8 Xk8], P ++ (FH ++ EB), HCI.out, by go_num, rfl, ⟨HID.out.1⟩, ⟨by have := HGl.out; have : (F.cons d id ls2 fs2 tl).len = tl.len + 1 := rfl; omega⟩, ⟨HGO.out.2.2⟩, ⟨by rw [HL9.out, List.append_assoc]⟩, ⟨by rw [List.length_append, HPR.out]; show i * 10 + 10 = (i + 1) * 10; omega⟩, HG7, ⟨HGA.out.2⟩, ⟨HGW.out.2.2.2.2.2.2⟩, HO6, HTO2, HB6, ⟨by have := HK.out; omega⟩⟩)
            | false =>
              have HXA : Aside0 (∀ W1, Blk W1 gb #[.int .i64 id, .int .i64 d.ty, .bool d.bo, .int .i64 d.n, .int .u64 (d.bits : Int), .slice X4 Xn4 Xk4, .int .i64 d.ky, .int .i64 d.el, .slice X7 Xn7 Xk7, .slice X8 Xn8 Xk8] 48 → W1.cell? ⟨gb, 0, none⟩ = some (.int .i64 id) ∧ W1.cell? ⟨gb, 1, none⟩ = some (.int .i64 d.ty)) := ⟨fun W1 h => ⟨h.cell (j := 0) rfl, h.cell (j := 1) rfl⟩⟩
              obtain ⟨wa, hwa⟩ : ∃ wa, (w7.alloc (.cells #[.int .u8 d.ty] 5)).drew = wa := ⟨_, rfl⟩
              have HBa : Aside0 (Below w.heap.size w wa) := ⟨hwa ▸ (HB7.out.alloc HB7.out.size _).drew⟩
              have HPa : Aside0 (Blk wa gb #[.int .i64 id, .int .i64 d.ty, .bool d.bo, .int .i64 d.n, .int .u64 (d.bits : Int), .slice X4 Xn4 Xk4, .int .i64 d.ky, .int .i64 d.el, .slice X7 Xn7 Xk7, .slice X8 Xn8 Xk8] 48) := ⟨hwa ▸ (HPN.out.alloc _).drew⟩
              have HOa : Aside0 (Own wa w.heap.size 5 .u8 u5 P) := ⟨hwa ▸ (HO7.out.alloc _).drewN 1⟩
              have HRa : Aside0 (Row wa w7.heap.size 5 .u8 [d.ty]) := ⟨hwa ▸ ⟨(Blk.new w7 #[.int .u8 d.ty] 5).drew⟩⟩
              go_upto_region 28 with (fail)
              go_region_held3 (fun (w0 : World) => w0.cell? ⟨gb, 0, none⟩ = some (.int .i64 id) ∧ w0.cell? ⟨gb, 1, none⟩ = some (.int .i64 d.ty))
                (first | exact HXA.out _ HP9.out | exact HXA.out _ HP4.out | exact HXA.out _ HP3.out | exact HXA.out _ HPa.out | exact HXA.out _ (hwa ▸ HPa.out) | exact HXA.out _ HPN.out.drew)
                ((first
                  | (go_at_call 23; (with_reducible refine (HZ.out _).mono ?_); rintro e w2 ⟨rfl, rfl⟩)
                  | (go_at_call 22; (with_reducible refine (HVA.out _).mono ?_); rintro e w4 ⟨v4, rfl, ho, hb⟩; obtain ⟨A4, c4, rfl, hc4, hr4⟩ := ho.read; rw [HLL.out] at hc4 hr4; rw [HLL.out]; have HR4 := Aside0.mk hr4; have HO4 := Aside0.mk (HO3.out.below hb); have HB4 := Aside0.mk (HB3.out.trans (hb.mono HB3.out.size)); have HP4 := Aside0.mk (HP3.out.below hb HP3.out.lt); clear ho hb hr4)
                  | (refine appendReadStepAt (w0 := w) w.heap.size (by rfl) (.tmp 104) (.tmp 109) 23 5 .u8 1 (by rfl) Tryd.underlying23 infoU8 (by decide) _ P (some ⟨w7.heap.size, 0, none⟩) 1 1 [d.ty] (by rfl) (by rfl) HOa.out HBa.out ?hs (rowC HRa.out rfl (by decide)) ?hl ?_; (case hs => exact HBa.out.size); (case hl => have := HLN2.out; omega); intro v3 w3 ho hb hg hat; have HO3 := Aside0.mk ho; have HB3 := Aside0.mk hb; have HP3 := Aside0.mk (blkGrown HPa.out hg HOU.out); have HOU3 : Aside0 (v3.ownBlock = none ∨ v3.ownBlock ≠ some gb) := (Aside0.mk (by rcases hat with h | h; rw [h]; exact HOU.out; exact .inr (by rw [h]; intro h2; have := HPa.out.lt; injection h2 with h2; omega))); clear ho hb hg hat)
                  | (refine appendReadStepAt (w0 := w) w.heap.size (by rfl) (.tmp 110) (.tmp 114) 23 5 .u8 1 (by rfl) Tryd.underlying23 infoU8 (by decide) _ (P ++ [d.ty]) A4 L c4 (varL ZI) (by rfl) (by rfl) HO4.out HB4.out ?hs HR4.out ?hl ?_; (case hs => exact HB4.out.size); (case hl => have := HLN2.out; rw [List.length_append]; show (P.length + 1 + L) * 1 ≤ _; omega); intro v9 w9 ho hb hg hat; rw [List.append_assoc, ← HFE.out] at ho; have HO9 := Aside0.mk ho; have HB9 := Aside0.mk hb; have HP9 := Aside0.mk (blkGrown HP4.out hg HOU3.out); clear ho hb hg hat)
                  | fail "no arm"))
              go_upto_region 29 with (fail)
              obtain ⟨cc0, cc1, cc2, cc3, cc4, cc5, cc6, cc7, cc8, cc9, ccz⟩ := ten HP9.out
              have HYP := Aside0.mk (HYP0.out w9 HB9.out)
              go_wp2_with (first
                | (go_at_call 12; (with_reducible refine HYP.out.mono ?_); rintro e w5 HQ; obtain ⟨vv5, rfl, ho⟩ := HQ.out; obtain ⟨A5, c5, rfl, hc5, hr5⟩ := ho.read; rw [HM.out] at hc5 hr5; rw [HM.out]; have HR5 := Aside0.mk hr5; have HO5 := Aside0.mk (HO9.out.below HQ.below); have HB5 := Aside0.mk (HB9.out.trans (HQ.below.mono HB9.out.size)); clear HQ ho hr5)
                | (at_builtin; refine appendRead (w0 := w) w.heap.size rfl (.tmp 118) (.tmp 122) 23 5 .u8 1 rfl Tryd.underlying23 infoU8 (by decide) _ (P ++ FH) A5 M c5 EB rfl rfl HO5.out HB5.out ?hb HR5.out ?hl ?_; (case hb => exact HB5.out.size); (case hl => have := HLEN.out; rw [List.length_append, List.length_append, HM.out] at this; rw [List.length_append]; omega); intro v6 w6 ho hb hg; rw [List.append_assoc] at ho; have HO6 := Aside0.mk ho; have HB6 := Aside0.mk hb; clear ho hb hg))
              go_roundg (gk - 1)
              all_goals first
                | (have := HK.out; have := HCI.out; omega)
                | (exact ⟨i + 1, id, tl, t1, pr ++ [.int .i64 id, .int .i64 d.ty, .bool d.bo, .int .i64 d.n, .int .u64 (d.bits : Int), .slice X4 Xn4 Xk4, .int .i64 d.ky, .int .i64 d.el, .slice X7 Xn7 Xk7, .slice X8 Xn8 Xk8], P ++ (FH ++ EB), HCI.out, by go_num, rfl, ⟨HID.out.1⟩, ⟨by have := HGl.out; have : (F.cons d id ls2 fs2 tl).len = tl.len + 1 := rfl; omega⟩, ⟨HGO.out.2.2⟩, ⟨by rw [HL9.out, List.append_assoc]⟩, ⟨by rw [List.length_append, HPR.out]; show i * 10 + 10 = (i + 1) * 10; omega⟩, HG7, ⟨HGA.out.2⟩, ⟨HGW.out.2.2.2.2.2.2⟩, HO6, HTO2, HB6, ⟨by have := HK.out; omega⟩⟩)
          | false =>
            subst hlo
            have m1 : decide (by' < 16) = false := by have := HCB.out; simpa using this
            have HXA : Aside0 (∀ W1, Blk W1 gb #[.int .i64 id, .int .i64 d.ty, .bool d.bo, .int .i64 d.n, .int .u64 (d.bits : Int), .slice X4 Xn4 Xk4, .int .i64 d.ky, .int .i64 d.el, .slice X7 Xn7 Xk7, .slice X8 Xn8 Xk8] 48 → W1.cell? ⟨gb, 0, none⟩ = some (.int .i64 id) ∧ W1.cell? ⟨gb, 1, none⟩ = some (.int .i64 d.ty)) := ⟨fun W1 h => ⟨h.cell (j := 0) rfl, h.cell (j := 1) rfl⟩⟩
            obtain ⟨wa, hwa⟩ : ∃ wa, (w7.alloc (.cells #[.int .u8 d.ty] 5)).drew = wa := ⟨_, rfl⟩
            have HBa : Aside0 (Below w.heap.size w wa) := ⟨hwa ▸ (HB7.out.alloc HB7.out.size _).drew⟩
            have HPa : Aside0 (Blk wa gb #[.int .i64 id, .int .i64 d.ty, .bool d.bo, .int .i64 d.n, .int .u64 (d.bits : Int), .slice X4 Xn4 Xk4, .int .i64 d.ky, .int .i64 d.el, .slice X7 Xn7 Xk7, .slice X8 Xn8 Xk8] 48) := ⟨hwa ▸ (HPN.out.alloc _).drew⟩
            have HOa : Aside0 (Own wa w.heap.size 5 .u8 u5 P) := ⟨hwa ▸ (HO7.out.alloc _).drewN 1⟩
            have HRa : Aside0 (Row wa w7.heap.size 5 .u8 [d.ty]) := ⟨hwa ▸ ⟨(Blk.new w7 #[.int .u8 d.ty] 5).drew⟩⟩
            go_upto_region 28 with (fail)
            go_region_held3 (fun (w0 : World) => w0.cell? ⟨gb, 0, none⟩ = some (.int .i64 id) ∧ w0.cell? ⟨gb, 1, none⟩ = some (.int .i64 d.ty))
              (first | exact HXA.out _ HP9.out | exact HXA.out _ HP4.out | exact HXA.out _ HP3.out | exact HXA.out _ HPa.out | exact HXA.out _ (hwa ▸ HPa.out) | exact HXA.out _ HPN.out.drew)
              ((first
                | (go_at_call 23; (with_reducible refine (HZ.out _).mono ?_); rintro e w2 ⟨rfl, rfl⟩)
                | (go_at_call 22; (with_reducible refine (HVA.out _).mono ?_); rintro e w4 ⟨v4, rfl, ho, hb⟩; obtain ⟨A4, c4, rfl, hc4, hr4⟩ := ho.read; rw [HLL.out] at hc4 hr4; rw [HLL.out]; have HR4 := Aside0.mk hr4; have HO4 := Aside0.mk (HO3.out.below hb); have HB4 := Aside0.mk (HB3.out.trans (hb.mono HB3.out.size)); have HP4 := Aside0.mk (HP3.out.below hb HP3.out.lt); clear ho hb hr4)
                | (refine appendReadStepAt (w0 := w) w.heap.size (by rfl) (.tmp 104) (.tmp 109) 23 5 .u8 1 (by rfl) Tryd.underlying23 infoU8 (by decide) _ P (some ⟨w7.heap.size, 0, none⟩) 1 1 [d.ty] (by rfl) (by rfl) HOa.out HBa.out ?hs (rowC HRa.out rfl (by decide)) ?hl ?_; (case hs => exact HBa.out.size); (case hl => have := HLN2.out; omega); intro v3 w3 ho hb hg hat; have HO3 := Aside0.mk ho; have HB3 := Aside0.mk hb; have HP3 := Aside0.mk (blkGrown HPa.out hg HOU.out); have HOU3 : Aside0 (v3.ownBlock = none ∨ v3.ownBlock ≠ some gb) := (Aside0.mk (by rcases hat with h | h; rw [h]; exact HOU.out; exact .inr (by rw [h]; intro h2; have := HPa.out.lt; injection h2 with h2; omega))); clear ho hb hg hat)
                | (refine appendReadStepAt (w0 := w) w.heap.size (by rfl) (.tmp 110) (.tmp 114) 23 5 .u8 1 (by rfl) Tryd.underlying23 infoU8 (by decide) _ (P ++ [d.ty]) A4 L c4 (varL ZI) (by rfl) (by rfl) HO4.out HB4.out ?hs HR4.out ?hl ?_; (case hs => exact HB4.out.size); (case hl => have := HLN2.out; rw [List.length_append]; show (P.length + 1 + L) * 1 ≤ _; omega); intro v9 w9 ho hb hg hat; rw [List.append_assoc, ← HFE.out] at ho; have HO9 := Aside0.mk ho; have HB9 := Aside0.mk hb; have HP9 := Aside0.mk (blkGrown HP4.out hg HOU3.out); clear ho hb hg hat)
                | fail "no arm"))
            go_upto_region 29 with (fail)
            obtain ⟨cc0, cc1, cc2, cc3, cc4, cc5, cc6, cc7, cc8, cc9, ccz⟩ := ten HP9.out
            have HYP := Aside0.mk (HYP0.out w9 HB9.out)
            go_wp2_with (first
              | (go_at_call 12; (with_reducible refine HYP.out.mono ?_); rintro e w5 HQ; obtain ⟨vv5, rfl, ho⟩ := HQ.out; obtain ⟨A5, c5, rfl, hc5, hr5⟩ := ho.read; rw [HM.out] at hc5 hr5; rw [HM.out]; have HR5 := Aside0.mk hr5; have HO5 := Aside0.mk (HO9.out.below HQ.below); have HB5 := Aside0.mk (HB9.out.trans (HQ.below.mono HB9.out.size)); clear HQ ho hr5)
              | (at_builtin; refine appendRead (w0 := w) w.heap.size rfl (.tmp 118) (.tmp 122) 23 5 .u8 1 rfl Tryd.underlying23 infoU8 (by decide) _ (P ++ FH) A5 M c5 EB rfl rfl HO5.out HB5.out ?hb HR5.out ?hl ?_; (case hb => exact HB5.out.size); (case hl => have := HLEN.out; rw [List.length_append, List.length_append, HM.out] at this; rw [List.length_append]; omega); intro v6 w6 ho hb hg; rw [List.append_assoc] at ho; have HO6 := Aside0.mk ho; have HB6 := Aside0.mk hb; clear ho hb hg))
            go_roundg (gk - 1)
            all_goals first
              | (have := HK.out; have := HCI.out; omega)
              | (exact ⟨i + 1, id, tl, t1, pr ++ [.int .i64 id, .int .i64 d.ty, .bool d.bo, .int .i64 d.n, .int .u64 (d.bits : Int), .slice X4 Xn4 Xk4, .int .i64 d.ky, .int .i64 d.el, .slice X7 Xn7 Xk7, .slice X8 Xn8 Xk8], P ++ (FH ++ EB), HCI.out, by go_num, rfl, ⟨HID.out.1⟩, ⟨by have := HGl.out; have : (F.cons d id ls2 fs2 tl).len = tl.len + 1 := rfl; omega⟩, ⟨HGO.out.2.2⟩, ⟨by rw [HL9.out, List.append_assoc]⟩, ⟨by rw [List.length_append, HPR.out]; show i * 10 + 10 = (i + 1) * 10; omega⟩, HG7, ⟨HGA.out.2⟩, ⟨HGW.out.2.2.2.2.2.2⟩, HO6, HTO2, HB6, ⟨by have := HK.out; omega⟩⟩)
    · have hin : i = fs.len := by omega
      have hP : P = TOT := by
        have hd := HTO.out
        have hg := HGl.out
        cases G with
        | nil => rw [← hd]; exact (List.append_nil _).symm
        | cons d id ls2 fs2 tl => exfalso; have : (F.cons d id ls2 fs2 tl).len = tl.len + 1 := rfl; omega
      have ct : decide ((i : Int) < (fs.len : Nat)) = false := decide_eq_false (by omega)
      have ctt : decide (i < fs.len) = false := decide_eq_false ci
      have hO8 := HO.out
      rw [hP] at hO8
      have HO8 := Aside0.mk hO8
      clear hin hP ci hO8
      go_wp2_with (first
        | (at_builtin; refine appendOwn (w0 := w) w.heap.size rfl (.tmp 125) (.tmp 126) 23 5 .u8 1 rfl Tryd.underlying23 infoU8 (by decide) _ TOT 0 rfl rfl HO8.out HBr.out ?hb ?hl ?_; (case hb => exact HBr.out.size); (case hl => have := HTL.out; omega); intro v9 w9 ho hb hg; have HO9 := Aside0.mk ho; have HB9 := Aside0.mk hb; clear ho hb hg))
      go_ret
      exact ⟨⟨_, rfl, HO9.out⟩, HB9.out⟩
theorem by_all (long : Bool) (x : N) (ihl : F.all (By long) x.ls) (ihf : F.all (By long) x.fs) : By long x := by
  obtain ⟨⟨ty, bo, n, bits, bs, ky, el⟩, ls, fs⟩ := x
  intro dd fld w cs hw hok hlen hin
  obtain ⟨bsv, lsv, fsv, lcs, fcs, e, hb, hl, hli, hf, hfi⟩ := hin.out
  obtain ⟨A1, c1, rfl, hc1, hC, hbb, _⟩ := hb.out
  obtain ⟨A2, c2, rfl, hc2, hl2⟩ := hl.out
  obtain ⟨A3, c3, rfl, hc3, hf3⟩ := hf.out
  subst e
  rcases hok with h | h | h | h | h | h | h | h | h | h | h
  · obtain ⟨_, _, h, hls, hfs⟩ := h
    simp only [D.mk.injEq] at h hls hfs
    obtain ⟨rfl, rfl, rfl, rfl, rfl, rfl, rfl⟩ := h
    subst hls hfs
    exact by_1 long .nil 0 0 0 lcs trivial trivial trivial (Nat.zero_le _) A1 c1 A2 c2 A3 c3 w hl hli (Nat.zero_le _)
  · obtain ⟨_, _, h, hls, hfs⟩ := h
    simp only [D.mk.injEq] at h hls hfs
    obtain ⟨rfl, rfl, rfl, rfl, rfl, rfl, rfl⟩ := h
    subst hls hfs
    exact by_2 long .nil 0 0 0 lcs trivial trivial trivial (Nat.zero_le _) A1 c1 A2 c2 A3 c3 w hl hli (Nat.zero_le _)
  · obtain ⟨_, _, _, h, hls, hfs⟩ := h
    simp only [D.mk.injEq] at h hls hfs
    obtain ⟨rfl, rfl, _, rfl, rfl, rfl, rfl⟩ := h
    subst hls hfs
    exact by_3 long n A1 c1 A2 c2 A3 c3 w
  · obtain ⟨_, _, _, h, hls, hfs⟩ := h
    simp only [D.mk.injEq] at h hls hfs
    obtain ⟨rfl, rfl, _, rfl, rfl, rfl, rfl⟩ := h
    subst hls hfs
    exact by_4 long n hw.d.2.1 A1 c1 A2 c2 A3 c3 w
  · obtain ⟨_, _, _, h, hls, hfs⟩ := h
    simp only [D.mk.injEq] at h hls hfs
    obtain ⟨rfl, rfl, _, rfl, rfl, rfl, rfl⟩ := h
    subst hls hfs
    exact by_5 long n hw.d.2.1 A1 c1 A2 c2 A3 c3 w
  · obtain ⟨_, _, _, h, hls, hfs⟩ := h
    simp only [D.mk.injEq] at h hls hfs
    obtain ⟨rfl, rfl, _, rfl, rfl, rfl, rfl⟩ := h
    subst hls hfs
    exact by_6 long n hw.d.2.1 A1 c1 A2 c2 A3 c3 w
  · obtain ⟨_, hx, h, hls, hfs⟩ := h
    simp only [D.mk.injEq] at h hls hfs
    obtain ⟨rfl, rfl, rfl, _, rfl, rfl, rfl⟩ := h
    subst hls hfs
    exact by_7 long bits hx A1 c1 A2 c2 A3 c3 w
  · obtain ⟨_, hx, _, h, hls, hfs⟩ := h
    simp only [D.mk.injEq] at h hls hfs
    obtain ⟨rfl, rfl, rfl, rfl, _, rfl, rfl⟩ := h
    subst hls hfs
    exact by_8 long bs.length bs rfl hx A1 c1 A2 c2 A3 c3 w hC
  · obtain ⟨ht, h, h3, h12, hn, hfs, g, _, k⟩ := h
    simp only [D.mk.injEq] at h hfs
    obtain ⟨_, rfl, rfl, rfl, rfl, rfl, _⟩ := h
    subst hfs
    rcases ht with ht | ht
    all_goals
      simp only at ht
      subst ht
    · exact by_9 long ls el el g lcs ihl hw.ls k hn el h3 h12 A1 c1 A2 c2 A3 c3 w hl hli hlen
    · exact by_10 long ls el el g lcs ihl hw.ls k hn el h3 h12 A1 c1 A2 c2 A3 c3 w hl hli hlen
  · obtain ⟨_, h, hn, _, hfs, ⟨g, _, k⟩, h0, h1⟩ := h
    simp only [D.mk.injEq] at h hfs
    obtain ⟨rfl, rfl, rfl, rfl, rfl, _, _⟩ := h
    subst hfs
    exact by_11 long ls ky el g lcs ihl hw.ls k hn ky el ⟨h0, h1⟩ A1 c1 A2 c2 A3 c3 w hl hli hlen
  · obtain ⟨_, h, hn, hls, g, _, k⟩ := h
    simp only [D.mk.injEq] at h hls
    obtain ⟨rfl, rfl, rfl, rfl, rfl, rfl, rfl⟩ := h
    subst hls
    exact by_12 long fs g fcs ihf hw.fs k hn A1 c1 A2 c2 A3 c3 w hf hfi hlen
theorem thingBytes_all (long : Bool) (x : N) : By long x := by_all long x (F.induct (by_all long) x.ls) (F.induct (by_all long) x.fs)
end Go.Proofs.YtcboegodjlfmnaaDoor.Twc
