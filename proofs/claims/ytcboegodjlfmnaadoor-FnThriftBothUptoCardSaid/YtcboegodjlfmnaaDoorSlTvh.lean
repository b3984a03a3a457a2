import Derived.Test.YtcboegodjlfmnaaDoorSlTvg
namespace Go.Proofs.YtcboegodjlfmnaaDoor.Tvh
open Go.Proofs.YtcboegodjlfmnaaDoor.Tvg Go.Proofs.YtcboegodjlfmnaaDoor.Tvf Go.Proofs.YtcboegodjlfmnaaDoor.Tva Go.Proofs.YtcboegodjlfmnaaDoor.Tzq Go.Proofs.YtcboegodjlfmnaaDoor.Tpv Go.Proofs.YtcboegodjlfmnaaDoor.Tap Go.Proofs.YtcboegodjlfmnaaDoor.Tzm Go.Proofs.YtcboegodjlfmnaaDoor.Tzl Go.Proofs.YtcboegodjlfmnaaDoor.Duv Go.Proofs.YtcboegodjlfmnaaDoor.Tve Go.Proofs.YtcboegodjlfmnaaDoor.Tvc Go.Proofs.YtcboegodjlfmnaaDoor.Tvd Go.Proofs.YtcboegodjlfmnaaDoor.Tpa Go.Proofs.YtcboegodjlfmnaaDoor.Tvb Go.Proofs.YtcboegodjlfmnaaDoor.Tvo Go.Proofs.YtcboegodjlfmnaaDoor.Sbu Go.Proofs.YtcboegodjlfmnaaDoor.Dpu Go.Proofs.YtcboegodjlfmnaaDoor.Pak Go.Proofs.YtcboegodjlfmnaaDoor.Buf Go.Proofs.YtcboegodjlfmnaaDoor.Fit Go.Proofs.YtcboegodjlfmnaaDoor.Bit Go.Proofs.YtcboegodjlfmnaaDoor.Wrd Go.Proofs.YtcboegodjlfmnaaDoor.Spl Go.Proofs.YtcboegodjlfmnaaDoor.Str Go.Proofs.YtcboegodjlfmnaaDoor.Flt Go.Proofs.YtcboegodjlfmnaaDoor.Owe Go.Proofs.YtcboegodjlfmnaaDoor.Num Go.Proofs.YtcboegodjlfmnaaDoor.Le Go.Proofs.YtcboegodjlfmnaaDoor.Lst Go.Proofs.YtcboegodjlfmnaaDoor.Aid Go.RowKit Go.Proofs.YtcboegodjlfmnaaDoorW.PrintWords Go.Proofs.YtcboegodjlfmnaaDoorW.PrintLast Go.Proofs.YtcboegodjlfmnaaDoorW.PrintMore
set_option linter.unusedVariables false
set_option linter.unusedSimpArgs false
theorem wFieldS (B g b : Nat) (bs : List Int) (by' ty : Int) (dl : Bool) (w : World) (h : WrB w B g b bs) (hB : B ≤ w.heap.size) (h0 : 0 ≤ by') (h15 : by' ≤ 15) (h1 : 1 ≤ ty) (h12 : ty ≤ 12) (hlim : bs.length ≤ 90000000) :
    Calls Tryd.prog 121 #[.pointer (some ⟨g, 0, none⟩), .agg #[.int .i16 by', .int .i8 ty, .bool dl]] w fun e w' => WrOk w w' B g b (bs ++ [by' * 16 + ty]) e := by
  obtain ⟨n, rfl⟩ := Int.eq_ofNat_of_zero_le h0
  obtain ⟨t, rfl⟩ := Int.eq_ofNat_of_zero_le (show 0 ≤ ty by omega)
  exact wField_short B g b bs n t dl w h hB (by omega) (by omega) (by omega) (by omega)
theorem wFieldL (B g b : Nat) (bs : List Int) (id ty : Int) (dl : Bool) (w : World) (h : WrB w B g b bs) (hB : B ≤ w.heap.size) (h15 : 15 < id) (hi : id ≤ 32767) (h1 : 1 ≤ ty) (h12 : ty ≤ 12) (hlim : bs.length ≤ 90000000) :
    Calls Tryd.prog 121 #[.pointer (some ⟨g, 0, none⟩), .agg #[.int .i16 id, .int .i8 ty, .bool dl]] w fun e w' => WrOk w w' B g b (bs ++ (ty :: varL (zz id))) e := by
  obtain ⟨n, rfl⟩ := Int.eq_ofNat_of_zero_le (show 0 ≤ id by omega)
  obtain ⟨t, rfl⟩ := Int.eq_ofNat_of_zero_le (show 0 ≤ ty by omega)
  exact wField_long B g b bs n t dl w h hB (by omega) (by omega) (by omega) (by omega) (by omega)
theorem byB_flW (d : D) (id : Int) (ls fs tl : F) (last : Int) : F.byB false (.cons d id ls fs tl) true last = (fheadL false last id d.ty ++ N.byB false ⟨d, ls, fs⟩) ++ tl.byB false true id := rfl
theorem inv1F {ls fs : F} {dd : Nat} {okl : Nat → Int → Int → Prop} {okf : Nat → Prop} (h : okN dd true ⟨1, true, 0, 0, [], 0, 0⟩ ls fs okl okf) : ls = .nil := by
  rcases h with h | h | h | h | h | h | h | h | h | h | h
  · exact h.2.2.2.1
  all_goals exact absurd h.1 (by dsimp only; decide)
theorem inv2F {ls fs : F} {dd : Nat} {okl : Nat → Int → Int → Prop} {okf : Nat → Prop} (h : okN dd true ⟨2, false, 0, 0, [], 0, 0⟩ ls fs okl okf) : ls = .nil := by
  rcases h with h | h | h | h | h | h | h | h | h | h | h
  · exact absurd h.1 (by dsimp only; decide)
  · exact h.2.2.2.1
  all_goals exact absurd h.1 (by dsimp only; decide)
theorem okN_noF {dd : Nat} {d : D} {ls fs : F} {okl : Nat → Int → Int → Prop} {okf : Nat → Prop} (h : okN dd true d ls fs okl okf) (c : ¬ (d.ty = 1 ∨ d.ty = 2)) : okN dd false d ls fs okl okf := by
  rcases h with h | h | h | h | h | h | h | h | h | h | h
  · exact absurd (.inl h.1) c
  · exact absurd (.inr h.1) c
  · exact .inr (.inr (.inl h))
  · exact .inr (.inr (.inr (.inl h)))
  · exact .inr (.inr (.inr (.inr (.inl h))))
  · exact .inr (.inr (.inr (.inr (.inr (.inl h)))))
  · exact .inr (.inr (.inr (.inr (.inr (.inr (.inl h))))))
  · exact .inr (.inr (.inr (.inr (.inr (.inr (.inr (.inl h)))))))
  · exact .inr (.inr (.inr (.inr (.inr (.inr (.inr (.inr (.inl h))))))))
  · exact .inr (.inr (.inr (.inr (.inr (.inr (.inr (.inr (.inr (.inl h)))))))))
  · exact .inr (.inr (.inr (.inr (.inr (.inr (.inr (.inr (.inr (.inr h)))))))))
theorem truth1 {dd : Nat} {d : D} {ls fs : F} {okl : Nat → Int → Int → Prop} {okf : Nat → Prop} (h : okN dd true d ls fs okl okf) (c : d.ty = 1) : d = ⟨1, true, 0, 0, [], 0, 0⟩ := by
  rcases h with h | h | h | h | h | h | h | h | h | h | h
  · exact h.2.2.1
  all_goals exact absurd h.1 (by rw [c]; decide)
theorem truth2 {dd : Nat} {d : D} {ls fs : F} {okl : Nat → Int → Int → Prop} {okf : Nat → Prop} (h : okN dd true d ls fs okl okf) (c : d.ty = 2) : d = ⟨2, false, 0, 0, [], 0, 0⟩ := by
  rcases h with h | h | h | h | h | h | h | h | h | h | h
  · exact absurd h.1 (by rw [c]; decide)
  · exact h.2.2.1
  all_goals exact absurd h.1 (by rw [c]; decide)
set_option maxRecDepth 100000 in
set_option maxHeartbeats 16000000 in
theorem zw_12 (fs : F) (gd : Nat) (fcs : List Value) (B g b : Nat) (bs : List Int) (A1 : Option Addr) (c1 : Nat) (A2 : Option Addr) (c2 : Nat) (A3 : Option Addr) (c3 : Nat) (w : World) (h : WrB w B g b bs) (hB : B ≤ w.heap.size) (ihf : F.all Zw fs) (hok : fs.ok gd true 0 0 0) (hl : Lies w (fun k => k < B) (.slice A3 fs.len c3) fs.len fcs) (hfi : fs.In flV w (fun k => k < B) true fcs) (hn : fs.len ≤ 100) (hlim : bs.length + (fs.byB false true 0 ++ [0]).length ≤ 80000000) :
    Calls Tryd.prog 40 #[wrV g, .agg #[.int .i8 12, .bool false, .int .i64 0, .float .f64 0, .slice A1 0 c1, .int .i8 0, .int .i8 0, .slice A2 0 c2, .slice A3 fs.len c3]] w fun e w' => WrOk w w' B g b (bs ++ (fs.byB false true 0 ++ [0])) e := by
  have HW1 := Aside0.mk (h.alloc (.cells #[.int .i8 12, .bool false, .int .i64 0, .float .f64 0, .slice A1 0 c1, .int .i8 0, .int .i8 0, .slice A2 0 c2, .slice A3 fs.len c3] 60))
  have HB1 : Aside0 (Below w.heap.size w (w.alloc (.cells #[.int .i8 12, .bool false, .int .i64 0, .float .f64 0, .slice A1 0 c1, .int .i8 0, .int .i8 0, .slice A2 0 c2, .slice A3 fs.len c3] 60))) := ⟨(Below.refl _ _).alloc (Nat.le_refl _) _⟩
  have HV1 := Aside0.mk (Blk.new w #[.int .i8 12, .bool false, .int .i64 0, .float .f64 0, .slice A1 0 c1, .int .i8 0, .int .i8 0, .slice A2 0 c2, .slice A3 fs.len c3] 60)
  have HBW := Aside0.mk hB
  have hm := mw_WriteField
  obtain ⟨A0, c0, e0, _, hrw⟩ := hl.out
  obtain ⟨rfl, _, rfl⟩ := Value.slice.inj e0
  have HL := Aside0.mk hrw
  have HFi := Aside0.mk hfi
  have HIF := Aside0.mk ihf
  have HOK := Aside0.mk hok
  rw [List.length_append] at hlim
  rw [← List.append_assoc]
  obtain ⟨TOT, hTOT⟩ : ∃ TOT, bs ++ fs.byB false true 0 = TOT := ⟨_, rfl⟩
  rw [hTOT]
  have HTT : Aside0 (bs ++ fs.byB false true 0 = TOT) := ⟨hTOT⟩
  have HTL : Aside0 (TOT.length ≤ 80000000) := ⟨by rw [← hTOT, List.length_append]; omega⟩
  have hst := fun (f : Nat) (a : Addr) (W : World) m => run_store Tryd.prog W a (.float .f64 f) m rfl
  clear h hl hfi ihf hok hrw e0 hTOT hlim
  go_enter Tryd.func40, Tryd.ntmps40
  go_upto_region 1 with (fail)
  have HQ0 : Aside0 (WrOk w (w.alloc (.cells #[.int .i8 12, .bool false, .int .i64 0, .float .f64 0, .slice A1 0 c1, .int .i8 0, .int .i8 0, .slice A2 0 c2, .slice A3 fs.len c3] 60)) B g b bs (.returned .nilIface)) := ⟨⟨rfl, HW1.out, HB1.out.mono HBW.out, Tvb.Kept.of_below HB1.out⟩⟩
  generalize hW1 : World.alloc _ _ = W1 at HW1 HB1 HV1 HQ0 ⊢
  clear hW1
  obtain ⟨q0, q1, q2, q3, q4, q5, q6, q7, q8, qz⟩ := nine HV1.out
  go_wp2_with (fail)
  go_loopg [13, 17, 18, 19, 20, 134] fs.len (fun kq v13 v17 v18 v19 v20 v134 w' => ∃ (i : Nat) (last : Int) (G : F) (gc pr : List Value) (P : List Int), i ≤ fs.len ∧ v134 = .int .i64 i ∧ v13 = .int .i16 last ∧ Aside0 (0 ≤ last) ∧ Aside0 (G.len + i = fs.len) ∧ Aside0 (G.ok gd true 0 0 last) ∧ Aside0 (fcs = pr ++ gc) ∧ Aside0 (pr.length = i * 10) ∧ Aside0 (G.In flV w (fun k => k < B) true gc) ∧ Aside0 (F.all Zw G) ∧ Aside0 (WrOk w w' B g b P (.returned .nilIface)) ∧ Aside0 (P ++ G.byB false true last = TOT) ∧ Aside0 (fs.len - i ≤ kq))
  case atStart => exact ⟨0, 0, fs, fcs, [], bs, Nat.zero_le _, rfl, rfl, ⟨Int.le_refl _⟩, ⟨rfl⟩, HOK, ⟨rfl⟩, ⟨by simp⟩, HFi, HIF, HQ0, HTT, ⟨by omega⟩⟩
  case round =>
    clear q0 q1 q2 q3 q4 q5 q6 q7 q8 qz
    obtain ⟨i, last, G, gc, pr, P, hi, rfl, rfl, HL0, HGl, HGO, HLE, HPR, HGI, HGA, HQ, HTO, HK⟩ := hrel
    by_cases ci : i < fs.len
    · have ct : decide ((i : Int) < (fs.len : Nat)) = true := decide_eq_true (by omega)
      have ctt : decide (i < fs.len) = true := decide_eq_true ci
      cases G with
      | nil => exact absurd HGl.out (by show ¬ (0 + i = _); omega)
      | cons d id ls2 fs2 tl =>
       by_cases c1 : d.ty = 1
       · obtain rfl := truth1 HGO.out.2.1 c1
         clear c1
         obtain ⟨bsv, lsv, fsv, l1, f1, t1, g1, g2, g3, g4, g5, g6, g7⟩ := HGI.out
         have hy1 : N.In flV w (fun k => k < B) ⟨⟨1, true, 0, 0, [], 0, 0⟩, ls2, fs2⟩ (nodeC flV ⟨1, true, 0, 0, [], 0, 0⟩ bsv lsv fsv) := ⟨⟨bsv, lsv, fsv, l1, f1, rfl, g2, g3, g4, g5, g6⟩⟩
         obtain ⟨X4, Xn4, Xk4, X7, Xn7, Xk7, X8, Xn8, Xk8, hcs⟩ := openV hy1
         rw [hcs] at hy1 g1
         obtain ⟨ad, hA3, hadl, hcell⟩ := HL.out (by rw [HLE.out, g1]; simp)
         subst hA3
         have hrow := rowCell hcell HLE.out HPR.out
         have HBB : Aside0 (Below B w wr) := ⟨HQ.out.below⟩
         obtain ⟨z0, z1, z2, z3, z4, z5, z6, z7, z8, z9⟩ := tenRow (w := wr) (a0 := .int .i16 id) (ad := ad) (k := i * 10) (rest := t1) (fun q u hq => (World.cell?_of_block (by rw [add_block]; exact HBB.out.block _ hadl)).trans (hrow q u hq)) g1
         have hids : last < id ∧ id ≤ 32767 := by have := HGO.out.1; rw [if_pos rfl] at this; exact this
         have hty := okN_ty HGO.out.2.1
         try dsimp only at hty
         have hto := HTO.out
         rw [byB_flW, ← List.append_assoc] at hto
         try dsimp only at hto
         have hle : P.length + (fheadL false last id 1 ++ N.byB false ⟨⟨1, true, 0, 0, [], 0, 0⟩, ls2, fs2⟩).length ≤ 80000000 := by
           have := congrArg List.length hto
           rw [List.length_append, List.length_append] at this
           have := HTL.out
           omega
         rw [List.length_append] at hle
         obtain ⟨EB, hEB⟩ : ∃ EB, N.byB false ⟨⟨1, true, 0, 0, [], 0, 0⟩, ls2, fs2⟩ = EB := ⟨_, rfl⟩
         rw [hEB] at hto hle
         have HPL : Aside0 (P.length ≤ 80000000) := ⟨by omega⟩
         have HHE : Aside0 (fheadL false last id 1 = if id - last < 16 ∧ false = false then [(id - last) * 16 + 1] else 1 :: varL (zz id)) := ⟨rfl⟩
         obtain ⟨FH, hFH⟩ : ∃ FH, fheadL false last id 1 = FH := ⟨_, rfl⟩
         have hto2 : P ++ (FH ++ EB) ++ tl.byB false true id = TOT := by
           rw [← hFH]; exact hto
         rw [hFH] at HHE
         have HTO2 : Aside0 (P ++ FH ++ EB ++ tl.byB false true id = TOT) := ⟨by rw [← hto2]; simp only [List.append_assoc]⟩
         have HE0 : Aside0 (EB = []) := ⟨by
           have h2 := HGO.out.2.1
           have hln : ls2 = .nil := (inv1F h2)
           rw [← hEB, hln]; rfl⟩
         have HG7 := Aside0.mk g7
         have HL9 : Aside0 (fcs = pr ++ ([.int .i16 id, .int .i8 1, .bool true, .int .i64 0, .float .f64 0, .slice X4 Xn4 Xk4, .int .i8 0, .int .i8 0, .slice X7 Xn7 Xk7, .slice X8 Xn8 Xk8] ++ t1)) := ⟨by rw [HLE.out, g1]; rfl⟩
         have HCI := Aside0.mk ci
         have HWA := Aside0.mk (HQ.out.wr.alloc (.cells #[.int .i16 id, .int .i8 1, .bool true, .int .i64 0, .float .f64 0, .slice X4 Xn4 Xk4, .int .i8 0, .int .i8 0, .slice X7 Xn7 Xk7, .slice X8 Xn8 Xk8] 87))
         have HBA : Aside0 (Below wr.heap.size wr (wr.alloc (.cells #[.int .i16 id, .int .i8 1, .bool true, .int .i64 0, .float .f64 0, .slice X4 Xn4 Xk4, .int .i8 0, .int .i8 0, .slice X7 Xn7 Xk7, .slice X8 Xn8 Xk8] 87))) := ⟨(Below.refl _ _).alloc (Nat.le_refl _) _⟩
         have HPN := Aside0.mk (Blk.new wr #[.int .i16 id, .int .i8 1, .bool true, .int .i64 0, .float .f64 0, .slice X4 Xn4 Xk4, .int .i8 0, .int .i8 0, .slice X7 Xn7 Xk7, .slice X8 Xn8 Xk8] 87)
         have HBR : Aside0 (B ≤ wr.heap.size) := ⟨Nat.le_trans HBW.out HBB.out.size⟩
         have h0l := HL0.out
         obtain ⟨by', hby⟩ : ∃ by', id - last = by' := ⟨_, rfl⟩
         have qby : IntKind.i16.wrap (id - last) = by' := by rw [hby, wrap_i16]; omega
         rw [hby] at HHE
         have hby1 : 0 < by' ∧ by' ≤ 32767 := by omega
         have hle15 : 15 < by' → 15 < id := by omega
         have hidb : 0 ≤ id ∧ id ≤ 32767 := by omega
         have HID := Aside0.mk hidb
         clear g1 g2 g3 g4 g5 g6 g7 hy1 hrow hcell hcs hto hto2 hle hEB hFH hby h0l hids
         go_upto_region 47 with (fail)
         clear z0 z1 z2 z3 z4 z5 z6 z7 z8 z9
         obtain ⟨gb, hgb⟩ : ∃ gb, wr.heap.size = gb := ⟨_, rfl⟩
         rw [hgb] at HPN ⊢
         generalize hw7 : World.alloc _ _ = w7 at HWA HBA HPN ⊢
         clear hw7
         obtain ⟨u0, u1, u2, u3, u4, u5, u6, u7, u8, u9, uz⟩ := ten HPN.out
         have ua0 := fun O => (HPN.out.alloc O).cell (j := 0) rfl
         have ua1 := fun O => (HPN.out.alloc O).cell (j := 1) rfl
         have ua2 := fun O => (HPN.out.alloc O).cell (j := 2) rfl
         by_cases cb : by' ≤ 15
         · have m1 : decide (by' ≤ 15) = true := decide_eq_true cb
           have HFE : Aside0 (FH = [by' * 16 + 1]) := ⟨by rw [HHE.out, if_pos ⟨by omega, rfl⟩]⟩
           clear HHE
           have HFW : Aside0 (∀ V, WrB V B g b P → Below B w V → Calls Tryd.prog 121 #[.pointer (some ⟨g, 0, none⟩), .agg #[.int .i16 by', .int .i8 1, .bool true]] V fun e w' => WrOk V w' B g b (P ++ FH) e) := ⟨fun V h hb => by
             rw [HFE.out]; exact wFieldS B g b P by' 1 true V h (Nat.le_trans HBW.out hb.size) (by omega) (by omega) (by omega) (by omega) (by have := HPL.out; omega)⟩
           have HW8 := Aside0.mk (HWA.out.alloc (.cells #[.int .i16 by', .int .i8 1, .bool true] 132))
           have HB8 : Aside0 (Below wr.heap.size wr (w7.alloc (.cells #[.int .i16 by', .int .i8 1, .bool true] 132))) := ⟨HBA.out.alloc HBA.out.size _⟩
           have HP8 := Aside0.mk (HPN.out.alloc (.cells #[.int .i16 by', .int .i8 1, .bool true] 132))
           go_upto_region 56 with (fail)
           obtain ⟨w8, hw8⟩ : ∃ w8, w7.alloc (.cells #[.int .i16 by', .int .i8 1, .bool true] 132) = w8 := ⟨_, rfl⟩
           have f8 := Blk.new w7 #[.int .i16 by', .int .i8 1, .bool true] 132
           rw [hw8] at HW8 HB8 HP8 f8 ⊢
           obtain ⟨gf, hgf⟩ : ∃ gf, w7.heap.size = gf := ⟨_, rfl⟩
           rw [hgf] at f8 ⊢
           have e0 := f8.cell (j := 0) rfl
           have e1 := f8.cell (j := 1) rfl
           have e2 := f8.cell (j := 2) rfl
           clear hw8 hgf f8
           obtain ⟨v0, v1, v2, v3, v4, v5, v6, v7, v8, v9, vz⟩ := ten HP8.out
           clear u0 u1 u2 u3 u4 u5 u6 u7 u8 u9 uz ua0 ua1 ua2
           go_upto_region 59 with (first
             | (go_at_call 121; (with_reducible refine (HFW.out _ HW8.out (HBB.out.trans (HB8.out.mono HBR.out))).mono ?_); rintro e w9 HR; obtain rfl := HR.ret; have HR9 := Aside0.mk HR; clear HR))
           have HP9 := Aside0.mk (HR9.out.kept.blk HP8.out (by have := HQ.out.wr.lt; omega) (by have := HQ.out.wr.lt; omega) (by decide))
           clear v0 v1 v2 v3 v4 v5 v6 v7 v8 v9 vz e0 e1 e2
           obtain ⟨v0, v1, v2, v3, v4, v5, v6, v7, v8, v9, vz⟩ := ten HP9.out
           have HQ9 : Aside0 (WrOk w w9 B g b (P ++ FH) (.returned .nilIface)) := ⟨HQ.out.then (WrOk.behind HR9.out HBR.out HB8.out)⟩
           go_wp2_with (fail)
           go_roundg (gk - 1)
           all_goals first
             | (have := HK.out; have := HCI.out; omega)
             | (exact ⟨i + 1, id, tl, t1, pr ++ [.int .i16 id, .int .i8 1, .bool true, .int .i64 0, .float .f64 0, .slice X4 Xn4 Xk4, .int .i8 0, .int .i8 0, .slice X7 Xn7 Xk7, .slice X8 Xn8 Xk8], P ++ FH, HCI.out, by go_num, rfl, ⟨HID.out.1⟩, ⟨by have := HGl.out; have : (F.cons ⟨1, true, 0, 0, [], 0, 0⟩ id ls2 fs2 tl).len = tl.len + 1 := rfl; omega⟩, ⟨HGO.out.2.2⟩, ⟨by rw [HL9.out, List.append_assoc]⟩, ⟨by rw [List.length_append, HPR.out]; show i * 10 + 10 = (i + 1) * 10; omega⟩, HG7, ⟨HGA.out.2⟩, HQ9, ⟨by rw [← HTO2.out, HE0.out, List.append_nil]⟩, ⟨by have := HK.out; omega⟩⟩)
         · have m1 : decide (by' ≤ 15) = false := decide_eq_false cb
           have HFE : Aside0 (FH = 1 :: varL (zz id)) := ⟨by rw [HHE.out, if_neg (by omega)]⟩
           have h15 : 15 < id := hle15 (by omega)
           clear HHE
           have HFW : Aside0 (∀ V, WrB V B g b P → Below B w V → Calls Tryd.prog 121 #[.pointer (some ⟨g, 0, none⟩), .agg #[.int .i16 id, .int .i8 1, .bool false]] V fun e w' => WrOk V w' B g b (P ++ FH) e) := ⟨fun V h hb => by
             rw [HFE.out]; exact wFieldL B g b P id 1 false V h (Nat.le_trans HBW.out hb.size) (by omega) (by omega) (by omega) (by omega) (by have := HPL.out; omega)⟩
           have HW8 := Aside0.mk (HWA.out.alloc (.cells #[.int .i16 id, .int .i8 1, .bool false] 132))
           have HB8 : Aside0 (Below wr.heap.size wr (w7.alloc (.cells #[.int .i16 id, .int .i8 1, .bool false] 132))) := ⟨HBA.out.alloc HBA.out.size _⟩
           have HP8 := Aside0.mk (HPN.out.alloc (.cells #[.int .i16 id, .int .i8 1, .bool false] 132))
           go_upto_region 56 with (fail)
           obtain ⟨w8, hw8⟩ : ∃ w8, w7.alloc (.cells #[.int .i16 id, .int .i8 1, .bool false] 132) = w8 := ⟨_, rfl⟩
           have f8 := Blk.new w7 #[.int .i16 id, .int .i8 1, .bool false] 132
           rw [hw8] at HW8 HB8 HP8 f8 ⊢
           obtain ⟨gf, hgf⟩ : ∃ gf, w7.heap.size = gf := ⟨_, rfl⟩
           rw [hgf] at f8 ⊢
           have e0 := f8.cell (j := 0) rfl
           have e1 := f8.cell (j := 1) rfl
           have e2 := f8.cell (j := 2) rfl
           clear hw8 hgf f8
           obtain ⟨v0, v1, v2, v3, v4, v5, v6, v7, v8, v9, vz⟩ := ten HP8.out
           clear u0 u1 u2 u3 u4 u5 u6 u7 u8 u9 uz ua0 ua1 ua2
           go_upto_region 59 with (first
             | (go_at_call 121; (with_reducible refine (HFW.out _ HW8.out (HBB.out.trans (HB8.out.mono HBR.out))).mono ?_); rintro e w9 HR; obtain rfl := HR.ret; have HR9 := Aside0.mk HR; clear HR))
           have HP9 := Aside0.mk (HR9.out.kept.blk HP8.out (by have := HQ.out.wr.lt; omega) (by have := HQ.out.wr.lt; omega) (by decide))
           clear v0 v1 v2 v3 v4 v5 v6 v7 v8 v9 vz e0 e1 e2
           obtain ⟨v0, v1, v2, v3, v4, v5, v6, v7, v8, v9, vz⟩ := ten HP9.out
           have HQ9 : Aside0 (WrOk w w9 B g b (P ++ FH) (.returned .nilIface)) := ⟨HQ.out.then (WrOk.behind HR9.out HBR.out HB8.out)⟩
           go_wp2_with (fail)
           go_roundg (gk - 1)
           all_goals first
             | (have := HK.out; have := HCI.out; omega)
             | (exact ⟨i + 1, id, tl, t1, pr ++ [.int .i16 id, .int .i8 1, .bool true, .int .i64 0, .float .f64 0, .slice X4 Xn4 Xk4, .int .i8 0, .int .i8 0, .slice X7 Xn7 Xk7, .slice X8 Xn8 Xk8], P ++ FH, HCI.out, by go_num, rfl, ⟨HID.out.1⟩, ⟨by have := HGl.out; have : (F.cons ⟨1, true, 0, 0, [], 0, 0⟩ id ls2 fs2 tl).len = tl.len + 1 := rfl; omega⟩, ⟨HGO.out.2.2⟩, ⟨by rw [HL9.out, List.append_assoc]⟩, ⟨by rw [List.length_append, HPR.out]; show i * 10 + 10 = (i + 1) * 10; omega⟩, HG7, ⟨HGA.out.2⟩, HQ9, ⟨by rw [← HTO2.out, HE0.out, List.append_nil]⟩, ⟨by have := HK.out; omega⟩⟩)
       by_cases c2 : d.ty = 2
       · obtain rfl := truth2 HGO.out.2.1 c2
         clear c1 c2
         obtain ⟨bsv, lsv, fsv, l1, f1, t1, g1, g2, g3, g4, g5, g6, g7⟩ := HGI.out
         have hy1 : N.In flV w (fun k => k < B) ⟨⟨2, false, 0, 0, [], 0, 0⟩, ls2, fs2⟩ (nodeC flV ⟨2, false, 0, 0, [], 0, 0⟩ bsv lsv fsv) := ⟨⟨bsv, lsv, fsv, l1, f1, rfl, g2, g3, g4, g5, g6⟩⟩
         obtain ⟨X4, Xn4, Xk4, X7, Xn7, Xk7, X8, Xn8, Xk8, hcs⟩ := openV hy1
         rw [hcs] at hy1 g1
         obtain ⟨ad, hA3, hadl, hcell⟩ := HL.out (by rw [HLE.out, g1]; simp)
         subst hA3
         have hrow := rowCell hcell HLE.out HPR.out
         have HBB : Aside0 (Below B w wr) := ⟨HQ.out.below⟩
         obtain ⟨z0, z1, z2, z3, z4, z5, z6, z7, z8, z9⟩ := tenRow (w := wr) (a0 := .int .i16 id) (ad := ad) (k := i * 10) (rest := t1) (fun q u hq => (World.cell?_of_block (by rw [add_block]; exact HBB.out.block _ hadl)).trans (hrow q u hq)) g1
         have hids : last < id ∧ id ≤ 32767 := by have := HGO.out.1; rw [if_pos rfl] at this; exact this
         have hty := okN_ty HGO.out.2.1
         try dsimp only at hty
         have hto := HTO.out
         rw [byB_flW, ← List.append_assoc] at hto
         try dsimp only at hto
         have hle : P.length + (fheadL false last id 2 ++ N.byB false ⟨⟨2, false, 0, 0, [], 0, 0⟩, ls2, fs2⟩).length ≤ 80000000 := by
           have := congrArg List.length hto
           rw [List.length_append, List.length_append] at this
           have := HTL.out
           omega
         rw [List.length_append] at hle
         obtain ⟨EB, hEB⟩ : ∃ EB, N.byB false ⟨⟨2, false, 0, 0, [], 0, 0⟩, ls2, fs2⟩ = EB := ⟨_, rfl⟩
         rw [hEB] at hto hle
         have HPL : Aside0 (P.length ≤ 80000000) := ⟨by omega⟩
         have HHE : Aside0 (fheadL false last id 2 = if id - last < 16 ∧ false = false then [(id - last) * 16 + 2] else 2 :: varL (zz id)) := ⟨rfl⟩
         obtain ⟨FH, hFH⟩ : ∃ FH, fheadL false last id 2 = FH := ⟨_, rfl⟩
         have hto2 : P ++ (FH ++ EB) ++ tl.byB false true id = TOT := by
           rw [← hFH]; exact hto
         rw [hFH] at HHE
         have HTO2 : Aside0 (P ++ FH ++ EB ++ tl.byB false true id = TOT) := ⟨by rw [← hto2]; simp only [List.append_assoc]⟩
         have HE0 : Aside0 (EB = []) := ⟨by
           have h2 := HGO.out.2.1
           have hln : ls2 = .nil := (inv2F h2)
           rw [← hEB, hln]; rfl⟩
         have HG7 := Aside0.mk g7
         have HL9 : Aside0 (fcs = pr ++ ([.int .i16 id, .int .i8 2, .bool false, .int .i64 0, .float .f64 0, .slice X4 Xn4 Xk4, .int .i8 0, .int .i8 0, .slice X7 Xn7 Xk7, .slice X8 Xn8 Xk8] ++ t1)) := ⟨by rw [HLE.out, g1]; rfl⟩
         have HCI := Aside0.mk ci
         have HWA := Aside0.mk (HQ.out.wr.alloc (.cells #[.int .i16 id, .int .i8 2, .bool false, .int .i64 0, .float .f64 0, .slice X4 Xn4 Xk4, .int .i8 0, .int .i8 0, .slice X7 Xn7 Xk7, .slice X8 Xn8 Xk8] 87))
         have HBA : Aside0 (Below wr.heap.size wr (wr.alloc (.cells #[.int .i16 id, .int .i8 2, .bool false, .int .i64 0, .float .f64 0, .slice X4 Xn4 Xk4, .int .i8 0, .int .i8 0, .slice X7 Xn7 Xk7, .slice X8 Xn8 Xk8] 87))) := ⟨(Below.refl _ _).alloc (Nat.le_refl _) _⟩
         have HPN := Aside0.mk (Blk.new wr #[.int .i16 id, .int .i8 2, .bool false, .int .i64 0, .float .f64 0, .slice X4 Xn4 Xk4, .int .i8 0, .int .i8 0, .slice X7 Xn7 Xk7, .slice X8 Xn8 Xk8] 87)
         have HBR : Aside0 (B ≤ wr.heap.size) := ⟨Nat.le_trans HBW.out HBB.out.size⟩
         have h0l := HL0.out
         obtain ⟨by', hby⟩ : ∃ by', id - last = by' := ⟨_, rfl⟩
         have qby : IntKind.i16.wrap (id - last) = by' := by rw [hby, wrap_i16]; omega
         rw [hby] at HHE
         have hby1 : 0 < by' ∧ by' ≤ 32767 := by omega
         have hle15 : 15 < by' → 15 < id := by omega
         have hidb : 0 ≤ id ∧ id ≤ 32767 := by omega
         have HID := Aside0.mk hidb
         clear g1 g2 g3 g4 g5 g6 g7 hy1 hrow hcell hcs hto hto2 hle hEB hFH hby h0l hids
         go_upto_region 47 with (fail)
         clear z0 z1 z2 z3 z4 z5 z6 z7 z8 z9
         obtain ⟨gb, hgb⟩ : ∃ gb, wr.heap.size = gb := ⟨_, rfl⟩
         rw [hgb] at HPN ⊢
         generalize hw7 : World.alloc _ _ = w7 at HWA HBA HPN ⊢
         clear hw7
         obtain ⟨u0, u1, u2, u3, u4, u5, u6, u7, u8, u9, uz⟩ := ten HPN.out
         have ua0 := fun O => (HPN.out.alloc O).cell (j := 0) rfl
         have ua1 := fun O => (HPN.out.alloc O).cell (j := 1) rfl
         have ua2 := fun O => (HPN.out.alloc O).cell (j := 2) rfl
         by_cases cb : by' ≤ 15
         · have m1 : decide (by' ≤ 15) = true := decide_eq_true cb
           have HFE : Aside0 (FH = [by' * 16 + 2]) := ⟨by rw [HHE.out, if_pos ⟨by omega, rfl⟩]⟩
           clear HHE
           have HFW : Aside0 (∀ V, WrB V B g b P → Below B w V → Calls Tryd.prog 121 #[.pointer (some ⟨g, 0, none⟩), .agg #[.int .i16 by', .int .i8 2, .bool true]] V fun e w' => WrOk V w' B g b (P ++ FH) e) := ⟨fun V h hb => by
             rw [HFE.out]; exact wFieldS B g b P by' 2 true V h (Nat.le_trans HBW.out hb.size) (by omega) (by omega) (by omega) (by omega) (by have := HPL.out; omega)⟩
           have HW8 := Aside0.mk (HWA.out.alloc (.cells #[.int .i16 by', .int .i8 2, .bool true] 132))
           have HB8 : Aside0 (Below wr.heap.size wr (w7.alloc (.cells #[.int .i16 by', .int .i8 2, .bool true] 132))) := ⟨HBA.out.alloc HBA.out.size _⟩
           have HP8 := Aside0.mk (HPN.out.alloc (.cells #[.int .i16 by', .int .i8 2, .bool true] 132))
           go_upto_region 56 with (fail)
           obtain ⟨w8, hw8⟩ : ∃ w8, w7.alloc (.cells #[.int .i16 by', .int .i8 2, .bool true] 132) = w8 := ⟨_, rfl⟩
           have f8 := Blk.new w7 #[.int .i16 by', .int .i8 2, .bool true] 132
           rw [hw8] at HW8 HB8 HP8 f8 ⊢
           obtain ⟨gf, hgf⟩ : ∃ gf, w7.heap.size = gf := ⟨_, rfl⟩
           rw [hgf] at f8 ⊢
           have e0 := f8.cell (j := 0) rfl
           have e1 := f8.cell (j := 1) rfl
           have e2 := f8.cell (j := 2) rfl
           clear hw8 hgf f8
           obtain ⟨v0, v1, v2, v3, v4, v5, v6, v7, v8, v9, vz⟩ := ten HP8.out
           clear u0 u1 u2 u3 u4 u5 u6 u7 u8 u9 uz ua0 ua1 ua2
           go_upto_region 59 with (first
             | (go_at_call 121; (with_reducible refine (HFW.out _ HW8.out (HBB.out.trans (HB8.out.mono HBR.out))).mono ?_); rintro e w9 HR; obtain rfl := HR.ret; have HR9 := Aside0.mk HR; clear HR))
           have HP9 := Aside0.mk (HR9.out.kept.blk HP8.out (by have := HQ.out.wr.lt; omega) (by have := HQ.out.wr.lt; omega) (by decide))
           clear v0 v1 v2 v3 v4 v5 v6 v7 v8 v9 vz e0 e1 e2
           obtain ⟨v0, v1, v2, v3, v4, v5, v6, v7, v8, v9, vz⟩ := ten HP9.out
           have HQ9 : Aside0 (WrOk w w9 B g b (P ++ FH) (.returned .nilIface)) := ⟨HQ.out.then (WrOk.behind HR9.out HBR.out HB8.out)⟩
           go_wp2_with (fail)
           go_roundg (gk - 1)
           all_goals first
             | (have := HK.out; have := HCI.out; omega)
             | (exact ⟨i + 1, id, tl, t1, pr ++ [.int .i16 id, .int .i8 2, .bool false, .int .i64 0, .float .f64 0, .slice X4 Xn4 Xk4, .int .i8 0, .int .i8 0, .slice X7 Xn7 Xk7, .slice X8 Xn8 Xk8], P ++ FH, HCI.out, by go_num, rfl, ⟨HID.out.1⟩, ⟨by have := HGl.out; have : (F.cons ⟨2, false, 0, 0, [], 0, 0⟩ id ls2 fs2 tl).len = tl.len + 1 := rfl; omega⟩, ⟨HGO.out.2.2⟩, ⟨by rw [HL9.out, List.append_assoc]⟩, ⟨by rw [List.length_append, HPR.out]; show i * 10 + 10 = (i + 1) * 10; omega⟩, HG7, ⟨HGA.out.2⟩, HQ9, ⟨by rw [← HTO2.out, HE0.out, List.append_nil]⟩, ⟨by have := HK.out; omega⟩⟩)
         · have m1 : decide (by' ≤ 15) = false := decide_eq_false cb
           have HFE : Aside0 (FH = 2 :: varL (zz id)) := ⟨by rw [HHE.out, if_neg (by omega)]⟩
           have h15 : 15 < id := hle15 (by omega)
           clear HHE
           have HFW : Aside0 (∀ V, WrB V B g b P → Below B w V → Calls Tryd.prog 121 #[.pointer (some ⟨g, 0, none⟩), .agg #[.int .i16 id, .int .i8 2, .bool false]] V fun e w' => WrOk V w' B g b (P ++ FH) e) := ⟨fun V h hb => by
             rw [HFE.out]; exact wFieldL B g b P id 2 false V h (Nat.le_trans HBW.out hb.size) (by omega) (by omega) (by omega) (by omega) (by have := HPL.out; omega)⟩
           have HW8 := Aside0.mk (HWA.out.alloc (.cells #[.int .i16 id, .int .i8 2, .bool false] 132))
           have HB8 : Aside0 (Below wr.heap.size wr (w7.alloc (.cells #[.int .i16 id, .int .i8 2, .bool false] 132))) := ⟨HBA.out.alloc HBA.out.size _⟩
           have HP8 := Aside0.mk (HPN.out.alloc (.cells #[.int .i16 id, .int .i8 2, .bool false] 132))
           go_upto_region 56 with (fail)
           obtain ⟨w8, hw8⟩ : ∃ w8, w7.alloc (.cells #[.int .i16 id, .int .i8 2, .bool false] 132) = w8 := ⟨_, rfl⟩
           have f8 := Blk.new w7 #[.int .i16 id, .int .i8 2, .bool false] 132
           rw [hw8] at HW8 HB8 HP8 f8 ⊢
           obtain ⟨gf, hgf⟩ : ∃ gf, w7.heap.size = gf := ⟨_, rfl⟩
           rw [hgf] at f8 ⊢
           have e0 := f8.cell (j := 0) rfl
           have e1 := f8.cell (j := 1) rfl
           have e2 := f8.cell (j := 2) rfl
           clear hw8 hgf f8
           obtain ⟨v0, v1, v2, v3, v4, v5, v6, v7, v8, v9, vz⟩ := ten HP8.out
           clear u0 u1 u2 u3 u4 u5 u6 u7 u8 u9 uz ua0 ua1 ua2
           go_upto_region 59 with (first
             | (go_at_call 121; (with_reducible refine (HFW.out _ HW8.out (HBB.out.trans (HB8.out.mono HBR.out))).mono ?_); rintro e w9 HR; obtain rfl := HR.ret; have HR9 := Aside0.mk HR; clear HR))
           have HP9 := Aside0.mk (HR9.out.kept.blk HP8.out (by have := HQ.out.wr.lt; omega) (by have := HQ.out.wr.lt; omega) (by decide))
           clear v0 v1 v2 v3 v4 v5 v6 v7 v8 v9 vz e0 e1 e2
           obtain ⟨v0, v1, v2, v3, v4, v5, v6, v7, v8, v9, vz⟩ := ten HP9.out
           have HQ9 : Aside0 (WrOk w w9 B g b (P ++ FH) (.returned .nilIface)) := ⟨HQ.out.then (WrOk.behind HR9.out HBR.out HB8.out)⟩
           go_wp2_with (fail)
           go_roundg (gk - 1)
           all_goals first
             | (have := HK.out; have := HCI.out; omega)
             | (exact ⟨i + 1, id, tl, t1, pr ++ [.int .i16 id, .int .i8 2, .bool false, .int .i64 0, .float .f64 0, .slice X4 Xn4 Xk4, .int .i8 0, .int .i8 0, .slice X7 Xn7 Xk7, .slice X8 Xn8 Xk8], P ++ FH, HCI.out, by go_num, rfl, ⟨HID.out.1⟩, ⟨by have := HGl.out; have : (F.cons ⟨2, false, 0, 0, [], 0, 0⟩ id ls2 fs2 tl).len = tl.len + 1 := rfl; omega⟩, ⟨HGO.out.2.2⟩, ⟨by rw [HL9.out, List.append_assoc]⟩, ⟨by rw [List.length_append, HPR.out]; show i * 10 + 10 = (i + 1) * 10; omega⟩, HG7, ⟨HGA.out.2⟩, HQ9, ⟨by rw [← HTO2.out, HE0.out, List.append_nil]⟩, ⟨by have := HK.out; omega⟩⟩)
       have c3 : ¬ (d.ty = 1 ∨ d.ty = 2) := by omega
       obtain ⟨bsv, lsv, fsv, l1, f1, t1, g1, g2, g3, g4, g5, g6, g7⟩ := HGI.out
       have hy1 : N.In flV w (fun k => k < B) ⟨d, ls2, fs2⟩ (nodeC flV d bsv lsv fsv) := ⟨⟨bsv, lsv, fsv, l1, f1, rfl, g2, g3, g4, g5, g6⟩⟩
       obtain ⟨X4, Xn4, Xk4, X7, Xn7, Xk7, X8, Xn8, Xk8, hcs⟩ := openV hy1
       rw [hcs] at hy1 g1
       obtain ⟨ad, hA3, hadl, hcell⟩ := HL.out (by rw [HLE.out, g1]; simp)
       subst hA3
       have hrow := rowCell hcell HLE.out HPR.out
       have HBB : Aside0 (Below B w wr) := ⟨HQ.out.below⟩
       obtain ⟨z0, z1, z2, z3, z4, z5, z6, z7, z8, z9⟩ := tenRow (w := wr) (a0 := .int .i16 id) (ad := ad) (k := i * 10) (rest := t1) (fun q u hq => (World.cell?_of_block (by rw [add_block]; exact HBB.out.block _ hadl)).trans (hrow q u hq)) g1
       have hids : last < id ∧ id ≤ 32767 := by have := HGO.out.1; rw [if_pos rfl] at this; exact this
       have hty := okN_ty HGO.out.2.1
       try dsimp only at hty
       have hto := HTO.out
       rw [byB_flW, ← List.append_assoc] at hto
       try dsimp only at hto
       have hle : P.length + (fheadL false last id d.ty ++ N.byB false ⟨d, ls2, fs2⟩).length ≤ 80000000 := by
         have := congrArg List.length hto
         rw [List.length_append, List.length_append] at this
         have := HTL.out
         omega
       rw [List.length_append] at hle
       have HYP0 : Aside0 (∀ V, WrB V B g b (P ++ fheadL false last id d.ty) → Below B w V → Calls Tryd.prog 40 #[wrV g, .agg #[.int .i8 d.ty, .bool d.bo, .int .i64 d.n, .float .f64 d.bits, .slice X4 Xn4 Xk4, .int .i8 d.ky, .int .i8 d.el, .slice X7 Xn7 Xk7, .slice X8 Xn8 Xk8]] V fun e w' => WrOk V w' B g b (P ++ fheadL false last id d.ty ++ N.byB false ⟨d, ls2, fs2⟩) e) := ⟨fun V h hb => HGA.out.1 gd B g b _ V _ (okN_noF HGO.out.2.1 c3) (hy1.move (fun k hk => hb.block k hk) (fun k hk => hk)) h (Nat.le_trans HBW.out hb.size) (by rw [List.length_append]; omega)⟩
       obtain ⟨EB, hEB⟩ : ∃ EB, N.byB false ⟨d, ls2, fs2⟩ = EB := ⟨_, rfl⟩
       rw [hEB] at hto hle HYP0
       have HPL : Aside0 (P.length ≤ 80000000) := ⟨by omega⟩
       have HHE : Aside0 (fheadL false last id d.ty = if id - last < 16 ∧ false = false then [(id - last) * 16 + d.ty] else d.ty :: varL (zz id)) := ⟨rfl⟩
       obtain ⟨FH, hFH⟩ : ∃ FH, fheadL false last id d.ty = FH := ⟨_, rfl⟩
       have hto2 : P ++ (FH ++ EB) ++ tl.byB false true id = TOT := by
         rw [← hFH]; exact hto
       rw [hFH] at HHE HYP0
       have HTO2 : Aside0 (P ++ FH ++ EB ++ tl.byB false true id = TOT) := ⟨by rw [← hto2]; simp only [List.append_assoc]⟩
       have HG7 := Aside0.mk g7
       have HL9 : Aside0 (fcs = pr ++ ([.int .i16 id, .int .i8 d.ty, .bool d.bo, .int .i64 d.n, .float .f64 d.bits, .slice X4 Xn4 Xk4, .int .i8 d.ky, .int .i8 d.el, .slice X7 Xn7 Xk7, .slice X8 Xn8 Xk8] ++ t1)) := ⟨by rw [HLE.out, g1]; rfl⟩
       have HCI := Aside0.mk ci
       have HWA := Aside0.mk (HQ.out.wr.alloc (.cells #[.int .i16 id, .int .i8 d.ty, .bool d.bo, .int .i64 d.n, .float .f64 d.bits, .slice X4 Xn4 Xk4, .int .i8 d.ky, .int .i8 d.el, .slice X7 Xn7 Xk7, .slice X8 Xn8 Xk8] 87))
       have HBA : Aside0 (Below wr.heap.size wr (wr.alloc (.cells #[.int .i16 id, .int .i8 d.ty, .bool d.bo, .int .i64 d.n, .float .f64 d.bits, .slice X4 Xn4 Xk4, .int .i8 d.ky, .int .i8 d.el, .slice X7 Xn7 Xk7, .slice X8 Xn8 Xk8] 87))) := ⟨(Below.refl _ _).alloc (Nat.le_refl _) _⟩
       have HPN := Aside0.mk (Blk.new wr #[.int .i16 id, .int .i8 d.ty, .bool d.bo, .int .i64 d.n, .float .f64 d.bits, .slice X4 Xn4 Xk4, .int .i8 d.ky, .int .i8 d.el, .slice X7 Xn7 Xk7, .slice X8 Xn8 Xk8] 87)
       have HBR : Aside0 (B ≤ wr.heap.size) := ⟨Nat.le_trans HBW.out HBB.out.size⟩
       have h0l := HL0.out
       obtain ⟨by', hby⟩ : ∃ by', id - last = by' := ⟨_, rfl⟩
       have qby : IntKind.i16.wrap (id - last) = by' := by rw [hby, wrap_i16]; omega
       rw [hby] at HHE
       have hby1 : 0 < by' ∧ by' ≤ 32767 := by omega
       have hle15 : 15 < by' → 15 < id := by omega
       have hidb : 0 ≤ id ∧ id ≤ 32767 := by omega
       have HID := Aside0.mk hidb
       clear g1 g2 g3 g4 g5 g6 g7 hy1 hrow hcell hcs hto hto2 hle hEB hFH hby h0l hids
       go_upto_region 47 with (fail)
       clear z0 z1 z2 z3 z4 z5 z6 z7 z8 z9
       obtain ⟨gb, hgb⟩ : ∃ gb, wr.heap.size = gb := ⟨_, rfl⟩
       rw [hgb] at HPN ⊢
       generalize hw7 : World.alloc _ _ = w7 at HWA HBA HPN ⊢
       clear hw7
       obtain ⟨u0, u1, u2, u3, u4, u5, u6, u7, u8, u9, uz⟩ := ten HPN.out
       have ua0 := fun O => (HPN.out.alloc O).cell (j := 0) rfl
       have ua1 := fun O => (HPN.out.alloc O).cell (j := 1) rfl
       have ua2 := fun O => (HPN.out.alloc O).cell (j := 2) rfl
       have tt1 : (d.ty == 1) = false := by rw [beq_eq_false_iff_ne]; omega
       have tt2 : (d.ty == 2) = false := by rw [beq_eq_false_iff_ne]; omega
       by_cases cb : by' ≤ 15
       · have m1 : decide (by' ≤ 15) = true := decide_eq_true cb
         have HFE : Aside0 (FH = [by' * 16 + d.ty]) := ⟨by rw [HHE.out, if_pos ⟨by omega, rfl⟩]⟩
         clear HHE
         have HFW : Aside0 (∀ V, WrB V B g b P → Below B w V → Calls Tryd.prog 121 #[.pointer (some ⟨g, 0, none⟩), .agg #[.int .i16 by', .int .i8 d.ty, .bool true]] V fun e w' => WrOk V w' B g b (P ++ FH) e) := ⟨fun V h hb => by
           rw [HFE.out]; exact wFieldS B g b P by' d.ty true V h (Nat.le_trans HBW.out hb.size) (by omega) (by omega) (by omega) (by omega) (by have := HPL.out; omega)⟩
         have HW8 := Aside0.mk (HWA.out.alloc (.cells #[.int .i16 by', .int .i8 d.ty, .bool true] 132))
         have HB8 : Aside0 (Below wr.heap.size wr (w7.alloc (.cells #[.int .i16 by', .int .i8 d.ty, .bool true] 132))) := ⟨HBA.out.alloc HBA.out.size _⟩
         have HP8 := Aside0.mk (HPN.out.alloc (.cells #[.int .i16 by', .int .i8 d.ty, .bool true] 132))
         go_upto_region 56 with (fail)
         obtain ⟨w8, hw8⟩ : ∃ w8, w7.alloc (.cells #[.int .i16 by', .int .i8 d.ty, .bool true] 132) = w8 := ⟨_, rfl⟩
         have f8 := Blk.new w7 #[.int .i16 by', .int .i8 d.ty, .bool true] 132
         rw [hw8] at HW8 HB8 HP8 f8 ⊢
         obtain ⟨gf, hgf⟩ : ∃ gf, w7.heap.size = gf := ⟨_, rfl⟩
         rw [hgf] at f8 ⊢
         have e0 := f8.cell (j := 0) rfl
         have e1 := f8.cell (j := 1) rfl
         have e2 := f8.cell (j := 2) rfl
         clear hw8 hgf f8
         obtain ⟨v0, v1, v2, v3, v4, v5, v6, v7, v8, v9, vz⟩ := ten HP8.out
         clear u0 u1 u2 u3 u4 u5 u6 u7 u8 u9 uz ua0 ua1 ua2
         go_upto_region 59 with (first
           | (go_at_call 121; (with_reducible refine (HFW.out _ HW8.out (HBB.out.trans (HB8.out.mono HBR.out))).mono ?_); rintro e w9 HR; obtain rfl := HR.ret; have HR9 := Aside0.mk HR; clear HR))
         have HP9 := Aside0.mk (HR9.out.kept.blk HP8.out (by have := HQ.out.wr.lt; omega) (by have := HQ.out.wr.lt; omega) (by decide))
         clear v0 v1 v2 v3 v4 v5 v6 v7 v8 v9 vz e0 e1 e2
         obtain ⟨v0, v1, v2, v3, v4, v5, v6, v7, v8, v9, vz⟩ := ten HP9.out
         have HQ9 : Aside0 (WrOk w w9 B g b (P ++ FH) (.returned .nilIface)) := ⟨HQ.out.then (WrOk.behind HR9.out HBR.out HB8.out)⟩
         have HYP := Aside0.mk (HYP0.out w9 HQ9.out.wr HQ9.out.below)
         go_wp2_with (first
           | (go_at_call 40; (with_reducible refine HYP.out.mono ?_); rintro e w5 HR; obtain rfl := HR.ret; have HR5 := Aside0.mk HR; clear HR; have z5 := (HR5.out.kept.blk HP9.out (by have := HQ.out.wr.lt; omega) (by have := HQ.out.wr.lt; omega) (by decide)).cell (j := 0) rfl))
         go_roundg (gk - 1)
         all_goals first
           | (have := HK.out; have := HCI.out; omega)
           | (exact ⟨i + 1, id, tl, t1, pr ++ [.int .i16 id, .int .i8 d.ty, .bool d.bo, .int .i64 d.n, .float .f64 d.bits, .slice X4 Xn4 Xk4, .int .i8 d.ky, .int .i8 d.el, .slice X7 Xn7 Xk7, .slice X8 Xn8 Xk8], P ++ FH ++ EB, HCI.out, by go_num, rfl, ⟨HID.out.1⟩, ⟨by have := HGl.out; have : (F.cons d id ls2 fs2 tl).len = tl.len + 1 := rfl; omega⟩, ⟨HGO.out.2.2⟩, ⟨by rw [HL9.out, List.append_assoc]⟩, ⟨by rw [List.length_append, HPR.out]; show i * 10 + 10 = (i + 1) * 10; omega⟩, HG7, ⟨HGA.out.2⟩, ⟨HQ9.out.then HR5.out⟩, HTO2, ⟨by have := HK.out; omega⟩⟩)
       · have m1 : decide (by' ≤ 15) = false := decide_eq_false cb
         have HFE : Aside0 (FH = d.ty :: varL (zz id)) := ⟨by rw [HHE.out, if_neg (by omega)]⟩
         have h15 : 15 < id := hle15 (by omega)
         clear HHE
         have HFW : Aside0 (∀ V, WrB V B g b P → Below B w V → Calls Tryd.prog 121 #[.pointer (some ⟨g, 0, none⟩), .agg #[.int .i16 id, .int .i8 d.ty, .bool false]] V fun e w' => WrOk V w' B g b (P ++ FH) e) := ⟨fun V h hb => by
           rw [HFE.out]; exact wFieldL B g b P id d.ty false V h (Nat.le_trans HBW.out hb.size) (by omega) (by omega) (by omega) (by omega) (by have := HPL.out; omega)⟩
         have HW8 := Aside0.mk (HWA.out.alloc (.cells #[.int .i16 id, .int .i8 d.ty, .bool false] 132))
         have HB8 : Aside0 (Below wr.heap.size wr (w7.alloc (.cells #[.int .i16 id, .int .i8 d.ty, .bool false] 132))) := ⟨HBA.out.alloc HBA.out.size _⟩
         have HP8 := Aside0.mk (HPN.out.alloc (.cells #[.int .i16 id, .int .i8 d.ty, .bool false] 132))
         go_upto_region 56 with (fail)
         obtain ⟨w8, hw8⟩ : ∃ w8, w7.alloc (.cells #[.int .i16 id, .int .i8 d.ty, .bool false] 132) = w8 := ⟨_, rfl⟩
         have f8 := Blk.new w7 #[.int .i16 id, .int .i8 d.ty, .bool false] 132
         rw [hw8] at HW8 HB8 HP8 f8 ⊢
         obtain ⟨gf, hgf⟩ : ∃ gf, w7.heap.size = gf := ⟨_, rfl⟩
         rw [hgf] at f8 ⊢
         have e0 := f8.cell (j := 0) rfl
         have e1 := f8.cell (j := 1) rfl
         have e2 := f8.cell (j := 2) rfl
         clear hw8 hgf f8
         obtain ⟨v0, v1, v2, v3, v4, v5, v6, v7, v8, v9, vz⟩ := ten HP8.out
         clear u0 u1 u2 u3 u4 u5 u6 u7 u8 u9 uz ua0 ua1 ua2
         go_upto_region 59 with (first
           | (go_at_call 121; (with_reducible refine (HFW.out _ HW8.out (HBB.out.trans (HB8.out.mono HBR.out))).mono ?_); rintro e w9 HR; obtain rfl := HR.ret; have HR9 := Aside0.mk HR; clear HR))
         have HP9 := Aside0.mk (HR9.out.kept.blk HP8.out (by have := HQ.out.wr.lt; omega) (by have := HQ.out.wr.lt; omega) (by decide))
         clear v0 v1 v2 v3 v4 v5 v6 v7 v8 v9 vz e0 e1 e2
         obtain ⟨v0, v1, v2, v3, v4, v5, v6, v7, v8, v9, vz⟩ := ten HP9.out
         have HQ9 : Aside0 (WrOk w w9 B g b (P ++ FH) (.returned .nilIface)) := ⟨HQ.out.then (WrOk.behind HR9.out HBR.out HB8.out)⟩
         have HYP := Aside0.mk (HYP0.out w9 HQ9.out.wr HQ9.out.below)
         go_wp2_with (first
           | (go_at_call 40; (with_reducible refine HYP.out.mono ?_); rintro e w5 HR; obtain rfl := HR.ret; have HR5 := Aside0.mk HR; clear HR; have z5 := (HR5.out.kept.blk HP9.out (by have := HQ.out.wr.lt; omega) (by have := HQ.out.wr.lt; omega) (by decide)).cell (j := 0) rfl))
         go_roundg (gk - 1)
         all_goals first
           | (have := HK.out; have := HCI.out; omega)
           | (exact ⟨i + 1, id, tl, t1, pr ++ [.int .i16 id, .int .i8 d.ty, .bool d.bo, .int .i64 d.n, .float .f64 d.bits, .slice X4 Xn4 Xk4, .int .i8 d.ky, .int .i8 d.el, .slice X7 Xn7 Xk7, .slice X8 Xn8 Xk8], P ++ FH ++ EB, HCI.out, by go_num, rfl, ⟨HID.out.1⟩, ⟨by have := HGl.out; have : (F.cons d id ls2 fs2 tl).len = tl.len + 1 := rfl; omega⟩, ⟨HGO.out.2.2⟩, ⟨by rw [HL9.out, List.append_assoc]⟩, ⟨by rw [List.length_append, HPR.out]; show i * 10 + 10 = (i + 1) * 10; omega⟩, HG7, ⟨HGA.out.2⟩, ⟨HQ9.out.then HR5.out⟩, HTO2, ⟨by have := HK.out; omega⟩⟩)
    · have hin : i = fs.len := by omega
      have hP : P = TOT := by
        have hd := HTO.out
        have hg := HGl.out
        cases G with
        | nil => rw [← hd]; exact (List.append_nil _).symm
        | cons d id ls2 fs2 tl => exfalso; have : (F.cons d id ls2 fs2 tl).len = tl.len + 1 := rfl; omega
      have ct : decide ((i : Int) < (fs.len : Nat)) = false := decide_eq_false (by omega)
      have ctt : decide (i < fs.len) = false := decide_eq_false ci
      have HFQ : Aside0 (WrOk w wr B g b TOT (.returned .nilIface)) := ⟨hP ▸ HQ.out⟩
      have HFW : Aside0 (∀ V, WrB V B g b TOT → B ≤ V.heap.size → Calls Tryd.prog 121 #[.pointer (some ⟨g, 0, none⟩), .agg #[.int .i16 0, .int .i8 0, .bool false]] V fun e w' => WrOk V w' B g b (TOT ++ [0]) e) := ⟨fun V h hB => wField_stop B g b TOT 0 false V h hB (by have := HTL.out; omega)⟩
      clear hin hP ci
      go_wp2_with (first
        | (go_at_call 121; (with_reducible refine (HFW.out _ HFQ.out.wr (Nat.le_trans HBW.out HFQ.out.below.size)).mono ?_); rintro e w9 HR; obtain rfl := HR.ret; have HR9 := Aside0.mk HR; clear HR))
      go_ret
      exact HFQ.out.then HR9.out
set_option maxRecDepth 100000 in
theorem zw_all (x : N) (ihl : F.all Zw x.ls) (ihf : F.all Zw x.fs) : Zw x := by
  obtain ⟨⟨ty, bo, n, bits, bl, ky, el⟩, ls, fs⟩ := x
  intro dd B g b bs w cs hok hin h hB hlim
  obtain ⟨A1, c1, A2, c2, A3, c3, lcs, fcs, e, hb, hl, hli, hf, hfi⟩ := openVc hin
  subst e
  dsimp only at hb hl hli hf hfi ihl ihf hlim ⊢
  have hl8 : bs.length ≤ 80000000 := by omega
  rcases hok with ⟨_, hx, _⟩ | ⟨_, hx, _⟩ | ⟨ht, h0, h1, hd, hls, hfs⟩ | ⟨ht, h0, h1, hd, hls, hfs⟩ | ⟨ht, h0, h1, hd, hls, hfs⟩ | ⟨ht, h0, h1, hd, hls, hfs⟩ | ⟨ht, h1, hd, hls, hfs⟩ | ⟨ht, h1, h2, hd, hls, hfs⟩ | ⟨ht, hd, e3, e12, hn, hfs, g', rfl, ho⟩ | ⟨ht, hd, hn, h2, hfs, ⟨g', rfl, ho⟩, hz, hk⟩ | ⟨ht, hd, hn, hls, g', rfl, ho⟩
  · cases hx
  · cases hx
  · dsimp only at ht h0 h1 hls hfs
    injection hd with e0 e1 e2 e3 e4 e5 e6
    subst ht hls hfs e1 e3 e4 e5 e6
    exact zw_3 n B g b bs A1 c1 A2 c2 A3 c3 w h hB h0 h1 (by omega)
  · dsimp only at ht h0 h1 hls hfs
    injection hd with e0 e1 e2 e3 e4 e5 e6
    subst ht hls hfs e1 e3 e4 e5 e6
    exact zw_4 n B g b bs A1 c1 A2 c2 A3 c3 w h hB h0 h1 (by omega)
  · dsimp only at ht h0 h1 hls hfs
    injection hd with e0 e1 e2 e3 e4 e5 e6
    subst ht hls hfs e1 e3 e4 e5 e6
    exact zw_5 n B g b bs A1 c1 A2 c2 A3 c3 w h hB h0 h1 (by omega)
  · dsimp only at ht h0 h1 hls hfs
    injection hd with e0 e1 e2 e3 e4 e5 e6
    subst ht hls hfs e1 e3 e4 e5 e6
    exact zw_6 n B g b bs A1 c1 A2 c2 A3 c3 w h hB h0 h1 (by omega)
  · dsimp only at ht h1 hls hfs
    injection hd with e0 e1 e2 e3 e4 e5 e6
    subst ht hls hfs e1 e2 e4 e5 e6
    exact zw_7 bits B g b bs A1 c1 A2 c2 A3 c3 w h hB h1 (by omega)
  · dsimp only at ht h1 h2 hls hfs
    injection hd with e0 e1 e2 e3 e4 e5 e6
    subst ht hls hfs e1 e2 e3 e5 e6
    obtain ⟨A, c, e, _, hC, _, hA⟩ := hb.out
    obtain ⟨rfl, _, rfl⟩ := Value.slice.inj e
    exact zw_8 bl bl.length B g b bs A1 c1 A2 c2 A3 c3 w h hB hC hA h1 (by omega)
  · dsimp only at ht e3 e12 hn hfs ho
    injection hd with e0 e1 e2 e4 e5 e6 e7
    subst hfs e1 e2 e4 e5 e6
    obtain ⟨m, rfl⟩ := Int.eq_ofNat_of_zero_le (show 0 ≤ el by omega)
    rcases ht with rfl | rfl
    · exact zw_9 m ls g' m m lcs B g b bs A1 c1 A2 c2 A3 c3 w h hB ihl ho hl hli hn (by omega) (by omega) hlim
    · exact zw_10 m ls g' m m lcs B g b bs A1 c1 A2 c2 A3 c3 w h hB ihl ho hl hli hn (by omega) (by omega) hlim
  · dsimp only at ht hn h2 hfs ho hz hk
    injection hd with e0 e1 e2 e4 e5 e6 e7
    subst ht hfs e1 e2 e4 e5
    have hky : 0 ≤ ky ∧ ky ≤ 12 ∧ 0 ≤ el ∧ el ≤ 12 := by
      by_cases c : ls.len = 0
      · have := hz c; omega
      · have := hk c; omega
    obtain ⟨mk, rfl⟩ := Int.eq_ofNat_of_zero_le hky.1
    obtain ⟨me, rfl⟩ := Int.eq_ofNat_of_zero_le hky.2.2.1
    exact zw_11 mk me ls g' mk me lcs B g b bs A1 c1 A2 c2 A3 c3 w h hB ihl ho hl hli hn h2 (by omega) (by omega) hlim
  · dsimp only at ht hn hls ho
    injection hd with e0 e1 e2 e4 e5 e6 e7
    subst ht hls e1 e2 e4 e5 e6 e7
    exact zw_12 fs g' fcs B g b bs A1 c1 A2 c2 A3 c3 w h hB ihf ho hf hfi hn hlim
theorem zzWrite_all (x : N) : Zw x := zw_all x (F.induct zw_all x.ls) (F.induct zw_all x.fs)
end Go.Proofs.YtcboegodjlfmnaaDoor.Tvh
