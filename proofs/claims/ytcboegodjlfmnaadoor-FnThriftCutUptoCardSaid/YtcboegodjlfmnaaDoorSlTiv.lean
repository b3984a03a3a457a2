import Derived.Test.YtcboegodjlfmnaaDoorSlTiu
namespace Go.Proofs.YtcboegodjlfmnaaDoor.Tiv
open Go.Proofs.YtcboegodjlfmnaaDoor.Tiu Go.Proofs.YtcboegodjlfmnaaDoor.Tit Go.Proofs.YtcboegodjlfmnaaDoor.Tsd Go.Proofs.YtcboegodjlfmnaaDoor.Ton Go.Proofs.YtcboegodjlfmnaaDoor.Tpw Go.Proofs.YtcboegodjlfmnaaDoor.Tap Go.Proofs.YtcboegodjlfmnaaDoor.Tzm Go.Proofs.YtcboegodjlfmnaaDoor.Tzl Go.Proofs.YtcboegodjlfmnaaDoor.Trh Go.Proofs.YtcboegodjlfmnaaDoor.Trn Go.Proofs.YtcboegodjlfmnaaDoor.Trm Go.Proofs.YtcboegodjlfmnaaDoor.Tuv Go.Proofs.YtcboegodjlfmnaaDoor.Tpa Go.Proofs.YtcboegodjlfmnaaDoor.Duv Go.Proofs.YtcboegodjlfmnaaDoor.Dpu Go.Proofs.YtcboegodjlfmnaaDoor.Pak Go.Proofs.YtcboegodjlfmnaaDoor.Buf Go.Proofs.YtcboegodjlfmnaaDoor.Fit Go.Proofs.YtcboegodjlfmnaaDoor.Bit Go.Proofs.YtcboegodjlfmnaaDoor.Wrd Go.Proofs.YtcboegodjlfmnaaDoor.Spl Go.Proofs.YtcboegodjlfmnaaDoor.Str Go.Proofs.YtcboegodjlfmnaaDoor.Flt Go.Proofs.YtcboegodjlfmnaaDoor.Owe Go.Proofs.YtcboegodjlfmnaaDoor.Num Go.Proofs.YtcboegodjlfmnaaDoor.Le Go.Proofs.YtcboegodjlfmnaaDoor.Lst Go.Proofs.YtcboegodjlfmnaaDoor.Aid Go.RowKit Go.Proofs.YtcboegodjlfmnaaDoorW.PrintWords Go.Proofs.YtcboegodjlfmnaaDoorW.PrintLast Go.Proofs.YtcboegodjlfmnaaDoorW.PrintMore Go.Proofs.YtcboegodjlfmnaaDoor.Tpv Go.Proofs.YtcboegodjlfmnaaDoor.Tzz
set_option linter.unusedVariables false
set_option linter.unusedSimpArgs false
set_option maxHeartbeats 16000000 in
set_option maxRecDepth 100000 in
theorem it_9 (bo : Bool) (n : Int) (bits : Nat) (bs : List Int) (ky el : Int) (ls fs : F) (ihl : F.all It ls) (ihf : F.all It fs) : It ⟨⟨9, bo, n, bits, bs, ky, el⟩, ls, fs⟩ := by
  intro hwf dd fld w cs hdd hin
  obtain ⟨bsv, lsv, fsv, lcs, fcs, e, hb, hl, hli, hf, hfi⟩ := hin.out
  obtain ⟨A1, c1, rfl, hc1, _⟩ := hb.out
  have HL := Aside0.mk hl
  have HF := Aside0.mk hf
  obtain ⟨A2, c2, rfl, hc2, _⟩ := hl.out
  obtain ⟨A3, c3, rfl, hc3, _⟩ := hf.out
  have e2 : cs = [.int .i64 9, .bool bo, .int .i64 n, .int .u64 (bits : Int), .slice A1 bs.length c1, .int .i64 ky, .int .i64 el, .slice A2 ls.len c2, .slice A3 fs.len c3] := e
  subst e2
  have HLi := Aside0.mk hli
  have HFi := Aside0.mk hfi
  have HWF := Aside0.mk hwf
  have HIL := Aside0.mk ihl
  have HIF := Aside0.mk ihf
  have HB : Aside0 (Below w.heap.size w (w.alloc (.cells #[.int .i64 9, .bool bo, .int .i64 n, .int .u64 (bits : Int), .slice A1 bs.length c1, .int .i64 ky, .int .i64 el, .slice A2 ls.len c2, .slice A3 fs.len c3] 27))) := ⟨(Below.refl _ _).alloc (Nat.le_refl _) _⟩
  have HV := Aside0.mk (Blk.new w #[.int .i64 9, .bool bo, .int .i64 n, .int .u64 (bits : Int), .slice A1 bs.length c1, .int .i64 ky, .int .i64 el, .slice A2 ls.len c2, .slice A3 fs.len c3] 27)
  have HNL : Aside0 (ls.len ≤ 9223372036854775807) := ⟨by have := hwf.nl; unfold maxLen at this; exact this⟩
  have HNF : Aside0 (fs.len ≤ 9223372036854775807) := ⟨by have := hwf.nf; unfold maxLen at this; exact this⟩
  have hnl := HNL.out
  have hnf := HNF.out
  clear hin e hb hl hli hf hfi hwf ihl ihf
  go_enter Tryd.func11, Tryd.ntmps11
  go_upto_region 1 with (fail)
  generalize hW : World.alloc _ _ = W at HB HV ⊢
  clear hW
  obtain ⟨q0, q1, q2, q3, q4, q5, q6, q7, q8, qz⟩ := nine HV.out
  obtain ⟨R, hRC, hRR⟩ := empty_var 9 bo n bits A1 bs.length c1 ky 0 none 0 0 A3 fs.len c3
  skip
  have HRC := Aside0.mk hRC
  have HRR := Aside0.mk hRR
  clear hRC hRR
  have HBA : Aside0 (Below w.heap.size w (W.alloc (.cells #[.int .i64 9, .bool bo, .int .i64 n, .int .u64 (bits : Int), .slice A1 bs.length c1, .int .i64 ky, .int .i64 0, .slice none 0 0, .slice A3 fs.len c3] 27))) := ⟨HB.out.alloc HB.out.size _⟩
  have HX := Aside0.mk (Blk.new W #[.int .i64 9, .bool bo, .int .i64 n, .int .u64 (bits : Int), .slice A1 bs.length c1, .int .i64 ky, .int .i64 0, .slice none 0 0, .slice A3 fs.len c3] 27)
  have HV2 := Aside0.mk (HV.out.alloc (.cells #[.int .i64 9, .bool bo, .int .i64 n, .int .u64 (bits : Int), .slice A1 bs.length c1, .int .i64 ky, .int .i64 0, .slice none 0 0, .slice A3 fs.len c3] 27))
  go_upto_region 27 with (fail)
  generalize hW2 : World.alloc _ _ = W2 at HBA HX HV2 ⊢
  clear hW2 q0 q1 q2 q3 q4 q5 q6 q7 q8 qz
  obtain ⟨r0, r1, r2, r3, r4, r5, r6, r7, r8, rz⟩ := nine HX.out
  obtain ⟨q0, q1, q2, q3, q4, q5, q6, q7, q8, qz⟩ := nine HV2.out
  by_cases z1 : el < 3
  · have k1 : decide (el < 3) = true := decide_eq_true z1
    have HNO : Aside0 (¬ N.ok ⟨⟨9, bo, n, bits, bs, ky, el⟩, ls, fs⟩ dd fld) := ⟨fun hP => by obtain ⟨e1, e2, e3, e4, e5, e6, e7, e8, e9, g', eg, _⟩ := inv_9 hP; omega⟩
    go_wp2_with (fail)
    go_ret
    exact ⟨⟨false, rfl, ⟨(fun h => nomatch h), fun hP => by first | exact absurd hP HNO.out | (rw [← z4] at hP; exact absurd hP HNO.out) | exact absurd hP (fun hP => by obtain ⟨e1, e2, e3, e4, e5, e6, e7, e8, e9, g', eg, _⟩ := inv_9 hP; omega)⟩⟩, HBA.out⟩
  have k1 : decide (el < 3) = false := decide_eq_false z1
  by_cases z2 : 12 < el
  · have k2 : decide (12 < el) = true := decide_eq_true z2
    have HNO : Aside0 (¬ N.ok ⟨⟨9, bo, n, bits, bs, ky, el⟩, ls, fs⟩ dd fld) := ⟨fun hP => by obtain ⟨e1, e2, e3, e4, e5, e6, e7, e8, e9, g', eg, _⟩ := inv_9 hP; omega⟩
    go_wp2_with (fail)
    go_ret
    exact ⟨⟨false, rfl, ⟨(fun h => nomatch h), fun hP => by first | exact absurd hP HNO.out | (rw [← z4] at hP; exact absurd hP HNO.out) | exact absurd hP (fun hP => by obtain ⟨e1, e2, e3, e4, e5, e6, e7, e8, e9, g', eg, _⟩ := inv_9 hP; omega)⟩⟩, HBA.out⟩
  have k2 : decide (12 < el) = false := decide_eq_false z2
  by_cases z3 : 1000 < ls.len
  · have k3 : decide (1000 < (ls.len : Int)) = true := decide_eq_true (by omega)
    have k33 : decide (1000 < ls.len) = true := decide_eq_true z3
    have HNO : Aside0 (¬ N.ok ⟨⟨9, bo, n, bits, bs, ky, el⟩, ls, fs⟩ dd fld) := ⟨fun hP => by obtain ⟨e1, e2, e3, e4, e5, e6, e7, e8, e9, g', eg, _⟩ := inv_9 hP; omega⟩
    go_wp2_with (fail)
    go_ret
    exact ⟨⟨false, rfl, ⟨(fun h => nomatch h), fun hP => by first | exact absurd hP HNO.out | (rw [← z4] at hP; exact absurd hP HNO.out) | exact absurd hP (fun hP => by obtain ⟨e1, e2, e3, e4, e5, e6, e7, e8, e9, g', eg, _⟩ := inv_9 hP; omega)⟩⟩, HBA.out⟩
  have k3 : decide (1000 < (ls.len : Int)) = false := decide_eq_false (by omega)
  have k33 : decide (1000 < ls.len) = false := decide_eq_false z3
  by_cases z4 : dd = 0
  · have k4 : ((dd : Int) == 0) = true := by rw [beq_iff_eq]; omega
    have k44 : (dd == 0) = true := by rw [beq_iff_eq]; omega
    have HNO : Aside0 (¬ N.ok ⟨⟨9, bo, n, bits, bs, ky, el⟩, ls, fs⟩ dd fld) := ⟨fun hP => by obtain ⟨e1, e2, e3, e4, e5, e6, e7, e8, e9, g', eg, _⟩ := inv_9 hP; omega⟩
    go_wp2_with (fail)
    go_ret
    exact ⟨⟨false, rfl, ⟨(fun h => nomatch h), fun hP => by first | exact absurd hP HNO.out | (rw [← z4] at hP; exact absurd hP HNO.out) | exact absurd hP (fun hP => by obtain ⟨e1, e2, e3, e4, e5, e6, e7, e8, e9, g', eg, _⟩ := inv_9 hP; omega)⟩⟩, HBA.out⟩
  have k4 : ((dd : Int) == 0) = false := by rw [beq_eq_false_iff_ne]; omega
  have k44 : (dd == 0) = false := by rw [beq_eq_false_iff_ne]; omega
  obtain ⟨g, rfl⟩ : ∃ g, dd = g + 1 := ⟨dd - 1, by omega⟩
  have HTH := Aside0.mk fun (W5 : World) (hb : Below w.heap.size w W5) => things_calls ls HIL.out HWF.out.ls A2 c2 el el g (by omega) lcs W5 HWF.out.nl (HL.out.move (fun b hb' => hb.block b hb') (fun b hb' => Nat.lt_of_lt_of_le hb' hb.size)) (F.In.move (fun b hb' => hb.block b hb') (fun b hb' => Nat.lt_of_lt_of_le hb' hb.size) HLi.out)
  obtain ⟨G1, hG1⟩ : ∃ G1, g + 1 = G1 := ⟨_, rfl⟩
  rw [hG1] at HTH k4 k44 ⊢
  have HGG := Aside0.mk hG1
  clear z4 hG1
  go_upto_if 109 with (first
    | (go_at_call 19; (with_reducible refine (HRC.out _).mono ?_); rintro e w3 ⟨rfl, hb3⟩; have HB3 := Aside0.mk (HBA.out.trans (hb3.mono HBA.out.size)); have HV3 := Aside0.mk (HV2.out.below hb3 HV2.out.lt); clear hb3))
  cases R with
  | false =>
    go_wp2_with (fail)
    go_ret
    exact ⟨⟨false, rfl, ⟨(fun h => nomatch h), fun hP => by obtain ⟨e1, e2, e3, e4, e5, e6, e7, e8, e9, _⟩ := inv_9 hP; exact absurd (HRR.out.2 ⟨e1, e2, e3, by rw [e4]; rfl, e5, (by trivial), (by trivial), by rw [e9]; rfl⟩) (by simp)⟩⟩, HB3.out⟩
  | true =>
    obtain ⟨p0, p1, p2, p3, p4, p5, p6, p7, p8, pz⟩ := nine HV3.out
    go_wp2_with (first
      | (go_at_call 21; (with_reducible refine (HTH.out _ HB3.out).mono ?_); rintro e w5 HQ; obtain ⟨b, rfl, hb⟩ := HQ.out; have HBB := Aside0.mk hb; have HB5 := Aside0.mk (HB3.out.trans (HQ.below.mono HB3.out.size)); clear HQ hb))
    go_ret
    refine ⟨⟨b, rfl, ⟨fun h => ?_, fun hP => by obtain ⟨_, _, _, _, _, _, _, _, _, g', eg, eo⟩ := inv_9 hP; obtain rfl : g' = g := by have := HGG.out; omega
                                                exact HBB.out.2 eo⟩⟩, HB5.out⟩
    obtain ⟨h1, h2, h3, h4, h5, _, _, h8⟩ := HRR.out.1 (by trivial)
    subst h1 h2 h3 h5
    obtain rfl := List.length_eq_zero_iff.1 h4
    obtain rfl := len_nil h8
    try rw [← HGG.out]
    exact .inr (.inr (.inr (.inr (.inr (.inr (.inr (.inr (.inl ⟨.inl rfl, rfl, by show (3 : Int) ≤ el; omega, by show el ≤ 12; omega, by show ls.len ≤ 1000; omega, rfl, g, rfl, HBB.out.1 h⟩))))))))
set_option maxHeartbeats 16000000 in
set_option maxRecDepth 100000 in
theorem it_10 (bo : Bool) (n : Int) (bits : Nat) (bs : List Int) (ky el : Int) (ls fs : F) (ihl : F.all It ls) (ihf : F.all It fs) : It ⟨⟨10, bo, n, bits, bs, ky, el⟩, ls, fs⟩ := by
  intro hwf dd fld w cs hdd hin
  obtain ⟨bsv, lsv, fsv, lcs, fcs, e, hb, hl, hli, hf, hfi⟩ := hin.out
  obtain ⟨A1, c1, rfl, hc1, _⟩ := hb.out
  have HL := Aside0.mk hl
  have HF := Aside0.mk hf
  obtain ⟨A2, c2, rfl, hc2, _⟩ := hl.out
  obtain ⟨A3, c3, rfl, hc3, _⟩ := hf.out
  have e2 : cs = [.int .i64 10, .bool bo, .int .i64 n, .int .u64 (bits : Int), .slice A1 bs.length c1, .int .i64 ky, .int .i64 el, .slice A2 ls.len c2, .slice A3 fs.len c3] := e
  subst e2
  have HLi := Aside0.mk hli
  have HFi := Aside0.mk hfi
  have HWF := Aside0.mk hwf
  have HIL := Aside0.mk ihl
  have HIF := Aside0.mk ihf
  have HB : Aside0 (Below w.heap.size w (w.alloc (.cells #[.int .i64 10, .bool bo, .int .i64 n, .int .u64 (bits : Int), .slice A1 bs.length c1, .int .i64 ky, .int .i64 el, .slice A2 ls.len c2, .slice A3 fs.len c3] 27))) := ⟨(Below.refl _ _).alloc (Nat.le_refl _) _⟩
  have HV := Aside0.mk (Blk.new w #[.int .i64 10, .bool bo, .int .i64 n, .int .u64 (bits : Int), .slice A1 bs.length c1, .int .i64 ky, .int .i64 el, .slice A2 ls.len c2, .slice A3 fs.len c3] 27)
  have HNL : Aside0 (ls.len ≤ 9223372036854775807) := ⟨by have := hwf.nl; unfold maxLen at this; exact this⟩
  have HNF : Aside0 (fs.len ≤ 9223372036854775807) := ⟨by have := hwf.nf; unfold maxLen at this; exact this⟩
  have hnl := HNL.out
  have hnf := HNF.out
  clear hin e hb hl hli hf hfi hwf ihl ihf
  go_enter Tryd.func11, Tryd.ntmps11
  go_upto_region 1 with (fail)
  generalize hW : World.alloc _ _ = W at HB HV ⊢
  clear hW
  obtain ⟨q0, q1, q2, q3, q4, q5, q6, q7, q8, qz⟩ := nine HV.out
  obtain ⟨R, hRC, hRR⟩ := empty_var 10 bo n bits A1 bs.length c1 ky 0 none 0 0 A3 fs.len c3
  skip
  have HRC := Aside0.mk hRC
  have HRR := Aside0.mk hRR
  clear hRC hRR
  have HBA : Aside0 (Below w.heap.size w (W.alloc (.cells #[.int .i64 10, .bool bo, .int .i64 n, .int .u64 (bits : Int), .slice A1 bs.length c1, .int .i64 ky, .int .i64 0, .slice none 0 0, .slice A3 fs.len c3] 27))) := ⟨HB.out.alloc HB.out.size _⟩
  have HX := Aside0.mk (Blk.new W #[.int .i64 10, .bool bo, .int .i64 n, .int .u64 (bits : Int), .slice A1 bs.length c1, .int .i64 ky, .int .i64 0, .slice none 0 0, .slice A3 fs.len c3] 27)
  have HV2 := Aside0.mk (HV.out.alloc (.cells #[.int .i64 10, .bool bo, .int .i64 n, .int .u64 (bits : Int), .slice A1 bs.length c1, .int .i64 ky, .int .i64 0, .slice none 0 0, .slice A3 fs.len c3] 27))
  go_upto_region 27 with (fail)
  generalize hW2 : World.alloc _ _ = W2 at HBA HX HV2 ⊢
  clear hW2 q0 q1 q2 q3 q4 q5 q6 q7 q8 qz
  obtain ⟨r0, r1, r2, r3, r4, r5, r6, r7, r8, rz⟩ := nine HX.out
  obtain ⟨q0, q1, q2, q3, q4, q5, q6, q7, q8, qz⟩ := nine HV2.out
  by_cases z1 : el < 3
  · have k1 : decide (el < 3) = true := decide_eq_true z1
    have HNO : Aside0 (¬ N.ok ⟨⟨10, bo, n, bits, bs, ky, el⟩, ls, fs⟩ dd fld) := ⟨fun hP => by obtain ⟨e1, e2, e3, e4, e5, e6, e7, e8, e9, g', eg, _⟩ := inv_10 hP; omega⟩
    go_wp2_with (fail)
    go_ret
    exact ⟨⟨false, rfl, ⟨(fun h => nomatch h), fun hP => by first | exact absurd hP HNO.out | (rw [← z4] at hP; exact absurd hP HNO.out) | exact absurd hP (fun hP => by obtain ⟨e1, e2, e3, e4, e5, e6, e7, e8, e9, g', eg, _⟩ := inv_10 hP; omega)⟩⟩, HBA.out⟩
  have k1 : decide (el < 3) = false := decide_eq_false z1
  by_cases z2 : 12 < el
  · have k2 : decide (12 < el) = true := decide_eq_true z2
    have HNO : Aside0 (¬ N.ok ⟨⟨10, bo, n, bits, bs, ky, el⟩, ls, fs⟩ dd fld) := ⟨fun hP => by obtain ⟨e1, e2, e3, e4, e5, e6, e7, e8, e9, g', eg, _⟩ := inv_10 hP; omega⟩
    go_wp2_with (fail)
    go_ret
    exact ⟨⟨false, rfl, ⟨(fun h => nomatch h), fun hP => by first | exact absurd hP HNO.out | (rw [← z4] at hP; exact absurd hP HNO.out) | exact absurd hP (fun hP => by obtain ⟨e1, e2, e3, e4, e5, e6, e7, e8, e9, g', eg, _⟩ := inv_10 hP; omega)⟩⟩, HBA.out⟩
  have k2 : decide (12 < el) = false := decide_eq_false z2
  by_cases z3 : 1000 < ls.len
  · have k3 : decide (1000 < (ls.len : Int)) = true := decide_eq_true (by omega)
    have k33 : decide (1000 < ls.len) = true := decide_eq_true z3
    have HNO : Aside0 (¬ N.ok ⟨⟨10, bo, n, bits, bs, ky, el⟩, ls, fs⟩ dd fld) := ⟨fun hP => by obtain ⟨e1, e2, e3, e4, e5, e6, e7, e8, e9, g', eg, _⟩ := inv_10 hP; omega⟩
    go_wp2_with (fail)
    go_ret
    exact ⟨⟨false, rfl, ⟨(fun h => nomatch h), fun hP => by first | exact absurd hP HNO.out | (rw [← z4] at hP; exact absurd hP HNO.out) | exact absurd hP (fun hP => by obtain ⟨e1, e2, e3, e4, e5, e6, e7, e8, e9, g', eg, _⟩ := inv_10 hP; omega)⟩⟩, HBA.out⟩
  have k3 : decide (1000 < (ls.len : Int)) = false := decide_eq_false (by omega)
  have k33 : decide (1000 < ls.len) = false := decide_eq_false z3
  by_cases z4 : dd = 0
  · have k4 : ((dd : Int) == 0) = true := by rw [beq_iff_eq]; omega
    have k44 : (dd == 0) = true := by rw [beq_iff_eq]; omega
    have HNO : Aside0 (¬ N.ok ⟨⟨10, bo, n, bits, bs, ky, el⟩, ls, fs⟩ dd fld) := ⟨fun hP => by obtain ⟨e1, e2, e3, e4, e5, e6, e7, e8, e9, g', eg, _⟩ := inv_10 hP; omega⟩
    go_wp2_with (fail)
    go_ret
    exact ⟨⟨false, rfl, ⟨(fun h => nomatch h), fun hP => by first | exact absurd hP HNO.out | (rw [← z4] at hP; exact absurd hP HNO.out) | exact absurd hP (fun hP => by obtain ⟨e1, e2, e3, e4, e5, e6, e7, e8, e9, g', eg, _⟩ := inv_10 hP; omega)⟩⟩, HBA.out⟩
  have k4 : ((dd : Int) == 0) = false := by rw [beq_eq_false_iff_ne]; omega
  have k44 : (dd == 0) = false := by rw [beq_eq_false_iff_ne]; omega
  obtain ⟨g, rfl⟩ : ∃ g, dd = g + 1 := ⟨dd - 1, by omega⟩
  have HTH := Aside0.mk fun (W5 : World) (hb : Below w.heap.size w W5) => things_calls ls HIL.out HWF.out.ls A2 c2 el el g (by omega) lcs W5 HWF.out.nl (HL.out.move (fun b hb' => hb.block b hb') (fun b hb' => Nat.lt_of_lt_of_le hb' hb.size)) (F.In.move (fun b hb' => hb.block b hb') (fun b hb' => Nat.lt_of_lt_of_le hb' hb.size) HLi.out)
  obtain ⟨G1, hG1⟩ : ∃ G1, g + 1 = G1 := ⟨_, rfl⟩
  rw [hG1] at HTH k4 k44 ⊢
  have HGG := Aside0.mk hG1
  clear z4 hG1
  go_upto_if 109 with (first
    | (go_at_call 19; (with_reducible refine (HRC.out _).mono ?_); rintro e w3 ⟨rfl, hb3⟩; have HB3 := Aside0.mk (HBA.out.trans (hb3.mono HBA.out.size)); have HV3 := Aside0.mk (HV2.out.below hb3 HV2.out.lt); clear hb3))
  cases R with
  | false =>
    go_wp2_with (fail)
    go_ret
    exact ⟨⟨false, rfl, ⟨(fun h => nomatch h), fun hP => by obtain ⟨e1, e2, e3, e4, e5, e6, e7, e8, e9, _⟩ := inv_10 hP; exact absurd (HRR.out.2 ⟨e1, e2, e3, by rw [e4]; rfl, e5, (by trivial), (by trivial), by rw [e9]; rfl⟩) (by simp)⟩⟩, HB3.out⟩
  | true =>
    obtain ⟨p0, p1, p2, p3, p4, p5, p6, p7, p8, pz⟩ := nine HV3.out
    go_wp2_with (first
      | (go_at_call 21; (with_reducible refine (HTH.out _ HB3.out).mono ?_); rintro e w5 HQ; obtain ⟨b, rfl, hb⟩ := HQ.out; have HBB := Aside0.mk hb; have HB5 := Aside0.mk (HB3.out.trans (HQ.below.mono HB3.out.size)); clear HQ hb))
    go_ret
    refine ⟨⟨b, rfl, ⟨fun h => ?_, fun hP => by obtain ⟨_, _, _, _, _, _, _, _, _, g', eg, eo⟩ := inv_10 hP; obtain rfl : g' = g := by have := HGG.out; omega
                                                exact HBB.out.2 eo⟩⟩, HB5.out⟩
    obtain ⟨h1, h2, h3, h4, h5, _, _, h8⟩ := HRR.out.1 (by trivial)
    subst h1 h2 h3 h5
    obtain rfl := List.length_eq_zero_iff.1 h4
    obtain rfl := len_nil h8
    try rw [← HGG.out]
    exact .inr (.inr (.inr (.inr (.inr (.inr (.inr (.inr (.inl ⟨.inr rfl, rfl, by show (3 : Int) ≤ el; omega, by show el ≤ 12; omega, by show ls.len ≤ 1000; omega, rfl, g, rfl, HBB.out.1 h⟩))))))))
set_option maxHeartbeats 16000000 in
set_option maxRecDepth 100000 in
theorem it_11 (bo : Bool) (n : Int) (bits : Nat) (bs : List Int) (ky el : Int) (ls fs : F) (ihl : F.all It ls) (ihf : F.all It fs) : It ⟨⟨11, bo, n, bits, bs, ky, el⟩, ls, fs⟩ := by
  intro hwf dd fld w cs hdd hin
  obtain ⟨bsv, lsv, fsv, lcs, fcs, e, hb, hl, hli, hf, hfi⟩ := hin.out
  obtain ⟨A1, c1, rfl, hc1, _⟩ := hb.out
  have HL := Aside0.mk hl
  have HF := Aside0.mk hf
  obtain ⟨A2, c2, rfl, hc2, _⟩ := hl.out
  obtain ⟨A3, c3, rfl, hc3, _⟩ := hf.out
  have e2 : cs = [.int .i64 11, .bool bo, .int .i64 n, .int .u64 (bits : Int), .slice A1 bs.length c1, .int .i64 ky, .int .i64 el, .slice A2 ls.len c2, .slice A3 fs.len c3] := e
  subst e2
  have HLi := Aside0.mk hli
  have HFi := Aside0.mk hfi
  have HWF := Aside0.mk hwf
  have HIL := Aside0.mk ihl
  have HIF := Aside0.mk ihf
  have HB : Aside0 (Below w.heap.size w (w.alloc (.cells #[.int .i64 11, .bool bo, .int .i64 n, .int .u64 (bits : Int), .slice A1 bs.length c1, .int .i64 ky, .int .i64 el, .slice A2 ls.len c2, .slice A3 fs.len c3] 27))) := ⟨(Below.refl _ _).alloc (Nat.le_refl _) _⟩
  have HV := Aside0.mk (Blk.new w #[.int .i64 11, .bool bo, .int .i64 n, .int .u64 (bits : Int), .slice A1 bs.length c1, .int .i64 ky, .int .i64 el, .slice A2 ls.len c2, .slice A3 fs.len c3] 27)
  have HNL : Aside0 (ls.len ≤ 9223372036854775807) := ⟨by have := hwf.nl; unfold maxLen at this; exact this⟩
  have HNF : Aside0 (fs.len ≤ 9223372036854775807) := ⟨by have := hwf.nf; unfold maxLen at this; exact this⟩
  have hnl := HNL.out
  have hnf := HNF.out
  clear hin e hb hl hli hf hfi hwf ihl ihf
  go_enter Tryd.func11, Tryd.ntmps11
  go_upto_region 1 with (fail)
  generalize hW : World.alloc _ _ = W at HB HV ⊢
  clear hW
  obtain ⟨q0, q1, q2, q3, q4, q5, q6, q7, q8, qz⟩ := nine HV.out
  obtain ⟨R, hRC, hRR⟩ := empty_var 11 bo n bits A1 bs.length c1 0 0 none 0 0 A3 fs.len c3
  skip
  have HRC := Aside0.mk hRC
  have HRR := Aside0.mk hRR
  clear hRC hRR
  have HBA : Aside0 (Below w.heap.size w (W.alloc (.cells #[.int .i64 11, .bool bo, .int .i64 n, .int .u64 (bits : Int), .slice A1 bs.length c1, .int .i64 0, .int .i64 0, .slice none 0 0, .slice A3 fs.len c3] 27))) := ⟨HB.out.alloc HB.out.size _⟩
  have HX := Aside0.mk (Blk.new W #[.int .i64 11, .bool bo, .int .i64 n, .int .u64 (bits : Int), .slice A1 bs.length c1, .int .i64 0, .int .i64 0, .slice none 0 0, .slice A3 fs.len c3] 27)
  have HV2 := Aside0.mk (HV.out.alloc (.cells #[.int .i64 11, .bool bo, .int .i64 n, .int .u64 (bits : Int), .slice A1 bs.length c1, .int .i64 0, .int .i64 0, .slice none 0 0, .slice A3 fs.len c3] 27))
  go_upto_region 33 with (fail)
  generalize hW2 : World.alloc _ _ = W2 at HBA HX HV2 ⊢
  clear hW2 q0 q1 q2 q3 q4 q5 q6 q7 q8 qz
  obtain ⟨r0, r1, r2, r3, r4, r5, r6, r7, r8, rz⟩ := nine HX.out
  obtain ⟨q0, q1, q2, q3, q4, q5, q6, q7, q8, qz⟩ := nine HV2.out
  by_cases z3 : 1000 < ls.len
  · have k3 : decide (1000 < (ls.len : Int)) = true := decide_eq_true (by omega)
    have k33 : decide (1000 < ls.len) = true := decide_eq_true z3
    have HNO : Aside0 (¬ N.ok ⟨⟨11, bo, n, bits, bs, ky, el⟩, ls, fs⟩ dd fld) := ⟨fun hP => by obtain ⟨e1, e2, e3, e4, e5, e6, e7, ⟨g', eg, _⟩, e8, e9⟩ := inv_11 hP; omega⟩
    go_wp2_with (fail)
    go_ret
    exact ⟨⟨false, rfl, ⟨(fun h => nomatch h), fun hP => by first | exact absurd hP HNO.out | (rw [← z4] at hP; exact absurd hP HNO.out) | exact absurd hP (fun hP => by obtain ⟨e1, e2, e3, e4, e5, e6, e7, ⟨g', eg, _⟩, e8, e9⟩ := inv_11 hP; omega)⟩⟩, HBA.out⟩
  have k3 : decide (1000 < (ls.len : Int)) = false := decide_eq_false (by omega)
  have k33 : decide (1000 < ls.len) = false := decide_eq_false z3
  by_cases z2 : ls.len % 2 = 0
  case neg =>
    have k2 : ((ls.len : Int) % 2 == 0) = false := by rw [beq_eq_false_iff_ne]; omega
    have k22 : (ls.len % 2 == 0) = false := by rw [beq_eq_false_iff_ne]; omega
    have k23 : ((ls.len : Int).tmod 2 == 0) = false := by rw [beq_eq_false_iff_ne, Int.tmod_eq_emod_of_nonneg (by omega)]; omega
    have HNO : Aside0 (¬ N.ok ⟨⟨11, bo, n, bits, bs, ky, el⟩, ls, fs⟩ dd fld) := ⟨fun hP => by obtain ⟨e1, e2, e3, e4, e5, e6, e7, ⟨g', eg, _⟩, e8, e9⟩ := inv_11 hP; omega⟩
    go_wp2_with (fail)
    go_ret
    exact ⟨⟨false, rfl, ⟨(fun h => nomatch h), fun hP => by first | exact absurd hP HNO.out | (rw [← z4] at hP; exact absurd hP HNO.out) | exact absurd hP (fun hP => by obtain ⟨e1, e2, e3, e4, e5, e6, e7, ⟨g', eg, _⟩, e8, e9⟩ := inv_11 hP; omega)⟩⟩, HBA.out⟩
  have k2 : ((ls.len : Int) % 2 == 0) = true := by rw [beq_iff_eq]; omega
  have k22 : (ls.len % 2 == 0) = true := by rw [beq_iff_eq]; omega
  have k23 : ((ls.len : Int).tmod 2 == 0) = true := by rw [beq_iff_eq, Int.tmod_eq_emod_of_nonneg (by omega)]; omega
  by_cases z4 : dd = 0
  · have k4 : ((dd : Int) == 0) = true := by rw [beq_iff_eq]; omega
    have k44 : (dd == 0) = true := by rw [beq_iff_eq]; omega
    have HNO : Aside0 (¬ N.ok ⟨⟨11, bo, n, bits, bs, ky, el⟩, ls, fs⟩ dd fld) := ⟨fun hP => by obtain ⟨e1, e2, e3, e4, e5, e6, e7, ⟨g', eg, _⟩, e8, e9⟩ := inv_11 hP; omega⟩
    go_wp2_with (fail)
    go_ret
    exact ⟨⟨false, rfl, ⟨(fun h => nomatch h), fun hP => by first | exact absurd hP HNO.out | (rw [← z4] at hP; exact absurd hP HNO.out) | exact absurd hP (fun hP => by obtain ⟨e1, e2, e3, e4, e5, e6, e7, ⟨g', eg, _⟩, e8, e9⟩ := inv_11 hP; omega)⟩⟩, HBA.out⟩
  have k4 : ((dd : Int) == 0) = false := by rw [beq_eq_false_iff_ne]; omega
  have k44 : (dd == 0) = false := by rw [beq_eq_false_iff_ne]; omega
  obtain ⟨g, rfl⟩ : ∃ g, dd = g + 1 := ⟨dd - 1, by omega⟩
  have HTH := Aside0.mk fun (W5 : World) (hb : Below w.heap.size w W5) => things_calls ls HIL.out HWF.out.ls A2 c2 ky el g (by omega) lcs W5 HWF.out.nl (HL.out.move (fun b hb' => hb.block b hb') (fun b hb' => Nat.lt_of_lt_of_le hb' hb.size)) (F.In.move (fun b hb' => hb.block b hb') (fun b hb' => Nat.lt_of_lt_of_le hb' hb.size) HLi.out)
  obtain ⟨G1, hG1⟩ : ∃ G1, g + 1 = G1 := ⟨_, rfl⟩
  rw [hG1] at HTH k4 k44 ⊢
  have HGG := Aside0.mk hG1
  clear z4 hG1
  go_upto_if 143 with (first
    | (go_at_call 19; (with_reducible refine (HRC.out _).mono ?_); rintro e w3 ⟨rfl, hb3⟩; have HB3 := Aside0.mk (HBA.out.trans (hb3.mono HBA.out.size)); have HV3 := Aside0.mk (HV2.out.below hb3 HV2.out.lt); clear hb3))
  cases R with
  | false =>
    go_wp2_with (fail)
    go_ret
    exact ⟨⟨false, rfl, ⟨(fun h => nomatch h), fun hP => by obtain ⟨e1, e2, e3, e4, _, _, e7, _⟩ := inv_11 hP; exact absurd (HRR.out.2 ⟨e1, e2, e3, by rw [e4]; rfl, (by trivial), (by trivial), (by trivial), by rw [e7]; rfl⟩) (by simp)⟩⟩, HB3.out⟩
  | true =>
    obtain ⟨p0, p1, p2, p3, p4, p5, p6, p7, p8, pz⟩ := nine HV3.out
    by_cases z0 : ls.len = 0
    · have n0 : ((ls.len : Int) == 0) = true := by rw [beq_iff_eq]; omega
      have n00 : (ls.len == 0) = true := by rw [beq_iff_eq]; omega
      by_cases z5 : ky = 0
      case neg =>
        have m5 : (ky == 0) = false := by rw [beq_eq_false_iff_ne]; exact z5
        have HNO : Aside0 (¬ N.ok ⟨⟨11, bo, n, bits, bs, ky, el⟩, ls, fs⟩ G1 fld) := ⟨fun hP => by obtain ⟨_, _, _, _, _, _, _, _, ez, ek⟩ := inv_11 hP; omega⟩
        go_wp2_with (fail)
        go_ret
        exact ⟨⟨false, rfl, ⟨(fun h => nomatch h), fun hP => by first | exact absurd hP HNO.out | (rw [← z4] at hP; exact absurd hP HNO.out) | exact absurd hP (fun hP => by obtain ⟨_, _, _, _, _, _, _, _, ez, ek⟩ := inv_11 hP; omega)⟩⟩, HB3.out⟩
      have m5 : (ky == 0) = true := by rw [beq_iff_eq]; exact z5
      by_cases z6 : el = 0
      case neg =>
        have m6 : (el == 0) = false := by rw [beq_eq_false_iff_ne]; exact z6
        have HNO : Aside0 (¬ N.ok ⟨⟨11, bo, n, bits, bs, ky, el⟩, ls, fs⟩ G1 fld) := ⟨fun hP => by obtain ⟨_, _, _, _, _, _, _, _, ez, ek⟩ := inv_11 hP; omega⟩
        go_wp2_with (fail)
        go_ret
        exact ⟨⟨false, rfl, ⟨(fun h => nomatch h), fun hP => by first | exact absurd hP HNO.out | (rw [← z4] at hP; exact absurd hP HNO.out) | exact absurd hP (fun hP => by obtain ⟨_, _, _, _, _, _, _, _, ez, ek⟩ := inv_11 hP; omega)⟩⟩, HB3.out⟩
      have m6 : (el == 0) = true := by rw [beq_iff_eq]; exact z6
      go_wp2_with (fail)
      go_ret
      refine ⟨⟨true, rfl, ⟨fun h => ?_, fun _ => rfl⟩⟩, HB3.out⟩
      obtain ⟨h1, h2, h3, h4, _, _, _, h8⟩ := HRR.out.1 (by trivial)
      subst h1 h2 h3 z5 z6
      obtain rfl := List.length_eq_zero_iff.1 h4
      obtain rfl := len_nil h8
      obtain rfl := len_nil z0
      try rw [← HGG.out]
      exact .inr (.inr (.inr (.inr (.inr (.inr (.inr (.inr (.inr (.inl ⟨rfl, rfl, Nat.zero_le _, rfl, rfl, ⟨g, rfl, trivial⟩, fun _ => ⟨rfl, rfl⟩, fun h => absurd rfl h⟩)))))))))
    · have n0 : ((ls.len : Int) == 0) = false := by rw [beq_eq_false_iff_ne]; omega
      have n00 : (ls.len == 0) = false := by rw [beq_eq_false_iff_ne]; omega
      by_cases y1 : 3 ≤ ky
      case neg =>
        have m1 : decide (3 ≤ ky) = false := decide_eq_false y1
        have HNO : Aside0 (¬ N.ok ⟨⟨11, bo, n, bits, bs, ky, el⟩, ls, fs⟩ G1 fld) := ⟨fun hP => by obtain ⟨_, _, _, _, _, _, _, _, ez, ek⟩ := inv_11 hP; omega⟩
        go_wp2_with (fail)
        go_ret
        exact ⟨⟨false, rfl, ⟨(fun h => nomatch h), fun hP => by first | exact absurd hP HNO.out | (rw [← z4] at hP; exact absurd hP HNO.out) | exact absurd hP (fun hP => by obtain ⟨_, _, _, _, _, _, _, _, ez, ek⟩ := inv_11 hP; omega)⟩⟩, HB3.out⟩
      have m1 : decide (3 ≤ ky) = true := decide_eq_true y1
      by_cases y2 : ky ≤ 12
      case neg =>
        have m2 : decide (ky ≤ 12) = false := decide_eq_false y2
        have HNO : Aside0 (¬ N.ok ⟨⟨11, bo, n, bits, bs, ky, el⟩, ls, fs⟩ G1 fld) := ⟨fun hP => by obtain ⟨_, _, _, _, _, _, _, _, ez, ek⟩ := inv_11 hP; omega⟩
        go_wp2_with (fail)
        go_ret
        exact ⟨⟨false, rfl, ⟨(fun h => nomatch h), fun hP => by first | exact absurd hP HNO.out | (rw [← z4] at hP; exact absurd hP HNO.out) | exact absurd hP (fun hP => by obtain ⟨_, _, _, _, _, _, _, _, ez, ek⟩ := inv_11 hP; omega)⟩⟩, HB3.out⟩
      have m2 : decide (ky ≤ 12) = true := decide_eq_true y2
      by_cases y3 : 3 ≤ el
      case neg =>
        have m3 : decide (3 ≤ el) = false := decide_eq_false y3
        have HNO : Aside0 (¬ N.ok ⟨⟨11, bo, n, bits, bs, ky, el⟩, ls, fs⟩ G1 fld) := ⟨fun hP => by obtain ⟨_, _, _, _, _, _, _, _, ez, ek⟩ := inv_11 hP; omega⟩
        go_wp2_with (fail)
        go_ret
        exact ⟨⟨false, rfl, ⟨(fun h => nomatch h), fun hP => by first | exact absurd hP HNO.out | (rw [← z4] at hP; exact absurd hP HNO.out) | exact absurd hP (fun hP => by obtain ⟨_, _, _, _, _, _, _, _, ez, ek⟩ := inv_11 hP; omega)⟩⟩, HB3.out⟩
      have m3 : decide (3 ≤ el) = true := decide_eq_true y3
      by_cases y4 : el ≤ 12
      case neg =>
        have m4 : decide (el ≤ 12) = false := decide_eq_false y4
        have HNO : Aside0 (¬ N.ok ⟨⟨11, bo, n, bits, bs, ky, el⟩, ls, fs⟩ G1 fld) := ⟨fun hP => by obtain ⟨_, _, _, _, _, _, _, _, ez, ek⟩ := inv_11 hP; omega⟩
        go_wp2_with (fail)
        go_ret
        exact ⟨⟨false, rfl, ⟨(fun h => nomatch h), fun hP => by first | exact absurd hP HNO.out | (rw [← z4] at hP; exact absurd hP HNO.out) | exact absurd hP (fun hP => by obtain ⟨_, _, _, _, _, _, _, _, ez, ek⟩ := inv_11 hP; omega)⟩⟩, HB3.out⟩
      have m4 : decide (el ≤ 12) = true := decide_eq_true y4
      go_wp2_with (first
        | (go_at_call 21; (with_reducible refine (HTH.out _ HB3.out).mono ?_); rintro e w5 HQ; obtain ⟨b, rfl, hb⟩ := HQ.out; have HBB := Aside0.mk hb; have HB5 := Aside0.mk (HB3.out.trans (HQ.below.mono HB3.out.size)); clear HQ hb))
      go_ret
      refine ⟨⟨b, rfl, ⟨fun h => ?_, fun hP => by obtain ⟨_, _, _, _, _, _, _, ⟨g', eg, eo⟩, _⟩ := inv_11 hP; obtain rfl : g' = g := by have := HGG.out; omega
                                                  exact HBB.out.2 eo⟩⟩, HB5.out⟩
      obtain ⟨h1, h2, h3, h4, _, _, _, h8⟩ := HRR.out.1 (by trivial)
      subst h1 h2 h3
      obtain rfl := List.length_eq_zero_iff.1 h4
      obtain rfl := len_nil h8
      try rw [← HGG.out]
      exact .inr (.inr (.inr (.inr (.inr (.inr (.inr (.inr (.inr (.inl ⟨rfl, rfl, by show ls.len ≤ 1000; omega, z2, rfl, ⟨g, rfl, HBB.out.1 h⟩, fun h => absurd h z0, fun _ => ⟨y1, y2, y3, y4⟩⟩)))))))))
def lastId : F → Int → Int
  | .nil, last => last
  | .cons d id ls fs tl, last => lastId tl id
theorem okf_snoc : ∀ {Q : F} {d : D} {id : Int} {ls fs : F} {dd : Nat} {last : Int}, Q.ok dd true 0 0 last → lastId Q last < id → id ≤ 32767 → N.ok ⟨d, ls, fs⟩ dd true → (Q.snoc d id ls fs).ok dd true 0 0 last
  | .nil, d, id, ls, fs, dd, last, h, h1, h2, h3 => ⟨by rw [if_pos rfl]; exact ⟨h1, h2⟩, h3, trivial⟩
  | .cons d' id' ls' fs' tl, d, id, ls, fs, dd, last, h, h1, h2, h3 => ⟨h.1, h.2.1, okf_snoc h.2.2 h1 h2 h3⟩
theorem okf_head : ∀ {Q : F} {d : D} {id : Int} {ls fs tl : F} {dd : Nat} {last : Int}, (Q.app (.cons d id ls fs tl)).ok dd true 0 0 last → lastId Q last < id ∧ id ≤ 32767 ∧ N.ok ⟨d, ls, fs⟩ dd true
  | .nil, d, id, ls, fs, tl, dd, last, h => by
    obtain ⟨h1, h2, _⟩ := h
    rw [if_pos rfl] at h1
    exact ⟨h1.1, h1.2, h2⟩
  | .cons d' id' ls' fs' Q, d, id, ls, fs, tl, dd, last, h => okf_head (Q := Q) h.2.2
theorem lastId_snoc : ∀ {Q : F} {d : D} {id : Int} {ls fs : F} {last : Int}, lastId (Q.snoc d id ls fs) last = id
  | .nil, d, id, ls, fs, last => rfl
  | .cons d' id' ls' fs' tl, d, id, ls, fs, last => lastId_snoc (Q := tl)
set_option maxHeartbeats 16000000 in
set_option maxRecDepth 100000 in
theorem it_12 (bo : Bool) (n : Int) (bits : Nat) (bs : List Int) (ky el : Int) (ls fs : F) (ihl : F.all It ls) (ihf : F.all It fs) : It ⟨⟨12, bo, n, bits, bs, ky, el⟩, ls, fs⟩ := by
  intro hwf dd fld w cs hdd hin
  obtain ⟨bsv, lsv, fsv, lcs, fcs, e, hb, hl, hli, hf, hfi⟩ := hin.out
  obtain ⟨A1, c1, rfl, hc1, _⟩ := hb.out
  have HL := Aside0.mk hl
  have HF := Aside0.mk hf
  obtain ⟨A2, c2, rfl, hc2, _⟩ := hl.out
  obtain ⟨A3, c3, rfl, hc3, _⟩ := hf.out
  have e2 : cs = [.int .i64 12, .bool bo, .int .i64 n, .int .u64 (bits : Int), .slice A1 bs.length c1, .int .i64 ky, .int .i64 el, .slice A2 ls.len c2, .slice A3 fs.len c3] := e
  subst e2
  have HLi := Aside0.mk hli
  have HFi := Aside0.mk hfi
  have HWF := Aside0.mk hwf
  have HIL := Aside0.mk ihl
  have HIF := Aside0.mk ihf
  have HB : Aside0 (Below w.heap.size w (w.alloc (.cells #[.int .i64 12, .bool bo, .int .i64 n, .int .u64 (bits : Int), .slice A1 bs.length c1, .int .i64 ky, .int .i64 el, .slice A2 ls.len c2, .slice A3 fs.len c3] 27))) := ⟨(Below.refl _ _).alloc (Nat.le_refl _) _⟩
  have HV := Aside0.mk (Blk.new w #[.int .i64 12, .bool bo, .int .i64 n, .int .u64 (bits : Int), .slice A1 bs.length c1, .int .i64 ky, .int .i64 el, .slice A2 ls.len c2, .slice A3 fs.len c3] 27)
  have HNL : Aside0 (ls.len ≤ 9223372036854775807) := ⟨by have := hwf.nl; unfold maxLen at this; exact this⟩
  have HNF : Aside0 (fs.len ≤ 9223372036854775807) := ⟨by have := hwf.nf; unfold maxLen at this; exact this⟩
  have hnl := HNL.out
  have hnf := HNF.out
  clear hin e hb hl hli hf hfi hwf ihl ihf
  go_enter Tryd.func11, Tryd.ntmps11
  go_upto_region 1 with (fail)
  generalize hW : World.alloc _ _ = W at HB HV ⊢
  clear hW
  obtain ⟨q0, q1, q2, q3, q4, q5, q6, q7, q8, qz⟩ := nine HV.out
  obtain ⟨R, hRC, hRR⟩ := empty_var 12 bo n bits A1 bs.length c1 ky el A2 ls.len c2 none 0 0
  skip
  have HRC := Aside0.mk hRC
  have HRR := Aside0.mk hRR
  clear hRC hRR
  have HBA : Aside0 (Below w.heap.size w (W.alloc (.cells #[.int .i64 12, .bool bo, .int .i64 n, .int .u64 (bits : Int), .slice A1 bs.length c1, .int .i64 ky, .int .i64 el, .slice A2 ls.len c2, .slice none 0 0] 27))) := ⟨HB.out.alloc HB.out.size _⟩
  have HX := Aside0.mk (Blk.new W #[.int .i64 12, .bool bo, .int .i64 n, .int .u64 (bits : Int), .slice A1 bs.length c1, .int .i64 ky, .int .i64 el, .slice A2 ls.len c2, .slice none 0 0] 27)
  have HV2 := Aside0.mk (HV.out.alloc (.cells #[.int .i64 12, .bool bo, .int .i64 n, .int .u64 (bits : Int), .slice A1 bs.length c1, .int .i64 ky, .int .i64 el, .slice A2 ls.len c2, .slice none 0 0] 27))
  go_upto_region 41 with (fail)
  generalize hW2 : World.alloc _ _ = W2 at HBA HX HV2 ⊢
  clear hW2 q0 q1 q2 q3 q4 q5 q6 q7 q8 qz
  obtain ⟨r0, r1, r2, r3, r4, r5, r6, r7, r8, rz⟩ := nine HX.out
  obtain ⟨q0, q1, q2, q3, q4, q5, q6, q7, q8, qz⟩ := nine HV2.out
  by_cases z3 : 100 < fs.len
  · have k3 : decide (100 < (fs.len : Int)) = true := decide_eq_true (by omega)
    have k33 : decide (100 < fs.len) = true := decide_eq_true z3
    have HNO : Aside0 (¬ N.ok ⟨⟨12, bo, n, bits, bs, ky, el⟩, ls, fs⟩ dd fld) := ⟨fun hP => by obtain ⟨e1, e2, e3, e4, e5, e6, e7, e8, g', eg, _⟩ := inv_12 hP; omega⟩
    go_wp2_with (fail)
    go_ret
    exact ⟨⟨false, rfl, ⟨(fun h => nomatch h), fun hP => by first | exact absurd hP HNO.out | (rw [← z4] at hP; exact absurd hP HNO.out) | exact absurd hP (fun hP => by obtain ⟨e1, e2, e3, e4, e5, e6, e7, e8, g', eg, _⟩ := inv_12 hP; omega)⟩⟩, HBA.out⟩
  have k3 : decide (100 < (fs.len : Int)) = false := decide_eq_false (by omega)
  have k33 : decide (100 < fs.len) = false := decide_eq_false z3
  by_cases z4 : dd = 0
  · have k4 : ((dd : Int) == 0) = true := by rw [beq_iff_eq]; omega
    have k44 : (dd == 0) = true := by rw [beq_iff_eq]; omega
    have HNO : Aside0 (¬ N.ok ⟨⟨12, bo, n, bits, bs, ky, el⟩, ls, fs⟩ dd fld) := ⟨fun hP => by obtain ⟨e1, e2, e3, e4, e5, e6, e7, e8, g', eg, _⟩ := inv_12 hP; omega⟩
    go_wp2_with (fail)
    go_ret
    exact ⟨⟨false, rfl, ⟨(fun h => nomatch h), fun hP => by first | exact absurd hP HNO.out | (rw [← z4] at hP; exact absurd hP HNO.out) | exact absurd hP (fun hP => by obtain ⟨e1, e2, e3, e4, e5, e6, e7, e8, g', eg, _⟩ := inv_12 hP; omega)⟩⟩, HBA.out⟩
  have k4 : ((dd : Int) == 0) = false := by rw [beq_eq_false_iff_ne]; omega
  have k44 : (dd == 0) = false := by rw [beq_eq_false_iff_ne]; omega
  obtain ⟨g, rfl⟩ : ∃ g, dd = g + 1 := ⟨dd - 1, by omega⟩
  have qg : IntKind.i64.wrap (((g + 1 : Nat) : Int) - 1) = (g : Int) := by rw [IntWalk.i64_in _ (by omega)]; omega
  have hg9 : g ≤ 100 := by omega
  obtain ⟨G1, hG1⟩ : ∃ G1, g + 1 = G1 := ⟨_, rfl⟩
  rw [hG1] at k4 k44 qg ⊢
  have HGG := Aside0.mk hG1
  clear z4 hG1
  go_upto_if 200 with (first
    | (go_at_call 19; (with_reducible refine (HRC.out _).mono ?_); rintro e w3 ⟨rfl, hb3⟩; have HB3 := Aside0.mk (HBA.out.trans (hb3.mono HBA.out.size)); have HV3 := Aside0.mk (HV2.out.below hb3 HV2.out.lt); clear hb3))
  cases R with
  | false =>
    go_wp2_with (fail)
    go_ret
    exact ⟨⟨false, rfl, ⟨(fun h => nomatch h), fun hP => by obtain ⟨e1, e2, e3, e4, e5, e6, _, e8, _⟩ := inv_12 hP; exact absurd (HRR.out.2 ⟨e1, e2, e3, by rw [e4]; rfl, e5, e6, by rw [e8]; rfl, (by trivial)⟩) (by simp)⟩⟩, HB3.out⟩
  | true =>
    obtain ⟨p0, p1, p2, p3, p4, p5, p6, p7, p8, pz⟩ := nine HV3.out
    go_wp2_with (fail)
    go_loopg [6, 15, 17, 204] fs.len (fun kq v6 v15 v17 v204 w' => ∃ (i : Nat) (last : Int) (Q G : F) (gc pr : List Value), i ≤ fs.len ∧ v204 = .int .i64 i ∧ v15 = .int .i64 last ∧ Aside0 (last = lastId Q 0) ∧ Aside0 (Q.len = i) ∧ Aside0 (Q.app G = fs) ∧ Aside0 (G.len + i = fs.len) ∧ Aside0 (Q.ok g true 0 0 0) ∧ Aside0 (fcs = pr ++ gc) ∧ Aside0 (pr.length = i * 10) ∧ Aside0 (G.In flT w (fun b => b < w.heap.size) true gc) ∧ Aside0 (F.all It G) ∧ Aside0 (F.ow G true) ∧ Aside0 (Below w.heap.size w w') ∧ Aside0 (fs.len - i ≤ kq))
    case atStart => exact ⟨0, 0, .nil, fs, fcs, [], Nat.zero_le _, rfl, rfl, ⟨rfl⟩, ⟨rfl⟩, ⟨rfl⟩, ⟨rfl⟩, ⟨trivial⟩, ⟨rfl⟩, ⟨by simp⟩, HFi, HIF, ⟨HWF.out.fs⟩, HB3, ⟨by omega⟩⟩
    case round =>
      clear p0 p1 p2 p3 p4 p5 p6 p7 p8 pz q0 q1 q2 q3 q4 q5 q6 q7 q8 qz r0 r1 r2 r3 r4 r5 r6 r7 r8 rz
      obtain ⟨i, last, Q, G, gc, pr, hi, rfl, rfl, HLS, HDl, HDG, HGl, HDO, HLE, HPR, HGI, HGA, HGW, HBr, HK⟩ := hrel
      by_cases ci : i < fs.len
      · have ct : decide ((i : Int) < (fs.len : Nat)) = true := decide_eq_true (by omega)
        have ctt : decide (i < fs.len) = true := decide_eq_true ci
        cases G with
        | nil => exact absurd HGl.out (by show ¬ (0 + i = _); omega)
        | cons d id ls2 fs2 tl =>
          obtain ⟨bsv, lsv, fsv, l1, f1, t1, g1, g2, g3, g4, g5, g6, g7⟩ := HGI.out
          have hy1 : N.In flT w (fun b => b < w.heap.size) ⟨d, ls2, fs2⟩ (nodeC flT d bsv lsv fsv) := ⟨⟨bsv, lsv, fsv, l1, f1, rfl, g2, g3, g4, g5, g6⟩⟩
          obtain ⟨X4, Xn4, Xk4, X7, Xn7, Xk7, X8, Xn8, Xk8, hcs⟩ := openT hy1
          rw [hcs] at hy1 g1
          obtain ⟨A9, c9, e9, _, hrw⟩ := HF.out.out
          obtain ⟨ad, hA9, hadl, hcell⟩ := hrw (by rw [HLE.out, g1]; simp)
          have hA3 : A3 = some ad := by injection e9 with e1 e2 e3; rw [e1]; exact hA9
          subst hA3
          have hrow := rowCell hcell HLE.out HPR.out
          obtain ⟨z0, z1, z2, z3, z4, z5, z6, z7, z8, z9⟩ := tenRow (w := wr) (a0 := .int .i64 id) (ad := ad) (k := i * 10) (rest := t1) (fun q u hq => (World.cell?_of_block (by rw [add_block]; exact HBr.out.block _ hadl)).trans (hrow q u hq)) g1
          have hbr2 : Below w.heap.size w (wr.alloc (.cells #[.int .i64 id, .int .i64 d.ty, .bool d.bo, .int .i64 d.n, .int .u64 (d.bits : Int), .slice X4 Xn4 Xk4, .int .i64 d.ky, .int .i64 d.el, .slice X7 Xn7 Xk7, .slice X8 Xn8 Xk8] 48)) := HBr.out.alloc HBr.out.size _
          have HYP := Aside0.mk (HGA.out.1 ⟨HGW.out.1, HGW.out.2.2.1, HGW.out.2.2.2.1, HGW.out.2.2.2.2.1, HGW.out.2.2.2.2.2.1⟩ g true (wr.alloc (.cells #[.int .i64 id, .int .i64 d.ty, .bool d.bo, .int .i64 d.n, .int .u64 (d.bits : Int), .slice X4 Xn4 Xk4, .int .i64 d.ky, .int .i64 d.el, .slice X7 Xn7 Xk7, .slice X8 Xn8 Xk8] 48)) _ hg9 (hy1.move (Pc := fun b => b < (wr.alloc (.cells #[.int .i64 id, .int .i64 d.ty, .bool d.bo, .int .i64 d.n, .int .u64 (d.bits : Int), .slice X4 Xn4 Xk4, .int .i64 d.ky, .int .i64 d.el, .slice X7 Xn7 Xk7, .slice X8 Xn8 Xk8] 48)).heap.size) (fun b hb => hbr2.block b hb) (fun b hb => Nat.lt_of_lt_of_le hb hbr2.size)))
          have HB7 := Aside0.mk hbr2
          have HG7 := Aside0.mk g7
          have HL9 : Aside0 (fcs = pr ++ ([.int .i64 id, .int .i64 d.ty, .bool d.bo, .int .i64 d.n, .int .u64 (d.bits : Int), .slice X4 Xn4 Xk4, .int .i64 d.ky, .int .i64 d.el, .slice X7 Xn7 Xk7, .slice X8 Xn8 Xk8] ++ t1)) := ⟨by rw [HLE.out, g1]; rfl⟩
          have HCI := Aside0.mk ci
          have HPN := Aside0.mk (Blk.new wr #[.int .i64 id, .int .i64 d.ty, .bool d.bo, .int .i64 d.n, .int .u64 (d.bits : Int), .slice X4 Xn4 Xk4, .int .i64 d.ky, .int .i64 d.el, .slice X7 Xn7 Xk7, .slice X8 Xn8 Xk8] 48)
          clear g1 g2 g3 g4 g5 g6 g7 hy1 hrow hcell hcs hbr2 hrw e9 hA9
          go_upto_region 47 with (fail)
          clear z0 z1 z2 z3 z4 z5 z6 z7 z8 z9
          generalize hw7 : World.alloc _ _ = w7 at HYP HB7 HPN ⊢
          clear hw7
          obtain ⟨u0, u1, u2, u3, u4, u5, u6, u7, u8, u9, uz⟩ := ten HPN.out
          by_cases y1 : id ≤ last
          · have m1 : decide (id ≤ last) = true := decide_eq_true y1
            have HNO : Aside0 (¬ N.ok ⟨⟨12, bo, n, bits, bs, ky, el⟩, ls, fs⟩ G1 fld) := ⟨fun hP => by obtain ⟨_, _, _, _, _, _, _, _, g', eg, eo⟩ := inv_12 hP; obtain rfl : g' = g := (by have := HGG.out; omega); rw [← HDG.out] at eo; have ho := okf_head eo; rw [← HLS.out] at ho; omega⟩
            go_wp2_with (fail)
            go_ret
            exact ⟨⟨false, rfl, ⟨(fun h => nomatch h), fun hP => by first | exact absurd hP HNO.out | (rw [← z4] at hP; exact absurd hP HNO.out) | exact absurd hP (fun hP => by obtain ⟨_, _, _, _, _, _, _, _, g', eg, eo⟩ := inv_12 hP; obtain rfl : g' = g := (by have := HGG.out; omega); rw [← HDG.out] at eo; have ho := okf_head eo; rw [← HLS.out] at ho; omega)⟩⟩, HB7.out⟩
          have m1 : decide (id ≤ last) = false := decide_eq_false y1
          by_cases y2 : 32767 < id
          · have m2 : decide (32767 < id) = true := decide_eq_true y2
            have HNO : Aside0 (¬ N.ok ⟨⟨12, bo, n, bits, bs, ky, el⟩, ls, fs⟩ G1 fld) := ⟨fun hP => by obtain ⟨_, _, _, _, _, _, _, _, g', eg, eo⟩ := inv_12 hP; obtain rfl : g' = g := (by have := HGG.out; omega); rw [← HDG.out] at eo; have ho := okf_head eo; rw [← HLS.out] at ho; omega⟩
            go_wp2_with (fail)
            go_ret
            exact ⟨⟨false, rfl, ⟨(fun h => nomatch h), fun hP => by first | exact absurd hP HNO.out | (rw [← z4] at hP; exact absurd hP HNO.out) | exact absurd hP (fun hP => by obtain ⟨_, _, _, _, _, _, _, _, g', eg, eo⟩ := inv_12 hP; obtain rfl : g' = g := (by have := HGG.out; omega); rw [← HDG.out] at eo; have ho := okf_head eo; rw [← HLS.out] at ho; omega)⟩⟩, HB7.out⟩
          have m2 : decide (32767 < id) = false := decide_eq_false y2
          go_upto_if 224 with (first
            | (go_at_call 11; (with_reducible refine HYP.out.mono ?_); rintro e w5 HQ; obtain ⟨b, rfl, hb⟩ := HQ.out; have HBB := Aside0.mk hb; have HB5 := Aside0.mk (HB7.out.trans (HQ.below.mono HB7.out.size)); have HP5 := Aside0.mk (HPN.out.below HQ.below HPN.out.lt); clear HQ hb))
          cases b with
          | false =>
            have HNO : Aside0 (¬ N.ok ⟨⟨12, bo, n, bits, bs, ky, el⟩, ls, fs⟩ G1 fld) := ⟨fun hP => by obtain ⟨_, _, _, _, _, _, _, _, g', eg, eo⟩ := inv_12 hP; obtain rfl : g' = g := (by have := HGG.out; omega); rw [← HDG.out] at eo; have ho := okf_head eo; rw [← HLS.out] at ho; exact absurd (HBB.out.2 ho.2.2) (by simp)⟩
            go_wp2_with (fail)
            go_ret
            exact ⟨⟨false, rfl, ⟨(fun h => nomatch h), fun hP => by first | exact absurd hP HNO.out | (rw [← z4] at hP; exact absurd hP HNO.out) | exact absurd hP (fun hP => by obtain ⟨_, _, _, _, _, _, _, _, g', eg, eo⟩ := inv_12 hP; obtain rfl : g' = g := (by have := HGG.out; omega); rw [← HDG.out] at eo; have ho := okf_head eo; rw [← HLS.out] at ho; exact absurd (HBB.out.2 ho.2.2) (by simp))⟩⟩, HB5.out⟩

          | true =>
            have HOK := Aside0.mk (okf_snoc HDO.out (by rw [← HLS.out]; omega) (by omega) (HBB.out.1 rfl))
            have u50 := HP5.out.cell (j := 0) rfl
            go_wp2_with (fail)
            go_roundg (gk - 1)
            all_goals first
              | (have := HK.out; have := HCI.out; omega)
              | (exact ⟨i + 1, id, Q.snoc d id ls2 fs2, tl, t1, pr ++ [.int .i64 id, .int .i64 d.ty, .bool d.bo, .int .i64 d.n, .int .u64 (d.bits : Int), .slice X4 Xn4 Xk4, .int .i64 d.ky, .int .i64 d.el, .slice X7 Xn7 Xk7, .slice X8 Xn8 Xk8], HCI.out, by go_num, rfl, ⟨lastId_snoc.symm⟩, ⟨by rw [F.len_snoc, HDl.out]⟩, ⟨by rw [← F.app_snoc]; exact HDG.out⟩, ⟨by have := HGl.out; have : (F.cons d id ls2 fs2 tl).len = tl.len + 1 := rfl; omega⟩, HOK, ⟨by rw [HL9.out, List.append_assoc]⟩, ⟨by rw [List.length_append, HPR.out]; show i * 10 + 10 = (i + 1) * 10; omega⟩, HG7, ⟨HGA.out.2⟩, ⟨HGW.out.2.2.2.2.2.2⟩, HB5, ⟨by have := HK.out; omega⟩⟩)
      · have hin : i = fs.len := by omega
        have hDx : Q = fs := by
          have hg := HGl.out
          have hd := HDG.out
          cases G with
          | nil => rw [F.app_nil] at hd; exact hd
          | cons d id ls2 fs2 tl => exfalso; have : (F.cons d id ls2 fs2 tl).len = tl.len + 1 := rfl; omega
        have ct : decide ((i : Int) < (fs.len : Nat)) = false := decide_eq_false (by omega)
        have ctt : decide (i < fs.len) = false := decide_eq_false ci
        have HFO : Aside0 (fs.ok g true 0 0 0) := ⟨hDx ▸ HDO.out⟩
        clear hin hDx
        go_wp2_with (fail)
        go_ret
        refine ⟨⟨true, rfl, ⟨fun h => ?_, fun _ => rfl⟩⟩, HBr.out⟩
        obtain ⟨h1, h2, h3, h4, h5, h6, h7, _⟩ := HRR.out.1 (by trivial)
        subst h1 h2 h3 h5 h6
        obtain rfl := List.length_eq_zero_iff.1 h4
        obtain rfl := len_nil h7
        try rw [← HGG.out]
        exact .inr (.inr (.inr (.inr (.inr (.inr (.inr (.inr (.inr (.inr (⟨rfl, rfl, by show fs.len ≤ 100; omega, rfl, g, rfl, HFO.out⟩))))))))))
set_option maxHeartbeats 16000000 in
set_option maxRecDepth 100000 in
theorem it_other (ty : Int) (bo : Bool) (n : Int) (bits : Nat) (bs : List Int) (ky el : Int) (ls fs : F) (ihl : F.all It ls) (ihf : F.all It fs) (hty : ¬ (1 ≤ ty ∧ ty ≤ 12)) : It ⟨⟨ty, bo, n, bits, bs, ky, el⟩, ls, fs⟩ := by
  intro hwf dd fld w cs hdd hin
  obtain ⟨bsv, lsv, fsv, lcs, fcs, e, hb, hl, hli, hf, hfi⟩ := hin.out
  obtain ⟨A1, c1, rfl, hc1, _⟩ := hb.out
  have HL := Aside0.mk hl
  have HF := Aside0.mk hf
  obtain ⟨A2, c2, rfl, hc2, _⟩ := hl.out
  obtain ⟨A3, c3, rfl, hc3, _⟩ := hf.out
  have e2 : cs = [.int .i64 ty, .bool bo, .int .i64 n, .int .u64 (bits : Int), .slice A1 bs.length c1, .int .i64 ky, .int .i64 el, .slice A2 ls.len c2, .slice A3 fs.len c3] := e
  subst e2
  have HLi := Aside0.mk hli
  have HFi := Aside0.mk hfi
  have HWF := Aside0.mk hwf
  have HIL := Aside0.mk ihl
  have HIF := Aside0.mk ihf
  have HB : Aside0 (Below w.heap.size w (w.alloc (.cells #[.int .i64 ty, .bool bo, .int .i64 n, .int .u64 (bits : Int), .slice A1 bs.length c1, .int .i64 ky, .int .i64 el, .slice A2 ls.len c2, .slice A3 fs.len c3] 27))) := ⟨(Below.refl _ _).alloc (Nat.le_refl _) _⟩
  have HV := Aside0.mk (Blk.new w #[.int .i64 ty, .bool bo, .int .i64 n, .int .u64 (bits : Int), .slice A1 bs.length c1, .int .i64 ky, .int .i64 el, .slice A2 ls.len c2, .slice A3 fs.len c3] 27)
  have HNL : Aside0 (ls.len ≤ 9223372036854775807) := ⟨by have := hwf.nl; unfold maxLen at this; exact this⟩
  have HNF : Aside0 (fs.len ≤ 9223372036854775807) := ⟨by have := hwf.nf; unfold maxLen at this; exact this⟩
  have hnl := HNL.out
  have hnf := HNF.out
  clear hin e hb hl hli hf hfi hwf ihl ihf
  go_enter Tryd.func11, Tryd.ntmps11
  go_upto_region 1 with (fail)
  generalize hW : World.alloc _ _ = W at HB HV ⊢
  clear hW
  obtain ⟨q0, q1, q2, q3, q4, q5, q6, q7, q8, qz⟩ := nine HV.out
  have y1 : (ty == 1) = false := by rw [beq_eq_false_iff_ne]; omega
  have y2 : (ty == 2) = false := by rw [beq_eq_false_iff_ne]; omega
  have y3 : (ty == 3) = false := by rw [beq_eq_false_iff_ne]; omega
  have y4 : (ty == 4) = false := by rw [beq_eq_false_iff_ne]; omega
  have y5 : (ty == 5) = false := by rw [beq_eq_false_iff_ne]; omega
  have y6 : (ty == 6) = false := by rw [beq_eq_false_iff_ne]; omega
  have y7 : (ty == 7) = false := by rw [beq_eq_false_iff_ne]; omega
  have y8 : (ty == 8) = false := by rw [beq_eq_false_iff_ne]; omega
  have y9 : (ty == 9) = false := by rw [beq_eq_false_iff_ne]; omega
  have y10 : (ty == 10) = false := by rw [beq_eq_false_iff_ne]; omega
  have y11 : (ty == 11) = false := by rw [beq_eq_false_iff_ne]; omega
  have y12 : (ty == 12) = false := by rw [beq_eq_false_iff_ne]; omega
  go_wp2_with (fail)
  go_ret
  exact ⟨⟨false, rfl, ⟨(fun h => nomatch h), fun hP => absurd ⟨(okN_ty hP).1, (okN_ty hP).2.1⟩ hty⟩⟩, HB.out⟩
theorem it_all (x : N) (ihl : F.all It x.ls) (ihf : F.all It x.fs) : It x := by
  obtain ⟨⟨ty, bo, n, bits, bs, ky, el⟩, ls, fs⟩ := x
  by_cases h : 1 ≤ ty ∧ ty ≤ 12
  · have : ty = 1 ∨ ty = 2 ∨ ty = 3 ∨ ty = 4 ∨ ty = 5 ∨ ty = 6 ∨ ty = 7 ∨ ty = 8 ∨ ty = 9 ∨ ty = 10 ∨ ty = 11 ∨ ty = 12 := by omega
    rcases this with rfl | rfl | rfl | rfl | rfl | rfl | rfl | rfl | rfl | rfl | rfl | rfl
    · exact Tiu.it_1 bo n bits bs ky el ls fs ihl ihf
    · exact Tiu.it_2 bo n bits bs ky el ls fs ihl ihf
    · exact Tiu.it_3 bo n bits bs ky el ls fs ihl ihf
    · exact Tiu.it_4 bo n bits bs ky el ls fs ihl ihf
    · exact Tiu.it_5 bo n bits bs ky el ls fs ihl ihf
    · exact Tiu.it_6 bo n bits bs ky el ls fs ihl ihf
    · exact Tiu.it_7 bo n bits bs ky el ls fs ihl ihf
    · intro hwf dd fld w cs hdd hin
      have hbb : bytesB bs = true := by
        obtain ⟨bsv, lsv, fsv, lcs, fcs, e, hb, _⟩ := hin.out
        obtain ⟨_, _, _, _, _, h, _⟩ := hb.out
        exact h
      exact Tiu.it_8 bo n bits bs ky el ls fs ihl ihf hbb hwf dd fld w cs hdd hin
    · exact it_9 bo n bits bs ky el ls fs ihl ihf
    · exact it_10 bo n bits bs ky el ls fs ihl ihf
    · exact it_11 bo n bits bs ky el ls fs ihl ihf
    · exact it_12 bo n bits bs ky el ls fs ihl ihf
  · exact it_other ty bo n bits bs ky el ls fs ihl ihf h
theorem isThing_all (x : N) : It x := it_all x (F.induct it_all x.ls) (F.induct it_all x.fs)
end Go.Proofs.YtcboegodjlfmnaaDoor.Tiv
