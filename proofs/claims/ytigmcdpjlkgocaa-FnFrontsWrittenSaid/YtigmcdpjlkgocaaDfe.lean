import Derived.Test.YtigmcdpjlkgocaaDfe0
import Derived.Deep.CutRange
/-! Texts with shared fronts: the encoder. -/
namespace Go.Proofs.Ytigmcdpjlkgocaa.Dfe
open Go.Proofs.Ytigmcdpjlkgocaa.Dfe0 Go.Proofs.Ytigmcdpjlkgocaa.Dfl Go.Proofs.Ytigmcdpjlkgocaa.Dhd Go.Proofs.Ytigmcdpjlkgocaa.Dgr Go.Proofs.Ytigmcdpjlkgocaa.Dml Go.Proofs.Ytigmcdpjlkgocaa.Dby Go.Proofs.Ytigmcdpjlkgocaa.Dfp Go.Proofs.Ytigmcdpjlkgocaa.Dls Go.Proofs.Ytigmcdpjlkgocaa.Dlp Go.Proofs.Ytigmcdpjlkgocaa.Dre Go.Proofs.Ytigmcdpjlkgocaa.Dle Go.Proofs.Ytigmcdpjlkgocaa.Dib Go.Proofs.Ytigmcdpjlkgocaa.Dew Go.Proofs.Ytigmcdpjlkgocaa.Dtx Go.Proofs.Ytigmcdpjlkgocaa.Dct Go.Proofs.Ytigmcdpjlkgocaa.Dst Go.Proofs.Ytigmcdpjlkgocaa.Deo Go.Proofs.Ytigmcdpjlkgocaa.Den Go.Proofs.Ytigmcdpjlkgocaa.Deb Go.Proofs.Ytigmcdpjlkgocaa.Dds Go.Proofs.Ytigmcdpjlkgocaa.Dpu Go.Proofs.Ytigmcdpjlkgocaa.Pak Go.Proofs.Ytigmcdpjlkgocaa.Buf Go.Proofs.Ytigmcdpjlkgocaa.Fit Go.Proofs.Ytigmcdpjlkgocaa.Bit Go.Proofs.Ytigmcdpjlkgocaa.Wrd Go.Proofs.Ytigmcdpjlkgocaa.Spl Go.Proofs.Ytigmcdpjlkgocaa.Str Go.Proofs.Ytigmcdpjlkgocaa.Flt Go.Proofs.Ytigmcdpjlkgocaa.Owe Go.Proofs.Ytigmcdpjlkgocaa.Num Go.Proofs.Ytigmcdpjlkgocaa.Le Go.Proofs.Ytigmcdpjlkgocaa.Lst Go.Proofs.Ytigmcdpjlkgocaa.Aid Go.RowKit Go.Proofs.YtigmcdpjlkgocaaW.PrintWords Go.Proofs.YtigmcdpjlkgocaaW.PrintLast Go.Proofs.YtigmcdpjlkgocaaW.PrintMore
set_option linter.unusedVariables false
set_option linter.unusedSimpArgs false
set_option maxHeartbeats 32000000 in
set_option maxRecDepth 200000 in
theorem frEncodeS_calls (p0 : Option Addr) (A : Option Addr) (N c : Nat) (B : Option Addr) (m mc k : Nat) (ls : List (List Int)) (w : World) (hC : (Kd.int .u8).C w A N (joinL ls)) (hc : N ≤ c) (hN : N ≤ 100000) (hO : (Kd.int .u32).C w B m (offsL ls m)) (hmc : m ≤ mc) (hm : m = k + 1) (hk : ls.length = k) (hk9 : k ≤ 100000) (hby : ∀ l ∈ ls, bytesB l = true) :
    Calls Try.prog 27 #[.pointer p0, .slice none 0 0, .slice A N c, .slice B m mc] w fun e w' => ∃ v X, e = .returned (.tuple #[v, .nilIface]) ∧ Own w' w.heap.size 5 .u8 v X ∧ (fun X => FrStr ls X 128 4 32 ∧ X.length ≤ 5000000) X ∧ Below w.heap.size w w' := by
  have HJN : Aside0 ((joinL ls).length = N) := ⟨hC.1⟩
  have HC := Aside0.mk hC
  have HO := Aside0.mk hO
  have HKL := Aside0.mk hk
  have HBY := Aside0.mk hby
  have hS9 : sumLen ls = N := by rw [← joinL_length]; exact hC.1
  have HS := Aside0.mk hS9
  have HSM : Aside0 (∀ j : Nat, sumLen (ls.take j) ≤ N) := ⟨fun j => by rw [← hS9]; exact sumLen_le ls j⟩
  have hm1 : 1 ≤ m := by omega
  have qm : decide (0 < (m : Int)) = true := decide_eq_true (by omega)
  have qm2 : decide (0 < m) = true := decide_eq_true (by omega)
  have qm3 : 0 < m := by omega
  have qm4 : (0 : Int) < (m : Int) := by omega
  have HBYT : Aside0 (∀ j : Nat, bytesB (ls.getD j []) = true) := ⟨fun j => by
    by_cases h : j < ls.length
    · exact hby _ (getD_mem h)
    · rw [List.getD_eq_getElem?_getD, List.getElem?_eq_none (by omega)]; rfl⟩
  have HBYP : Aside0 (∀ j : Nat, bytesB (prevL ls j) = true) := ⟨fun j => by
    unfold prevL; split
    · rfl
    · exact HBYT.out _⟩
  obtain ⟨i8, h8⟩ := h8
  obtain ⟨i32, h32⟩ : ∃ i, (Try.prog.info? 60) = some i ∧ i.size = 1 := Option.map_eq_some_iff.1 (show (Try.prog.info? 60).map (fun i => i.size) = some 1 by kernel_rfl)
  obtain ⟨ii32, hi32⟩ : ∃ i, (Try.prog.info? 21) = some i ∧ i.size = 1 := Option.map_eq_some_iff.1 (show (Try.prog.info? 21).map (fun i => i.size) = some 1 by kernel_rfl)
  obtain ⟨cutz, _⟩ := cutHi (P := Try.prog) 23 5 Try.underlying23 h8.1 none 0 0 .i64 0 0 rfl (by omega) (by omega)
  obtain ⟨B1, cutO, hCO⟩ := cutLo (P := Try.prog) 61 60 Try.underlying61 h32.1 h32.2 B m mc .i64 (1 : Int) 1 rfl hm1 hmc
  rw [show m - 1 = k by omega] at cutO hCO
  have HO1 : Aside0 (∀ W1, Below w.heap.size w W1 → (Kd.int .u32).C W1 B1 k ((offsL ls m).drop 1)) := ⟨fun W1 h => hCO (Kd.int .u32) W1 _ rfl (Kd.C_below HO.out h)⟩
  have HOR : Aside0 (∀ j : Nat, j < k → rd ((offsL ls m).drop 1) (j : Nat) = (sumLen (ls.take (j + 1)) : Int)) := ⟨fun j hj => by rw [rd_drop, rd_offsL ls m (1 + j) (by omega), Nat.add_comm 1 j]⟩
  obtain ⟨od, eod, o0⟩ := Kd.at_int hO (0 : Int) (by omega) (by omega)
  rw [show (0 : Int).toNat = 0 from rfl] at o0
  have hrd0 : rd (offsL ls m) (0 : Int) = (0 : Int) := by
    have := rd_offsL ls m 0 (by omega)
    rw [List.take_zero] at this
    exact this
  rw [hrd0] at o0
  have hod : od.add 0 = od := by simp [Addr.add]
  rw [hod] at o0
  have HO0 : Aside0 (∀ W1, Below w.heap.size w W1 → W1.cell? od = some (.int .u32 0)) := ⟨fun W1 h => (h.cell (World.block_lt_of_cell? w _ o0)).trans o0⟩
  have HD0 : Aside0 (∀ W1, Below w.heap.size w W1 → (Kd.int .u8).C W1 none 0 (prevL ls 0)) := ⟨fun W1 _ => ⟨rfl, by omega, fun h => absurd h (by omega)⟩⟩
  clear hC hO hk hS9 hm hby hrd0 hod hCO
  subst eod
  go_enter_defers Try.func27, Try.ntmps27
  go_wp2_with (first
    | (go_at_call 41; (first
      | ((with_reducible refine (getBuf_calls w).mono ?_); rintro e w1 ⟨p1, a1, rfl, hn, hb⟩; have HN1 := Aside0.mk hn; have HB1 := Aside0.mk hb; clear hn hb)
      | ((with_reducible refine (getBuf_calls w1).mono ?_); rintro e w2 ⟨p2, a2, rfl, hn, hb⟩; have HT2 := Aside0.mk (newTwo HN1.out hn hb HB1.out.size); have HB2 := Aside0.mk (HB1.out.trans (hb.mono HB1.out.size)); have oc2 := HO0.out _ HB2.out; clear hn hb))))
  have HTT : Aside0 (Two w2 w.heap.size p1 p2 (.slice (some ⟨a1, 0, none⟩) 0 1024) (.slice (some ⟨a2, 0, none⟩) 0 1024) (intsL []) (lenL (tailsL ls []))) := ⟨HT2.out⟩
  go_loopg [12, 13, 14, 16, 17, 18, 19, 39] k (fun kq v12 v13 v14 v16 v17 v18 v19 v39 w' => ∃ (j o tot : Nat) (ns : List Nat) (Al : Option Addr) (ll cl : Nat) (x1 x2 : Value), j ≤ k ∧ v39 = .int .i64 j ∧ v12 = .int .i64 tot ∧ v13 = .slice Al ll cl ∧ ll ≤ cl ∧ ll ≤ 100000 ∧ v14 = .int .u32 o ∧ Aside0 (o = sumLen (ls.take j)) ∧ Aside0 (tot = sumLen (tailsL ls ns)) ∧ tot ≤ o ∧ Aside0 (ns.length = j) ∧ Aside0 (∀ i : Nat, i < j → FrAt ls i (ns.getD i 0)) ∧ Aside0 ((prevL ls j).length = ll) ∧ Aside0 (∀ W1, Below w.heap.size w W1 → (Kd.int .u8).C W1 Al ll (prevL ls j)) ∧ Aside0 (Two w' w.heap.size p1 p2 x1 x2 (intsL ns) (lenL (tailsL ls ns))) ∧ Aside0 (Below w.heap.size w w') ∧ Aside0 (k - j ≤ kq))
  case atStart => exact ⟨0, 0, 0, [], none, 0, 0, _, _, by omega, rfl, rfl, rfl, by omega, by omega, rfl, ⟨by simp [sumLen]⟩, ⟨by simp [sumLen, tailsL]⟩, by omega, ⟨rfl⟩, ⟨fun i hi => by omega⟩, ⟨rfl⟩, HD0, HTT, HB2, ⟨by omega⟩⟩
  case round =>
    clear HTT HT2 HB2 oc2 HD0 HN1 HB1
    obtain ⟨j, o, tot, ns, Al, ll, cl, x1, x2, hj, rfl, rfl, rfl, hlc, hl9, rfl, HQ, HTO, hto, HNJ, HFA, HPL, HL, HT, HB, HK⟩ := hrel
    by_cases cj : j < k
    · have cjb : decide ((j : Int) < (k : Int)) = true := decide_eq_true (by omega)
      have cjn : decide (j < k) = true := decide_eq_true cj
      obtain ⟨bd, ebd, y0⟩ := Kd.at_int (HO1.out _ HB.out) (j : Int) (by omega) (by omega)
      rw [Int.toNat_natCast, HOR.out j cj] at y0
      have hst := sumLen_take ls j (by rw [HKL.out]; exact cj)
      have hq9 := HSM.out (j + 1)
      have hcut := join_cut ls j (by rw [HKL.out]; exact cj)
      obtain ⟨q, hq⟩ : ∃ q, sumLen (ls.take (j + 1)) = q := ⟨_, rfl⟩
      obtain ⟨d, hd⟩ : ∃ d, (ls.getD j []).length = d := ⟨_, rfl⟩
      rw [hq] at y0 hst hq9 hcut
      rw [hd, ← HQ.out] at hst
      rw [← HQ.out] at hcut
      have HQ1 := Aside0.mk hq
      have HDL := Aside0.mk hd
      obtain ⟨Av, cutv, hCv⟩ := cutMid3 (P := Try.prog) 23 5 Try.underlying23 h8.1 h8.2 A N c .u32 .u32 .u32 (o : Int) (q : Int) (q : Int) o q q rfl rfl rfl (by omega) hq9 (Nat.le_refl _) (by omega) hc
      rw [show q - o = d by omega] at cutv hCv
      have HV : Aside0 (∀ W1, Below w.heap.size w W1 → (Kd.int .u8).C W1 Av d (ls.getD j [])) := ⟨fun W1 h => by have h2 := hCv (Kd.int .u8) W1 _ rfl (Kd.C_below HC.out h); rw [hcut] at h2; exact h2⟩
      have qsub : (q : Int) - (o : Int) = (d : Int) := by omega
      have hd9 : d ≤ 100000 := by omega
      have hqo : o + d = q := by omega
      have bb := World.block_lt_of_cell? wr _ y0
      have qi1 : (j : Int) < (k : Int) := by omega
      have qi0 : (0 : Int) ≤ (j : Int) := by omega
      have HQO := Aside0.mk hqo
      clear hq hd hcut hCv hst hqo
      subst ebd
      go_upto_if 55 with (fail)
      go_cut [19, 39] from 39 to 92 (fun v19 v39 wx => ∃ p : Nat, v39 = .int .i64 j ∧ v19 = .int .i64 p ∧ p ≤ d ∧ Aside0 (FrAt ls j p) ∧ Aside0 (Below wr.heap.size wr wx))
      case first =>
        by_cases c6 : d ≤ 64
        · have q6 : decide ((d : Int) ≤ 64) = true := decide_eq_true (by omega)
          have q6n : decide (d ≤ 64) = true := decide_eq_true c6
          have HCC := Aside0.mk (linear_calls Al ll cl Av d d (prevL ls j) (ls.getD j []) wr (HL.out _ HB.out) (HV.out _ HB.out) (by omega) (by omega))
          go_wp2_with (first
            | (go_at_call 46; go_loud (with_reducible refine HCC.out.mono ?_); rintro e w3 ⟨p, rfl, hca, hd3⟩; have HCA := Aside0.mk hca; have HD3 := Aside0.mk hd3; clear hca hd3))
          go_meet
          exact ⟨p, rfl, rfl, by have := HCA.out.le2; rw [HDL.out] at this; exact this, ⟨⟨HCA.out.le1, HCA.out.le2, HCA.out.eq⟩⟩, ⟨HD3.out.below⟩⟩
        · have q6 : decide ((d : Int) ≤ 64) = false := decide_eq_false (by omega)
          have q6n : decide (d ≤ 64) = false := decide_eq_false c6
          have HCC := Aside0.mk (binary_calls Al ll cl Av d d (prevL ls j) (ls.getD j []) wr (HL.out _ HB.out) (HV.out _ HB.out) hlc (Nat.le_refl _) (HBYP.out j) (HBYT.out j) (by omega) (by omega))
          go_wp2_with (first
            | (go_at_call 47; go_loud (with_reducible refine HCC.out.mono ?_); rintro e w3 ⟨⟨p, rfl, hca, hb3⟩⟩; have HCA := Aside0.mk hca; have HD3 := Aside0.mk hb3; clear hca hb3))
          go_meet
          exact ⟨p, rfl, rfl, by have := HCA.out.le2; rw [HDL.out] at this; exact this, ⟨⟨HCA.out.le1, HCA.out.le2, HCA.out.eq⟩⟩, HD3⟩
      case rest =>
      obtain ⟨p, rfl, rfl, hpd, HF1, HD1⟩ := hcut
      have HT1 := Aside0.mk (HT.out.below HD1.out)
      have HB1 := Aside0.mk (HB.out.trans (HD1.out.mono HB.out.size))
      obtain ⟨t, ht⟩ : ∃ t, d - p = t := ⟨_, rfl⟩
      have hdp : (d : Int) - (p : Int) = (t : Int) := by omega
      obtain ⟨tn, htn⟩ : ∃ tn, tot + t = tn := ⟨_, rfl⟩
      have htt : (tot : Int) + (t : Int) = (tn : Int) := by omega
      have HTN := Aside0.mk htn
      have htn9 : tn ≤ 100000 := by have := HQO.out; omega
      have HTP : Aside0 (((ls.getD j []).drop p).length = t) := ⟨by rw [List.length_drop, HDL.out]; exact ht⟩
      have htd : t ≤ d := by omega
      have ht9 : t ≤ 100000 := by omega
      have hp9 : p ≤ 100000 := by omega
      have qp : IntKind.i32.wrap (p : Int) = (p : Int) := by rw [IntKind.wrap_i32]; omega
      have qt : IntKind.i32.wrap (t : Int) = (t : Int) := by rw [IntKind.wrap_i32]; omega
      have HIL : Aside0 ((intsL ns).length = j) := ⟨by rw [intsL_length]; exact HNJ.out⟩
      have HLL : Aside0 ((lenL (tailsL ls ns)).length = j) := ⟨by rw [lenL_length, tailsL_length]; exact HNJ.out⟩
      have HIL1 : Aside0 ((intsL ns ++ [(p : Int)]).length = j + 1) := ⟨by rw [List.length_append, HIL.out]; rfl⟩
      have HLL1 : Aside0 ((lenL (tailsL ls ns) ++ [(t : Int)]).length = j + 1) := ⟨by rw [List.length_append, HLL.out]; rfl⟩
      have xa1 := HT1.out.b1.cell (j := 0) (v := x1) rfl
      have xb1 := HT1.out.b2.cell (j := 0) (v := x2) rfl
      clear ht HT htn
      go_wp2_with (first
        | (at_builtin; (first
          | (refine appendOwnH (w0 := w) w.heap.size rfl (.tmp 66) (.tmp 69) 37 21 .i32 4 rfl Try.underlying37 infoI32b (by decide) x1 (intsL ns) p rfl rfl HT1.out.o1 HB1.out ?hb ?hl ?_; (case hb => exact HB1.out.size); (case hl => rw [HIL.out]; omega); intro v3 w3 ho hb hg hat; obtain ⟨A3, c3, e3, hc3, _⟩ := ho.read; rw [HIL1.out] at e3 hc3; subst e3; obtain ⟨c1, c2⟩ := HT1.out.grown1 hg; have xa3 := c1.cell (j := 0) (v := x1) rfl; have xf3 := c1.free 0; have xl3 := c1.lt; have HT3 := Aside0.mk (HT1.out.put1 ho hg hat); have HB3 := Aside0.mk (belowGrown hb (grownSet (grownRefl w3 (some p1)) 0 (.slice A3 (j + 1) c3)) HT1.out.bp1); have xb3 := HT3.out.b2.cell (j := 0) (v := x2) rfl; clear ho hb hg hat c1 c2)
          | (go_loud (refine appendOwnH (w0 := w) w.heap.size rfl (.tmp 77) (.tmp 82) 37 21 .i32 4 rfl Try.underlying37 infoI32b (by decide) x2 (lenL (tailsL ls ns)) t rfl (by rw [setSize]; rfl) HT3.out.o2 HB3.out ?hb ?hl ?_); (case hb => exact HB3.out.size); (case hl => rw [HLL.out]; omega); intro v4 w4 ho hb hg hat; obtain ⟨A4, c4, e4, hc4, _⟩ := ho.read; rw [HLL1.out] at e4 hc4; subst e4; obtain ⟨c2, c1⟩ := HT3.out.symm.grown1 hg; have xb4 := c2.cell (j := 0) (v := x2) rfl; have xf4 := c2.free 0; have xl4 := c2.lt; have HT4 := Aside0.mk (HT3.out.symm.put1 ho hg hat).symm; have HB4 := Aside0.mk (belowGrown hb (grownSet (grownRefl w4 (some p2)) 0 (.slice A4 (j + 1) c4)) HT3.out.bp2); clear ho hb hg hat c1 c2))))
      go_roundg (gk - 1)
      case measure => have := HK.out; omega
      case rel =>
        have hnj := HNJ.out
        refine ⟨j + 1, q, tn, ns ++ [p], Av, d, d, .slice A3 (j + 1) c3, .slice A4 (j + 1) c4, by omega, by go_num, by go_num, rfl, Nat.le_refl _, hd9, by go_num, ⟨HQ1.out.symm⟩, ⟨?_⟩, by have := HQO.out; have := HTN.out; omega, ⟨by rw [List.length_append, hnj]; rfl⟩, ⟨fun i hi => ?_⟩, ⟨HDL.out⟩, ⟨fun W1 hW => HV.out W1 hW⟩, ⟨?_⟩, HB4, ⟨by have := HK.out; omega⟩⟩
        · rw [tailsL_snoc, hnj, ← HTN.out, HTO.out]
          simp [sumLen, ← HTP.out]
        · by_cases h : i < j
          · rw [List.getD_eq_getElem?_getD, List.getElem?_append_left (by omega), ← List.getD_eq_getElem?_getD]; exact HFA.out i h
          · obtain rfl : i = j := by omega
            rw [List.getD_eq_getElem?_getD, List.getElem?_append_right (by omega), hnj, Nat.sub_self]; exact HF1.out
        · rw [intsL_snoc, tailsL_snoc, hnj]
          have e : lenL (tailsL ls ns ++ [(ls.getD j []).drop p]) = lenL (tailsL ls ns) ++ [(t : Int)] := by simp [lenL, ← HTP.out]
          rw [e]
          exact HT4.out
    · obtain rfl : j = k := by omega
      have cjb : decide ((j : Int) < (j : Int)) = false := decide_eq_false (by omega)
      generalize wr = w3 at *
      have HFO : Aside0 (FrOk ls ns) := ⟨⟨by rw [HNJ.out, HKL.out], fun i hi => HFA.out i (by rw [← HKL.out]; exact hi)⟩⟩
      have HNL := HNJ
      have HIL : Aside0 ((intsL ns).length = j) := ⟨by rw [intsL_length]; exact HNJ.out⟩
      have HTL : Aside0 ((tailsL ls ns).length = j) := ⟨by rw [tailsL_length]; exact HNJ.out⟩
      have HLL : Aside0 ((lenL (tailsL ls ns)).length = j) := ⟨by rw [lenL_length]; exact HTL.out⟩
      obtain ⟨A1, c1, e1, hc1, hr1⟩ := HT.out.o1.read
      obtain ⟨A2, c2, e2, hc2, hr2⟩ := HT.out.o2.read
      rw [HIL.out] at e1 hc1 hr1
      rw [HLL.out] at e2 hc2 hr2
      subst e1 e2
      have HR1 := Aside0.mk hr1
      have HR2 := Aside0.mk hr2
      have HIB := Aside0.mk (intsL_bd HFO.out (by have := HS.out; omega))
      have HSL : Aside0 (sumLen (tailsL ls ns) ≤ 100000) := ⟨Nat.le_trans (tails_le HFO.out.len) (by have := HS.out; omega)⟩
      have HLB : Aside0 (∀ x ∈ lenL (tailsL ls ns), -2147483648 ≤ x ∧ x ≤ 2147483647) := ⟨fun x hx => by have := lenL_bd _ HSL.out x hx; omega⟩
      have xa3 := HT.out.b1.cell (j := 0) (v := .slice A1 j c1) rfl
      have xb3 := HT.out.b2.cell (j := 0) (v := .slice A2 j c2) rfl
      have HXX : Aside0 (∀ W1, Below w3.heap.size w3 W1 → W1.cell? ⟨p1, 0, none⟩ = some (.slice A1 j c1) ∧ W1.cell? ⟨p2, 0, none⟩ = some (.slice A2 j c2)) := ⟨fun W1 h => ⟨(h.cell HT.out.b1.lt).trans xa3, (h.cell HT.out.b2.lt).trans xb3⟩⟩
      have HBW : Aside0 (∀ W1, Below w3.heap.size w3 W1 → Below w.heap.size w W1) := ⟨fun W1 h => HB.out.trans (h.mono HB.out.size)⟩
      have htot9 : tot ≤ 100000 := by have h1 := HSM.out j; have h2 := HQ.out; omega
      obtain ⟨X1, hX1⟩ : ∃ X1 : List Int, X1 = hdL j (fstI (intsL ns)) := ⟨_, rfl⟩
      obtain ⟨cuts, _⟩ := cutHi (P := Try.prog) 37 21 Try.underlying37 hi32.1 A2 j c2 .i64 (j : Int) j rfl (Nat.le_refl _) hc2
      have HX1 : Aside0 (X1 = hdL j (fstI (intsL ns)) ∧ X1.length ≤ 40) := ⟨⟨hX1, by rw [hX1]; exact hdL_le j _ (by omega) (by have := (fstI_bd HIB.out).1; omega) (by have := (fstI_bd HIB.out).2; omega)⟩⟩
      obtain ⟨X2, hX2⟩ : ∃ X2 : List Int, X2 = hdL j (fstI (lenL (tailsL ls ns))) := ⟨_, rfl⟩
      have HX2 : Aside0 (X2 = hdL j (fstI (lenL (tailsL ls ns))) ∧ X2.length ≤ 40 ∧ 0 < X2.length) := ⟨⟨hX2, by rw [hX2]; exact hdL_le j _ (by omega) (by have := (fstI_bd HLB.out).1; omega) (by have := (fstI_bd HLB.out).2; omega), by rw [hX2]; unfold hdL; simp only [List.length_append]; have := varL_pos 128; omega⟩⟩
      clear HNJ HFA HL HPL hr1 hr2 hX1 hX2
      go_wp2_with (first
        | (go_at_call 45; (first
          | ((with_reducible refine (encInt32_calls w3 A1 j c1 (intsL ns) (.slice none 0 0) [] w3 (Own.nil _ _ _ _) (Below.refl _ _) HR1.out hc1 hk9 (by simp) (wf32_of HIB.out)).mono ?_); rintro e w4 ⟨v4, bs1, rfl, ho, hen, hb⟩; rw [List.nil_append, ← HX1.out.1] at ho; have HO4 := Aside0.mk ho; have HE4 := Aside0.mk hen; have HB4 := Aside0.mk hb; have xb4 := (HXX.out _ hb).2; have HL4 : Aside0 ((X1 ++ blksB bs1).length ≤ 2000040) := (Aside0.mk (by rw [List.length_append]; have h1 := HX1.out.2; have h2 := hen.len; omega)); clear ho hen hb)
          | ((with_reducible refine (encInt32_calls w3 A2 j c2 (lenL (tailsL ls ns)) v4 (X1 ++ blksB bs1) w4 HO4.out HB4.out HR2.out hc2 hk9 (by have := HL4.out; omega) (wf32_of HLB.out)).mono ?_); rintro e w5 ⟨v5, bs2, rfl, ho, hen, hb⟩; rw [← HX2.out.1] at ho; have HE5 := Aside0.mk hen; have HB5 := Aside0.mk hb; obtain ⟨Y, hY⟩ : ∃ Y, X1 ++ blksB bs1 ++ X2 ++ blksB bs2 = Y := ⟨_, rfl⟩; rw [hY] at ho; have hYl : Y.length ≤ 4000080 ∧ 0 < Y.length := (by rw [← hY, List.length_append, List.length_append]; have h1 := HL4.out; have h2 := hen.len; have h3 := HX2.out.2; omega); obtain ⟨hYl1, hYl0⟩ := hYl; have HYE := Aside0.mk hY; have HO5 := Aside0.mk ho; obtain ⟨A5, c5, e5, hc5, _⟩ := ho.read; obtain ⟨L, hL⟩ : ∃ L, Y.length = L := ⟨_, rfl⟩; rw [hL] at e5 hc5 hYl1 hYl0; subst e5; have HYL := Aside0.mk hL; obtain ⟨sz, hsz⟩ : ∃ sz, L + tot = sz := ⟨_, rfl⟩; have hszi : (L : Int) + (tot : Int) = (sz : Int) := (by omega); have hszL : (sz : Int) - (tot : Int) = (L : Int) := (by omega); have HSZ := Aside0.mk hsz; have hsz9 : sz ≤ 4200000 := (by omega); have hLsz : L ≤ sz := (by omega); clear ho hen hb hY hL hsz)))
        | (go_at_call 48; go_loud (with_reducible refine (resizeA_calls w3.heap.size _ Y L tot sz w5 HO5.out HB5.out.size HYL.out hYl0 HSZ.out.symm (by omega)).mono ?_); rintro e w6 ⟨g, M, rfl, hf, hsM, hM9, hbg, hg⟩; have HF6 := Aside0.mk hf; have HB6 := Aside0.mk (belowGrown HB5.out hg hbg); obtain ⟨xa6, xb6⟩ := HXX.out _ HB6.out; have oc6 := HO0.out _ (HBW.out _ HB6.out); have hcb : ∃ Ab, (∀ W : World, (Instr.slice 23 (.slice (some ⟨g, 0, none⟩) sz M) (some (.int .i64 (L : Int))) none none).run Try.prog W = .ok (.slice Ab tot (M - L)) W) ∧ (0 < tot → Ab = some ⟨g, L, none⟩) := (by
            have hst : sz - L = tot := by have := HSZ.out; omega
            by_cases h : L < M
            · have hx := cutFrom0 (P := Try.prog) 23 5 Try.underlying23 h8.1 h8.2 g sz M L hLsz hsM h
              rw [hst] at hx
              exact ⟨_, hx, fun _ => rfl⟩
            · obtain ⟨Ab, hx, _⟩ := cutLo (P := Try.prog) 23 5 Try.underlying23 h8.1 h8.2 (some ⟨g, 0, none⟩) sz M .i64 (L : Int) L rfl hLsz hsM
              rw [hst] at hx
              exact ⟨Ab, hx, fun h2 => by omega⟩); obtain ⟨Ab, cutb, hAb⟩ := hcb; have HAB := Aside0.mk hAb; have htM : tot ≤ M - L := (by have := HSZ.out; omega); clear hf hg hAb)
        | go_quiet (fail))
      have hbq := HB6.out.trans ((drewN_below w6 nq).mono HB6.out.size)
      have hfq := HF6.out.drewN nq
      generalize w6.drewN nq = w7 at *
      have HB7 := Aside0.mk hbq
      have HF7 : Aside0 (Front w7 g M 5 .u8 (Y ++ joinL ((tailsL ls ns).take 0) ++ List.replicate (tot - 0) 0)) := ⟨by simpa [joinL] using hfq⟩
      have HTS : Aside0 (∀ q : Nat, sumLen ((tailsL ls ns).take q) ≤ tot) := ⟨fun q => by rw [HTO.out]; exact sumLen_le _ q⟩
      have HMB : Aside0 (w3.heap.size ≤ g) := ⟨hbg⟩
      clear hbq hfq HF6 HB6 HO5 HB5 HO4 HB4
      go_loopg [21, 22, 23, 24, 25, 141] j (fun kq v21 v22 v23 v24 v25 v141 w' => ∃ (q i jj : Nat), q ≤ j ∧ v141 = .int .i64 q ∧ v21 = .int .i64 i ∧ v22 = .int .i64 jj ∧ i ≤ N ∧ jj ≤ tot ∧ Aside0 (i = sumLen (ls.take q)) ∧ Aside0 (jj = sumLen ((tailsL ls ns).take q)) ∧ Aside0 (Front w' g M 5 .u8 (Y ++ joinL ((tailsL ls ns).take q) ++ List.replicate (tot - jj) 0)) ∧ Aside0 (Below w3.heap.size w3 w') ∧ Aside0 (j - q ≤ kq))
      case atStart => exact ⟨0, 0, 0, by omega, rfl, rfl, rfl, by omega, by omega, ⟨by simp [sumLen]⟩, ⟨by simp [sumLen]⟩, HF7, HB7, ⟨by omega⟩⟩
      case round =>
        clear HF7 HB7
        obtain ⟨q, i, jj, hqj, rfl, rfl, rfl, hiN, hjt, HI, HJ, HF, HB8, HK2⟩ := hrel
        by_cases cq : q < j
        · have cqb : decide ((q : Int) < (j : Int)) = true := decide_eq_true (by omega)
          have cqn : decide (q < j) = true := decide_eq_true cq
          have hfa := HFO.out.at' q (by rw [HKL.out]; exact cq)
          obtain ⟨ad, ead, x0⟩ := Kd.at_int (Kd.C_below HR1.out HB8.out) (q : Int) (by omega) (by omega)
          obtain ⟨bd, ebd, y0⟩ := Kd.at_int (Kd.C_below HR2.out HB8.out) (q : Int) (by omega) (by omega)
          rw [Int.toNat_natCast, rd_intsL ns q (by rw [HNL.out]; exact cq)] at x0
          rw [Int.toNat_natCast, rd_lenL _ q (by rw [HTL.out]; exact cq)] at y0
          have hst := sumLen_take (tailsL ls ns) q (by rw [HTL.out]; exact cq)
          have hts := HTS.out (q + 1)
          have hls := sumLen_take ls q (by rw [HKL.out]; exact cq)
          have hlm := HSM.out (q + 1)
          have htg := tailsL_getD ls ns q (by rw [HNL.out]; exact cq)
          have hjt2 := joinL_take (tailsL ls ns) q (by rw [HTL.out]; exact cq)
          obtain ⟨p, hp⟩ : ∃ p, ns.getD q 0 = p := ⟨_, rfl⟩
          rw [hp] at x0 hfa htg
          have hcut := join_snoc_cut ls q p (by rw [HKL.out]; exact cq) hfa.le2
          rw [← htg] at hcut
          obtain ⟨l, hl⟩ : ∃ l, (tailsL ls ns).getD q [] = l := ⟨_, rfl⟩
          rw [hl] at y0 hst hcut hjt2 htg
          obtain ⟨d, hd⟩ : ∃ d, l.length = d := ⟨_, rfl⟩
          rw [hd] at y0 hst
          have hple := hfa.le2
          have hdn : p + d = (ls.getD q []).length := by rw [← hd, htg, List.length_drop]; omega
          obtain ⟨nn, hnn⟩ : ∃ nn, p + d = nn := ⟨_, rfl⟩
          rw [hnn] at hdn
          rw [← hdn, ← HI.out] at hls
          rw [← HI.out] at hcut
          rw [hls] at hcut hlm
          rw [← HJ.out] at hst
          rw [hst] at hts
          have HI1 : Aside0 (i + nn = sumLen (ls.take (q + 1))) := ⟨hls.symm⟩
          have HJ1 : Aside0 (jj + d = sumLen ((tailsL ls ns).take (q + 1))) := ⟨hst.symm⟩
          obtain ⟨a, ha⟩ : ∃ a, i + p = a := ⟨_, rfl⟩
          obtain ⟨b, hb⟩ : ∃ b, i + nn = b := ⟨_, rfl⟩
          rw [ha, hb] at hcut
          rw [hb] at hlm
          have hab : b - a = d := by omega
          obtain ⟨j2, hj2⟩ : ∃ j2, jj + d = j2 := ⟨_, rfl⟩
          obtain ⟨As, cuts2, hCs⟩ := cutMid (P := Try.prog) 23 5 Try.underlying23 h8.1 h8.2 A N c .i64 .i64 (a : Int) (b : Int) a b rfl rfl (by omega) hlm hc
          rw [hab] at cuts2 hCs
          have HCS : Aside0 (∀ W1, Below w3.heap.size w3 W1 → (Kd.int .u8).C W1 As d l) := ⟨fun W1 h => by have h2 := hCs (Kd.int .u8) W1 _ rfl (Kd.C_below HC.out (HBW.out _ h)); rw [hcut] at h2; exact h2⟩
          have hpd : (p : Int) + (d : Int) = (nn : Int) := by omega
          have hia : (i : Int) + (p : Int) = (a : Int) := by omega
          have hib : (i : Int) + (nn : Int) = (b : Int) := by omega
          have hjd : (jj : Int) + (d : Int) = (j2 : Int) := by omega
          have qw0 : IntKind.i32.wrap (nn : Int) = (nn : Int) := by rw [IntKind.wrap_i32]; omega
          have qw1 : IntKind.i64.wrap (a : Int) = (a : Int) := IntWalk.i64_in _ (by omega)
          have qw2 : IntKind.i64.wrap (b : Int) = (b : Int) := IntWalk.i64_in _ (by omega)
          have qw3 : IntKind.i64.wrap (j2 : Int) = (j2 : Int) := IntWalk.i64_in _ (by omega)
          have qw4 : IntKind.i64.wrap (p : Int) = (p : Int) := IntWalk.i64_in _ (by omega)
          have qw5 : IntKind.i64.wrap (nn : Int) = (nn : Int) := IntWalk.i64_in _ (by omega)
          have hb9 : b ≤ N := hlm
          have hj2t : j2 ≤ tot := by omega
          have HJ2 : Aside0 (j2 = sumLen ((tailsL ls ns).take (q + 1))) := ⟨by rw [← HJ1.out]; exact hj2.symm⟩
          have HI2 : Aside0 (b = sumLen (ls.take (q + 1))) := ⟨by rw [← HI1.out]; exact hb.symm⟩
          have HLD := Aside0.mk hd
          have HJT := Aside0.mk hjt2
          have hz : tot - jj - d = tot - j2 := by omega
          have HZ := Aside0.mk hz
          have hdz : d ≤ tot - jj := by omega
          have HYJ : Aside0 ((Y ++ joinL ((tailsL ls ns).take q)).length = L + jj) := ⟨by rw [List.length_append, joinL_length, HYL.out, ← HJ.out]⟩
          obtain ⟨xa8, xb8⟩ := HXX.out _ HB8.out
          have b0 := World.block_lt_of_cell? wr _ x0
          have b1 := World.block_lt_of_cell? wr _ y0
          have qi1 : (q : Int) < (j : Int) := by omega
          have qi0 : (0 : Int) ≤ (q : Int) := by omega
          have HB9 : Aside0 (Below w3.heap.size w3 wr.drew) := ⟨HB8.out.drew⟩
          have HF9 : Aside0 (Front wr.drew g M 5 .u8 (Y ++ joinL ((tailsL ls ns).take q) ++ List.replicate (tot - jj) 0)) := ⟨HF.out.drewN 1⟩
          clear hst hts hls htg hp hl hd hple hdn hnn hcut ha hb hab hj2 hCs hjt2 hz hfa
          subst ead ebd
          by_cases hd0 : d = 0
          · have HD0 := Aside0.mk hd0
            obtain rfl : j2 = jj := by omega
            clear hjd
            obtain ⟨Ac, cutc, _⟩ := cutLo (P := Try.prog) 23 5 Try.underlying23 h8.1 h8.2 Ab tot (M - L) .i64 (j2 : Int) j2 rfl hjt htM
            have HLN : Aside0 (l = []) := ⟨List.eq_nil_of_length_eq_zero (by rw [HLD.out]; exact hd0)⟩
            clear hd0
            go_wp2_with (fail)
            go_region_held3 (fun (w9 : World) => True) (trivial)
              ((first
                | (refine copyNoneStep (by rfl) (.tmp 158) (.tmp 168) 23 23 (by rfl) 5 Try.underlying23 ?h1 Ac As (tot - j2) (M - L - j2) d (c - a) (by rfl) (by rfl) ?hn ?_; (case h1 => kernel_rfl); (case hn => rw [HD0.out]; exact Nat.zero_min _))
                | fail "no arm"))
            go_wp2_with (fail)
            go_roundg (gk - 1)
            case measure => have := HK2.out; omega
            case rel =>
              refine ⟨q + 1, b, j2, by omega, by go_num, by go_num, by go_num, hb9, hj2t, HI2, HJ2, ⟨?_⟩, HB9, ⟨by have := HK2.out; omega⟩⟩
              have h := HF9.out
              rw [HJT.out, HLN.out, List.append_nil]
              exact h
          · have hdp : 0 < d := by omega
            obtain rfl : Ab = some ⟨g, L, none⟩ := HAB.out (by omega)
            have cutc := cutFromO (P := Try.prog) 23 5 Try.underlying23 h8.1 h8.2 g L tot (M - L) jj hjt htM (by omega)
            have HSRC : Aside0 (∃ sd, As = some sd ∧ ∀ i v, (nums .u8 l)[i]? = some v → wr.drew.cell? (sd.add i) = some v) := ⟨copySrc (HCS.out _ HB9.out) (by rw [HLD.out]; exact hdp)⟩
            obtain ⟨⟨sd, rfl, hsrc⟩⟩ := HSRC
            have HSRC := Aside0.mk hsrc
            clear hsrc hd0
            go_wp2_with (fail)
            go_region_held3 (fun (w9 : World) => True) (trivial)
              ((first
                | (refine copyFrontStep (by rfl) (.tmp 158) (.tmp 168) 23 23 (by rfl) 5 Try.underlying23 ?h1 g (tot - jj) (M - L - jj) sd d (c - a) (Y ++ joinL ((tailsL ls ns).take q)) l (List.replicate (tot - jj) 0) ?hd (by rfl) 5 M .u8 HF9.out ?hn HSRC.out ?hy ?_; (case h1 => kernel_rfl); (case hd => rw [HYJ.out]; rfl); (case hn => rw [HLD.out]; exact (Nat.min_eq_left hdz).symm); (case hy => rw [HLD.out, List.length_replicate]; exact hdz); intro w9 hf hg; rw [HLD.out, zeros_drop, HZ.out, List.append_assoc Y, ← HJT.out] at hf; rw [HLD.out]; have HF2 := Aside0.mk hf; have HB2 := Aside0.mk (belowGrown HB9.out hg HMB.out); clear hf hg)
                | fail "no arm"))
            go_wp2_with (fail)
            go_roundg (gk - 1)
            case measure => have := HK2.out; omega
            case rel => exact ⟨q + 1, b, j2, by omega, by go_num, by go_num, by go_num, hb9, hj2t, HI2, HJ2, HF2, HB2, ⟨by have := HK2.out; omega⟩⟩
        · obtain rfl : q = j := by omega
          have cqb : decide ((q : Int) < (q : Int)) = false := decide_eq_false (by omega)
          have hjt3 : jj = tot := by rw [HJ.out, HTO.out, ← HTL.out, List.take_length]
          have HFL : Aside0 (Front wr g M 5 .u8 (Y ++ joinL (tailsL ls ns))) := ⟨by
            have h := HF.out
            rw [hjt3, Nat.sub_self, List.replicate_zero, List.append_nil, ← HTL.out, List.take_length] at h
            exact h⟩
          have HYT : Aside0 ((Y ++ joinL (tailsL ls ns)).length = sz) := ⟨by rw [List.length_append, HYL.out, joinL_length, ← HTO.out]; exact HSZ.out⟩
          clear hjt3
          go_wp2_with (fail)
          refine leaves_cons (f := 42) (args := #[.pointer (some ⟨p2, 0, none⟩)]) (by simp) (by simp [go_sem]) ?_
          refine (putBuf_d _ _ _).mono ?_
          rintro e u' w'' ⟨rfl, rfl, rfl⟩
          refine leaves_cons (u := .returning) (f := 42) (args := #[.pointer (some ⟨p1, 0, none⟩)]) (by simp) (by simp [go_sem]) ?_
          refine (putBuf_d _ _ _).mono ?_
          rintro e u' w'' ⟨rfl, rfl, rfl⟩
          have hown := HFL.out.toOwn (base := w.heap.size) (Nat.le_trans HB.out.size HMB.out) hM9
          rw [HYT.out] at hown
          refine ⟨_, results_tmp2 rfl _ _ _, _, _, rfl, hown, ⟨⟨ns, X2 ++ blksB bs2 ++ joinL (tailsL ls ns), bs1, HFO.out, numStr_of_enc HE4.out ?_ HIB.out, bs2, numStr_of_enc HE5.out ?_ HLB.out⟩, ?_⟩, HBW.out _ HB8.out⟩
          · rw [← HYE.out, HX1.out.1, HIL.out]; simp [List.append_assoc]
          · rw [HX2.out.1, HLL.out]
          · rw [HYT.out]; omega
end Go.Proofs.Ytigmcdpjlkgocaa.Dfe
