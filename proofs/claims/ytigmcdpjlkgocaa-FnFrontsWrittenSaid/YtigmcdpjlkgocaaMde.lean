import Derived.Test.YtigmcdpjlkgocaaMdb
/-! The encoder of differences: lists of two and more. -/
namespace Go.Proofs.Ytigmcdpjlkgocaa.Dep
open Go.Proofs.Ytigmcdpjlkgocaa.Dsr Go.Proofs.Ytigmcdpjlkgocaa.Dst Go.Proofs.Ytigmcdpjlkgocaa.Deo Go.Proofs.Ytigmcdpjlkgocaa.Den Go.Proofs.Ytigmcdpjlkgocaa.Deb Go.Proofs.Ytigmcdpjlkgocaa.Drx Go.Proofs.Ytigmcdpjlkgocaa.Dds Go.Proofs.Ytigmcdpjlkgocaa.Dmw Go.Proofs.Ytigmcdpjlkgocaa.Dml Go.Proofs.Ytigmcdpjlkgocaa.Dbw Go.Proofs.Ytigmcdpjlkgocaa.Dbk Go.Proofs.Ytigmcdpjlkgocaa.Dhd Go.Proofs.Ytigmcdpjlkgocaa.Dgr Go.Proofs.Ytigmcdpjlkgocaa.Dpu Go.Proofs.Ytigmcdpjlkgocaa.Pak Go.Proofs.Ytigmcdpjlkgocaa.Buf Go.Proofs.Ytigmcdpjlkgocaa.Fit Go.Proofs.Ytigmcdpjlkgocaa.Bit Go.Proofs.Ytigmcdpjlkgocaa.Wrd Go.Proofs.Ytigmcdpjlkgocaa.Spl Go.Proofs.Ytigmcdpjlkgocaa.Str Go.Proofs.Ytigmcdpjlkgocaa.Flt Go.Proofs.Ytigmcdpjlkgocaa.Owe Go.Proofs.Ytigmcdpjlkgocaa.Num Go.Proofs.Ytigmcdpjlkgocaa.Le Go.Proofs.Ytigmcdpjlkgocaa.Lst Go.Proofs.Ytigmcdpjlkgocaa.Aid Go.RowKit Go.Proofs.YtigmcdpjlkgocaaW.PrintWords Go.Proofs.YtigmcdpjlkgocaaW.PrintLast Go.Proofs.YtigmcdpjlkgocaaW.PrintMore
set_option linter.unusedVariables false
set_option linter.unusedSimpArgs false
theorem runFresh {P : Program} (cs : Array Value) (t : TypeId) (h1 : ∀ v ∈ cs.toList, v.oneCell' = true) (W : World) : (storeCells ⟨W.heap.size, 0, none⟩ cs.toList).run P (W.alloc (.cells cs t)) = .ok () (W.alloc (.cells cs t)) := by
  have hg : (W.alloc (.cells cs t)).heap[W.heap.size]? = some (.cells cs t (0, 0)) := heap_alloc_new _ _
  rw [run_storeCells_at P W.heap.size 0 t cs.toList 0 cs _ hg (by simp) h1]
  have e : (cs.toList.take (0 + 0) ++ cs.toList ++ cs.toList.drop (0 + 0 + cs.toList.length)).toArray = cs := by
    rw [List.drop_eq_nil_of_le (by omega)]; simp
  rw [e]; exact congrArg (Result.ok ()) (setRow_self _ _ cs t (0, 0) hg)
theorem stz_own {w0 w : World} {v : Value} {xs : List Int} (h : Stz w0 v xs w) (hx : 0 < xs.length) : ∃ g C, v = .slice (some ⟨g, 0, none⟩) xs.length C ∧ w0.heap.size ≤ g ∧ g < w.heap.size := by
  rcases own_front h.own with ⟨_, e⟩ | ⟨g, C, e, h1, _, h2⟩
  · rw [e] at hx; simp at hx
  · exact ⟨g, C, e, h1, h2.lt⟩
theorem slice_ne {g C n k : Nat} (h : g ≠ k) : (Value.slice (some ⟨g, 0, none⟩) n C).ownBlock ≠ some k := fun e => by
  have : some g = some k := e
  injection this with this
  exact h this
theorem cells4_keep {w w' : World} {g gw : Nat} {v0 v1 v2 v3 : Value} (hg : w.drew.grownBy w' (some g)) (hlt : gw < w.heap.size) (hne : some gw ≠ some g) (h : w.cell? ⟨gw, 0, none⟩ = some v0 ∧ w.cell? ⟨gw, 1, none⟩ = some v1 ∧ w.cell? ⟨gw, 2, none⟩ = some v2 ∧ w.cell? ⟨gw, 3, none⟩ = some v3) : w'.cell? ⟨gw, 0, none⟩ = some v0 ∧ w'.cell? ⟨gw, 1, none⟩ = some v1 ∧ w'.cell? ⟨gw, 2, none⟩ = some v2 ∧ w'.cell? ⟨gw, 3, none⟩ = some v3 := by
  have hb : w'.heap[gw]? = w.heap[gw]? := hg.block gw hlt hne
  have e : ∀ o, w'.cell? ⟨gw, o, none⟩ = w.cell? ⟨gw, o, none⟩ := fun o => by unfold World.cell?; rw [hb]
  rw [e, e, e, e]; exact h
theorem infoU8s : (Try.prog.info? 5).map (fun i => i.size) = some 1 := by kernel_rfl
theorem hdL_pos (T : Nat) (f : Int) : 0 < (hdL T f).length := by
  have := varL_pos 128
  unfold hdL
  simp only [List.length_append]; omega
set_option maxHeartbeats 16000000 in
set_option maxRecDepth 100000 in
/-- lists of two and more -/
theorem encInt64Long_calls (w0 : World) (A : Option Addr) (N c : Nat) (l : List Int) (v : Value) (xs : List Int) (w : World) (hO : Own w w0.heap.size 5 .u8 v xs) (hB : Below w0.heap.size w0 w) (hC : (Kd.int .i64).C w0 A N l) (hc : N ≤ c) (hn : 2 ≤ N) (hn9 : N ≤ 100000) (hx : xs.length ≤ 16777216) (hwf : ∀ x ∈ l, (Lit.int .i64 x).wf = true) :
    Calls Try.prog 56 #[v, .slice A N c] w fun e w' => ∃ v1 bs, e = .returned v1 ∧ Own w' w0.heap.size 5 .u8 v1 (xs ++ hdL N (fstI l) ++ blksB bs) ∧ strOk 64 4 32 (N - 1) bs ∧ (fstI l :: blksV .i64 (fstI l) bs).take N = l ∧ (blksB bs).length ≤ 2000000 ∧ Below w0.heap.size w0 w' := by
  have HLN : Aside0 (l.length = N) := ⟨hC.1⟩
  obtain ⟨A0, c0, rfl, hc0, _⟩ := hO.read
  have HB := Aside0.mk hB
  have HC := Aside0.mk hC
  obtain ⟨n, hn0⟩ : ∃ n, xs.length = n := ⟨_, rfl⟩
  have HN := Aside0.mk hn0
  have HRS := Aside0.mk (resizeZ_calls w0.heap.size _ xs (n + 80) w hO hB.size (by omega) (by omega))
  rw [hn0] at hO hc0 hx HRS ⊢
  rw [show ((n + 80 : Nat) : Int) = (n : Int) + 80 by omega, show n + 80 - n = 80 by omega] at HRS
  have hfb : -9223372036854775808 ≤ fstI l ∧ fstI l ≤ 9223372036854775807 := by
    cases l with
    | nil => show -9223372036854775808 ≤ (0 : Int) ∧ (0 : Int) ≤ 9223372036854775807; omega
    | cons x l =>
      have := hwf x (by simp)
      simp [Lit.wf, IntKind.min, IntKind.max, IntKind.signed, IntKind.bits] at this
      show -9223372036854775808 ≤ x ∧ x ≤ 9223372036854775807; omega
  have HWF : Aside0 (∀ x ∈ l, -9223372036854775808 ≤ x ∧ x ≤ 9223372036854775807) := ⟨fun x hx => by
    have := hwf x hx
    simp [Lit.wf, IntKind.min, IntKind.max, IntKind.signed, IntKind.bits] at this
    omega⟩
  obtain ⟨f, hf⟩ : ∃ f, fstI l = f := ⟨_, rfl⟩
  rw [hf] at hfb ⊢
  have HFQ := Aside0.mk hf
  have HHD : Aside0 (∀ W g M, Front W g M 5 .u8 (xs ++ List.replicate 80 0) → n + 80 ≤ M → M ≤ 9223372036854775807 → Calls Try.prog 76 #[.slice (some ⟨g, n, none⟩) 80 (M - n), .int .i64 128, .int .i64 4, .int .i64 N, .int .i64 f] W fun e w' => e = .returned (.int .i64 ((hdL N f).length : Int)) ∧ (hdL N f).length ≤ 40 ∧ Front w' g M 5 .u8 (xs ++ hdL N f ++ (List.replicate 80 0).drop (hdL N f).length) ∧ W.grownBy w' (some g)) := ⟨fun W g M hfr h1 h2 => by
    have := header_calls g M 5 80 (M - n) xs (List.replicate 80 0) N f W hfr (by omega) (by omega) (by omega) (by omega) (by omega) (by omega) (by rw [List.length_replicate]; omega)
    rw [HN.out] at this; exact this⟩
  obtain ⟨i8, h8⟩ := h8
  clear hO hB hn0 hf hC hwf
  obtain ⟨ad, ead, hcell⟩ := Kd.at_int (Kd.C_below HC.out HB.out) 0 (by omega) (by omega)
  have hcell : w.cell? (ad.add 0) = some (.int .i64 (rd l 0)) := hcell
  have had : ad.add 0 = ad := by simp [Addr.add]
  have hrf : rd l 0 = f := by
    rw [← HFQ.out]
    cases l with
    | nil => have := HLN.out; simp at this; omega
    | cons x l => rfl
  rw [had, hrf] at hcell
  subst ead
  have HRF := Aside0.mk hrf
  clear had hrf
  have q2 : decide ((N : Int) < 2) = false := decide_eq_false (by omega)
  have q0 : decide (0 < (N : Int)) = true := decide_eq_true (by omega)
  have q02 : decide (0 < N) = true := decide_eq_true (by omega)
  have q22 : decide (N < 2) = false := decide_eq_false (by omega)
  go_enter Try.func56, Try.ntmps56
  go_wp2_with (first
    | (go_at_call 48; go_loud (with_reducible refine HRS.out.mono ?_); rintro e w2 ⟨g, M, rfl, hf, h1, h2, h3, h4, hg⟩; have HF2 := Aside0.mk hf; have HG2 := Aside0.mk hg; have cut1 := cutFrom0 (P := Try.prog) 23 5 Try.underlying23 h8.1 h8.2 g (n + 80) M n (by omega) h1 (by omega); rw [show n + 80 - n = 80 by omega] at cut1; clear hf hg)
    | (go_at_call 76; go_loud (with_reducible refine (HHD.out w2 g M HF2.out h1 h2).mono ?_); rintro e w3 ⟨rfl, hle, hf, hg⟩; have HF3 := Aside0.mk hf; have HG3 := Aside0.mk hg; obtain ⟨L, hL⟩ : ∃ L, (hdL N f).length = L := ⟨_, rfl⟩; rw [hL] at hle; rw [hL]; have HLQ := Aside0.mk hL; have cut2 := cutAtMid0 (P := Try.prog) 23 5 Try.underlying23 h8.1 h8.2 g (n + 80) M (n + L) (by omega); rw [show ((n + L : Nat) : Int) = (n : Int) + (L : Int) by omega] at cut2; clear hf hg hL))
  have HF3o : Aside0 (Own w3 w0.heap.size 5 .u8 (.slice (some ⟨g, 0, none⟩) (n + L) M) (xs ++ hdL N f ++ blksB [])) := ⟨by have := own_front0 HF3.out h3 h2; rw [List.length_append, HN.out, HLQ.out] at this; simpa [blksB] using this⟩
  have HB3 : Aside0 (Below w0.heap.size w0 w3) := ⟨HB.out.grown (HG2.out.trans HG3.out) (by have := HB.out.size; exact this) (fun j hj => by injection hj with hj; omega)⟩
  have hzc : Try.zeroCells113 = (nums .i64 (List.replicate 128 0)).toArray := by kernel_rfl
  have hfresh := fun W => runFresh (P := Try.prog) Try.zeroCells113 113 (by rw [hzc]; exact nums_one _ _) W
  have HZC := Aside0.mk hzc
  have HF1 : Aside0 (f :: blksV .i64 f [] = l.take 1) := ⟨by
    have h1 := HLN.out; have h2 := HRF.out
    cases l with
    | nil => simp at h1; omega
    | cons x l => rw [show x = f from h2]; simp [blksV]⟩
  have HLP : Aside0 (0 < L) := ⟨by have := hdL_pos N f; rw [HLQ.out] at this; exact this⟩
  clear hzc
  go_loopg [0, 8, 9] (N + 128) (fun kq v0 v8 v9 w' => ∃ (i : Nat) (last : Int) (bs : List DBlk), v8 = .int .i64 last ∧ v9 = .int .i64 i ∧ i ≤ N + 128 ∧ Aside0 (∀ bb, strOk 64 4 32 (N - i) bb → strOk 64 4 32 (N - 1) (bs ++ bb)) ∧ Aside0 ((f :: blksV .i64 f bs).take N = l.take i) ∧ Aside0 (i ≤ N → f :: blksV .i64 f bs = l.take i) ∧ Aside0 (1 ≤ i) ∧ Aside0 (i ≤ N → last = rd l (i - 1 : Nat)) ∧ Aside0 ((blksB bs).length ≤ 9 * i) ∧ Aside0 (Stz w0 v0 (xs ++ hdL N f ++ blksB bs) w') ∧ Aside0 (N + 128 - i ≤ kq))
  case atStart => exact ⟨1, f, [], rfl, rfl, by omega, ⟨fun bb h => h⟩, ⟨by rw [HF1.out, List.take_take, Nat.min_eq_right (by omega)]⟩, ⟨fun _ => HF1.out⟩, ⟨by omega⟩, ⟨fun _ => HRF.out.symm⟩, ⟨by simp [blksB]⟩, ⟨⟨HF3o.out, HB3.out⟩⟩, ⟨by omega⟩⟩
  case round =>
    clear HF3o HB3 HF1 HF2 HG2 HF3 HG3
    obtain ⟨i, last, bs, rfl, rfl, hi, HOK, HV, HV2, HI1, HLS, HBL, HST, HK⟩ := hrel
    obtain ⟨LL, hLL⟩ : ∃ LL, (xs ++ hdL N f ++ blksB bs).length = LL := ⟨_, rfl⟩
    have hLL9 : LL ≤ 30000000 := by rw [← hLL, List.length_append, List.length_append, HN.out, HLQ.out]; have := HBL.out; omega
    obtain ⟨gt, Ct, rfl, hgt, hgtw⟩ := stz_own HST.out (by rw [List.length_append, List.length_append, HLQ.out]; have := HLP.out; omega)
    rw [hLL] at HST ⊢
    have HLLQ := Aside0.mk hLL
    clear hLL
    by_cases ci : i < N
    · have cib : decide ((i : Int) < (N : Int)) = true := decide_eq_true (by omega)
      have cib2 : decide (i < N) = true := decide_eq_true ci
      obtain ⟨i64, h64⟩ : ∃ i, (Try.prog.info? 2) = some i ∧ i.size = 1 := Option.map_eq_some_iff.1 infoInt64
      obtain ⟨A1, cutA, hCA⟩ := cutLo (P := Try.prog) 22 2 Try.underlying22 h64.1 h64.2 (some ad) N c .i64 (i : Int) i rfl (by omega) hc
      go_wp2_with (fail)
      have HBK : Aside0 (Row (wr.alloc (.cells Try.zeroCells113 113)) wr.heap.size 113 .i64 (List.replicate 128 0)) := ⟨⟨by have := Blk.new wr Try.zeroCells113 113; rw [HZC.out] at this ⊢; exact this⟩⟩
      have HST1 : Aside0 (Stz w0 (.slice (some ⟨gt, 0, none⟩) LL Ct) (xs ++ hdL N f ++ blksB bs) (wr.alloc (.cells Try.zeroCells113 113))) := ⟨HST.out.below' ((Below.refl _ _).alloc (Nat.le_refl _) _)⟩
      have hSZ : w0.heap.size ≤ wr.heap.size := HST.out.bel.size
      have hlt0 : wr.heap.size < (wr.alloc (.cells Try.zeroCells113 113)).heap.size := by simp
      generalize wr.alloc (.cells Try.zeroCells113 113) = wb at *
      obtain ⟨gb, hgb⟩ : ∃ gb, wr.heap.size = gb := ⟨_, rfl⟩
      rw [hgb] at HBK hSZ hgtw hlt0 ⊢
      refine region_tail 4 (by kernel_rfl) (by kernel_rfl) ?_
      simp only [List.take_succ_cons, List.take_zero, List.drop_succ_cons, List.drop_zero]
      repeat (quiet_step ((fail)))
      refine wpQuiet_nil ?_
      rintro _ ⟨nq, rfl⟩
      obtain ⟨m, hm⟩ : ∃ m, Nat.min (N - i) 128 = m := ⟨_, rfl⟩
      have hm1 : m ≤ N - i := by rw [← hm]; exact Nat.min_le_left _ _
      have hm2 : m ≤ 128 := by rw [← hm]; exact Nat.min_le_right _ _
      have hm3 : 0 < m := by rw [← hm]; exact Nat.lt_min.2 ⟨by omega, by omega⟩
      have hch : ((l.drop i).take m).length = m := by rw [List.length_take, List.length_drop, HLN.out]; omega
      have hbelow : Below w0.heap.size w0 (wb.drewN nq) := HST1.out.bel.trans ((drewN_below wb nq).mono HST1.out.bel.size)
      have hCs := Kd.C_take (m := m) (by have := hCA (Kd.int .i64) (wb.drewN nq) l rfl (Kd.C_below HC.out hbelow); rw [← (show (l.drop i).length = N - i by rw [List.length_drop, HLN.out])] at this; exact this) (by rw [List.length_drop, HLN.out]; omega)
      obtain ⟨ad2, ead2, hsrc⟩ := copySrc hCs (by rw [hch]; omega)
      subst ead2
      refine wpList_copy_at (by rfl) (.tmp 52) (.tmp 55) 22 22 (by rfl) 2 Try.underlying22 ?h1 gb 0 128 128 ad2 (N - i) (c - i) (by rfl) (by rfl) 113 .i64 _ ((l.drop i).take m) (HBK.out.drewN nq) ?hn hsrc ?hf ?_
      case h1 => kernel_rfl
      case hn => rw [hch]; exact hm.symm
      case hf => rw [hch, List.length_replicate]; omega
      intro w4 hr hg
      rw [hch] at hr
      obtain ⟨Bk, hBk⟩ : ∃ Bk, (l.drop i).take m ++ List.replicate (128 - m) 0 = Bk := ⟨_, rfl⟩
      have HR4 : Aside0 (Row w4 gb 113 .i64 Bk) := ⟨by rw [List.take_zero, List.nil_append, Nat.zero_add, List.drop_replicate, hBk] at hr; exact hr⟩
      have hBl : Bk.length = 128 := by rw [← hBk, List.length_append, hch, List.length_replicate]; omega
      have hnl : (nums .i64 ((l.drop i).take m)).length = m := by unfold nums; rw [List.length_map]; exact hch
      rw [hnl]
      have HST4 : Aside0 (Stz w0 (.slice (some ⟨gt, 0, none⟩) LL Ct) (xs ++ hdL N f ++ blksB bs) w4) := ⟨(HST1.out.below' (drewN_below wb nq)).other hSZ hg (slice_ne (by omega))⟩
      have hlt4 : gb < w4.heap.size := by have := hg.size; exact Nat.lt_of_lt_of_le hlt0 this
      have HBW : Aside0 (∀ x ∈ Bk, -9223372036854775808 ≤ x ∧ x ≤ 9223372036854775807) := ⟨fun x hx => by
        rw [← hBk] at hx
        rcases List.mem_append.1 hx with h | h
        · exact HWF.out x (List.mem_of_mem_drop (List.mem_of_mem_take h))
        · have := List.eq_of_mem_replicate h; omega⟩
      have HBKQ := Aside0.mk hBk
      have HMQ := Aside0.mk hm
      have hgbt : gt ≠ gb := by omega
      clear hr hg hsrc hCs hbelow hnl hBk hch HBK HST1 hm hgb hlt0 hfresh
      have HD5 := Aside0.mk fun W h => blockDeltaInt64_calls gb Bk last W h hBl
      have hDl : (dlt .i64 last Bk).length = 128 := by rw [dlt_length, hBl]
      have HM6 := Aside0.mk fun W h => blockMinInt64_calls gb (dlt .i64 last Bk) W h hDl
      have HS7 := Aside0.mk fun mn W h => blockSubInt64_calls gb (dlt .i64 last Bk) mn W h hDl
      have HC8 : Aside0 (∀ mn W, Row W gb 113 .i64 (subL .i64 mn (dlt .i64 last Bk)) → _) := ⟨fun mn W h => blockClearInt64_calls gb m _ W h (by rw [subL_length, hDl]) hm2⟩
      obtain ⟨L127, hL127⟩ : ∃ y, rd Bk (127 : Nat) = y := ⟨_, rfl⟩
      rw [hL127] at HD5
      have HL127 := Aside0.mk hL127
      clear hL127
      go_wp2_with (first
        | (go_at_call 77; go_loud (with_reducible refine (HD5.out _ HR4.out).mono ?_); rintro e w5 ⟨rfl, hr, hg⟩; have HR5 := Aside0.mk hr; have HST5 := Aside0.mk (HST4.out.other hSZ hg (slice_ne hgbt)); have hlt5 := Nat.lt_of_lt_of_le hlt4 hg.size; clear hr hg)
        | (go_at_call 78; go_loud (with_reducible refine (HM6.out _ HR5.out).mono ?_); rintro e w6 ⟨mn, rfl, hmem, rfl⟩; have HMN := Aside0.mk hmem; clear hmem)
        | (go_at_call 79; go_loud (with_reducible refine (HS7.out mn _ HR5.out).mono ?_); rintro e w7 ⟨rfl, hr, hg⟩; have HR7 := Aside0.mk hr; have HST7 := Aside0.mk (HST5.out.other hSZ hg (slice_ne hgbt)); have hlt7 := Nat.lt_of_lt_of_le hlt5 hg.size; clear hr hg)
        | (go_at_call 80; go_loud (with_reducible refine (HC8.out mn _ HR7.out).mono ?_); rintro e w8 ⟨rfl, hr, hg⟩; have HR8 := Aside0.mk hr; have HST8 := Aside0.mk (HST7.out.other hSZ hg (slice_ne hgbt)); have hlt8 := Nat.lt_of_lt_of_le hlt7 hg.size; clear hr hg))
      obtain ⟨Sb, hSb⟩ : ∃ Sb, subL .i64 mn (dlt .i64 last Bk) = Sb := ⟨_, rfl⟩
      have hSl : Sb.length = 128 := by rw [← hSb, subL_length, hDl]
      rw [hSb] at HR8
      obtain ⟨cl, hcl⟩ : ∃ cl, Sb.take m ++ List.replicate (128 - m) 0 = cl := ⟨_, rfl⟩
      rw [hcl] at HR8
      have hcll : cl.length = 128 := by rw [← hcl, List.length_append, List.length_take, List.length_replicate, hSl]; omega
      have hmn := HMN.out
      have hmnb : -9223372036854775808 ≤ mn ∧ mn ≤ 9223372036854775807 := by
        simp only [dlt, List.mem_map, List.mem_range] at hmn
        obtain ⟨j, _, rfl⟩ := hmn
        unfold dltF
        rw [IntKind.wrap_i64]; omega
      have hvals : walkV .i64 mn last (unsI 18446744073709551616 Sb) = Bk := by rw [← hSb]; exact enc64_vals mn last Bk HBW.out
      have HSB := Aside0.mk hSl
      have HVL := Aside0.mk hvals
      have HCLQ := Aside0.mk hcl
      have HCLL := Aside0.mk hcll
      have HR9 : Aside0 (Row (w8.alloc (.cells #[.int .u8 0, .int .u8 0, .int .u8 0, .int .u8 0] 98)) gb 113 .i64 cl) := ⟨HR8.out.alloc _⟩
      have HW9 : Aside0 (Row (w8.alloc (.cells #[.int .u8 0, .int .u8 0, .int .u8 0, .int .u8 0] 98)) w8.heap.size 98 .u8 [0, 0, 0, 0]) := ⟨⟨Blk.new _ _ _⟩⟩
      have HST9 : Aside0 (Stz w0 (.slice (some ⟨gt, 0, none⟩) LL Ct) (xs ++ hdL N f ++ blksB bs) (w8.alloc (.cells #[.int .u8 0, .int .u8 0, .int .u8 0, .int .u8 0] 98))) := ⟨HST8.out.below' ((Below.refl _ _).alloc (Nat.le_refl _) _)⟩
      have hlt9 : w8.heap.size < (w8.alloc (.cells #[.int .u8 0, .int .u8 0, .int .u8 0, .int .u8 0] 98)).heap.size := by simp
      generalize w8.alloc (.cells #[.int .u8 0, .int .u8 0, .int .u8 0, .int .u8 0] 98) = w9 at *
      obtain ⟨gw, hgw⟩ : ∃ gw, w8.heap.size = gw := ⟨_, rfl⟩
      rw [hgw] at HW9 hlt8 hlt9 ⊢
      have HBW9 := Aside0.mk (blockBitWidthsInt64_calls gb gw cl w9 HR9.out hcll HW9.out (by omega))
      have HRS := Aside0.mk fun W (h : Stz w0 (.slice (some ⟨gt, 0, none⟩) LL Ct) (xs ++ hdL N f ++ blksB bs) W) => resizeZ_calls w0.heap.size _ (xs ++ hdL N f ++ blksB bs) (LL + 1046) W h.own h.bel.size (by rw [HLLQ.out]; omega) (by omega)
      simp only [HLLQ.out] at HRS
      rw [show ((LL + 1046 : Nat) : Int) = (LL : Int) + 1038 + 8 by omega, show LL + 1046 - LL = 1046 by omega] at HRS
      have hgtgw : gt ≠ gw := by omega
      have hgbgw : gb ≠ gw := by omega
      have hSZ2 : w0.heap.size ≤ gw := by omega
      clear hSb hSl hcl hcll hmn hvals HR8 HR7 HR5 HR4 HST8 HST7 HST5 HST4 HM6 HS7 HC8 HD5 hlt4 hlt5 hlt7 hgw
      go_wp2_with (first
        | (go_at_call 81; go_loud (with_reducible refine HBW9.out.mono ?_); rintro e w10 ⟨ws, rfl, hwl, hwq, hwf, hw, hg⟩; have HWL := Aside0.mk hwl; have HWQ := Aside0.mk hwq; have HWFT := Aside0.mk hwf; have HW10 := Aside0.mk hw; have HR10 := Aside0.mk (HR9.out.grown hg (fun e => hgbgw (by injection e))); have HST10 := Aside0.mk (HST9.out.other hSZ2 hg (slice_ne hgtgw)); have hlt10 := Nat.lt_of_lt_of_le hlt9 hg.size; clear hwl hwq hwf hw hg)
        | (go_at_call 48; go_loud (with_reducible refine (HRS.out _ HST10.out).mono ?_); rintro e w11 ⟨g, M, rfl, hf, h1, h2, h3, h4, hg⟩; have HF11 := Aside0.mk hf; have HG11 := Aside0.mk hg; have hgw2 : gw ≠ g := h4.elim (fun h => by omega) (fun h e => slice_ne hgtgw (by rw [e]; exact h)); have hgb2 : gb ≠ g := h4.elim (fun h => by omega) (fun h e => slice_ne hgbt (by rw [e]; exact h)); have HW11 := Aside0.mk (HW10.out.grown hg (fun e => hgw2 (by injection e))); have HR11 := Aside0.mk (HR10.out.grown hg (fun e => hgb2 (by injection e))); have HB11 : Aside0 (Below w0.heap.size w0 w11) := ⟨HST10.out.bel.grown hg HST10.out.bel.size (fun j hj => by injection hj with hj; omega)⟩; clear hf hg h4))
      obtain ⟨X0, hX0⟩ : ∃ X0, xs ++ hdL N f ++ blksB bs = X0 := ⟨_, rfl⟩
      rw [hX0] at HF11 HLLQ
      have HX0 := Aside0.mk hX0
      obtain ⟨a0, a1, a2, a3, hws⟩ : ∃ a0 a1 a2 a3, ws = [a0, a1, a2, a3] := by
        have h := HWL.out
        match ws, h with
        | [a0, a1, a2, a3], _ => exact ⟨a0, a1, a2, a3, rfl⟩
      have HWSQ := Aside0.mk hws
      have hbm : ∀ q ∈ ws, q ≤ 64 := HWQ.out
      have ha0 : a0 ≤ 64 := hbm a0 (by rw [hws]; simp)
      have ha1 : a1 ≤ 64 := hbm a1 (by rw [hws]; simp)
      have ha2 : a2 ≤ 64 := hbm a2 (by rw [hws]; simp)
      have ha3 : a3 ≤ 64 := hbm a3 (by rw [hws]; simp)
      have hni : natsI ws = [(a0 : Int), (a1 : Int), (a2 : Int), (a3 : Int)] := by rw [hws]; rfl
      rw [hni] at HW11
      have HNI := Aside0.mk hni
      have x0 := HW11.out.cell (j := 0) (by simp)
      have x1 := HW11.out.cell (j := 1) (by simp)
      have x2 := HW11.out.cell (j := 2) (by simp)
      have x3 := HW11.out.cell (j := 3) (by simp)
      have x0 : w11.cell? ⟨gw, 0, none⟩ = some (.int .u8 a0) := x0
      have x1 : w11.cell? ⟨gw, 1, none⟩ = some (.int .u8 a1) := x1
      have x2 : w11.cell? ⟨gw, 2, none⟩ = some (.int .u8 a2) := x2
      have x3 : w11.cell? ⟨gw, 3, none⟩ = some (.int .u8 a3) := x3
      have HX := Aside0.mk (And.intro x0 (And.intro x1 (And.intro x2 x3)))
      have HHB : Aside0 (∀ W, Front W g M 5 .u8 (X0 ++ List.replicate 1046 0) → Calls Try.prog 82 #[.slice (some ⟨g, LL, none⟩) 1046 (M - LL), .int .i64 mn, .agg #[.int .u8 a0, .int .u8 a1, .int .u8 a2, .int .u8 a3]] W fun e w' => e = .returned (.int .i64 ((varL (zz mn) ++ natsI ws).length : Int)) ∧ Front w' g M 5 .u8 (X0 ++ (varL (zz mn) ++ natsI ws) ++ List.replicate (1046 - (varL (zz mn) ++ natsI ws).length) 0) ∧ W.grownBy w' (some g)) := ⟨fun W h => by
        have := blockHeader_calls g M 5 1046 (M - LL) X0 (List.replicate 1046 0) mn a0 a1 a2 a3 W h (by omega) (by omega) (by omega) (by omega) (by omega) (by rw [List.length_replicate]; omega)
        rw [HLLQ.out, List.drop_replicate, ← HNI.out] at this; exact this⟩
      obtain ⟨D0, hD0⟩ : ∃ D0, varL (zz mn) ++ natsI ws = D0 := ⟨_, rfl⟩
      rw [hD0] at HHB
      obtain ⟨DL, hDL⟩ : ∃ DL, D0.length = DL := ⟨_, rfl⟩
      rw [hDL] at HHB
      have hDL9 : DL ≤ 14 := by
        rw [← hDL, ← hD0, List.length_append, natsI_length, HWL.out]
        have := varL_len10 (zz mn) (zz_lt mn (by omega) (by omega)); omega
      have HD0 := Aside0.mk hD0
      have HDL := Aside0.mk hDL
      have cut3 := cutFrom0 (P := Try.prog) 23 5 Try.underlying23 h8.1 h8.2 g (LL + 1046) M LL (by omega) h1 (by omega)
      rw [show LL + 1046 - LL = 1046 by omega] at cut3
      have hmw : IntKind.i64.wrap mn = mn := IntWalk.i64_in _ (by omega)
      have hLDw : IntKind.i64.wrap ((LL : Int) + (DL : Int)) = (LL : Int) + (DL : Int) := IntWalk.i64_in _ (by omega)
      have HFd : Aside0 (Front w11.drew g M 5 .u8 (X0 ++ List.replicate 1046 0)) := ⟨HF11.out.drewN 1⟩
      have hgwlt : gw < w11.heap.size := Nat.lt_of_lt_of_le hlt10 HG11.out.size
      have hglt : g < w11.heap.size := HF11.out.lt
      clear hX0 hws hni hbm hD0 hDL x0 x1 x2 x3 HRS HBW9 HR9 HW9 HST9 HR10 HW10 HST10 hlt9 hlt10
      go_region_held3 (fun (w9 : World) => w9.cell? ⟨gw, 0, none⟩ = some (.int .u8 a0) ∧ w9.cell? ⟨gw, 1, none⟩ = some (.int .u8 a1) ∧ w9.cell? ⟨gw, 2, none⟩ = some (.int .u8 a2) ∧ w9.cell? ⟨gw, 3, none⟩ = some (.int .u8 a3))
        (first | exact HX12.out | exact HX.out)
        ((first
          | (go_at_call 82; go_loud (with_reducible refine (HHB.out _ HFd.out).mono ?_); rintro e w12 ⟨rfl, hf, hg⟩; have HF12 := Aside0.mk hf; have HG12 := Aside0.mk hg; have HX12 : Aside0 (w12.cell? ⟨gw, 0, none⟩ = some (.int .u8 a0) ∧ w12.cell? ⟨gw, 1, none⟩ = some (.int .u8 a1) ∧ w12.cell? ⟨gw, 2, none⟩ = some (.int .u8 a2) ∧ w12.cell? ⟨gw, 3, none⟩ = some (.int .u8 a3)) := ⟨cells4_keep hg hgwlt (fun e => hgw2 (by injection e)) HX.out⟩; clear hf hg)
          | fail "no arm"))
      obtain ⟨y0, y1, y2, y3⟩ := HX12.out
      have HR12 := Aside0.mk ((HR11.out.drewN 1).grown HG12.out (fun e => hgb2 (by injection e)))
      have HB12 : Aside0 (Below w0.heap.size w0 w12) := ⟨HB11.out.drew.grown HG12.out (by have := HB11.out.drew.size; exact this) (fun j hj => by injection hj with hj; omega)⟩
      go_wp2_with (fail)
      obtain ⟨X1, hX1⟩ : ∃ X1, X0 ++ D0 = X1 := ⟨_, rfl⟩
      have hX1l : X1.length = LL + DL := by rw [← hX1, List.length_append, HLLQ.out, HDL.out]
      obtain ⟨L1, hL1⟩ : ∃ L1, LL + DL = L1 := ⟨_, rfl⟩
      rw [hL1] at hX1l
      have hL1I : (LL : Int) + (DL : Int) = (L1 : Int) := by omega
      have HX1L := Aside0.mk hX1l
      have HX1 := Aside0.mk hX1
      have HF13 : Aside0 (Front w12 g M 5 .u8 (X1 ++ partsB (encPs 18446744073709551616 ws cl 0) ++ List.replicate (1046 - DL - 0) 0)) := ⟨by have := HF12.out; rw [hX1] at this; simpa [encPs, partsB] using this⟩
      have hg0 : w0.heap.size ≤ g := h3
      have hPB : ∀ j, j ≤ 4 → (partsB (encPs 18446744073709551616 ws cl j)).length ≤ j * (4 * 64) := fun j hj => by
        have := partsB_len (encPs 18446744073709551616 ws cl j) 64 (fun p hp => by
          simp only [encPs, List.mem_map, List.mem_range] at hp
          obtain ⟨q, hq, rfl⟩ := hp
          refine ⟨?_, encP_len 18446744073709551616 ws cl q HCLL.out (by omega)⟩
          exact HWQ.out _ (show ws.getD q 0 ∈ ws by rw [List.getD_eq_getElem?_getD, List.getElem?_eq_getElem (by rw [HWL.out]; omega)]; exact List.getElem_mem _))
        simpa [encPs] using this
      have HPB := Aside0.mk hPB
      have HL1I := Aside0.mk hL1I
      have hL19 : L1 ≤ 30000014 := by omega
      have HL1N := Aside0.mk hL1
      clear hX1 hX1l hPB HF12 HFd HX HX12 HF11 HHB cut3 hL1I hL1
      obtain ⟨gk0, rfl⟩ : ∃ gk0, gk = gk0 + 1 := ⟨gk - 1, by have := HK.out; omega⟩
      go_loopg [14, 82] 4 (fun kq v14 v82 w' => ∃ (j pj : Nat), j ≤ 4 ∧ v82 = .int .i64 j ∧ v14 = .int .i64 ((L1 : Int) + (pj : Int)) ∧ Aside0 ((partsB (encPs 18446744073709551616 ws cl j)).length = pj) ∧ Aside0 (Front w' g M 5 .u8 (X1 ++ partsB (encPs 18446744073709551616 ws cl j) ++ List.replicate (1046 - DL - pj) 0)) ∧ Aside0 (Row w' gb 113 .i64 cl) ∧ Aside0 (Below w0.heap.size w0 w') ∧ Aside0 (4 - j ≤ kq))
      case atStart => refine ⟨0, 0, by omega, rfl, ?_, ⟨by simp [encPs, partsB]⟩, HF13, HR12, HB12, ⟨by omega⟩⟩; rw [HL1I.out]; go_num
      case round =>
        clear HF13 HR12 HB12 HR11 HB11 hmw y0 y1 y2 y3
        obtain ⟨j, pj, hj, rfl, rfl, HPJ, HF, HR, HB, HK2⟩ := hrel
        have hpj := HPB.out j hj
        rw [HPJ.out] at hpj
        by_cases cj : j < 4
        · have cjb : decide ((j : Int) < 4) = true := decide_eq_true (by omega)
          have cjn : decide (j < 4) = true := decide_eq_true cj
          obtain ⟨b, hb⟩ : ∃ b, ws.getD j 0 = b := ⟨_, rfl⟩
          have hbW : b ≤ 64 := by rw [← hb]; exact HWQ.out _ (by rw [List.getD_eq_getElem?_getD, List.getElem?_eq_getElem (by rw [HWL.out]; omega)]; exact List.getElem_mem _)
          have hidx := fun W => runIndex4 (P := Try.prog) 98 5 (by first | exact Try.underlying98 | kernel_rfl) infoU8s (by intro w; kernel_rfl) (.int .u8 a0) (.int .u8 a1) (.int .u8 a2) (.int .u8 a3) j cj W
          have hsel : ([.int .u8 a0, .int .u8 a1, .int .u8 a2, .int .u8 a3] : List Value).getD j (.int .u8 a0) = .int .u8 (b : Int) := by
            rw [← hb, HWSQ.out]
            rcases (show j = 0 ∨ j = 1 ∨ j = 2 ∨ j = 3 by omega) with h | h | h | h <;> subst h <;> rfl
          rw [hsel] at hidx
          have HSC := Aside0.mk (encPs_succ 18446744073709551616 ws cl j)
          have HBQ := Aside0.mk hb
          clear hsel hb
          by_cases cb : b = 0
          · have q5 : ((b : Int) == 0) = true := by rw [beq_iff_eq]; omega
            have HSB0 : Aside0 (partsB (encPs 18446744073709551616 ws cl (j + 1)) = partsB (encPs 18446744073709551616 ws cl j)) := ⟨by rw [HSC.out, partsB_snoc, show (encP 18446744073709551616 ws cl j).1 = 0 from by rw [← cb, ← HBQ.out]; rfl, packLo_zero, List.append_nil]⟩
            have HCB := Aside0.mk cb
            clear cb
            go_wp2_with (fail)
            go_roundg (gk - 1)
            case measure => have := HK2.out; omega
            case rel => exact ⟨j + 1, pj, by omega, by go_num, rfl, ⟨by rw [HSB0.out]; exact HPJ.out⟩, ⟨by rw [HSB0.out]; exact HF.out⟩, HR, HB, ⟨by have := HK2.out; omega⟩⟩
          · have q5 : ((b : Int) == 0) = false := by rw [beq_eq_false_iff_ne]; omega
            obtain ⟨o, ho⟩ : ∃ o, 32 * j = o := ⟨_, rfl⟩
            have hoI : (j : Int) * 32 = (o : Int) := by omega
            have cuta := cutArr (P := Try.prog) 113 2 128 (by first | exact Try.underlying113 | kernel_rfl) h64.1 h64.2 gb o (by omega)
            have hat := runArrayAt (P := Try.prog) 166 2 32 (by first | exact Try.underlying166 | kernel_rfl) ⟨gb, o, none⟩ (128 - o) (128 - o) (by omega)
            obtain ⟨p, hp⟩ : ∃ p, L1 + pj = p := ⟨_, rfl⟩
            have hpI : (L1 : Int) + (pj : Int) = (p : Int) := by omega
            have cutn := cutFrom0 (P := Try.prog) 23 5 Try.underlying23 h8.1 h8.2 g (LL + 1046) M p (by have := HL1N.out; omega) h1 (by have := HL1N.out; omega)
            obtain ⟨R, hR⟩ : ∃ R, LL + 1046 - p = R := ⟨_, rfl⟩
            rw [hR] at cutn
            have hL1 := HL1N.out
            have hRe : 1046 - DL - pj = R := by omega
            have hR9 : 264 ≤ R := by omega
            have hlen : (X1 ++ partsB (encPs 18446744073709551616 ws cl j)).length = p := by rw [List.length_append, HX1L.out, HPJ.out]; exact hp
            obtain ⟨w32, hw32⟩ : ∃ w32, (cl.drop o).take 32 = w32 := ⟨_, rfl⟩
            have hwl32 : w32.length = 32 := by rw [← hw32, List.length_take, List.length_drop, HCLL.out]; omega
            have hrd32 : ∀ q : Nat, q < 32 → rd w32 (q : Nat) = rd cl ((o + q : Nat) : Int) := fun q hq => by
              rw [← hw32, ← rd_drop]
              unfold rd
              rw [Int.toNat_natCast, List.getD_eq_getElem?_getD, List.getD_eq_getElem?_getD, List.getElem?_take, if_pos hq]
            have HMI := Aside0.mk (miniInt64_calls g M 5 R (M - p) (X1 ++ partsB (encPs 18446744073709551616 ws cl j)) gb o b w32 wr (by rw [← hRe]; exact HF.out)
              (fun W hW q hq => by
                have := (HR.out.grown hW (fun e => hgb2 (by injection e))).cell (j := o + q) (by rw [HCLL.out]; omega)
                rw [hrd32 q hq]; exact this) hwl32 (by omega) hbW (fun q hq => by rw [hrd32 q hq, ← HBQ.out]; exact (HWFT.out j cj).1 (o + q) (by omega) (by omega)) hR9 (by omega) (by omega) h2)
            rw [hlen] at HMI
            have hmb := mini_bytes b R (unsI 18446744073709551616 w32) (by rw [unsI_length]; exact hwl32) (by omega)
            rw [hmb] at HMI
            have hpk : (packLo b (unsI 18446744073709551616 w32)).length = 4 * b := by unfold packLo; rw [bytesLo_length, unsI_length, hwl32]; omega
            have HSN : Aside0 (partsB (encPs 18446744073709551616 ws cl (j + 1)) = partsB (encPs 18446744073709551616 ws cl j) ++ packLo b (unsI 18446744073709551616 w32)) := ⟨by rw [HSC.out, partsB_snoc]; unfold encP; rw [HBQ.out, ho, hw32]⟩
            have HPK := Aside0.mk hpk
            have hb32 : 32 * (b : Int) = ((32 * b : Nat) : Int) := by omega
            obtain ⟨B32, hB32⟩ : ∃ B, 32 * b = B := ⟨_, rfl⟩
            rw [hB32] at hb32
            have hq1 : (B32 : Int) / 8 = ((4 * b : Nat) : Int) := by omega
            obtain ⟨b4, hb4⟩ : ∃ b4, 4 * b = b4 := ⟨_, rfl⟩
            rw [hb4] at hq1
            have hq2 : (B32 : Int).tdiv 8 = (b4 : Int) := by rw [Int.tdiv_eq_ediv_of_nonneg (by omega)]; exact hq1
            have HB4 := Aside0.mk hb4
            have HPE := Aside0.mk hp
            have hb49 : b4 ≤ 256 := by omega
            have hbu : IntKind.u64.wrap (b : Int) = (b : Int) := IntWalk.u64_in _ (by omega)
            clear hL1 hR hlen hw32 hwl32 hrd32 hmb hpk hB32 hb4 hp ho
            go_wp2_with (first
              | (go_at_call 83; go_loud (with_reducible refine HMI.out.mono ?_); rintro e w14 ⟨rfl, hf, hg⟩; have HF14 := Aside0.mk hf; have HR14 := Aside0.mk (HR.out.grown hg (fun e => hgb2 (by injection e))); have HB14 : Aside0 (Below w0.heap.size w0 w14) := ⟨HB.out.grown hg HB.out.size (fun j hj => by injection hj with hj; omega)⟩; clear hf hg))
            go_roundg (gk - 1)
            case measure => have := HK2.out; omega
            case rel =>
              refine ⟨j + 1, pj + b4, by omega, by go_num, by go_num, ⟨by rw [HSN.out, List.length_append, HPJ.out, HPK.out, HB4.out]⟩, ⟨?_⟩, HR14, HB14, ⟨by have := HK2.out; omega⟩⟩
              have h := HF14.out
              rw [HSN.out, ← List.append_assoc, show 1046 - DL - (pj + b4) = R - 4 * b by rw [HB4.out]; omega]
              rw [← List.append_assoc] at h
              exact h
        · obtain rfl : j = 4 := by omega
          have cjb : decide (((4 : Nat) : Int) < 4) = false := by decide
          obtain ⟨p, hp⟩ : ∃ p, L1 + pj = p := ⟨_, rfl⟩
          have hpI : (L1 : Int) + (pj : Int) = (p : Int) := by omega
          have cute := cutAtMid0 (P := Try.prog) 23 5 Try.underlying23 h8.1 h8.2 g (LL + 1046) M p (by have := HL1N.out; omega)
          have hlen : (X1 ++ partsB (encPs 18446744073709551616 ws cl 4)).length = p := by rw [List.length_append, HX1L.out, HPJ.out]; exact hp
          have hown := own_front0 HF.out hg0 h2
          rw [hlen] at hown
          have hX : X1 ++ partsB (encPs 18446744073709551616 ws cl 4) = xs ++ hdL N f ++ blksB (bs ++ [(mn, encPs 18446744073709551616 ws cl 4)]) := by
            rw [blksB_snoc]
            unfold blkB
            rw [encPs_fst _ _ _ HWL.out, HD0.out, ← HX1.out, ← HX0.out]
            simp only [List.append_assoc]
          rw [hX] at hown
          have HOW := Aside0.mk hown
          have hw1 := HI1.out
          have HRD := Aside0.mk (enc_round .i64 64 18446744073709551616 (by decide) f last mn l N i m bs ws Bk Sb cl HLN.out hw1 ci HMQ.out HBKQ.out.symm HSB.out HVL.out HCLQ.out.symm HWL.out HWQ.out HWFT.out (by omega) HOK.out (HV2.out (by omega)) (HLS.out (by omega)))
          have HBN := Aside0.mk (blk_len 64 (by omega) 18446744073709551616 mn ws cl HCLL.out HWQ.out HWL.out (by omega))
          clear hown hX hlen hp
          go_wp2_with (fail)
          go_roundg gk0
          case measure => omega
          case rel =>
            obtain ⟨r1, r2, r3, r4⟩ := HRD.out
            refine ⟨i + 128, L127, bs ++ [(mn, encPs 18446744073709551616 ws cl 4)], rfl, by go_num, by omega, ⟨r1⟩, ⟨r2⟩, ⟨r3⟩, ⟨by omega⟩, ⟨fun h => by rw [← HL127.out]; exact r4 h⟩, ⟨?_⟩, ⟨⟨HOW.out, HB.out⟩⟩, ⟨by have := HK.out; omega⟩⟩
            rw [blksB_snoc, List.length_append]
            have h1 := HBL.out; have h2 := HBN.out
            omega
    · have cib : decide ((i : Int) < (N : Int)) = false := decide_eq_false (by omega)
      have cib2 : decide (i < N) = false := decide_eq_false ci
      go_wp2_with (fail)
      go_ret
      refine ⟨_, bs, rfl, HST.out.own, ?_, ?_, by have := HBL.out; omega, HST.out.bel⟩
      · have := HOK.out [] (by show N - i = 0; omega)
        rw [List.append_nil] at this; exact this
      · rw [HV.out]; exact List.take_of_length_le (by rw [HLN.out]; omega)
set_option maxHeartbeats 16000000 in
set_option maxRecDepth 100000 in
/-- lists of two and more -/
theorem encInt32Long_calls (w0 : World) (A : Option Addr) (N c : Nat) (l : List Int) (v : Value) (xs : List Int) (w : World) (hO : Own w w0.heap.size 5 .u8 v xs) (hB : Below w0.heap.size w0 w) (hC : (Kd.int .i32).C w0 A N l) (hc : N ≤ c) (hn : 2 ≤ N) (hn9 : N ≤ 100000) (hx : xs.length ≤ 16777216) (hwf : ∀ x ∈ l, (Lit.int .i32 x).wf = true) :
    Calls Try.prog 60 #[v, .slice A N c] w fun e w' => ∃ v1 bs, e = .returned v1 ∧ Own w' w0.heap.size 5 .u8 v1 (xs ++ hdL N (fstI l) ++ blksB bs) ∧ strOk 32 4 32 (N - 1) bs ∧ (fstI l :: blksV .i32 (fstI l) bs).take N = l ∧ (blksB bs).length ≤ 2000000 ∧ Below w0.heap.size w0 w' := by
  have HLN : Aside0 (l.length = N) := ⟨hC.1⟩
  obtain ⟨A0, c0, rfl, hc0, _⟩ := hO.read
  have HB := Aside0.mk hB
  have HC := Aside0.mk hC
  obtain ⟨n, hn0⟩ : ∃ n, xs.length = n := ⟨_, rfl⟩
  have HN := Aside0.mk hn0
  have HRS := Aside0.mk (resizeZ_calls w0.heap.size _ xs (n + 40) w hO hB.size (by omega) (by omega))
  rw [hn0] at hO hc0 hx HRS ⊢
  rw [show ((n + 40 : Nat) : Int) = (n : Int) + 40 by omega, show n + 40 - n = 40 by omega] at HRS
  have hfb : -2147483648 ≤ fstI l ∧ fstI l ≤ 2147483647 := by
    cases l with
    | nil => show -2147483648 ≤ (0 : Int) ∧ (0 : Int) ≤ 2147483647; omega
    | cons x l =>
      have := hwf x (by simp)
      simp [Lit.wf, IntKind.min, IntKind.max, IntKind.signed, IntKind.bits] at this
      show -2147483648 ≤ x ∧ x ≤ 2147483647; omega
  have HWF : Aside0 (∀ x ∈ l, -2147483648 ≤ x ∧ x ≤ 2147483647) := ⟨fun x hx => by
    have := hwf x hx
    simp [Lit.wf, IntKind.min, IntKind.max, IntKind.signed, IntKind.bits] at this
    omega⟩
  obtain ⟨f, hf⟩ : ∃ f, fstI l = f := ⟨_, rfl⟩
  rw [hf] at hfb ⊢
  have HFQ := Aside0.mk hf
  have HHD : Aside0 (∀ W g M, Front W g M 5 .u8 (xs ++ List.replicate 40 0) → n + 40 ≤ M → M ≤ 9223372036854775807 → Calls Try.prog 76 #[.slice (some ⟨g, n, none⟩) 40 (M - n), .int .i64 128, .int .i64 4, .int .i64 N, .int .i64 f] W fun e w' => e = .returned (.int .i64 ((hdL N f).length : Int)) ∧ (hdL N f).length ≤ 40 ∧ Front w' g M 5 .u8 (xs ++ hdL N f ++ (List.replicate 40 0).drop (hdL N f).length) ∧ W.grownBy w' (some g)) := ⟨fun W g M hfr h1 h2 => by
    have := header_calls g M 5 40 (M - n) xs (List.replicate 40 0) N f W hfr (by omega) (by omega) (by omega) (by omega) (by omega) (by omega) (by rw [List.length_replicate]; omega)
    rw [HN.out] at this; exact this⟩
  obtain ⟨i8, h8⟩ := h8
  clear hO hB hn0 hf hC hwf
  obtain ⟨ad, ead, hcell⟩ := Kd.at_int (Kd.C_below HC.out HB.out) 0 (by omega) (by omega)
  have hcell : w.cell? (ad.add 0) = some (.int .i32 (rd l 0)) := hcell
  have had : ad.add 0 = ad := by simp [Addr.add]
  have hrf : rd l 0 = f := by
    rw [← HFQ.out]
    cases l with
    | nil => have := HLN.out; simp at this; omega
    | cons x l => rfl
  rw [had, hrf] at hcell
  subst ead
  have HRF := Aside0.mk hrf
  clear had hrf
  have q2 : decide ((N : Int) < 2) = false := decide_eq_false (by omega)
  have q0 : decide (0 < (N : Int)) = true := decide_eq_true (by omega)
  have q02 : decide (0 < N) = true := decide_eq_true (by omega)
  have q22 : decide (N < 2) = false := decide_eq_false (by omega)
  go_enter Try.func60, Try.ntmps60
  go_wp2_with (first
    | (go_at_call 48; go_loud (with_reducible refine HRS.out.mono ?_); rintro e w2 ⟨g, M, rfl, hf, h1, h2, h3, h4, hg⟩; have HF2 := Aside0.mk hf; have HG2 := Aside0.mk hg; have cut1 := cutFrom0 (P := Try.prog) 23 5 Try.underlying23 h8.1 h8.2 g (n + 40) M n (by omega) h1 (by omega); rw [show n + 40 - n = 40 by omega] at cut1; clear hf hg)
    | (go_at_call 76; go_loud (with_reducible refine (HHD.out w2 g M HF2.out h1 h2).mono ?_); rintro e w3 ⟨rfl, hle, hf, hg⟩; have HF3 := Aside0.mk hf; have HG3 := Aside0.mk hg; obtain ⟨L, hL⟩ : ∃ L, (hdL N f).length = L := ⟨_, rfl⟩; rw [hL] at hle; rw [hL]; have HLQ := Aside0.mk hL; have cut2 := cutAtMid0 (P := Try.prog) 23 5 Try.underlying23 h8.1 h8.2 g (n + 40) M (n + L) (by omega); rw [show ((n + L : Nat) : Int) = (n : Int) + (L : Int) by omega] at cut2; clear hf hg hL))
  have HF3o : Aside0 (Own w3 w0.heap.size 5 .u8 (.slice (some ⟨g, 0, none⟩) (n + L) M) (xs ++ hdL N f ++ blksB [])) := ⟨by have := own_front0 HF3.out h3 h2; rw [List.length_append, HN.out, HLQ.out] at this; simpa [blksB] using this⟩
  have HB3 : Aside0 (Below w0.heap.size w0 w3) := ⟨HB.out.grown (HG2.out.trans HG3.out) (by have := HB.out.size; exact this) (fun j hj => by injection hj with hj; omega)⟩
  have hzc : Try.zeroCells125 = (nums .i32 (List.replicate 128 0)).toArray := by kernel_rfl
  have hfresh := fun W => runFresh (P := Try.prog) Try.zeroCells125 125 (by rw [hzc]; exact nums_one _ _) W
  have HZC := Aside0.mk hzc
  have HF1 : Aside0 (f :: blksV .i32 f [] = l.take 1) := ⟨by
    have h1 := HLN.out; have h2 := HRF.out
    cases l with
    | nil => simp at h1; omega
    | cons x l => rw [show x = f from h2]; simp [blksV]⟩
  have HLP : Aside0 (0 < L) := ⟨by have := hdL_pos N f; rw [HLQ.out] at this; exact this⟩
  clear hzc
  go_loopg [0, 8, 9] (N + 128) (fun kq v0 v8 v9 w' => ∃ (i : Nat) (last : Int) (bs : List DBlk), v8 = .int .i32 last ∧ v9 = .int .i64 i ∧ i ≤ N + 128 ∧ Aside0 (∀ bb, strOk 32 4 32 (N - i) bb → strOk 32 4 32 (N - 1) (bs ++ bb)) ∧ Aside0 ((f :: blksV .i32 f bs).take N = l.take i) ∧ Aside0 (i ≤ N → f :: blksV .i32 f bs = l.take i) ∧ Aside0 (1 ≤ i) ∧ Aside0 (i ≤ N → last = rd l (i - 1 : Nat)) ∧ Aside0 ((blksB bs).length ≤ 9 * i) ∧ Aside0 (Stz w0 v0 (xs ++ hdL N f ++ blksB bs) w') ∧ Aside0 (N + 128 - i ≤ kq))
  case atStart => exact ⟨1, f, [], rfl, rfl, by omega, ⟨fun bb h => h⟩, ⟨by rw [HF1.out, List.take_take, Nat.min_eq_right (by omega)]⟩, ⟨fun _ => HF1.out⟩, ⟨by omega⟩, ⟨fun _ => HRF.out.symm⟩, ⟨by simp [blksB]⟩, ⟨⟨HF3o.out, HB3.out⟩⟩, ⟨by omega⟩⟩
  case round =>
    clear HF3o HB3 HF1 HF2 HG2 HF3 HG3
    obtain ⟨i, last, bs, rfl, rfl, hi, HOK, HV, HV2, HI1, HLS, HBL, HST, HK⟩ := hrel
    obtain ⟨LL, hLL⟩ : ∃ LL, (xs ++ hdL N f ++ blksB bs).length = LL := ⟨_, rfl⟩
    have hLL9 : LL ≤ 30000000 := by rw [← hLL, List.length_append, List.length_append, HN.out, HLQ.out]; have := HBL.out; omega
    obtain ⟨gt, Ct, rfl, hgt, hgtw⟩ := stz_own HST.out (by rw [List.length_append, List.length_append, HLQ.out]; have := HLP.out; omega)
    rw [hLL] at HST ⊢
    have HLLQ := Aside0.mk hLL
    clear hLL
    by_cases ci : i < N
    · have cib : decide ((i : Int) < (N : Int)) = true := decide_eq_true (by omega)
      have cib2 : decide (i < N) = true := decide_eq_true ci
      obtain ⟨i64, h64⟩ : ∃ i, (Try.prog.info? 21) = some i ∧ i.size = 1 := Option.map_eq_some_iff.1 infoInt32
      obtain ⟨A1, cutA, hCA⟩ := cutLo (P := Try.prog) 37 21 Try.underlying37 h64.1 h64.2 (some ad) N c .i64 (i : Int) i rfl (by omega) hc
      go_wp2_with (fail)
      have HBK : Aside0 (Row (wr.alloc (.cells Try.zeroCells125 125)) wr.heap.size 125 .i32 (List.replicate 128 0)) := ⟨⟨by have := Blk.new wr Try.zeroCells125 125; rw [HZC.out] at this ⊢; exact this⟩⟩
      have HST1 : Aside0 (Stz w0 (.slice (some ⟨gt, 0, none⟩) LL Ct) (xs ++ hdL N f ++ blksB bs) (wr.alloc (.cells Try.zeroCells125 125))) := ⟨HST.out.below' ((Below.refl _ _).alloc (Nat.le_refl _) _)⟩
      have hSZ : w0.heap.size ≤ wr.heap.size := HST.out.bel.size
      have hlt0 : wr.heap.size < (wr.alloc (.cells Try.zeroCells125 125)).heap.size := by simp
      generalize wr.alloc (.cells Try.zeroCells125 125) = wb at *
      obtain ⟨gb, hgb⟩ : ∃ gb, wr.heap.size = gb := ⟨_, rfl⟩
      rw [hgb] at HBK hSZ hgtw hlt0 ⊢
      refine region_tail 4 (by kernel_rfl) (by kernel_rfl) ?_
      simp only [List.take_succ_cons, List.take_zero, List.drop_succ_cons, List.drop_zero]
      repeat (quiet_step ((fail)))
      refine wpQuiet_nil ?_
      rintro _ ⟨nq, rfl⟩
      obtain ⟨m, hm⟩ : ∃ m, Nat.min (N - i) 128 = m := ⟨_, rfl⟩
      have hm1 : m ≤ N - i := by rw [← hm]; exact Nat.min_le_left _ _
      have hm2 : m ≤ 128 := by rw [← hm]; exact Nat.min_le_right _ _
      have hm3 : 0 < m := by rw [← hm]; exact Nat.lt_min.2 ⟨by omega, by omega⟩
      have hch : ((l.drop i).take m).length = m := by rw [List.length_take, List.length_drop, HLN.out]; omega
      have hbelow : Below w0.heap.size w0 (wb.drewN nq) := HST1.out.bel.trans ((drewN_below wb nq).mono HST1.out.bel.size)
      have hCs := Kd.C_take (m := m) (by have := hCA (Kd.int .i32) (wb.drewN nq) l rfl (Kd.C_below HC.out hbelow); rw [← (show (l.drop i).length = N - i by rw [List.length_drop, HLN.out])] at this; exact this) (by rw [List.length_drop, HLN.out]; omega)
      obtain ⟨ad2, ead2, hsrc⟩ := copySrc hCs (by rw [hch]; omega)
      subst ead2
      refine wpList_copy_at (by rfl) (.tmp 53) (.tmp 56) 37 37 (by rfl) 21 Try.underlying37 ?h1 gb 0 128 128 ad2 (N - i) (c - i) (by rfl) (by rfl) 125 .i32 _ ((l.drop i).take m) (HBK.out.drewN nq) ?hn hsrc ?hf ?_
      case h1 => kernel_rfl
      case hn => rw [hch]; exact hm.symm
      case hf => rw [hch, List.length_replicate]; omega
      intro w4 hr hg
      rw [hch] at hr
      obtain ⟨Bk, hBk⟩ : ∃ Bk, (l.drop i).take m ++ List.replicate (128 - m) 0 = Bk := ⟨_, rfl⟩
      have HR4 : Aside0 (Row w4 gb 125 .i32 Bk) := ⟨by rw [List.take_zero, List.nil_append, Nat.zero_add, List.drop_replicate, hBk] at hr; exact hr⟩
      have hBl : Bk.length = 128 := by rw [← hBk, List.length_append, hch, List.length_replicate]; omega
      have hnl : (nums .i32 ((l.drop i).take m)).length = m := by unfold nums; rw [List.length_map]; exact hch
      rw [hnl]
      have HST4 : Aside0 (Stz w0 (.slice (some ⟨gt, 0, none⟩) LL Ct) (xs ++ hdL N f ++ blksB bs) w4) := ⟨(HST1.out.below' (drewN_below wb nq)).other hSZ hg (slice_ne (by omega))⟩
      have hlt4 : gb < w4.heap.size := by have := hg.size; exact Nat.lt_of_lt_of_le hlt0 this
      have HBW : Aside0 (∀ x ∈ Bk, -2147483648 ≤ x ∧ x ≤ 2147483647) := ⟨fun x hx => by
        rw [← hBk] at hx
        rcases List.mem_append.1 hx with h | h
        · exact HWF.out x (List.mem_of_mem_drop (List.mem_of_mem_take h))
        · have := List.eq_of_mem_replicate h; omega⟩
      have HBKQ := Aside0.mk hBk
      have HMQ := Aside0.mk hm
      have hgbt : gt ≠ gb := by omega
      clear hr hg hsrc hCs hbelow hnl hBk hch HBK HST1 hm hgb hlt0 hfresh
      have HD5 := Aside0.mk fun W h => blockDeltaInt32_calls gb Bk last W h hBl
      have hDl : (dlt .i32 last Bk).length = 128 := by rw [dlt_length, hBl]
      have HM6 := Aside0.mk fun W h => blockMinInt32_calls gb (dlt .i32 last Bk) W h hDl
      have HS7 := Aside0.mk fun mn W h => blockSubInt32_calls gb (dlt .i32 last Bk) mn W h hDl
      have HC8 : Aside0 (∀ mn W, Row W gb 125 .i32 (subL .i32 mn (dlt .i32 last Bk)) → _) := ⟨fun mn W h => blockClearInt32_calls gb m _ W h (by rw [subL_length, hDl]) hm2⟩
      obtain ⟨L127, hL127⟩ : ∃ y, rd Bk (127 : Nat) = y := ⟨_, rfl⟩
      rw [hL127] at HD5
      have HL127 := Aside0.mk hL127
      clear hL127
      go_wp2_with (first
        | (go_at_call 85; go_loud (with_reducible refine (HD5.out _ HR4.out).mono ?_); rintro e w5 ⟨rfl, hr, hg⟩; have HR5 := Aside0.mk hr; have HST5 := Aside0.mk (HST4.out.other hSZ hg (slice_ne hgbt)); have hlt5 := Nat.lt_of_lt_of_le hlt4 hg.size; clear hr hg)
        | (go_at_call 86; go_loud (with_reducible refine (HM6.out _ HR5.out).mono ?_); rintro e w6 ⟨mn, rfl, hmem, rfl⟩; have HMN := Aside0.mk hmem; clear hmem)
        | (go_at_call 87; go_loud (with_reducible refine (HS7.out mn _ HR5.out).mono ?_); rintro e w7 ⟨rfl, hr, hg⟩; have HR7 := Aside0.mk hr; have HST7 := Aside0.mk (HST5.out.other hSZ hg (slice_ne hgbt)); have hlt7 := Nat.lt_of_lt_of_le hlt5 hg.size; clear hr hg)
        | (go_at_call 88; go_loud (with_reducible refine (HC8.out mn _ HR7.out).mono ?_); rintro e w8 ⟨rfl, hr, hg⟩; have HR8 := Aside0.mk hr; have HST8 := Aside0.mk (HST7.out.other hSZ hg (slice_ne hgbt)); have hlt8 := Nat.lt_of_lt_of_le hlt7 hg.size; clear hr hg))
      obtain ⟨Sb, hSb⟩ : ∃ Sb, subL .i32 mn (dlt .i32 last Bk) = Sb := ⟨_, rfl⟩
      have hSl : Sb.length = 128 := by rw [← hSb, subL_length, hDl]
      rw [hSb] at HR8
      obtain ⟨cl, hcl⟩ : ∃ cl, Sb.take m ++ List.replicate (128 - m) 0 = cl := ⟨_, rfl⟩
      rw [hcl] at HR8
      have hcll : cl.length = 128 := by rw [← hcl, List.length_append, List.length_take, List.length_replicate, hSl]; omega
      have hmn := HMN.out
      have hmnb : -2147483648 ≤ mn ∧ mn ≤ 2147483647 := by
        simp only [dlt, List.mem_map, List.mem_range] at hmn
        obtain ⟨j, _, rfl⟩ := hmn
        unfold dltF
        rw [IntKind.wrap_i32]; omega
      have hvals : walkV .i32 mn last (unsI 4294967296 Sb) = Bk := by rw [← hSb]; exact enc32_vals mn last Bk HBW.out
      have HSB := Aside0.mk hSl
      have HVL := Aside0.mk hvals
      have HCLQ := Aside0.mk hcl
      have HCLL := Aside0.mk hcll
      have HR9 : Aside0 (Row (w8.alloc (.cells #[.int .u8 0, .int .u8 0, .int .u8 0, .int .u8 0] 98)) gb 125 .i32 cl) := ⟨HR8.out.alloc _⟩
      have HW9 : Aside0 (Row (w8.alloc (.cells #[.int .u8 0, .int .u8 0, .int .u8 0, .int .u8 0] 98)) w8.heap.size 98 .u8 [0, 0, 0, 0]) := ⟨⟨Blk.new _ _ _⟩⟩
      have HST9 : Aside0 (Stz w0 (.slice (some ⟨gt, 0, none⟩) LL Ct) (xs ++ hdL N f ++ blksB bs) (w8.alloc (.cells #[.int .u8 0, .int .u8 0, .int .u8 0, .int .u8 0] 98))) := ⟨HST8.out.below' ((Below.refl _ _).alloc (Nat.le_refl _) _)⟩
      have hlt9 : w8.heap.size < (w8.alloc (.cells #[.int .u8 0, .int .u8 0, .int .u8 0, .int .u8 0] 98)).heap.size := by simp
      generalize w8.alloc (.cells #[.int .u8 0, .int .u8 0, .int .u8 0, .int .u8 0] 98) = w9 at *
      obtain ⟨gw, hgw⟩ : ∃ gw, w8.heap.size = gw := ⟨_, rfl⟩
      rw [hgw] at HW9 hlt8 hlt9 ⊢
      have HBW9 := Aside0.mk (blockBitWidthsInt32_calls gb gw cl w9 HR9.out hcll HW9.out (by omega))
      have HRS := Aside0.mk fun W (h : Stz w0 (.slice (some ⟨gt, 0, none⟩) LL Ct) (xs ++ hdL N f ++ blksB bs) W) => resizeZ_calls w0.heap.size _ (xs ++ hdL N f ++ blksB bs) (LL + 530) W h.own h.bel.size (by rw [HLLQ.out]; omega) (by omega)
      simp only [HLLQ.out] at HRS
      rw [show ((LL + 530 : Nat) : Int) = (LL : Int) + 526 + 4 by omega, show LL + 530 - LL = 530 by omega] at HRS
      have hgtgw : gt ≠ gw := by omega
      have hgbgw : gb ≠ gw := by omega
      have hSZ2 : w0.heap.size ≤ gw := by omega
      clear hSb hSl hcl hcll hmn hvals HR8 HR7 HR5 HR4 HST8 HST7 HST5 HST4 HM6 HS7 HC8 HD5 hlt4 hlt5 hlt7 hgw
      go_wp2_with (first
        | (go_at_call 89; go_loud (with_reducible refine HBW9.out.mono ?_); rintro e w10 ⟨ws, rfl, hwl, hwq, hwf, hw, hg⟩; have HWL := Aside0.mk hwl; have HWQ := Aside0.mk hwq; have HWFT := Aside0.mk hwf; have HW10 := Aside0.mk hw; have HR10 := Aside0.mk (HR9.out.grown hg (fun e => hgbgw (by injection e))); have HST10 := Aside0.mk (HST9.out.other hSZ2 hg (slice_ne hgtgw)); have hlt10 := Nat.lt_of_lt_of_le hlt9 hg.size; clear hwl hwq hwf hw hg)
        | (go_at_call 48; go_loud (with_reducible refine (HRS.out _ HST10.out).mono ?_); rintro e w11 ⟨g, M, rfl, hf, h1, h2, h3, h4, hg⟩; have HF11 := Aside0.mk hf; have HG11 := Aside0.mk hg; have hgw2 : gw ≠ g := h4.elim (fun h => by omega) (fun h e => slice_ne hgtgw (by rw [e]; exact h)); have hgb2 : gb ≠ g := h4.elim (fun h => by omega) (fun h e => slice_ne hgbt (by rw [e]; exact h)); have HW11 := Aside0.mk (HW10.out.grown hg (fun e => hgw2 (by injection e))); have HR11 := Aside0.mk (HR10.out.grown hg (fun e => hgb2 (by injection e))); have HB11 : Aside0 (Below w0.heap.size w0 w11) := ⟨HST10.out.bel.grown hg HST10.out.bel.size (fun j hj => by injection hj with hj; omega)⟩; clear hf hg h4))
      obtain ⟨X0, hX0⟩ : ∃ X0, xs ++ hdL N f ++ blksB bs = X0 := ⟨_, rfl⟩
      rw [hX0] at HF11 HLLQ
      have HX0 := Aside0.mk hX0
      obtain ⟨a0, a1, a2, a3, hws⟩ : ∃ a0 a1 a2 a3, ws = [a0, a1, a2, a3] := by
        have h := HWL.out
        match ws, h with
        | [a0, a1, a2, a3], _ => exact ⟨a0, a1, a2, a3, rfl⟩
      have HWSQ := Aside0.mk hws
      have hbm : ∀ q ∈ ws, q ≤ 32 := HWQ.out
      have ha0 : a0 ≤ 32 := hbm a0 (by rw [hws]; simp)
      have ha1 : a1 ≤ 32 := hbm a1 (by rw [hws]; simp)
      have ha2 : a2 ≤ 32 := hbm a2 (by rw [hws]; simp)
      have ha3 : a3 ≤ 32 := hbm a3 (by rw [hws]; simp)
      have hni : natsI ws = [(a0 : Int), (a1 : Int), (a2 : Int), (a3 : Int)] := by rw [hws]; rfl
      rw [hni] at HW11
      have HNI := Aside0.mk hni
      have x0 := HW11.out.cell (j := 0) (by simp)
      have x1 := HW11.out.cell (j := 1) (by simp)
      have x2 := HW11.out.cell (j := 2) (by simp)
      have x3 := HW11.out.cell (j := 3) (by simp)
      have x0 : w11.cell? ⟨gw, 0, none⟩ = some (.int .u8 a0) := x0
      have x1 : w11.cell? ⟨gw, 1, none⟩ = some (.int .u8 a1) := x1
      have x2 : w11.cell? ⟨gw, 2, none⟩ = some (.int .u8 a2) := x2
      have x3 : w11.cell? ⟨gw, 3, none⟩ = some (.int .u8 a3) := x3
      have HX := Aside0.mk (And.intro x0 (And.intro x1 (And.intro x2 x3)))
      have HHB : Aside0 (∀ W, Front W g M 5 .u8 (X0 ++ List.replicate 530 0) → Calls Try.prog 82 #[.slice (some ⟨g, LL, none⟩) 530 (M - LL), .int .i64 mn, .agg #[.int .u8 a0, .int .u8 a1, .int .u8 a2, .int .u8 a3]] W fun e w' => e = .returned (.int .i64 ((varL (zz mn) ++ natsI ws).length : Int)) ∧ Front w' g M 5 .u8 (X0 ++ (varL (zz mn) ++ natsI ws) ++ List.replicate (530 - (varL (zz mn) ++ natsI ws).length) 0) ∧ W.grownBy w' (some g)) := ⟨fun W h => by
        have := blockHeader_calls g M 5 530 (M - LL) X0 (List.replicate 530 0) mn a0 a1 a2 a3 W h (by omega) (by omega) (by omega) (by omega) (by omega) (by rw [List.length_replicate]; omega)
        rw [HLLQ.out, List.drop_replicate, ← HNI.out] at this; exact this⟩
      obtain ⟨D0, hD0⟩ : ∃ D0, varL (zz mn) ++ natsI ws = D0 := ⟨_, rfl⟩
      rw [hD0] at HHB
      obtain ⟨DL, hDL⟩ : ∃ DL, D0.length = DL := ⟨_, rfl⟩
      rw [hDL] at HHB
      have hDL9 : DL ≤ 14 := by
        rw [← hDL, ← hD0, List.length_append, natsI_length, HWL.out]
        have := varL_len10 (zz mn) (zz_lt mn (by omega) (by omega)); omega
      have HD0 := Aside0.mk hD0
      have HDL := Aside0.mk hDL
      have cut3 := cutFrom0 (P := Try.prog) 23 5 Try.underlying23 h8.1 h8.2 g (LL + 530) M LL (by omega) h1 (by omega)
      rw [show LL + 530 - LL = 530 by omega] at cut3
      have hmw : IntKind.i64.wrap mn = mn := IntWalk.i64_in _ (by omega)
      have hLDw : IntKind.i64.wrap ((LL : Int) + (DL : Int)) = (LL : Int) + (DL : Int) := IntWalk.i64_in _ (by omega)
      have HFd : Aside0 (Front w11.drew g M 5 .u8 (X0 ++ List.replicate 530 0)) := ⟨HF11.out.drewN 1⟩
      have hgwlt : gw < w11.heap.size := Nat.lt_of_lt_of_le hlt10 HG11.out.size
      have hglt : g < w11.heap.size := HF11.out.lt
      clear hX0 hws hni hbm hD0 hDL x0 x1 x2 x3 HRS HBW9 HR9 HW9 HST9 HR10 HW10 HST10 hlt9 hlt10
      go_region_held3 (fun (w9 : World) => w9.cell? ⟨gw, 0, none⟩ = some (.int .u8 a0) ∧ w9.cell? ⟨gw, 1, none⟩ = some (.int .u8 a1) ∧ w9.cell? ⟨gw, 2, none⟩ = some (.int .u8 a2) ∧ w9.cell? ⟨gw, 3, none⟩ = some (.int .u8 a3))
        (first | exact HX12.out | exact HX.out)
        ((first
          | (go_at_call 82; go_loud (with_reducible refine (HHB.out _ HFd.out).mono ?_); rintro e w12 ⟨rfl, hf, hg⟩; have HF12 := Aside0.mk hf; have HG12 := Aside0.mk hg; have HX12 : Aside0 (w12.cell? ⟨gw, 0, none⟩ = some (.int .u8 a0) ∧ w12.cell? ⟨gw, 1, none⟩ = some (.int .u8 a1) ∧ w12.cell? ⟨gw, 2, none⟩ = some (.int .u8 a2) ∧ w12.cell? ⟨gw, 3, none⟩ = some (.int .u8 a3)) := ⟨cells4_keep hg hgwlt (fun e => hgw2 (by injection e)) HX.out⟩; clear hf hg)
          | fail "no arm"))
      obtain ⟨y0, y1, y2, y3⟩ := HX12.out
      have HR12 := Aside0.mk ((HR11.out.drewN 1).grown HG12.out (fun e => hgb2 (by injection e)))
      have HB12 : Aside0 (Below w0.heap.size w0 w12) := ⟨HB11.out.drew.grown HG12.out (by have := HB11.out.drew.size; exact this) (fun j hj => by injection hj with hj; omega)⟩
      go_wp2_with (fail)
      obtain ⟨X1, hX1⟩ : ∃ X1, X0 ++ D0 = X1 := ⟨_, rfl⟩
      have hX1l : X1.length = LL + DL := by rw [← hX1, List.length_append, HLLQ.out, HDL.out]
      obtain ⟨L1, hL1⟩ : ∃ L1, LL + DL = L1 := ⟨_, rfl⟩
      rw [hL1] at hX1l
      have hL1I : (LL : Int) + (DL : Int) = (L1 : Int) := by omega
      have HX1L := Aside0.mk hX1l
      have HX1 := Aside0.mk hX1
      have HF13 : Aside0 (Front w12 g M 5 .u8 (X1 ++ partsB (encPs 4294967296 ws cl 0) ++ List.replicate (530 - DL - 0) 0)) := ⟨by have := HF12.out; rw [hX1] at this; simpa [encPs, partsB] using this⟩
      have hg0 : w0.heap.size ≤ g := h3
      have hPB : ∀ j, j ≤ 4 → (partsB (encPs 4294967296 ws cl j)).length ≤ j * (4 * 32) := fun j hj => by
        have := partsB_len (encPs 4294967296 ws cl j) 32 (fun p hp => by
          simp only [encPs, List.mem_map, List.mem_range] at hp
          obtain ⟨q, hq, rfl⟩ := hp
          refine ⟨?_, encP_len 4294967296 ws cl q HCLL.out (by omega)⟩
          exact HWQ.out _ (show ws.getD q 0 ∈ ws by rw [List.getD_eq_getElem?_getD, List.getElem?_eq_getElem (by rw [HWL.out]; omega)]; exact List.getElem_mem _))
        simpa [encPs] using this
      have HPB := Aside0.mk hPB
      have HL1I := Aside0.mk hL1I
      have hL19 : L1 ≤ 30000014 := by omega
      have HL1N := Aside0.mk hL1
      clear hX1 hX1l hPB HF12 HFd HX HX12 HF11 HHB cut3 hL1I hL1
      obtain ⟨gk0, rfl⟩ : ∃ gk0, gk = gk0 + 1 := ⟨gk - 1, by have := HK.out; omega⟩
      go_loopg [14, 84] 4 (fun kq v14 v82 w' => ∃ (j pj : Nat), j ≤ 4 ∧ v82 = .int .i64 j ∧ v14 = .int .i64 ((L1 : Int) + (pj : Int)) ∧ Aside0 ((partsB (encPs 4294967296 ws cl j)).length = pj) ∧ Aside0 (Front w' g M 5 .u8 (X1 ++ partsB (encPs 4294967296 ws cl j) ++ List.replicate (530 - DL - pj) 0)) ∧ Aside0 (Row w' gb 125 .i32 cl) ∧ Aside0 (Below w0.heap.size w0 w') ∧ Aside0 (4 - j ≤ kq))
      case atStart => refine ⟨0, 0, by omega, rfl, ?_, ⟨by simp [encPs, partsB]⟩, HF13, HR12, HB12, ⟨by omega⟩⟩; rw [HL1I.out]; go_num
      case round =>
        clear HF13 HR12 HB12 HR11 HB11 hmw y0 y1 y2 y3
        obtain ⟨j, pj, hj, rfl, rfl, HPJ, HF, HR, HB, HK2⟩ := hrel
        have hpj := HPB.out j hj
        rw [HPJ.out] at hpj
        by_cases cj : j < 4
        · have cjb : decide ((j : Int) < 4) = true := decide_eq_true (by omega)
          have cjn : decide (j < 4) = true := decide_eq_true cj
          obtain ⟨b, hb⟩ : ∃ b, ws.getD j 0 = b := ⟨_, rfl⟩
          have hbW : b ≤ 32 := by rw [← hb]; exact HWQ.out _ (by rw [List.getD_eq_getElem?_getD, List.getElem?_eq_getElem (by rw [HWL.out]; omega)]; exact List.getElem_mem _)
          have hidx := fun W => runIndex4 (P := Try.prog) 98 5 (by first | exact Try.underlying98 | kernel_rfl) infoU8s (by intro w; kernel_rfl) (.int .u8 a0) (.int .u8 a1) (.int .u8 a2) (.int .u8 a3) j cj W
          have hsel : ([.int .u8 a0, .int .u8 a1, .int .u8 a2, .int .u8 a3] : List Value).getD j (.int .u8 a0) = .int .u8 (b : Int) := by
            rw [← hb, HWSQ.out]
            rcases (show j = 0 ∨ j = 1 ∨ j = 2 ∨ j = 3 by omega) with h | h | h | h <;> subst h <;> rfl
          rw [hsel] at hidx
          have HSC := Aside0.mk (encPs_succ 4294967296 ws cl j)
          have HBQ := Aside0.mk hb
          clear hsel hb
          by_cases cb : b = 0
          · have q5 : ((b : Int) == 0) = true := by rw [beq_iff_eq]; omega
            have HSB0 : Aside0 (partsB (encPs 4294967296 ws cl (j + 1)) = partsB (encPs 4294967296 ws cl j)) := ⟨by rw [HSC.out, partsB_snoc, show (encP 4294967296 ws cl j).1 = 0 from by rw [← cb, ← HBQ.out]; rfl, packLo_zero, List.append_nil]⟩
            have HCB := Aside0.mk cb
            clear cb
            go_wp2_with (fail)
            go_roundg (gk - 1)
            case measure => have := HK2.out; omega
            case rel => exact ⟨j + 1, pj, by omega, by go_num, rfl, ⟨by rw [HSB0.out]; exact HPJ.out⟩, ⟨by rw [HSB0.out]; exact HF.out⟩, HR, HB, ⟨by have := HK2.out; omega⟩⟩
          · have q5 : ((b : Int) == 0) = false := by rw [beq_eq_false_iff_ne]; omega
            obtain ⟨o, ho⟩ : ∃ o, 32 * j = o := ⟨_, rfl⟩
            have hoI : (j : Int) * 32 = (o : Int) := by omega
            have cuta := cutArr (P := Try.prog) 125 21 128 (by first | exact Try.underlying125 | kernel_rfl) h64.1 h64.2 gb o (by omega)
            have hat := runArrayAt (P := Try.prog) 167 21 32 (by first | exact Try.underlying167 | kernel_rfl) ⟨gb, o, none⟩ (128 - o) (128 - o) (by omega)
            obtain ⟨p, hp⟩ : ∃ p, L1 + pj = p := ⟨_, rfl⟩
            have hpI : (L1 : Int) + (pj : Int) = (p : Int) := by omega
            have cutn := cutFrom0 (P := Try.prog) 23 5 Try.underlying23 h8.1 h8.2 g (LL + 530) M p (by have := HL1N.out; omega) h1 (by have := HL1N.out; omega)
            obtain ⟨R, hR⟩ : ∃ R, LL + 530 - p = R := ⟨_, rfl⟩
            rw [hR] at cutn
            have hL1 := HL1N.out
            have hRe : 530 - DL - pj = R := by omega
            have hR9 : 132 ≤ R := by omega
            have hlen : (X1 ++ partsB (encPs 4294967296 ws cl j)).length = p := by rw [List.length_append, HX1L.out, HPJ.out]; exact hp
            obtain ⟨w32, hw32⟩ : ∃ w32, (cl.drop o).take 32 = w32 := ⟨_, rfl⟩
            have hwl32 : w32.length = 32 := by rw [← hw32, List.length_take, List.length_drop, HCLL.out]; omega
            have hrd32 : ∀ q : Nat, q < 32 → rd w32 (q : Nat) = rd cl ((o + q : Nat) : Int) := fun q hq => by
              rw [← hw32, ← rd_drop]
              unfold rd
              rw [Int.toNat_natCast, List.getD_eq_getElem?_getD, List.getD_eq_getElem?_getD, List.getElem?_take, if_pos hq]
            have HMI := Aside0.mk (miniInt32_calls g M 5 R (M - p) (X1 ++ partsB (encPs 4294967296 ws cl j)) gb o b w32 wr (by rw [← hRe]; exact HF.out)
              (fun W hW q hq => by
                have := (HR.out.grown hW (fun e => hgb2 (by injection e))).cell (j := o + q) (by rw [HCLL.out]; omega)
                rw [hrd32 q hq]; exact this) hwl32 (by omega) hbW (fun q hq => by rw [hrd32 q hq, ← HBQ.out]; exact (HWFT.out j cj).1 (o + q) (by omega) (by omega)) hR9 (by omega) (by omega) h2)
            rw [hlen] at HMI
            have hmb := mini_bytes b R (unsI 4294967296 w32) (by rw [unsI_length]; exact hwl32) (by omega)
            rw [hmb] at HMI
            have hpk : (packLo b (unsI 4294967296 w32)).length = 4 * b := by unfold packLo; rw [bytesLo_length, unsI_length, hwl32]; omega
            have HSN : Aside0 (partsB (encPs 4294967296 ws cl (j + 1)) = partsB (encPs 4294967296 ws cl j) ++ packLo b (unsI 4294967296 w32)) := ⟨by rw [HSC.out, partsB_snoc]; unfold encP; rw [HBQ.out, ho, hw32]⟩
            have HPK := Aside0.mk hpk
            have hb32 : 32 * (b : Int) = ((32 * b : Nat) : Int) := by omega
            obtain ⟨B32, hB32⟩ : ∃ B, 32 * b = B := ⟨_, rfl⟩
            rw [hB32] at hb32
            have hq1 : (B32 : Int) / 8 = ((4 * b : Nat) : Int) := by omega
            obtain ⟨b4, hb4⟩ : ∃ b4, 4 * b = b4 := ⟨_, rfl⟩
            rw [hb4] at hq1
            have hq2 : (B32 : Int).tdiv 8 = (b4 : Int) := by rw [Int.tdiv_eq_ediv_of_nonneg (by omega)]; exact hq1
            have HB4 := Aside0.mk hb4
            have HPE := Aside0.mk hp
            have hb49 : b4 ≤ 256 := by omega
            have hbu : IntKind.u64.wrap (b : Int) = (b : Int) := IntWalk.u64_in _ (by omega)
            clear hL1 hR hlen hw32 hwl32 hrd32 hmb hpk hB32 hb4 hp ho
            go_wp2_with (first
              | (go_at_call 90; go_loud (with_reducible refine HMI.out.mono ?_); rintro e w14 ⟨rfl, hf, hg⟩; have HF14 := Aside0.mk hf; have HR14 := Aside0.mk (HR.out.grown hg (fun e => hgb2 (by injection e))); have HB14 : Aside0 (Below w0.heap.size w0 w14) := ⟨HB.out.grown hg HB.out.size (fun j hj => by injection hj with hj; omega)⟩; clear hf hg))
            go_roundg (gk - 1)
            case measure => have := HK2.out; omega
            case rel =>
              refine ⟨j + 1, pj + b4, by omega, by go_num, by go_num, ⟨by rw [HSN.out, List.length_append, HPJ.out, HPK.out, HB4.out]⟩, ⟨?_⟩, HR14, HB14, ⟨by have := HK2.out; omega⟩⟩
              have h := HF14.out
              rw [HSN.out, ← List.append_assoc, show 530 - DL - (pj + b4) = R - 4 * b by rw [HB4.out]; omega]
              rw [← List.append_assoc] at h
              exact h
        · obtain rfl : j = 4 := by omega
          have cjb : decide (((4 : Nat) : Int) < 4) = false := by decide
          obtain ⟨p, hp⟩ : ∃ p, L1 + pj = p := ⟨_, rfl⟩
          have hpI : (L1 : Int) + (pj : Int) = (p : Int) := by omega
          have cute := cutAtMid0 (P := Try.prog) 23 5 Try.underlying23 h8.1 h8.2 g (LL + 530) M p (by have := HL1N.out; omega)
          have hlen : (X1 ++ partsB (encPs 4294967296 ws cl 4)).length = p := by rw [List.length_append, HX1L.out, HPJ.out]; exact hp
          have hown := own_front0 HF.out hg0 h2
          rw [hlen] at hown
          have hX : X1 ++ partsB (encPs 4294967296 ws cl 4) = xs ++ hdL N f ++ blksB (bs ++ [(mn, encPs 4294967296 ws cl 4)]) := by
            rw [blksB_snoc]
            unfold blkB
            rw [encPs_fst _ _ _ HWL.out, HD0.out, ← HX1.out, ← HX0.out]
            simp only [List.append_assoc]
          rw [hX] at hown
          have HOW := Aside0.mk hown
          have hw1 := HI1.out
          have HRD := Aside0.mk (enc_round .i32 32 4294967296 (by decide) f last mn l N i m bs ws Bk Sb cl HLN.out hw1 ci HMQ.out HBKQ.out.symm HSB.out HVL.out HCLQ.out.symm HWL.out HWQ.out HWFT.out (by omega) HOK.out (HV2.out (by omega)) (HLS.out (by omega)))
          have HBN := Aside0.mk (blk_len 32 (by omega) 4294967296 mn ws cl HCLL.out HWQ.out HWL.out (by omega))
          clear hown hX hlen hp
          go_wp2_with (fail)
          go_roundg gk0
          case measure => omega
          case rel =>
            obtain ⟨r1, r2, r3, r4⟩ := HRD.out
            refine ⟨i + 128, L127, bs ++ [(mn, encPs 4294967296 ws cl 4)], rfl, by go_num, by omega, ⟨r1⟩, ⟨r2⟩, ⟨r3⟩, ⟨by omega⟩, ⟨fun h => by rw [← HL127.out]; exact r4 h⟩, ⟨?_⟩, ⟨⟨HOW.out, HB.out⟩⟩, ⟨by have := HK.out; omega⟩⟩
            rw [blksB_snoc, List.length_append]
            have h1 := HBL.out; have h2 := HBN.out
            omega
    · have cib : decide ((i : Int) < (N : Int)) = false := decide_eq_false (by omega)
      have cib2 : decide (i < N) = false := decide_eq_false ci
      go_wp2_with (fail)
      go_ret
      refine ⟨_, bs, rfl, HST.out.own, ?_, ?_, by have := HBL.out; omega, HST.out.bel⟩
      · have := HOK.out [] (by show N - i = 0; omega)
        rw [List.append_nil] at this; exact this
      · rw [HV.out]; exact List.take_of_length_le (by rw [HLN.out]; omega)
end Go.Proofs.Ytigmcdpjlkgocaa.Dep

/-! The encoder of differences, its methods, and the thin package. -/
namespace Go.Proofs.Ytigmcdpjlkgocaa.Dew
open Go.Proofs.Ytigmcdpjlkgocaa.Dep Go.Proofs.Ytigmcdpjlkgocaa.Dsr Go.Proofs.Ytigmcdpjlkgocaa.Dst Go.Proofs.Ytigmcdpjlkgocaa.Deo Go.Proofs.Ytigmcdpjlkgocaa.Den Go.Proofs.Ytigmcdpjlkgocaa.Deb Go.Proofs.Ytigmcdpjlkgocaa.Drx Go.Proofs.Ytigmcdpjlkgocaa.Dds Go.Proofs.Ytigmcdpjlkgocaa.Dbw Go.Proofs.Ytigmcdpjlkgocaa.Dbk Go.Proofs.Ytigmcdpjlkgocaa.Dhd Go.Proofs.Ytigmcdpjlkgocaa.Dgr Go.Proofs.Ytigmcdpjlkgocaa.Dpu Go.Proofs.Ytigmcdpjlkgocaa.Pak Go.Proofs.Ytigmcdpjlkgocaa.Buf Go.Proofs.Ytigmcdpjlkgocaa.Fit Go.Proofs.Ytigmcdpjlkgocaa.Bit Go.Proofs.Ytigmcdpjlkgocaa.Wrd Go.Proofs.Ytigmcdpjlkgocaa.Spl Go.Proofs.Ytigmcdpjlkgocaa.Str Go.Proofs.Ytigmcdpjlkgocaa.Flt Go.Proofs.Ytigmcdpjlkgocaa.Owe Go.Proofs.Ytigmcdpjlkgocaa.Num Go.Proofs.Ytigmcdpjlkgocaa.Le Go.Proofs.Ytigmcdpjlkgocaa.Lst Go.Proofs.Ytigmcdpjlkgocaa.Aid Go.RowKit Go.Proofs.YtigmcdpjlkgocaaW.PrintWords Go.Proofs.YtigmcdpjlkgocaaW.PrintLast Go.Proofs.YtigmcdpjlkgocaaW.PrintMore
set_option linter.unusedVariables false
set_option linter.unusedSimpArgs false
theorem infoI64w : (Try.prog.info? 2).map (fun i => (i.zero, i.size, i.bytes)) = some (some (.int .i64 0), 1, 8) := by kernel_rfl
theorem infoI32w : (Try.prog.info? 21).map (fun i => (i.zero, i.size, i.bytes)) = some (some (.int .i32 0), 1, 4) := by kernel_rfl
theorem hdL_le (T : Nat) (f : Int) (hT : T ≤ 4294967296) (h0 : -9223372036854775808 ≤ f) (h1 : f ≤ 9223372036854775807) : (hdL T f).length ≤ 40 := by
  have b1 := varL_len10 128 (by omega)
  have b2 := varL_len10 4 (by omega)
  have b3 := varL_len10 T (by omega)
  have b4 := varL_len10 (zz f) (zz_lt f h0 h1)
  unfold hdL
  simp only [List.length_append]; omega
theorem wf64 {l : List Int} (h : ∀ x ∈ l, (Lit.int .i64 x).wf = true) : -9223372036854775808 ≤ fstI l ∧ fstI l ≤ 9223372036854775807 := by
  cases l with
  | nil => show -9223372036854775808 ≤ (0 : Int) ∧ (0 : Int) ≤ 9223372036854775807; omega
  | cons x l =>
    have := h x (by simp)
    simp [Lit.wf, IntKind.min, IntKind.max, IntKind.signed, IntKind.bits] at this
    show -9223372036854775808 ≤ x ∧ x ≤ 9223372036854775807; omega
theorem wf32 {l : List Int} (h : ∀ x ∈ l, (Lit.int .i32 x).wf = true) : -2147483648 ≤ fstI l ∧ fstI l ≤ 2147483647 := by
  cases l with
  | nil => show -2147483648 ≤ (0 : Int) ∧ (0 : Int) ≤ 2147483647; omega
  | cons x l =>
    have := h x (by simp)
    simp [Lit.wf, IntKind.min, IntKind.max, IntKind.signed, IntKind.bits] at this
    show -2147483648 ≤ x ∧ x ≤ 2147483647; omega
/-- the bytes that the encoder writes for a list -/
structure EncOf (k : IntKind) (W : Nat) (l : List Int) (bs : List DBlk) : Prop where
  ok : strOk W 4 32 (l.length - 1) bs
  vals : (fstI l :: blksV k (fstI l) bs).take l.length = l
  len : (blksB bs).length ≤ 2000000
theorem encInt64D_calls (w0 : World) (A : Option Addr) (N c : Nat) (l : List Int) (v : Value) (xs : List Int) (w : World) (hO : Own w w0.heap.size 5 .u8 v xs) (hB : Below w0.heap.size w0 w) (hC : (Kd.int .i64).C w0 A N l) (hc : N ≤ c) (hn9 : N ≤ 100000) (hx : xs.length ≤ 16777216) (hwf : ∀ x ∈ l, (Lit.int .i64 x).wf = true) :
    Calls Try.prog 56 #[v, .slice A N c] w fun e w' => ∃ v1 bs, e = .returned v1 ∧ Own w' w0.heap.size 5 .u8 v1 (xs ++ hdL N (fstI l) ++ blksB bs) ∧ EncOf .i64 64 l bs ∧ Below w0.heap.size w0 w' := by
  have hl : l.length = N := hC.1
  by_cases h : N < 2
  · refine (encInt64Short_calls w0 A N c l v xs w hO hB hC hc h hx hwf).mono ?_
    rintro e w' ⟨v1, rfl, ho, hb⟩
    refine ⟨v1, [], rfl, by simpa [blksB] using ho, ⟨by rw [hl]; show N - 1 = 0; omega, ?_, by simp [blksB]⟩, hb⟩
    rcases (show N = 0 ∨ N = 1 by omega) with e | e
    · rw [hl, e, List.take_zero]; exact (List.eq_nil_of_length_eq_zero (by omega)).symm
    · match l, (show l.length = 1 by omega) with
      | [x], _ => rfl
  · refine (encInt64Long_calls w0 A N c l v xs w hO hB hC hc (by omega) hn9 hx hwf).mono ?_
    rintro e w' ⟨v1, bs, rfl, ho, h1, h2, h3, hb⟩
    exact ⟨v1, bs, rfl, ho, ⟨by rw [hl]; exact h1, by rw [hl]; exact h2, h3⟩, hb⟩
theorem encInt64_calls (w0 : World) (A : Option Addr) (N c : Nat) (l : List Int) (v : Value) (xs : List Int) (w : World) (hO : Own w w0.heap.size 5 .u8 v xs) (hB : Below w0.heap.size w0 w) (hC : (Kd.int .i64).C w0 A N l) (hc : N ≤ c) (hn9 : N ≤ 100000) (hx : xs.length ≤ 16777216) (hwf : ∀ x ∈ l, (Lit.int .i64 x).wf = true) :
    Calls Try.prog 36 #[v, .slice A N c] w fun e w' => ∃ v1 bs, e = .returned v1 ∧ Own w' w0.heap.size 5 .u8 v1 (xs ++ hdL N (fstI l) ++ blksB bs) ∧ EncOf .i64 64 l bs ∧ Below w0.heap.size w0 w' := by
  have HCALL := Aside0.mk (encInt64D_calls w0 A N c l v xs w hO hB hC hc hn9 hx hwf)
  clear hO hB hC hwf
  go_enter Try.func36, Try.ntmps36
  go_wp2_with (first
    | (go_at_call 56; go_loud (with_reducible refine HCALL.out.mono ?_); rintro e w2 ⟨v1, bs, rfl, ho, hk, hb⟩; have HO2 := Aside0.mk ho; have HK2 := Aside0.mk hk; have HB2 := Aside0.mk hb; clear ho hk hb))
  go_ret
  exact ⟨_, bs, rfl, HO2.out, HK2.out, HB2.out⟩
set_option maxHeartbeats 4000000 in
theorem bpEncInt64_calls (p : Value) (A : Option Addr) (N c : Nat) (l : List Int) (w : World) (hC : (Kd.int .i64).C w A N l) (hc : N ≤ c) (hn9 : N ≤ 100000) (hwf : ∀ x ∈ l, (Lit.int .i64 x).wf = true) :
    Calls Try.prog 19 #[p, .slice none 0 0, .slice A N c] w fun e w' => ∃ v1 bs, e = .returned (.tuple #[v1, .nilIface]) ∧ Own w' w.heap.size 5 .u8 v1 (hdL N (fstI l) ++ blksB bs) ∧ EncOf .i64 64 l bs ∧ Below w.heap.size w w' := by
  have HCALL := Aside0.mk (encInt64_calls w A N c l (.slice none 0 0) [] w (Own.nil _ _ _ _) (Below.refl _ _) hC hc hn9 (by simp) hwf)
  obtain ⟨i8, h8⟩ := h8
  obtain ⟨cutz, _⟩ := cutHi (P := Try.prog) 23 5 Try.underlying23 h8.1 none 0 0 .i64 0 0 rfl (by omega) (by omega)
  clear hC hwf
  go_enter Try.func19, Try.ntmps19
  go_wp2_with (first
    | (go_at_call 36; go_loud (with_reducible refine HCALL.out.mono ?_); rintro e w2 ⟨v1, bs, rfl, ho, hk, hb⟩; rw [List.nil_append] at ho; have HO2 := Aside0.mk ho; have HK2 := Aside0.mk hk; have HB2 := Aside0.mk hb; clear ho hk hb))
  go_ret2
  exact ⟨_, bs, rfl, HO2.out, HK2.out, HB2.out⟩
set_option maxHeartbeats 4000000 in
theorem encodeInt64sDelta_calls (A : Option Addr) (N c : Nat) (l : List Int) (w0 : World) (hC : (Kd.int .i64).C w0 A N l) (hc : N ≤ c) (hn9 : N ≤ 100000) (hwf : ∀ x ∈ l, (Lit.int .i64 x).wf = true) :
    Calls Try.prog 7 #[.string ⟨#[100, 101, 108, 116, 97]⟩, .slice A N c] w0 fun e w' => ∃ v bs, e = .returned (.tuple #[v, .bool true]) ∧ Own w' w0.heap.size 5 .u8 v (hdL N (fstI l) ++ blksB bs) ∧ EncOf .i64 64 l bs ∧ Below w0.heap.size w0 w' := by
  have HLN : Aside0 (l.length = N) := ⟨hC.1⟩
  have HWF := Aside0.mk hwf
  have HC2 : Aside0 ((Kd.int .i64).C (w0.alloc (.cells #[] 2)) A N l) := ⟨Kd.C_alloc hC _⟩
  have HE := Aside0.mk (Own.empty w0 w0.heap.size 2 .i64 (Nat.le_refl _))
  have HEB : Aside0 (Below w0.heap.size w0 (w0.alloc (.cells #[] 2))) := ⟨(Below.refl _ _).alloc (Nat.le_refl _) _⟩
  clear hC hwf
  go_enter Try.func7, Try.ntmps7
  go_wp2_with (first
    | (at_builtin; go_loud (refine appendRead (w0 := w0) w0.heap.size rfl (.tmp 9) (.tmp 10) 22 2 .i64 8 rfl Try.underlying22 infoI64w (by decide) _ [] A N c l rfl rfl HE.out HEB.out ?hb HC2.out ?hl ?_); (case hb => exact HEB.out.size); (case hl => simp; omega); intro v1 w1 ho hb hg; rw [List.nil_append] at ho; obtain ⟨A1, c1, rfl, hc1, hr1⟩ := ho.read; rw [HLN.out] at hc1 hr1; rw [HLN.out]; have HR1 := Aside0.mk (Kd.C_alloc hr1 (.cells #[] 49)); have HBA : Aside0 (Below w0.heap.size w0 (w1.alloc (.cells #[] 49))) := ⟨hb.alloc hb.size _⟩; clear ho hb hg hr1)
    | (go_at_call 19; go_loud (with_reducible refine (bpEncInt64_calls _ A1 N c1 l _ HR1.out hc1 hn9 HWF.out).mono ?_); rintro e w2 ⟨v2, bs, rfl, ho, hk, hb⟩; have HK2 := Aside0.mk hk; have HB2 := Aside0.mk (HBA.out.trans (hb.mono HBA.out.size)); have HO2 := Aside0.mk (Own.lower ho HBA.out.size); clear ho hb hk)
    | go_quiet (fail))
  go_ret2
  exact ⟨v2, bs, rfl, HO2.out.drewN _, HK2.out, HB2.out.trans ((drewN_below _ _).mono HB2.out.size)⟩
theorem encInt32D_calls (w0 : World) (A : Option Addr) (N c : Nat) (l : List Int) (v : Value) (xs : List Int) (w : World) (hO : Own w w0.heap.size 5 .u8 v xs) (hB : Below w0.heap.size w0 w) (hC : (Kd.int .i32).C w0 A N l) (hc : N ≤ c) (hn9 : N ≤ 100000) (hx : xs.length ≤ 16777216) (hwf : ∀ x ∈ l, (Lit.int .i32 x).wf = true) :
    Calls Try.prog 60 #[v, .slice A N c] w fun e w' => ∃ v1 bs, e = .returned v1 ∧ Own w' w0.heap.size 5 .u8 v1 (xs ++ hdL N (fstI l) ++ blksB bs) ∧ EncOf .i32 32 l bs ∧ Below w0.heap.size w0 w' := by
  have hl : l.length = N := hC.1
  by_cases h : N < 2
  · refine (encInt32Short_calls w0 A N c l v xs w hO hB hC hc h hx hwf).mono ?_
    rintro e w' ⟨v1, rfl, ho, hb⟩
    refine ⟨v1, [], rfl, by simpa [blksB] using ho, ⟨by rw [hl]; show N - 1 = 0; omega, ?_, by simp [blksB]⟩, hb⟩
    rcases (show N = 0 ∨ N = 1 by omega) with e | e
    · rw [hl, e, List.take_zero]; exact (List.eq_nil_of_length_eq_zero (by omega)).symm
    · match l, (show l.length = 1 by omega) with
      | [x], _ => rfl
  · refine (encInt32Long_calls w0 A N c l v xs w hO hB hC hc (by omega) hn9 hx hwf).mono ?_
    rintro e w' ⟨v1, bs, rfl, ho, h1, h2, h3, hb⟩
    exact ⟨v1, bs, rfl, ho, ⟨by rw [hl]; exact h1, by rw [hl]; exact h2, h3⟩, hb⟩
theorem encInt32_calls (w0 : World) (A : Option Addr) (N c : Nat) (l : List Int) (v : Value) (xs : List Int) (w : World) (hO : Own w w0.heap.size 5 .u8 v xs) (hB : Below w0.heap.size w0 w) (hC : (Kd.int .i32).C w0 A N l) (hc : N ≤ c) (hn9 : N ≤ 100000) (hx : xs.length ≤ 16777216) (hwf : ∀ x ∈ l, (Lit.int .i32 x).wf = true) :
    Calls Try.prog 45 #[v, .slice A N c] w fun e w' => ∃ v1 bs, e = .returned v1 ∧ Own w' w0.heap.size 5 .u8 v1 (xs ++ hdL N (fstI l) ++ blksB bs) ∧ EncOf .i32 32 l bs ∧ Below w0.heap.size w0 w' := by
  have HCALL := Aside0.mk (encInt32D_calls w0 A N c l v xs w hO hB hC hc hn9 hx hwf)
  clear hO hB hC hwf
  go_enter Try.func45, Try.ntmps45
  go_wp2_with (first
    | (go_at_call 60; go_loud (with_reducible refine HCALL.out.mono ?_); rintro e w2 ⟨v1, bs, rfl, ho, hk, hb⟩; have HO2 := Aside0.mk ho; have HK2 := Aside0.mk hk; have HB2 := Aside0.mk hb; clear ho hk hb))
  go_ret
  exact ⟨_, bs, rfl, HO2.out, HK2.out, HB2.out⟩
set_option maxHeartbeats 4000000 in
theorem bpEncInt32_calls (p : Value) (A : Option Addr) (N c : Nat) (l : List Int) (w : World) (hC : (Kd.int .i32).C w A N l) (hc : N ≤ c) (hn9 : N ≤ 100000) (hwf : ∀ x ∈ l, (Lit.int .i32 x).wf = true) :
    Calls Try.prog 31 #[p, .slice none 0 0, .slice A N c] w fun e w' => ∃ v1 bs, e = .returned (.tuple #[v1, .nilIface]) ∧ Own w' w.heap.size 5 .u8 v1 (hdL N (fstI l) ++ blksB bs) ∧ EncOf .i32 32 l bs ∧ Below w.heap.size w w' := by
  have HCALL := Aside0.mk (encInt32_calls w A N c l (.slice none 0 0) [] w (Own.nil _ _ _ _) (Below.refl _ _) hC hc hn9 (by simp) hwf)
  obtain ⟨i8, h8⟩ := h8
  obtain ⟨cutz, _⟩ := cutHi (P := Try.prog) 23 5 Try.underlying23 h8.1 none 0 0 .i64 0 0 rfl (by omega) (by omega)
  clear hC hwf
  go_enter Try.func31, Try.ntmps31
  go_wp2_with (first
    | (go_at_call 45; go_loud (with_reducible refine HCALL.out.mono ?_); rintro e w2 ⟨v1, bs, rfl, ho, hk, hb⟩; rw [List.nil_append] at ho; have HO2 := Aside0.mk ho; have HK2 := Aside0.mk hk; have HB2 := Aside0.mk hb; clear ho hk hb))
  go_ret2
  exact ⟨_, bs, rfl, HO2.out, HK2.out, HB2.out⟩
set_option maxHeartbeats 4000000 in
theorem encodeInt32sDelta_calls (A : Option Addr) (N c : Nat) (l : List Int) (w0 : World) (hC : (Kd.int .i32).C w0 A N l) (hc : N ≤ c) (hn9 : N ≤ 100000) (hwf : ∀ x ∈ l, (Lit.int .i32 x).wf = true) :
    Calls Try.prog 16 #[.string ⟨#[100, 101, 108, 116, 97]⟩, .int .i64 0, .slice A N c] w0 fun e w' => ∃ v bs, e = .returned (.tuple #[v, .bool true]) ∧ Own w' w0.heap.size 5 .u8 v (hdL N (fstI l) ++ blksB bs) ∧ EncOf .i32 32 l bs ∧ Below w0.heap.size w0 w' := by
  have HLN : Aside0 (l.length = N) := ⟨hC.1⟩
  have HWF := Aside0.mk hwf
  have HC2 : Aside0 ((Kd.int .i32).C (w0.alloc (.cells #[] 21)) A N l) := ⟨Kd.C_alloc hC _⟩
  have HE := Aside0.mk (Own.empty w0 w0.heap.size 21 .i32 (Nat.le_refl _))
  have HEB : Aside0 (Below w0.heap.size w0 (w0.alloc (.cells #[] 21))) := ⟨(Below.refl _ _).alloc (Nat.le_refl _) _⟩
  clear hC hwf
  go_enter Try.func16, Try.ntmps16
  go_wp2_with (first
    | (at_builtin; go_loud (refine appendRead (w0 := w0) w0.heap.size rfl (.tmp 11) (.tmp 12) 37 21 .i32 4 rfl Try.underlying37 infoI32w (by decide) _ [] A N c l rfl rfl HE.out HEB.out ?hb HC2.out ?hl ?_); (case hb => exact HEB.out.size); (case hl => simp; omega); intro v1 w1 ho hb hg; rw [List.nil_append] at ho; obtain ⟨A1, c1, rfl, hc1, hr1⟩ := ho.read; rw [HLN.out] at hc1 hr1; rw [HLN.out]; have HR1 := Aside0.mk (Kd.C_alloc hr1 (.cells #[] 49)); have HBA : Aside0 (Below w0.heap.size w0 (w1.alloc (.cells #[] 49))) := ⟨hb.alloc hb.size _⟩; clear ho hb hg hr1)
    | (go_at_call 31; go_loud (with_reducible refine (bpEncInt32_calls _ A1 N c1 l _ HR1.out hc1 hn9 HWF.out).mono ?_); rintro e w2 ⟨v2, bs, rfl, ho, hk, hb⟩; have HK2 := Aside0.mk hk; have HB2 := Aside0.mk (HBA.out.trans (hb.mono HBA.out.size)); have HO2 := Aside0.mk (Own.lower ho HBA.out.size); clear ho hb hk)
    | go_quiet (fail))
  go_ret2
  exact ⟨v2, bs, rfl, HO2.out.drewN _, HK2.out, HB2.out.trans ((drewN_below _ _).mono HB2.out.size)⟩
end Go.Proofs.Ytigmcdpjlkgocaa.Dew
