import Derived.Test.YtigmcdpjlkgocaaDoorDhr
import Derived.Laws.CopyOwn
/-! The decoder of differences. -/
namespace Go.Proofs.YtigmcdpjlkgocaaDoor.Ddc
open Go.Proofs.YtigmcdpjlkgocaaDoor.Dhr Go.Proofs.YtigmcdpjlkgocaaDoor.Dun Go.Proofs.YtigmcdpjlkgocaaDoor.Duv Go.Proofs.YtigmcdpjlkgocaaDoor.Dst Go.Proofs.YtigmcdpjlkgocaaDoor.Deo Go.Proofs.YtigmcdpjlkgocaaDoor.Den Go.Proofs.YtigmcdpjlkgocaaDoor.Deb Go.Proofs.YtigmcdpjlkgocaaDoor.Drx Go.Proofs.YtigmcdpjlkgocaaDoor.Dds Go.Proofs.YtigmcdpjlkgocaaDoor.Dbw Go.Proofs.YtigmcdpjlkgocaaDoor.Dbk Go.Proofs.YtigmcdpjlkgocaaDoor.Dhd Go.Proofs.YtigmcdpjlkgocaaDoor.Dgr Go.Proofs.YtigmcdpjlkgocaaDoor.Dpu Go.Proofs.YtigmcdpjlkgocaaDoor.Pak Go.Proofs.YtigmcdpjlkgocaaDoor.Buf Go.Proofs.YtigmcdpjlkgocaaDoor.Fit Go.Proofs.YtigmcdpjlkgocaaDoor.Bit Go.Proofs.YtigmcdpjlkgocaaDoor.Wrd Go.Proofs.YtigmcdpjlkgocaaDoor.Spl Go.Proofs.YtigmcdpjlkgocaaDoor.Str Go.Proofs.YtigmcdpjlkgocaaDoor.Flt Go.Proofs.YtigmcdpjlkgocaaDoor.Owe Go.Proofs.YtigmcdpjlkgocaaDoor.Num Go.Proofs.YtigmcdpjlkgocaaDoor.Le Go.Proofs.YtigmcdpjlkgocaaDoor.Lst Go.Proofs.YtigmcdpjlkgocaaDoor.Aid Go.RowKit Go.Proofs.YtigmcdpjlkgocaaDoorW.PrintWords Go.Proofs.YtigmcdpjlkgocaaDoorW.PrintLast Go.Proofs.YtigmcdpjlkgocaaDoorW.PrintMore
set_option linter.unusedVariables false
set_option linter.unusedSimpArgs false
theorem prv_take (last : Int) (V : List Int) (n : Nat) (h : n ≤ V.length) : prv last (V.take n) n = prv last V n := by
  unfold prv
  by_cases c : n = 0
  · rw [if_pos c, if_pos c]
  · rw [if_neg c, if_neg c]
    unfold rd
    rw [Int.toNat_natCast, List.getD_eq_getElem?_getD, List.getD_eq_getElem?_getD, List.getElem?_take, if_pos (by omega)]
theorem frontG {w W' : World} {g C t : Nat} {k : IntKind} {xs : List Int} {row : Option Nat} (h : Front w g C t k xs) (hg : w.grownBy W' row) (hne : some g ≠ row) : Front W' g C t k xs := by
  obtain ⟨cs, hb, hr⟩ := h.out
  exact ⟨cs, ⟨(hg.block g hb.lt hne).trans hb.out⟩, hr⟩
theorem frontR {w : World} {g C t : Nat} {k : IntKind} {xs : List Int} (h : Front w g C t k xs) (hC : C ≤ 9223372036854775807) : (Kd.int k).C w (some ⟨g, 0, none⟩) xs.length xs := by
  obtain ⟨A, c, e, _, hr⟩ := (h.toOwn (base := 0) (Nat.zero_le _) hC).read
  injection e with e1 _ _
  rw [e1]; exact hr
theorem rd_take (l : List Int) (n j : Nat) (h : j < n) : rd (l.take n) (j : Nat) = rd l (j : Nat) := by
  unfold rd
  rw [Int.toNat_natCast, List.getD_eq_getElem?_getD, List.getD_eq_getElem?_getD, List.getElem?_take, if_pos h]
theorem flat_part (S : Nat) (ps : List DPart) (i n : Nat) (h : ∀ p ∈ ps, p.2.length = S) (hi : i < ps.length) (hn : n ≤ S) : (ps.flatMap (·.2)).take (i * S + n) = (ps.flatMap (·.2)).take (i * S) ++ (ps.getD i (0, [])).2.take n := by
  have hl := flat_length S ps h
  have hiS : i * S + S ≤ ps.length * S := by rw [← Nat.succ_mul]; exact Nat.mul_le_mul_right S hi
  have hp : (ps.getD i (0, [])).2.length = S := h _ (getD_mem ps i hi)
  apply rd_ext
  · rw [List.length_append, List.length_take, List.length_take, List.length_take]; omega
  · intro j hj
    rw [List.length_take] at hj
    have e1 : rd ((ps.flatMap (·.2)).take (i * S + n)) (j : Nat) = rd (ps.flatMap (·.2)) (j : Nat) := by
      exact rd_take _ _ _ (by omega)
    rw [e1, rd_append, List.length_take]
    by_cases c : j < i * S
    · rw [if_pos (by omega), rd_take _ _ _ c]
    · rw [if_neg (by omega), show j - min (i * S) (ps.flatMap (·.2)).length = j - i * S by omega]
      have := flat_rd S ps i (j - i * S) h hi (by omega)
      rw [show i * S + (j - i * S) = j by omega] at this
      rw [this, rd_take _ _ _ (by omega)]
theorem fit_zero {l : List Int} (h : fitL 0 l) : l = List.replicate l.length 0 := by
  apply List.ext_getElem
  · simp
  · intro i h1 h2
    have := h _ (List.getElem_mem h1)
    rw [Int.pow_zero] at this
    simp; omega
set_option maxHeartbeats 32000000 in
set_option maxRecDepth 100000 in
theorem decInt64_calls (D : Option Addr) (K : Nat) (A : Option Addr) (N c : Nat) (X : List Int) (B P S T : Nat) (f : Int) (bs : List DBlk) (rest : List Int) (W : World) (hC : (Kd.int .u8).C W A N X) (hX : X = hdG B P T f ++ (blksB bs ++ rest)) (hc : N ≤ c) (hN : N ≤ 268435455)
    (hB : B = P * S) (hB1 : B % 128 = 0) (hS : S % 32 = 0) (hP : 0 < P) (hB0 : 0 < B) (hB9 : B ≤ 65536) (hT : T ≤ 200000) (hf0 : -9223372036854775808 ≤ f) (hf1 : f ≤ 9223372036854775807) (hst : strOk 64 P S (T - 1) bs) :
    Calls Tryd.prog 67 #[.slice D 0 K, .slice A N c] W fun e w' => ∃ v A' c', e = .returned (.tuple #[v, .slice A' rest.length c', .nilIface]) ∧ ((T = 0 ∧ v = .slice D 0 K) ∨ (0 < T ∧ Own w' W.heap.size 2 .i64 v ((f :: blksV .i64 f bs).take T))) ∧ rest.length ≤ c' ∧ (∀ W1, Below W.heap.size W W1 → (Kd.int .u8).C W1 A' rest.length rest) ∧ Below W.heap.size W w' := by
  have hS0 : 0 < S := by
    rcases Nat.eq_zero_or_pos S with h | h
    · subst h; rw [Nat.mul_zero] at hB; omega
    · exact h
  have hP9 : P ≤ 65536 := by
    have := Nat.le_mul_of_pos_right P hS0; omega
  have hS9 : S ≤ 65536 := by
    have := Nat.le_mul_of_pos_left S hP; omega
  obtain ⟨Y, hY⟩ : ∃ Y, blksB bs ++ rest = Y := ⟨_, rfl⟩
  rw [hY] at hX
  have HHD := Aside0.mk (decHead_calls A N c X B P S T f Y W hC hX hc hN hB hB1 hS hP hB0 hB9 hP9 (by omega) (by omega) (by omega))
  have HCX : Aside0 ((Kd.int .u8).C W A N X) := ⟨hC⟩
  have hYN : Y.length ≤ N := by have := hC.1; rw [hX, List.length_append] at this; omega
  obtain ⟨Yl, hYl⟩ : ∃ l, Y.length = l := ⟨_, rfl⟩
  rw [hYl] at HHD hYN
  have hY9 : Yl ≤ 268435455 := by omega
  have HYL := Aside0.mk hYl
  have HYQ := Aside0.mk hY
  have HST := Aside0.mk hst
  have hPS : P * S / P = S := Nat.mul_div_cancel_left S hP
  have d1 : (B : Int) / (P : Int) = (S : Int) := by rw [← hPS, ← hB]; push_cast; rfl
  have d3 : (B : Int).tdiv (P : Int) = (S : Int) := by rw [Int.tdiv_eq_ediv_of_nonneg (by omega)]; exact d1
  have wS : IntKind.i64.wrap (S : Int) = (S : Int) := IntWalk.i64_in _ (by omega)
  have qP : ¬ (P : Int) = 0 := by omega
  have q2 : ((P : Int) == 0) = false := by rw [beq_eq_false_iff_ne]; omega
  obtain ⟨i8, h8⟩ := h8
  obtain ⟨iE, hE⟩ : ∃ i, (Tryd.prog.info? 2) = some i ∧ i.size = 1 := Option.map_eq_some_iff.1 (show (Tryd.prog.info? 2).map (fun i => i.size) = some 1 by kernel_rfl)
  clear hC hX hYl hY hst hPS hB
  by_cases c0 : T = 0
  · have q5 : ((T : Int) == 0) = true := by rw [beq_iff_eq]; omega
    have HT0 := Aside0.mk c0
    clear c0
    go_enter Tryd.func67, Tryd.ntmps67
    go_wp2_with (first
      | (go_at_call 107; go_loud (with_reducible refine HHD.out.mono ?_); rintro e w1 ⟨A1, c1, rfl, hc1, hC1, ⟨nd, rfl⟩⟩; have HC1 := Aside0.mk hC1; clear hC1))
    go_ret3
    have hbs : bs = [] := by have := HST.out; rw [HT0.out] at this; exact strOk_nil this
    have hr : rest = Y := by rw [← HYQ.out, hbs]; rfl
    have hrl : rest.length = Yl := by rw [hr, HYL.out]
    rw [← hrl] at hc1 HC1 ⊢
    exact ⟨_, A1, c1, rfl, .inl ⟨HT0.out, rfl⟩, hc1, fun W1 h => by rw [hr]; have := HC1.out W1 (Kd.C_below HCX.out h); rw [hr] at this; exact this, drewN_below W nd⟩
  have q5 : ((T : Int) == 0) = false := by rw [beq_eq_false_iff_ne]; omega
  obtain ⟨V, hV⟩ : ∃ V, (f :: blksV .i64 f bs).take T = V := ⟨_, rfl⟩
  have HV0 : Aside0 ([f] ++ (blksV .i64 f bs).take (T - 1) = V) := ⟨by rw [← hV]; obtain ⟨T', rfl⟩ : ∃ T', T = T' + 1 := ⟨T - 1, by omega⟩; rfl⟩
  rw [hV]
  have hmk : ∀ W : World, (Instr.makeSlice 29 (.int .i64 528) (.int .i64 528)).run Tryd.prog W = .ok (.slice (some ⟨W.heap.size, 0, none⟩) 528 528) (W.alloc (.cells (madeCells #[.int .u8 0] 528) 5)) := fun W => by
    have h := print_make (P := Tryd.prog) 29 5 .u8 1 Tryd.underlying29 infoU8 (by decide) 528 (by omega) W
    exact h
  have HFS := Aside0.mk fun W1 => freshInt64_calls D K T (by omega) W1
  obtain ⟨T1, hT1⟩ : ∃ T1, T - 1 = T1 := ⟨_, rfl⟩
  have hT1I : (T : Int) - 1 = (T1 : Int) := by omega
  rw [hT1] at HV0 HST
  have hTT : 1 + T1 = T := by omega
  have qi0 : (0 : Int) < (T : Int) := by omega
  have hT0 : 0 < T := by omega
  clear hV hT1 c0
  go_enter Tryd.func67, Tryd.ntmps67
  go_wp2_with (first
    | (go_at_call 107; go_loud (with_reducible refine HHD.out.mono ?_); rintro e w1 ⟨A1, c1, rfl, hc1, hC1, ⟨nd, rfl⟩⟩; have HC1 : Aside0 (∀ W1, Below W.heap.size W W1 → (Kd.int .u8).C W1 A1 Yl (blksB bs ++ rest)) := ⟨fun W1 h => by rw [HYQ.out]; exact hC1 W1 (Kd.C_below HCX.out h)⟩; have HB1 := Aside0.mk (drewN_below W nd); clear hC1)
    | (go_at_call 108; go_loud (with_reducible refine (HFS.out _).mono ?_); rintro e w2 ⟨rfl, hf, hb, hlt⟩; have hgO : W.heap.size ≤ (W.drewN nd).heap.size := Nat.le_refl _; obtain ⟨gO, hgOq⟩ : ∃ gO, (W.drewN nd).heap.size = gO := ⟨_, rfl⟩; rw [hgOq] at hf hlt hgO ⊢; have HF2 := Aside0.mk hf; have HB2 := Aside0.mk (HB1.out.trans (hb.mono HB1.out.size)); have rc := hf.at' 0 (by rw [List.length_replicate]; omega); have rf := hf.free 0; obtain ⟨z0, hz0⟩ : ∃ z, rd (List.replicate T (0 : Int)) ((0 : Nat) : Int) = z := ⟨_, rfl⟩; rw [hz0] at rc; clear hf hb hz0 hgOq))
  have HF3 : Aside0 (Front (w2.setCell ⟨gO, 0, none⟩ (.int .i64 f)) gO T 2 .i64 ([f] ++ List.replicate T1 0)) := ⟨by
    have h := setF HF2.out 0 (by rw [List.length_replicate]; omega) f
    rw [show T = T1 + 1 by omega, List.replicate_succ, List.set_cons_zero] at h
    rw [show T = T1 + 1 by omega]; exact h⟩
  have HB3 : Aside0 (Below W.heap.size W (w2.setCell ⟨gO, 0, none⟩ (.int .i64 f))) := ⟨Below.setCell (p := ⟨gO, 0, none⟩) HB2.out hgO _⟩
  have hsz3 : (w2.setCell ⟨gO, 0, none⟩ (.int .i64 f)).heap.size = w2.heap.size := by simp [World.setCell]
  have hlt3 : gO < (w2.setCell ⟨gO, 0, none⟩ (.int .i64 f)).heap.size := by simpa [World.setCell] using hlt
  generalize w2.setCell ⟨gO, 0, none⟩ (.int .i64 f) = w3 at *
  have HF4 : Aside0 (Front (w3.alloc (.cells (madeCells #[.int .u8 0] 528) 5)) gO T 2 .i64 ([f] ++ List.replicate T1 0)) := ⟨HF3.out.below (B := w3.heap.size) ((Below.refl _ _).alloc (Nat.le_refl _) _) hlt3⟩
  have HM4 : Aside0 (Front (w3.alloc (.cells (madeCells #[.int .u8 0] 528) 5)) w3.heap.size 528 5 .u8 []) := ⟨by
    have := Front.ofRow (madeRow w3 5 .u8 528) 0 (by simp)
    rw [List.length_replicate, List.take_zero] at this; exact this⟩
  have HB4 : Aside0 (Below W.heap.size W (w3.alloc (.cells (madeCells #[.int .u8 0] 528) 5))) := ⟨HB3.out.alloc HB3.out.size _⟩
  rw [hsz3] at HM4
  have hgm0 : w2.heap.size ≠ gO := by omega
  have hbm0 : W.heap.size ≤ w2.heap.size := by rw [← hsz3]; exact HB3.out.size
  go_wp2_with (fail)
  generalize w3.alloc (.cells (madeCells #[.int .u8 0] 528) 5) = w4 at *
  generalize w2.heap.size = gm0 at *
  go_loopg [1, 9, 11, 12, 14, 16, 17, 18, 19, 21, 22, 23, 24] bs.length (fun kq v1 v9 v11 v12 v14 v16 v17 v18 v19 v21 v22 v23 v24 w' => ∃ (bb : List DBlk) (R : Nat) (last : Int) (V0 : List Int) (ol n1 c1 : Nat) (A1 : Option Addr) (nm gm Cm : Nat), v1 = .slice A1 n1 c1 ∧ n1 ≤ c1 ∧ n1 ≤ 268435455 ∧ v9 = .int .i64 R ∧ v12 = .int .i64 ol ∧ v14 = .int .i64 last ∧ v16 = .slice (some ⟨gm, 0, none⟩) nm Cm ∧ nm ≤ Cm ∧ Cm ≤ 9223372036854775807 ∧ W.heap.size ≤ gm ∧ gm ≠ gO ∧ ol + R = T ∧ Aside0 (V0.length = ol) ∧ Aside0 (strOk 64 P S R bb) ∧ Aside0 (V0 ++ (blksV .i64 last bb).take R = V) ∧ Aside0 (∀ W1, Below W.heap.size W W1 → (Kd.int .u8).C W1 A1 n1 (blksB bb ++ rest)) ∧ Aside0 (Front w' gO T 2 .i64 (V0 ++ List.replicate R 0)) ∧ Aside0 (Front w' gm Cm 5 .u8 []) ∧ Aside0 (Below W.heap.size W w') ∧ Aside0 (bb.length ≤ kq))
  case atStart => exact ⟨bs, T1, f, [f], 1, Yl, c1, A1, 528, gm0, 528, rfl, hc1, hY9, rfl, rfl, rfl, rfl, by omega, by omega, hbm0, hgm0, hTT, ⟨rfl⟩, HST, HV0, HC1, HF4, HM4, HB4, ⟨Nat.le_refl _⟩⟩
  case round =>
    clear HF2 HF3 HF4 HM4 HB1 HB2 HB3 HB4 hgm0 hbm0 hlt hlt3 HV0 HST HC1 hc1 hY9 rc rf HHD HFS hmk
    obtain ⟨bb, R, last, V0, ol, n1, c1, A1, nm, gm, Cm, rfl, hc1, hn1, rfl, rfl, rfl, rfl, hnm, hCm, hbm, hgm, hTI, HOLQ, HST, HV, HC1, HF, HM, HB, HK⟩ := hrel
    by_cases cR : R = 0
    · have q0 : decide (0 < (R : Int)) = false := decide_eq_false (by omega)
      have q0n : decide (0 < R) = false := decide_eq_false (by omega)
      have hbb : bb = [] := by have := HST.out; rw [cR] at this; exact strOk_nil this
      have hn := (HC1.out W (Below.refl _ _)).1
      rw [hbb] at hn HC1
      have hn : rest.length = n1 := hn
      have hoV := HV.out
      rw [cR, List.take_zero, List.append_nil] at hoV
      have HOV := Aside0.mk hoV
      have HR0 := Aside0.mk cR
      subst hn
      clear hoV hbb cR
      go_wp2_with (fail)
      go_ret3
      have hown := HF.out.toOwn hgO (by omega)
      rw [HR0.out, List.replicate_zero, List.append_nil, HOLQ.out, show ol = T by have := HR0.out; omega] at hown
      exact ⟨_, A1, c1, rfl, .inr ⟨hT0, by rw [← HOV.out]; exact hown⟩, hc1, HC1.out, HB.out⟩
    · have q0 : decide (0 < (R : Int)) = true := decide_eq_true (by omega)
      have q0n : decide (0 < R) = true := decide_eq_true (by omega)
      obtain ⟨gk0, rfl⟩ : ∃ gk0, gk = gk0 + 1 := ⟨gk - 1, by
        have h1 := HK.out; have h2 := HST.out
        cases bb with
        | nil => exact absurd h2 cR
        | cons b bb => simp at h1; omega⟩
      cases bb with
      | nil => exact absurd HST.out cR
      | cons b bb =>
        obtain ⟨m, ps⟩ := b
        have HBE := Aside0.mk fun i q hi hq he => blk_end (P := P) (S := S) .i64 V0 V i q HST.out HV.out hi hq he
        obtain ⟨h0, ⟨hpl, hps⟩, htl, hm, hst'⟩ := HST.out
        have hpl : ps.length = P := hpl
        have hps : ∀ p ∈ ps, p.1 ≤ 64 ∧ p.2.length = S ∧ fitL p.1 p.2 := hps
        have hm : -9223372036854775808 ≤ m ∧ m ≤ 9223372036854775807 := hm
        obtain ⟨Y2, hY2⟩ : ∃ Y2, blksB bb ++ rest = Y2 := ⟨_, rfl⟩
        have hstr : blksB ((m, ps) :: bb) ++ rest = varL (zz m) ++ (natsI (ps.map (·.1)) ++ (partsB ps ++ Y2)) := by
          rw [blksB_cons, ← hY2]; unfold blkB; simp only [List.append_assoc]
        have HY2 := Aside0.mk hY2
        rw [hstr] at HC1
        have hnl : (natsI (ps.map (·.1))).length = P := by rw [natsI_length, List.length_map, hpl]
        have HBK := Aside0.mk (decBlk_calls A1 n1 c1 m (natsI (ps.map (·.1))) (partsB ps ++ Y2) P wr (HC1.out wr HB.out) hc1 hn1 hnl hm.1 hm.2)
        have hn1l := (HC1.out wr HB.out).1
        have hL0 := varL_pos (zz m)
        rw [List.length_append, List.length_append] at hn1l
        have q1 : decide (0 < (n1 : Int)) = true := decide_eq_true (by omega)
        have q1n : decide (0 < n1) = true := decide_eq_true (by omega)
        obtain ⟨rl, hrl⟩ : ∃ rl, (partsB ps ++ Y2).length = rl := ⟨_, rfl⟩
        rw [hrl] at HBK hn1l
        have hrl9 : rl ≤ 268435455 := by omega
        have HPS := Aside0.mk hps
        have HPL := Aside0.mk hpl
        have HVBL : Aside0 ((walkV .i64 m last (blkN (m, ps))).length = P * S) := ⟨by rw [walkV_length, blkN_length (W := 64) ⟨hpl, hps⟩]⟩
        have hNl : (blkN (m, ps)).length = P * S := blkN_length (W := 64) ⟨hpl, hps⟩
        have HKr := Aside0.mk (show bb.length + 1 ≤ gk0 + 1 from HK.out)
        obtain ⟨VB, hVB⟩ : ∃ VB, walkV .i64 m last (blkN (m, ps)) = VB := ⟨_, rfl⟩
        obtain ⟨RW, hRW⟩ : ∃ RW, (blkN (m, ps)).map IntKind.i64.wrap = RW := ⟨_, rfl⟩
        have hRl0 := hNl
        have hRl : RW.length = P * S := by rw [← hRW, List.length_map, hNl]
        have HDS : Aside0 (∀ (W1 : World) (q : Nat), q ≤ P * S → q ≤ R → Front W1 gO T 2 .i64 (V0 ++ (RW.take q ++ List.replicate (R - q) 0)) → Calls Tryd.prog 111 #[.slice (some ⟨gO, ol, none⟩) q (T - ol), .int .i64 m, .int .i64 last] W1 fun e w' => e = .returned (.int .i64 (prv last VB q)) ∧ Front w' gO T 2 .i64 (V0 ++ VB.take q ++ List.replicate (R - q) 0) ∧ W1.grownBy w' (some gO)) := ⟨fun W1 q hq hqR hf => by
          have h := decSumInt64_calls gO T 2 q (T - ol) V0 (RW.take q) (List.replicate (R - q) 0) m last W1 hf (by rw [List.length_take, hRl]; omega) (by omega)
          have e : walkV .i64 m last (RW.take q) = VB.take q := by
            rw [← hRW, ← List.map_take, walkV_wrap64, walkV_take, hVB]
          rw [e, HOLQ.out, prv_take last VB q (by rw [← hVB, walkV_length, hNl]; exact hq), ← List.append_assoc] at h
          exact h⟩
        rw [hVB] at HBE HVBL
        have HRW := Aside0.mk hRW
        have HRL := Aside0.mk hRl
        have HFR : Aside0 (∀ W1, Front W1 gO T 2 .i64 (V0 ++ List.replicate R 0) → Front W1 gO T 2 .i64 (V0 ++ (RW.take 0 ++ List.replicate R 0))) := ⟨fun W1 h => by rw [List.take_zero, List.nil_append]; exact h⟩
        have HC1L := Aside0.mk HC1.out
        clear htl hps hpl hnl hst' hstr hY2 hn1l hL0 hrl hNl hVB hRW hRl
        go_wp2_with (first
          | (go_at_call 109; go_loud (with_reducible refine HBK.out.mono ?_); rintro e w5 ⟨Aw, cw, A3, c3, rfl, hcw, hc3, hCC, ⟨nd, rfl⟩⟩; have HCWd : Aside0 (∀ W1, Below W.heap.size W W1 → (Kd.int .u8).C W1 Aw P (natsI (ps.map (·.1)))) := ⟨fun W1 h => (hCC W1 (HC1L.out W1 h)).1⟩; have HCP : Aside0 (∀ W1, Below W.heap.size W W1 → (Kd.int .u8).C W1 A3 rl (partsB (ps.drop 0) ++ Y2)) := ⟨fun W1 h => by have := (hCC W1 (HC1L.out W1 h)).2; exact this⟩; have HF5 := Aside0.mk (HFR.out _ (HF.out.drewN nd)); have HM5 := Aside0.mk (HM.out.drewN nd); have HB5 := Aside0.mk (HB.out.trans ((drewN_below wr nd).mono HB.out.size)); clear hCC))
        clear HF HM HB HC1 HC1L HBK HFR hc1 hn1
        go_loopg [1, 9, 12, 16, 21, 22, 23, 24, 88] P (fun kq v1 v9 v12 v16 v21 v22 v23 v24 v88 w' => ∃ (i q n3 c3 : Nat) (A3 : Option Addr) (r wo nm gm Cm : Nat), i ≤ P ∧ v88 = .int .i64 i ∧ v1 = .slice A3 n3 c3 ∧ n3 ≤ c3 ∧ n3 ≤ 268435455 ∧ v9 = .int .i64 r ∧ q + r = R ∧ 0 < r ∧ v12 = .int .i64 wo ∧ wo = ol + q ∧ v16 = .slice (some ⟨gm, 0, none⟩) nm Cm ∧ nm ≤ Cm ∧ Cm ≤ 9223372036854775807 ∧ W.heap.size ≤ gm ∧ gm ≠ gO ∧ Aside0 (q = i * S) ∧ Aside0 (∀ W1, Below W.heap.size W W1 → (Kd.int .u8).C W1 A3 n3 (partsB (ps.drop i) ++ Y2)) ∧ Aside0 (Front w' gO T 2 .i64 (V0 ++ (RW.take q ++ List.replicate r 0))) ∧ Aside0 (Front w' gm Cm 5 .u8 []) ∧ Aside0 (Below W.heap.size W w') ∧ Aside0 (P - i ≤ kq))
        case atStart => exact ⟨0, 0, rl, c3, A3, R, ol, nm, gm, Cm, by omega, rfl, rfl, hc3, hrl9, rfl, by omega, by omega, rfl, by omega, rfl, hnm, hCm, hbm, hgm, ⟨by omega⟩, HCP, HF5, HM5, HB5, ⟨by omega⟩⟩
        case round =>
          clear HCP HF5 HM5 HB5 hc3 hrl9 hbm hgm hnm hCm
          obtain ⟨i, q, n3, c3, A3, r, wo, nm, gm, Cm, hi, rfl, rfl, hc3, hn3, rfl, hqr, hr0, rfl, hwo, rfl, hnm, hCm, hbm, hgm, HQ, HCP, HF, HM, HB, HK2⟩ := hrel
          by_cases ci : i < P
          · have cib : decide ((i : Int) < (P : Int)) = true := decide_eq_true (by omega)
            have cibn : decide (i < P) = true := decide_eq_true ci
            have hmem := getD_mem ps i (by rw [HPL.out]; exact ci)
            obtain ⟨hw64, hnsl, hfit⟩ := HPS.out _ hmem
            obtain ⟨ad, ead, hcell⟩ := Kd.at_int (HCWd.out wr HB.out) (i : Int) (by omega) (by omega)
            rw [Int.toNat_natCast, fst_rd ps i (by rw [HPL.out]; exact ci)] at hcell
            obtain ⟨w, hw⟩ : ∃ w, (ps.getD i (0, [])).1 = w := ⟨_, rfl⟩
            obtain ⟨ns, hns⟩ : ∃ ns, (ps.getD i (0, [])).2 = ns := ⟨_, rfl⟩
            rw [hw] at hcell hw64 hfit
            rw [hns] at hnsl hfit
            have hdr := partsB_drop ps i (by rw [HPL.out]; exact ci)
            rw [hw, hns] at hdr
            have hfp := fun n (hn : n ≤ S) => flat_part S ps i n (fun p hp => (HPS.out p hp).2.1) (by rw [HPL.out]; exact ci) hn
            rw [hns] at hfp
            subst ead
            obtain ⟨nn, hnn⟩ : ∃ nn, min S r = nn := ⟨_, rfl⟩
            have hnS : nn ≤ S := by omega
            have hnr : nn ≤ r := by omega
            have hnp : 0 < nn := by omega
            have hnI : min (S : Int) (r : Int) = (nn : Int) := by omega
            obtain ⟨qe, hqe⟩ : ∃ qe, q + nn = qe := ⟨_, rfl⟩
            obtain ⟨r2, hr2⟩ : ∃ r2, r - nn = r2 := ⟨_, rfl⟩
            have hr2I : (r : Int) - (nn : Int) = (r2 : Int) := by omega
            obtain ⟨w2, hw2⟩ : ∃ w2, wo + nn = w2 := ⟨_, rfl⟩
            have hw2I : (wo : Int) + (nn : Int) = (w2 : Int) := by omega
            have hw2e : w2 = ol + qe := by omega
            have hqi := HQ.out
            have hiS1 : (i + 1) * S ≤ P * S := Nat.mul_le_mul_right S ci
            have hqe9 : qe ≤ P * S := by rw [Nat.succ_mul] at hiS1; omega
            have hqeR : qe ≤ R := by omega
            have HQE : Aside0 (qe = min ((i + 1) * S) R) := ⟨by rw [Nat.succ_mul]; omega⟩
            have hRWe : RW.take qe = RW.take q ++ (ns.take nn).map IntKind.i64.wrap := by
              rw [← HRW.out]
              show (List.map _ (ps.flatMap (·.2))).take qe = (List.map _ (ps.flatMap (·.2))).take q ++ _
              rw [← List.map_take, ← List.map_take, ← hqe, hqi, hfp nn hnS, List.map_append]
            have HRE := Aside0.mk hRWe
            have HDR := Aside0.mk hdr
            have HFIT := Aside0.mk hfit
            have HNSL := Aside0.mk hnsl
            have HQI := Aside0.mk hqi
            have HQEN := Aside0.mk hqe
            have HRQ : Aside0 (R - qe = r2) := ⟨by omega⟩
            have HWO : Aside0 (w2 = ol + qe) := ⟨hw2e⟩
            have HR2 := Aside0.mk hr2
            have HW2 := Aside0.mk hw2
            have hw29 : w2 ≤ T := by omega
            have hwo9 : wo ≤ w2 := by omega
            have HNN := Aside0.mk hnn
            have cutE := cutTail (P := Tryd.prog) 22 2 Tryd.underlying22 hE.1 hE.2 gO T T ol w2 (by omega) (by omega) (by omega)
            rw [show w2 - ol = qe by omega] at cutE
            have hcS : nn = S ∨ r2 = 0 := by omega
            have hin : i + 1 ≤ P := ci
            have hwoT : wo < T := by omega
            have hr9 : r ≤ R := by omega
            have HWOQ := Aside0.mk hwo
            have HQR := Aside0.mk hqr
            clear hmem hw hns hdr hfp hqi hRWe hfit hw2e hiS1 hqe hr2 hw2 hnn hwo hqr
            by_cases cw0 : w = 0
            · have q7 : ((w : Int) == 0) = true := by rw [beq_iff_eq]; omega
              have q7n : ((w : Int) != 0) = false := by simp [bne, q7]
              have HCN : Aside0 (∀ W1, Below W.heap.size W W1 → (Kd.int .u8).C W1 A3 n3 (partsB (ps.drop (i + 1)) ++ Y2)) := ⟨fun W1 h => by have := HCP.out W1 h; rw [HDR.out, cw0, packLo_zero, List.nil_append] at this; exact this⟩
              have HF9 : Aside0 (Front wr gO T 2 .i64 (V0 ++ (RW.take qe ++ List.replicate r2 0))) := ⟨by
                have h := HF.out
                have hz := fit_zero (show fitL 0 ns by rw [← cw0]; exact HFIT.out)
                rw [HRE.out, hz, HNSL.out, List.take_replicate, Nat.min_eq_left hnS, List.map_replicate, show IntKind.i64.wrap 0 = 0 by decide, List.append_assoc, List.replicate_append_replicate, show nn + r2 = r by have := HR2.out; omega]
                exact h⟩
              have HM9 := Aside0.mk HM.out
              have HB9 := Aside0.mk HB.out
              have HW0 := Aside0.mk cw0
              clear cw0 HF HM HB HCP
              by_cases cr2 : r2 = 0
              · have q8 : ((r2 : Int) == 0) = true := by rw [beq_iff_eq]; omega
                have HEND := Aside0.mk (HBE.out (i + 1) qe hin HQE.out (.inr (by have := HRQ.out; omega)))
                clear cr2
                go_wp2_with (fail)
                have HFE : Aside0 (Front wr gO T 2 .i64 (V0 ++ (RW.take qe ++ List.replicate (R - qe) 0))) := ⟨by rw [HRQ.out]; exact HF9.out⟩
                have HCE := Aside0.mk HCN.out
                have HME := Aside0.mk HM9.out
                have HBE2 := Aside0.mk HB9.out
                go_wp2_with (first
                  | (go_at_call 111; go_loud (with_reducible refine (HDS.out _ qe hqe9 hqeR HFE.out).mono ?_); rintro e w8 ⟨rfl, hf, hg⟩; have HF8 := Aside0.mk hf; have HM8 := Aside0.mk (frontG HME.out hg (fun e => hgm (by injection e))); have HB8 : Aside0 (Below W.heap.size W w8) := ⟨HBE2.out.grown hg HBE2.out.size (fun j hj => by injection hj with hj; omega)⟩; clear hf hg))
                go_roundg gk0
                case measure => omega
                case rel =>
                  obtain ⟨e1, e2, e3, e4, e5⟩ := HEND.out
                  have hrr : R - P * S = r2 := by have := HRQ.out; omega
                  refine ⟨bb, R - P * S, prv last VB qe, V0 ++ VB.take qe, ol + qe, n3, c3, A3, nm, gm, Cm, rfl, hc3, hn3, by rw [hrr], by rw [HWO.out], rfl, rfl, hnm, hCm, hbm, hgm, by omega, ⟨by rw [List.length_append, List.length_take, HVBL.out, HOLQ.out]; omega⟩, ⟨e2⟩, ⟨e5⟩, ⟨fun W1 h => ?_⟩, ⟨?_⟩, HM8, HB8, ⟨by have := HKr.out; omega⟩⟩
                  · have := HCE.out W1 h
                    rw [e1, ← HY2.out, List.nil_append] at this
                    exact this
                  · have h := HF8.out
                    rw [show R - qe = R - P * S by omega] at h
                    exact h
              · have q8 : ((r2 : Int) == 0) = false := by rw [beq_eq_false_iff_ne]; omega
                go_wp2_with (fail)
                go_roundg (gk - 1)
                case measure => have := HK2.out; omega
                case rel =>
                  exact ⟨i + 1, qe, n3, c3, A3, r2, w2, nm, gm, Cm, hin, by go_num, rfl, hc3, hn3, rfl, by have := HRQ.out; omega, by omega, rfl, HWO.out, rfl, hnm, hCm, hbm, hgm, ⟨by have := HQE.out; have := HRQ.out; omega⟩, HCN, HF9, HM9, HB9, ⟨by have := HK2.out; omega⟩⟩
            · have q7 : ((w : Int) == 0) = false := by rw [beq_eq_false_iff_ne]; omega
              have q7n : ((w : Int) != 0) = true := by simp [bne, q7]
              obtain ⟨sz, hsz⟩ : ∃ sz, S * w / 8 = sz := ⟨_, rfl⟩
              have hsz8 : S * w = 8 * sz := by
                obtain ⟨s8, hs8⟩ : ∃ s8, S = 8 * s8 := ⟨S / 8, by omega⟩
                rw [← hsz, hs8, Nat.mul_assoc]; omega
              have hszI : (S : Int) * (w : Int) = ((8 * sz : Nat) : Int) := by rw [← hsz8]; push_cast; rfl
              have hsw : S * w ≤ 4194304 := Nat.le_trans (Nat.mul_le_mul hS9 hw64) (by omega)
              have hswp : S ≤ S * w := Nat.le_mul_of_pos_right S (by omega)
              obtain ⟨sw, hswq⟩ : ∃ sw, 8 * sz = sw := ⟨_, rfl⟩
              rw [hswq] at hszI
              have hq1 : (sw : Int) / 8 = (sz : Int) := by omega
              have hq2 : (sw : Int).tdiv 8 = (sz : Int) := by rw [Int.tdiv_eq_ediv_of_nonneg (by omega)]; exact hq1
              have hpk : (packLo w ns).length = sz := by unfold packLo; rw [bytesLo_length, HNSL.out, hsz]
              have hn3l := (HCP.out wr HB.out).1
              rw [HDR.out, List.append_assoc, List.length_append, hpk] at hn3l
              have hsz3 : sz ≤ n3 := by omega
              have hsz0 : 0 < sz := by omega
              have hsz9 : sz ≤ 524288 := by omega
              have qn3 : decide ((sz : Int) ≤ (n3 : Int)) = true := decide_eq_true (by omega)
              have qn3n : decide (sz ≤ n3) = true := decide_eq_true hsz3
              obtain ⟨cutw, hCw⟩ := cutHi (P := Tryd.prog) 29 5 Tryd.underlying29 h8.1 A3 n3 c3 .i64 (sz : Int) sz rfl hsz3 hc3
              obtain ⟨A5, cutb, hCb⟩ := cutLo (P := Tryd.prog) 29 5 Tryd.underlying29 h8.1 h8.2 A3 n3 c3 .i64 (sz : Int) sz rfl hsz3 hc3
              obtain ⟨cutw2, _⟩ := cutHi (P := Tryd.prog) 29 5 Tryd.underlying29 h8.1 A3 sz c3 .i64 (sz : Int) sz rfl (Nat.le_refl _) (by omega)
              have HCPk : Aside0 (∀ W1, Below W.heap.size W W1 → (Kd.int .u8).C W1 A3 sz (packLo w ns)) := ⟨fun W1 h => by have := hCw _ W1 _ (HCP.out W1 h); rw [HDR.out, List.append_assoc, List.take_left' hpk] at this; exact this⟩
              have HCN : Aside0 (∀ W1, Below W.heap.size W W1 → (Kd.int .u8).C W1 A5 (n3 - sz) (partsB (ps.drop (i + 1)) ++ Y2)) := ⟨fun W1 h => by have := hCb (Kd.int .u8) W1 _ rfl (HCP.out W1 h); rw [HDR.out, List.append_assoc, List.drop_left' hpk] at this; exact this⟩
              have HPK := Aside0.mk hpk
              obtain ⟨nz, hnz⟩ : ∃ nz, n3 - sz = nz := ⟨_, rfl⟩
              obtain ⟨cz, hcz⟩ : ∃ cz, c3 - sz = cz := ⟨_, rfl⟩
              rw [hnz] at HCN cutb
              rw [hcz] at cutb
              have hnz1 : nz ≤ cz := by omega
              have hnz9 : nz ≤ 268435455 := by omega
              have cutU := cutTail (P := Tryd.prog) 22 2 Tryd.underlying22 hE.1 hE.2 gO T T wo w2 hwoT hwo9 hw29
              rw [show w2 - wo = nn by have := HW2.out; omega] at cutU
              have HXL : Aside0 ((V0 ++ RW.take q).length = wo) := ⟨by
                have h1 := HQEN.out; have h2 := HWOQ.out; have h3 := HQI.out
                rw [List.length_append, HOLQ.out, List.length_take, HRL.out]; omega⟩
              have HUP : Aside0 (∀ (W1 : World) (A6 : Option Addr) (c6 : Nat), Front W1 gO T 2 .i64 (V0 ++ (RW.take q ++ List.replicate r 0)) → ReadKeep W1 gO .u8 A6 sz (packLo w ns) → Calls Tryd.prog 110 #[.slice (some ⟨gO, wo, none⟩) nn (T - wo), .slice A6 sz c6, .int .u64 w] W1 fun e w' => e = .returned (.tuple #[]) ∧ Front w' gO T 2 .i64 (V0 ++ (RW.take qe ++ List.replicate r2 0)) ∧ W1.grownBy w' (some gO)) := ⟨fun W1 A6 c6 hf hk => by
                have h := unpackInt64_calls gO T 2 nn (T - wo) (V0 ++ RW.take q) (List.replicate r 0) A6 sz c6 sz w (packLo w ns) W1 (by rw [List.append_assoc]; exact hf) (by rw [List.length_replicate]; exact hnr) (by omega) hk (Nat.le_refl _) (by omega) (packLo_bytes w ns) hw64 (by rw [← hsz8]; exact Nat.mul_le_mul_right w hnS) (by omega)
                rw [HXL.out, unpI_pack .i64 w nn ns (by rw [HNSL.out]; exact hnS) (by rw [HNSL.out]; omega) HFIT.out, List.drop_replicate, HR2.out, List.append_assoc, List.append_assoc, ← List.append_assoc (RW.take q), ← HRE.out] at h
                exact h⟩
              clear hsz hsz8 hsw hswq hpk hn3l hCw hCb HCP hnz hcz cw0 hswp
              have qcp : decide ((sz : Int) < (sz : Int) + 32) = true := decide_eq_true (by omega)
              have cutz := cutAtMid0 (P := Tryd.prog) 29 5 Tryd.underlying29 h8.1 h8.2 gm nm Cm 0 (Nat.zero_le _)
              rw [show ((0 : Nat) : Int) = 0 from rfl] at cutz
              have HRZ : Aside0 (Calls Tryd.prog 94 #[.slice (some ⟨gm, 0, none⟩) 0 Cm, .int .i64 ((sz : Int) + 32)] wr fun e w' => ∃ g M, e = .returned (.slice (some ⟨g, 0, none⟩) (sz + 32) M) ∧ Front w' g M 5 .u8 (List.replicate (sz + 32) 0) ∧ sz + 32 ≤ M ∧ M ≤ 9223372036854775807 ∧ W.heap.size ≤ g ∧ g ≠ gO ∧ wr.grownBy w' (some g)) := ⟨by
                have := resizeZ_calls W.heap.size (.slice (some ⟨gm, 0, none⟩) 0 Cm) [] (sz + 32) wr (HM.out.toOwn hbm hCm) HB.out.size (by simp) (by omega)
                rw [show ((sz + 32 : Nat) : Int) = (sz : Int) + 32 by omega] at this
                refine this.mono ?_
                rintro e w' ⟨g, M, rfl, hf, h1, h2, h3, h4, hg⟩
                refine ⟨g, M, rfl, by simpa using hf, h1, h2, h3, ?_, hg⟩
                have hlt := HF.out.lt
                rcases h4 with h | h
                · omega
                · have h : some gm = some g := h
                  injection h with h
                  omega⟩
              obtain ⟨ad3, ead3, _⟩ := copySrc (HCPk.out wr HB.out) (by rw [HPK.out]; exact hsz0)
              subst ead3
              have hlt0 := HF.out.lt
              by_cases cr2 : r2 = 0
              · have q8 : ((r2 : Int) == 0) = true := by rw [beq_iff_eq]; omega
                have HEND := Aside0.mk (HBE.out (i + 1) qe hin HQE.out (.inr (by have := HRQ.out; omega)))
                clear cr2
                go_wp2_with (first
                  | (go_at_call 94; go_loud (with_reducible refine HRZ.out.mono ?_); rintro e w6 ⟨g2, M2, rfl, hf, h1, h2, h3, h4, hg⟩; have HF6 := Aside0.mk hf; have HO6 := Aside0.mk (frontG HF.out hg (fun e => h4 (by injection e with e; exact e.symm))); have HB6 : Aside0 (Below W.heap.size W w6) := ⟨HB.out.grown hg HB.out.size (fun j hj => by injection hj with hj; omega)⟩; obtain ⟨ad3', e3, hsrc⟩ := copySrc (HCPk.out w6 HB6.out) (by rw [HPK.out]; exact hsz0); injection e3 with e3; subst e3; have HSRC := Aside0.mk hsrc; have cutm := cutAtMid0 (P := Tryd.prog) 29 5 Tryd.underlying29 h8.1 h8.2 g2 (sz + 32) M2 sz (by omega); have cutm2 := cutAtMid0 (P := Tryd.prog) 29 5 Tryd.underlying29 h8.1 h8.2 g2 sz M2 sz (by omega); have hmin : Nat.min sz (sz + 32) = sz := Nat.min_eq_left (by omega); have hgint : goInt (packLo w ns).length = .int .i64 (sz : Int) := (by rw [HPK.out]; rfl); have HGI := Aside0.mk hgint; clear hf hg hsrc hgint)
                  | ((refine wpList_copy_front ?hgd (.tmp 125) (.tmp 126) 29 29 ?ho0 5 Tryd.underlying29 ?h1 g2 (sz + 32) M2 ad3 sz c3 [] (packLo w ns) (List.replicate (sz + 32) 0) ?hd ?hs 5 M2 .u8 HF6.out ?hn HSRC.out ?hy ?_); (case ho0 => rfl); (case hgd => rfl); (case hd => rfl); (case hs => rfl); go_loud ((case h1 => kernel_rfl)); go_loud ((case hn => rw [HPK.out]; exact hmin.symm)); go_loud ((case hy => rw [HPK.out, List.length_replicate]; omega)); intro w7 hf hg; rw [HGI.out]; have HF7 := Aside0.mk hf; have HO7 := Aside0.mk (frontG HO6.out hg (fun e => h4 (by injection e with e; exact e.symm))); have HB7 : Aside0 (Below W.heap.size W w7) := ⟨HB6.out.grown hg HB6.out.size (fun j hj => by injection hj with hj; omega)⟩; have HRK : Aside0 (ReadKeep w7 gO .u8 (some ⟨g2, 0, none⟩) sz (packLo w ns)) := ⟨fun W1 hW => (by have h := frontR ((frontG HF7.out hW (fun e => h4 (by injection e))).take sz) h2; rw [List.nil_append, List.take_left' HPK.out, HPK.out] at h; exact h)⟩; clear hf hg)
                  | (go_at_call 110; go_loud (with_reducible refine (HUP.out w7 (some ⟨g2, 0, none⟩) M2 HO7.out HRK.out).mono ?_); rintro e w9 ⟨rfl, hf, hg⟩; have HF9 := Aside0.mk hf; have HM9 : Aside0 (Front w9 g2 M2 5 .u8 []) := ⟨(by have := (frontG HF7.out hg (fun e => h4 (by injection e))).take 0; rw [List.take_zero] at this; exact this)⟩; have HB9 : Aside0 (Below W.heap.size W w9) := ⟨HB7.out.grown hg HB7.out.size (fun j hj => by injection hj with hj; omega)⟩; clear hf hg))
                have HFE : Aside0 (Front w9 gO T 2 .i64 (V0 ++ (RW.take qe ++ List.replicate (R - qe) 0))) := ⟨by rw [HRQ.out]; exact HF9.out⟩
                have HCE := Aside0.mk HCN.out
                have HME := Aside0.mk HM9.out
                have HBE2 := Aside0.mk HB9.out
                go_wp2_with (first
                  | (go_at_call 111; go_loud (with_reducible refine (HDS.out _ qe hqe9 hqeR HFE.out).mono ?_); rintro e w8 ⟨rfl, hf, hg⟩; have HF8 := Aside0.mk hf; have HM8 := Aside0.mk (frontG HME.out hg (fun e => h4 (by injection e))); have HB8 : Aside0 (Below W.heap.size W w8) := ⟨HBE2.out.grown hg HBE2.out.size (fun j hj => by injection hj with hj; omega)⟩; clear hf hg))
                go_roundg gk0
                case measure => omega
                case rel =>
                  obtain ⟨e1, e2, e3, e4, e5⟩ := HEND.out
                  have hrr : R - P * S = r2 := by have := HRQ.out; omega
                  refine ⟨bb, R - P * S, prv last VB qe, V0 ++ VB.take qe, ol + qe, nz, cz, A5, (sz + 32), g2, M2, rfl, hnz1, hnz9, by rw [hrr], by rw [HWO.out], rfl, rfl, h1, h2, h3, h4, by omega, ⟨by rw [List.length_append, List.length_take, HVBL.out, HOLQ.out]; omega⟩, ⟨e2⟩, ⟨e5⟩, ⟨fun W1 h => ?_⟩, ⟨?_⟩, HM8, HB8, ⟨by have := HKr.out; omega⟩⟩
                  · have := HCE.out W1 h
                    rw [e1, ← HY2.out, List.nil_append] at this
                    exact this
                  · have h := HF8.out
                    rw [show R - qe = R - P * S by omega] at h
                    exact h
              · have q8 : ((r2 : Int) == 0) = false := by rw [beq_eq_false_iff_ne]; omega
                go_wp2_with (first
                  | (go_at_call 94; go_loud (with_reducible refine HRZ.out.mono ?_); rintro e w6 ⟨g2, M2, rfl, hf, h1, h2, h3, h4, hg⟩; have HF6 := Aside0.mk hf; have HO6 := Aside0.mk (frontG HF.out hg (fun e => h4 (by injection e with e; exact e.symm))); have HB6 : Aside0 (Below W.heap.size W w6) := ⟨HB.out.grown hg HB.out.size (fun j hj => by injection hj with hj; omega)⟩; obtain ⟨ad3', e3, hsrc⟩ := copySrc (HCPk.out w6 HB6.out) (by rw [HPK.out]; exact hsz0); injection e3 with e3; subst e3; have HSRC := Aside0.mk hsrc; have cutm := cutAtMid0 (P := Tryd.prog) 29 5 Tryd.underlying29 h8.1 h8.2 g2 (sz + 32) M2 sz (by omega); have cutm2 := cutAtMid0 (P := Tryd.prog) 29 5 Tryd.underlying29 h8.1 h8.2 g2 sz M2 sz (by omega); have hmin : Nat.min sz (sz + 32) = sz := Nat.min_eq_left (by omega); have hgint : goInt (packLo w ns).length = .int .i64 (sz : Int) := (by rw [HPK.out]; rfl); have HGI := Aside0.mk hgint; clear hf hg hsrc hgint)
                  | ((refine wpList_copy_front ?hgd (.tmp 125) (.tmp 126) 29 29 ?ho0 5 Tryd.underlying29 ?h1 g2 (sz + 32) M2 ad3 sz c3 [] (packLo w ns) (List.replicate (sz + 32) 0) ?hd ?hs 5 M2 .u8 HF6.out ?hn HSRC.out ?hy ?_); (case ho0 => rfl); (case hgd => rfl); (case hd => rfl); (case hs => rfl); go_loud ((case h1 => kernel_rfl)); go_loud ((case hn => rw [HPK.out]; exact hmin.symm)); go_loud ((case hy => rw [HPK.out, List.length_replicate]; omega)); intro w7 hf hg; rw [HGI.out]; have HF7 := Aside0.mk hf; have HO7 := Aside0.mk (frontG HO6.out hg (fun e => h4 (by injection e with e; exact e.symm))); have HB7 : Aside0 (Below W.heap.size W w7) := ⟨HB6.out.grown hg HB6.out.size (fun j hj => by injection hj with hj; omega)⟩; have HRK : Aside0 (ReadKeep w7 gO .u8 (some ⟨g2, 0, none⟩) sz (packLo w ns)) := ⟨fun W1 hW => (by have h := frontR ((frontG HF7.out hW (fun e => h4 (by injection e))).take sz) h2; rw [List.nil_append, List.take_left' HPK.out, HPK.out] at h; exact h)⟩; clear hf hg)
                  | (go_at_call 110; go_loud (with_reducible refine (HUP.out w7 (some ⟨g2, 0, none⟩) M2 HO7.out HRK.out).mono ?_); rintro e w9 ⟨rfl, hf, hg⟩; have HF9 := Aside0.mk hf; have HM9 : Aside0 (Front w9 g2 M2 5 .u8 []) := ⟨(by have := (frontG HF7.out hg (fun e => h4 (by injection e))).take 0; rw [List.take_zero] at this; exact this)⟩; have HB9 : Aside0 (Below W.heap.size W w9) := ⟨HB7.out.grown hg HB7.out.size (fun j hj => by injection hj with hj; omega)⟩; clear hf hg))
                go_roundg (gk - 1)
                case measure => have := HK2.out; omega
                case rel =>
                  exact ⟨i + 1, qe, nz, cz, A5, r2, w2, (sz + 32), g2, M2, hin, by go_num, rfl, hnz1, hnz9, rfl, by have := HRQ.out; omega, by omega, rfl, HWO.out, rfl, h1, h2, h3, h4, ⟨by have := HQE.out; have := HRQ.out; omega⟩, HCN, HF9, HM9, HB9, ⟨by have := HK2.out; omega⟩⟩
          · obtain rfl : i = P := by omega
            have cib : decide ((i : Int) < (i : Int)) = false := decide_eq_false (by omega)
            have cibn : decide (i < i) = false := decide_eq_false (by omega)
            obtain ⟨qe, hqe⟩ : ∃ qe, q = qe := ⟨_, rfl⟩
            subst hqe
            have hqi := HQ.out
            have hqe9 : q ≤ i * S := by omega
            have hqeR : q ≤ R := by omega
            have HEND := Aside0.mk (HBE.out i q (Nat.le_refl _) (by omega) (.inl rfl))
            have HFE : Aside0 (Front wr gO T 2 .i64 (V0 ++ (RW.take q ++ List.replicate (R - q) 0))) := ⟨by rw [show R - q = r by omega]; exact HF.out⟩
            have HCE := Aside0.mk HCP.out
            have HME := Aside0.mk HM.out
            have HBE2 := Aside0.mk HB.out
            have cutE := cutTail (P := Tryd.prog) 22 2 Tryd.underlying22 hE.1 hE.2 gO T T ol wo (by omega) (by omega) (by omega)
            rw [show wo - ol = q by omega] at cutE
            have HWO : Aside0 (wo = ol + q) := ⟨hwo⟩
            have HRQ : Aside0 (R - q = r) := ⟨by omega⟩
            clear hqi hwo hqr
            go_wp2_with (first
              | (go_at_call 111; go_loud (with_reducible refine (HDS.out _ q hqe9 hqeR HFE.out).mono ?_); rintro e w8 ⟨rfl, hf, hg⟩; have HF8 := Aside0.mk hf; have HM8 := Aside0.mk (frontG HME.out hg (fun e => hgm (by injection e))); have HB8 : Aside0 (Below W.heap.size W w8) := ⟨HBE2.out.grown hg HBE2.out.size (fun j hj => by injection hj with hj; omega)⟩; clear hf hg))
            go_roundg gk0
            case measure => omega
            case rel =>
              obtain ⟨e1, e2, e3, e4, e5⟩ := HEND.out
              have hrr : R - i * S = r := by have := HRQ.out; omega
              refine ⟨bb, R - i * S, prv last VB q, V0 ++ VB.take q, ol + q, n3, c3, A3, nm, gm, Cm, rfl, hc3, hn3, by rw [hrr], by rw [HWO.out], rfl, rfl, hnm, hCm, hbm, hgm, by omega, ⟨by rw [List.length_append, List.length_take, HVBL.out, HOLQ.out]; omega⟩, ⟨e2⟩, ⟨e5⟩, ⟨fun W1 h => ?_⟩, ⟨?_⟩, HM8, HB8, ⟨by have := HKr.out; omega⟩⟩
              · have := HCE.out W1 h
                rw [e1, ← HY2.out, List.nil_append] at this
                exact this
              · have h := HF8.out
                rw [show R - q = R - i * S by omega] at h
                exact h
set_option maxHeartbeats 32000000 in
set_option maxRecDepth 100000 in
theorem decInt32_calls (D : Option Addr) (K : Nat) (A : Option Addr) (N c : Nat) (X : List Int) (B P S T : Nat) (f : Int) (bs : List DBlk) (rest : List Int) (W : World) (hC : (Kd.int .u8).C W A N X) (hX : X = hdG B P T f ++ (blksB bs ++ rest)) (hc : N ≤ c) (hN : N ≤ 268435455)
    (hB : B = P * S) (hB1 : B % 128 = 0) (hS : S % 32 = 0) (hP : 0 < P) (hB0 : 0 < B) (hB9 : B ≤ 65536) (hT : T ≤ 200000) (hf0 : -2147483648 ≤ f) (hf1 : f ≤ 2147483647) (hst : strOk 32 P S (T - 1) bs) :
    Calls Tryd.prog 87 #[.slice D 0 K, .slice A N c] W fun e w' => ∃ v A' c', e = .returned (.tuple #[v, .slice A' rest.length c', .nilIface]) ∧ ((T = 0 ∧ v = .slice D 0 K) ∨ (0 < T ∧ Own w' W.heap.size 21 .i32 v ((f :: blksV .i32 f bs).take T))) ∧ rest.length ≤ c' ∧ (∀ W1, Below W.heap.size W W1 → (Kd.int .u8).C W1 A' rest.length rest) ∧ Below W.heap.size W w' := by
  have hS0 : 0 < S := by
    rcases Nat.eq_zero_or_pos S with h | h
    · subst h; rw [Nat.mul_zero] at hB; omega
    · exact h
  have hP9 : P ≤ 65536 := by
    have := Nat.le_mul_of_pos_right P hS0; omega
  have hS9 : S ≤ 65536 := by
    have := Nat.le_mul_of_pos_left S hP; omega
  obtain ⟨Y, hY⟩ : ∃ Y, blksB bs ++ rest = Y := ⟨_, rfl⟩
  rw [hY] at hX
  have HHD := Aside0.mk (decHead_calls A N c X B P S T f Y W hC hX hc hN hB hB1 hS hP hB0 hB9 hP9 (by omega) (by omega) (by omega))
  have HCX : Aside0 ((Kd.int .u8).C W A N X) := ⟨hC⟩
  have hYN : Y.length ≤ N := by have := hC.1; rw [hX, List.length_append] at this; omega
  obtain ⟨Yl, hYl⟩ : ∃ l, Y.length = l := ⟨_, rfl⟩
  rw [hYl] at HHD hYN
  have hY9 : Yl ≤ 268435455 := by omega
  have HYL := Aside0.mk hYl
  have HYQ := Aside0.mk hY
  have HST := Aside0.mk hst
  have hPS : P * S / P = S := Nat.mul_div_cancel_left S hP
  have d1 : (B : Int) / (P : Int) = (S : Int) := by rw [← hPS, ← hB]; push_cast; rfl
  have d3 : (B : Int).tdiv (P : Int) = (S : Int) := by rw [Int.tdiv_eq_ediv_of_nonneg (by omega)]; exact d1
  have wS : IntKind.i64.wrap (S : Int) = (S : Int) := IntWalk.i64_in _ (by omega)
  have qP : ¬ (P : Int) = 0 := by omega
  have q2 : ((P : Int) == 0) = false := by rw [beq_eq_false_iff_ne]; omega
  have q9 : decide (f < -2147483648) = false := decide_eq_false (by omega)
  have q10 : decide (2147483647 < f) = false := decide_eq_false (by omega)
  have wf : IntKind.i32.wrap f = f := IntWalk.i32_in _ (by omega)
  obtain ⟨i8, h8⟩ := h8
  obtain ⟨iE, hE⟩ : ∃ i, (Tryd.prog.info? 21) = some i ∧ i.size = 1 := Option.map_eq_some_iff.1 (show (Tryd.prog.info? 21).map (fun i => i.size) = some 1 by kernel_rfl)
  clear hC hX hYl hY hst hPS hB
  by_cases c0 : T = 0
  · have q5 : ((T : Int) == 0) = true := by rw [beq_iff_eq]; omega
    have HT0 := Aside0.mk c0
    clear c0
    go_enter Tryd.func87, Tryd.ntmps87
    go_wp2_with (first
      | (go_at_call 107; go_loud (with_reducible refine HHD.out.mono ?_); rintro e w1 ⟨A1, c1, rfl, hc1, hC1, ⟨nd, rfl⟩⟩; have HC1 := Aside0.mk hC1; clear hC1))
    go_ret3
    have hbs : bs = [] := by have := HST.out; rw [HT0.out] at this; exact strOk_nil this
    have hr : rest = Y := by rw [← HYQ.out, hbs]; rfl
    have hrl : rest.length = Yl := by rw [hr, HYL.out]
    rw [← hrl] at hc1 HC1 ⊢
    exact ⟨_, A1, c1, rfl, .inl ⟨HT0.out, rfl⟩, hc1, fun W1 h => by rw [hr]; have := HC1.out W1 (Kd.C_below HCX.out h); rw [hr] at this; exact this, drewN_below W nd⟩
  have q5 : ((T : Int) == 0) = false := by rw [beq_eq_false_iff_ne]; omega
  obtain ⟨V, hV⟩ : ∃ V, (f :: blksV .i32 f bs).take T = V := ⟨_, rfl⟩
  have HV0 : Aside0 ([f] ++ (blksV .i32 f bs).take (T - 1) = V) := ⟨by rw [← hV]; obtain ⟨T', rfl⟩ : ∃ T', T = T' + 1 := ⟨T - 1, by omega⟩; rfl⟩
  rw [hV]
  have hmk : ∀ W : World, (Instr.makeSlice 29 (.int .i64 272) (.int .i64 272)).run Tryd.prog W = .ok (.slice (some ⟨W.heap.size, 0, none⟩) 272 272) (W.alloc (.cells (madeCells #[.int .u8 0] 272) 5)) := fun W => by
    have h := print_make (P := Tryd.prog) 29 5 .u8 1 Tryd.underlying29 infoU8 (by decide) 272 (by omega) W
    exact h
  have HFS := Aside0.mk fun W1 => freshInt32_calls D K T (by omega) W1
  obtain ⟨T1, hT1⟩ : ∃ T1, T - 1 = T1 := ⟨_, rfl⟩
  have hT1I : (T : Int) - 1 = (T1 : Int) := by omega
  rw [hT1] at HV0 HST
  have hTT : 1 + T1 = T := by omega
  have qi0 : (0 : Int) < (T : Int) := by omega
  have hT0 : 0 < T := by omega
  clear hV hT1 c0
  go_enter Tryd.func87, Tryd.ntmps87
  go_wp2_with (first
    | (go_at_call 107; go_loud (with_reducible refine HHD.out.mono ?_); rintro e w1 ⟨A1, c1, rfl, hc1, hC1, ⟨nd, rfl⟩⟩; have HC1 : Aside0 (∀ W1, Below W.heap.size W W1 → (Kd.int .u8).C W1 A1 Yl (blksB bs ++ rest)) := ⟨fun W1 h => by rw [HYQ.out]; exact hC1 W1 (Kd.C_below HCX.out h)⟩; have HB1 := Aside0.mk (drewN_below W nd); clear hC1)
    | (go_at_call 124; go_loud (with_reducible refine (HFS.out _).mono ?_); rintro e w2 ⟨rfl, hf, hb, hlt⟩; have hgO : W.heap.size ≤ (W.drewN nd).heap.size := Nat.le_refl _; obtain ⟨gO, hgOq⟩ : ∃ gO, (W.drewN nd).heap.size = gO := ⟨_, rfl⟩; rw [hgOq] at hf hlt hgO ⊢; have HF2 := Aside0.mk hf; have HB2 := Aside0.mk (HB1.out.trans (hb.mono HB1.out.size)); have rc := hf.at' 0 (by rw [List.length_replicate]; omega); have rf := hf.free 0; obtain ⟨z0, hz0⟩ : ∃ z, rd (List.replicate T (0 : Int)) ((0 : Nat) : Int) = z := ⟨_, rfl⟩; rw [hz0] at rc; clear hf hb hz0 hgOq))
  have HF3 : Aside0 (Front (w2.setCell ⟨gO, 0, none⟩ (.int .i32 f)) gO T 21 .i32 ([f] ++ List.replicate T1 0)) := ⟨by
    have h := setF HF2.out 0 (by rw [List.length_replicate]; omega) f
    rw [show T = T1 + 1 by omega, List.replicate_succ, List.set_cons_zero] at h
    rw [show T = T1 + 1 by omega]; exact h⟩
  have HB3 : Aside0 (Below W.heap.size W (w2.setCell ⟨gO, 0, none⟩ (.int .i32 f))) := ⟨Below.setCell (p := ⟨gO, 0, none⟩) HB2.out hgO _⟩
  have hsz3 : (w2.setCell ⟨gO, 0, none⟩ (.int .i32 f)).heap.size = w2.heap.size := by simp [World.setCell]
  have hlt3 : gO < (w2.setCell ⟨gO, 0, none⟩ (.int .i32 f)).heap.size := by simpa [World.setCell] using hlt
  generalize w2.setCell ⟨gO, 0, none⟩ (.int .i32 f) = w3 at *
  have HF4 : Aside0 (Front (w3.alloc (.cells (madeCells #[.int .u8 0] 272) 5)) gO T 21 .i32 ([f] ++ List.replicate T1 0)) := ⟨HF3.out.below (B := w3.heap.size) ((Below.refl _ _).alloc (Nat.le_refl _) _) hlt3⟩
  have HM4 : Aside0 (Front (w3.alloc (.cells (madeCells #[.int .u8 0] 272) 5)) w3.heap.size 272 5 .u8 []) := ⟨by
    have := Front.ofRow (madeRow w3 5 .u8 272) 0 (by simp)
    rw [List.length_replicate, List.take_zero] at this; exact this⟩
  have HB4 : Aside0 (Below W.heap.size W (w3.alloc (.cells (madeCells #[.int .u8 0] 272) 5))) := ⟨HB3.out.alloc HB3.out.size _⟩
  rw [hsz3] at HM4
  have hgm0 : w2.heap.size ≠ gO := by omega
  have hbm0 : W.heap.size ≤ w2.heap.size := by rw [← hsz3]; exact HB3.out.size
  go_wp2_with (fail)
  generalize w3.alloc (.cells (madeCells #[.int .u8 0] 272) 5) = w4 at *
  generalize w2.heap.size = gm0 at *
  go_loopg [1, 9, 11, 12, 14, 16, 17, 18, 19, 21, 22, 23, 24] bs.length (fun kq v1 v9 v11 v12 v14 v16 v17 v18 v19 v21 v22 v23 v24 w' => ∃ (bb : List DBlk) (R : Nat) (last : Int) (V0 : List Int) (ol n1 c1 : Nat) (A1 : Option Addr) (nm gm Cm : Nat), v1 = .slice A1 n1 c1 ∧ n1 ≤ c1 ∧ n1 ≤ 268435455 ∧ v9 = .int .i64 R ∧ v12 = .int .i64 ol ∧ v14 = .int .i32 last ∧ v16 = .slice (some ⟨gm, 0, none⟩) nm Cm ∧ nm ≤ Cm ∧ Cm ≤ 9223372036854775807 ∧ W.heap.size ≤ gm ∧ gm ≠ gO ∧ ol + R = T ∧ Aside0 (V0.length = ol) ∧ Aside0 (strOk 32 P S R bb) ∧ Aside0 (V0 ++ (blksV .i32 last bb).take R = V) ∧ Aside0 (∀ W1, Below W.heap.size W W1 → (Kd.int .u8).C W1 A1 n1 (blksB bb ++ rest)) ∧ Aside0 (Front w' gO T 21 .i32 (V0 ++ List.replicate R 0)) ∧ Aside0 (Front w' gm Cm 5 .u8 []) ∧ Aside0 (Below W.heap.size W w') ∧ Aside0 (bb.length ≤ kq))
  case atStart => exact ⟨bs, T1, f, [f], 1, Yl, c1, A1, 272, gm0, 272, rfl, hc1, hY9, rfl, rfl, rfl, rfl, by omega, by omega, hbm0, hgm0, hTT, ⟨rfl⟩, HST, HV0, HC1, HF4, HM4, HB4, ⟨Nat.le_refl _⟩⟩
  case round =>
    clear HF2 HF3 HF4 HM4 HB1 HB2 HB3 HB4 hgm0 hbm0 hlt hlt3 HV0 HST HC1 hc1 hY9 rc rf HHD HFS hmk
    obtain ⟨bb, R, last, V0, ol, n1, c1, A1, nm, gm, Cm, rfl, hc1, hn1, rfl, rfl, rfl, rfl, hnm, hCm, hbm, hgm, hTI, HOLQ, HST, HV, HC1, HF, HM, HB, HK⟩ := hrel
    by_cases cR : R = 0
    · have q0 : decide (0 < (R : Int)) = false := decide_eq_false (by omega)
      have q0n : decide (0 < R) = false := decide_eq_false (by omega)
      have hbb : bb = [] := by have := HST.out; rw [cR] at this; exact strOk_nil this
      have hn := (HC1.out W (Below.refl _ _)).1
      rw [hbb] at hn HC1
      have hn : rest.length = n1 := hn
      have hoV := HV.out
      rw [cR, List.take_zero, List.append_nil] at hoV
      have HOV := Aside0.mk hoV
      have HR0 := Aside0.mk cR
      subst hn
      clear hoV hbb cR
      go_wp2_with (fail)
      go_ret3
      have hown := HF.out.toOwn hgO (by omega)
      rw [HR0.out, List.replicate_zero, List.append_nil, HOLQ.out, show ol = T by have := HR0.out; omega] at hown
      exact ⟨_, A1, c1, rfl, .inr ⟨hT0, by rw [← HOV.out]; exact hown⟩, hc1, HC1.out, HB.out⟩
    · have q0 : decide (0 < (R : Int)) = true := decide_eq_true (by omega)
      have q0n : decide (0 < R) = true := decide_eq_true (by omega)
      obtain ⟨gk0, rfl⟩ : ∃ gk0, gk = gk0 + 1 := ⟨gk - 1, by
        have h1 := HK.out; have h2 := HST.out
        cases bb with
        | nil => exact absurd h2 cR
        | cons b bb => simp at h1; omega⟩
      cases bb with
      | nil => exact absurd HST.out cR
      | cons b bb =>
        obtain ⟨m, ps⟩ := b
        have HBE := Aside0.mk fun i q hi hq he => blk_end (P := P) (S := S) .i32 V0 V i q HST.out HV.out hi hq he
        obtain ⟨h0, ⟨hpl, hps⟩, htl, hm, hst'⟩ := HST.out
        have hpl : ps.length = P := hpl
        have hps : ∀ p ∈ ps, p.1 ≤ 32 ∧ p.2.length = S ∧ fitL p.1 p.2 := hps
        have hm : -9223372036854775808 ≤ m ∧ m ≤ 9223372036854775807 := hm
        obtain ⟨Y2, hY2⟩ : ∃ Y2, blksB bb ++ rest = Y2 := ⟨_, rfl⟩
        have hstr : blksB ((m, ps) :: bb) ++ rest = varL (zz m) ++ (natsI (ps.map (·.1)) ++ (partsB ps ++ Y2)) := by
          rw [blksB_cons, ← hY2]; unfold blkB; simp only [List.append_assoc]
        have HY2 := Aside0.mk hY2
        rw [hstr] at HC1
        have hnl : (natsI (ps.map (·.1))).length = P := by rw [natsI_length, List.length_map, hpl]
        have HBK := Aside0.mk (decBlk_calls A1 n1 c1 m (natsI (ps.map (·.1))) (partsB ps ++ Y2) P wr (HC1.out wr HB.out) hc1 hn1 hnl hm.1 hm.2)
        have hn1l := (HC1.out wr HB.out).1
        have hL0 := varL_pos (zz m)
        rw [List.length_append, List.length_append] at hn1l
        have q1 : decide (0 < (n1 : Int)) = true := decide_eq_true (by omega)
        have q1n : decide (0 < n1) = true := decide_eq_true (by omega)
        obtain ⟨rl, hrl⟩ : ∃ rl, (partsB ps ++ Y2).length = rl := ⟨_, rfl⟩
        rw [hrl] at HBK hn1l
        have hrl9 : rl ≤ 268435455 := by omega
        have HPS := Aside0.mk hps
        have HPL := Aside0.mk hpl
        have HVBL : Aside0 ((walkV .i32 m last (blkN (m, ps))).length = P * S) := ⟨by rw [walkV_length, blkN_length (W := 32) ⟨hpl, hps⟩]⟩
        have hNl : (blkN (m, ps)).length = P * S := blkN_length (W := 32) ⟨hpl, hps⟩
        have HKr := Aside0.mk (show bb.length + 1 ≤ gk0 + 1 from HK.out)
        obtain ⟨VB, hVB⟩ : ∃ VB, walkV .i32 m last (blkN (m, ps)) = VB := ⟨_, rfl⟩
        obtain ⟨RW, hRW⟩ : ∃ RW, (blkN (m, ps)).map IntKind.i32.wrap = RW := ⟨_, rfl⟩
        have hRl0 := hNl
        obtain ⟨mw, hmwq⟩ : ∃ mw, IntKind.i32.wrap m = mw := ⟨_, rfl⟩
        have hRl : RW.length = P * S := by rw [← hRW, List.length_map, hNl]
        have HDS : Aside0 (∀ (W1 : World) (q : Nat), q ≤ P * S → q ≤ R → Front W1 gO T 21 .i32 (V0 ++ (RW.take q ++ List.replicate (R - q) 0)) → Calls Tryd.prog 126 #[.slice (some ⟨gO, ol, none⟩) q (T - ol), .int .i32 mw, .int .i32 last] W1 fun e w' => e = .returned (.int .i32 (prv last VB q)) ∧ Front w' gO T 21 .i32 (V0 ++ VB.take q ++ List.replicate (R - q) 0) ∧ W1.grownBy w' (some gO)) := ⟨fun W1 q hq hqR hf => by
          have h := decSumInt32_calls gO T 21 q (T - ol) V0 (RW.take q) (List.replicate (R - q) 0) mw last W1 hf (by rw [List.length_take, hRl]; omega) (by omega)
          have e : walkV .i32 mw last (RW.take q) = VB.take q := by
            rw [← hmwq, ← hRW, ← List.map_take, walkV_wrap32, walkV_take, hVB]
          rw [e, HOLQ.out, prv_take last VB q (by rw [← hVB, walkV_length, hNl]; exact hq), ← List.append_assoc] at h
          exact h⟩
        rw [hVB] at HBE HVBL
        have HRW := Aside0.mk hRW
        have HRL := Aside0.mk hRl
        have HFR : Aside0 (∀ W1, Front W1 gO T 21 .i32 (V0 ++ List.replicate R 0) → Front W1 gO T 21 .i32 (V0 ++ (RW.take 0 ++ List.replicate R 0))) := ⟨fun W1 h => by rw [List.take_zero, List.nil_append]; exact h⟩
        have HC1L := Aside0.mk HC1.out
        clear htl hps hpl hnl hst' hstr hY2 hn1l hL0 hrl hNl hVB hRW hRl
        go_wp2_with (first
          | (go_at_call 109; go_loud (with_reducible refine HBK.out.mono ?_); rintro e w5 ⟨Aw, cw, A3, c3, rfl, hcw, hc3, hCC, ⟨nd, rfl⟩⟩; have HCWd : Aside0 (∀ W1, Below W.heap.size W W1 → (Kd.int .u8).C W1 Aw P (natsI (ps.map (·.1)))) := ⟨fun W1 h => (hCC W1 (HC1L.out W1 h)).1⟩; have HCP : Aside0 (∀ W1, Below W.heap.size W W1 → (Kd.int .u8).C W1 A3 rl (partsB (ps.drop 0) ++ Y2)) := ⟨fun W1 h => by have := (hCC W1 (HC1L.out W1 h)).2; exact this⟩; have HF5 := Aside0.mk (HFR.out _ (HF.out.drewN nd)); have HM5 := Aside0.mk (HM.out.drewN nd); have HB5 := Aside0.mk (HB.out.trans ((drewN_below wr nd).mono HB.out.size)); clear hCC))
        clear HF HM HB HC1 HC1L HBK HFR hc1 hn1
        go_loopg [1, 9, 12, 16, 21, 22, 23, 24, 99] P (fun kq v1 v9 v12 v16 v21 v22 v23 v24 v88 w' => ∃ (i q n3 c3 : Nat) (A3 : Option Addr) (r wo nm gm Cm : Nat), i ≤ P ∧ v88 = .int .i64 i ∧ v1 = .slice A3 n3 c3 ∧ n3 ≤ c3 ∧ n3 ≤ 268435455 ∧ v9 = .int .i64 r ∧ q + r = R ∧ 0 < r ∧ v12 = .int .i64 wo ∧ wo = ol + q ∧ v16 = .slice (some ⟨gm, 0, none⟩) nm Cm ∧ nm ≤ Cm ∧ Cm ≤ 9223372036854775807 ∧ W.heap.size ≤ gm ∧ gm ≠ gO ∧ Aside0 (q = i * S) ∧ Aside0 (∀ W1, Below W.heap.size W W1 → (Kd.int .u8).C W1 A3 n3 (partsB (ps.drop i) ++ Y2)) ∧ Aside0 (Front w' gO T 21 .i32 (V0 ++ (RW.take q ++ List.replicate r 0))) ∧ Aside0 (Front w' gm Cm 5 .u8 []) ∧ Aside0 (Below W.heap.size W w') ∧ Aside0 (P - i ≤ kq))
        case atStart => exact ⟨0, 0, rl, c3, A3, R, ol, nm, gm, Cm, by omega, rfl, rfl, hc3, hrl9, rfl, by omega, by omega, rfl, by omega, rfl, hnm, hCm, hbm, hgm, ⟨by omega⟩, HCP, HF5, HM5, HB5, ⟨by omega⟩⟩
        case round =>
          clear HCP HF5 HM5 HB5 hc3 hrl9 hbm hgm hnm hCm
          obtain ⟨i, q, n3, c3, A3, r, wo, nm, gm, Cm, hi, rfl, rfl, hc3, hn3, rfl, hqr, hr0, rfl, hwo, rfl, hnm, hCm, hbm, hgm, HQ, HCP, HF, HM, HB, HK2⟩ := hrel
          by_cases ci : i < P
          · have cib : decide ((i : Int) < (P : Int)) = true := decide_eq_true (by omega)
            have cibn : decide (i < P) = true := decide_eq_true ci
            have hmem := getD_mem ps i (by rw [HPL.out]; exact ci)
            obtain ⟨hw64, hnsl, hfit⟩ := HPS.out _ hmem
            obtain ⟨ad, ead, hcell⟩ := Kd.at_int (HCWd.out wr HB.out) (i : Int) (by omega) (by omega)
            rw [Int.toNat_natCast, fst_rd ps i (by rw [HPL.out]; exact ci)] at hcell
            obtain ⟨w, hw⟩ : ∃ w, (ps.getD i (0, [])).1 = w := ⟨_, rfl⟩
            obtain ⟨ns, hns⟩ : ∃ ns, (ps.getD i (0, [])).2 = ns := ⟨_, rfl⟩
            rw [hw] at hcell hw64 hfit
            rw [hns] at hnsl hfit
            have hdr := partsB_drop ps i (by rw [HPL.out]; exact ci)
            rw [hw, hns] at hdr
            have hfp := fun n (hn : n ≤ S) => flat_part S ps i n (fun p hp => (HPS.out p hp).2.1) (by rw [HPL.out]; exact ci) hn
            rw [hns] at hfp
            subst ead
            obtain ⟨nn, hnn⟩ : ∃ nn, min S r = nn := ⟨_, rfl⟩
            have hnS : nn ≤ S := by omega
            have hnr : nn ≤ r := by omega
            have hnp : 0 < nn := by omega
            have hnI : min (S : Int) (r : Int) = (nn : Int) := by omega
            obtain ⟨qe, hqe⟩ : ∃ qe, q + nn = qe := ⟨_, rfl⟩
            obtain ⟨r2, hr2⟩ : ∃ r2, r - nn = r2 := ⟨_, rfl⟩
            have hr2I : (r : Int) - (nn : Int) = (r2 : Int) := by omega
            obtain ⟨w2, hw2⟩ : ∃ w2, wo + nn = w2 := ⟨_, rfl⟩
            have hw2I : (wo : Int) + (nn : Int) = (w2 : Int) := by omega
            have hw2e : w2 = ol + qe := by omega
            have hqi := HQ.out
            have hiS1 : (i + 1) * S ≤ P * S := Nat.mul_le_mul_right S ci
            have hqe9 : qe ≤ P * S := by rw [Nat.succ_mul] at hiS1; omega
            have hqeR : qe ≤ R := by omega
            have HQE : Aside0 (qe = min ((i + 1) * S) R) := ⟨by rw [Nat.succ_mul]; omega⟩
            have hRWe : RW.take qe = RW.take q ++ (ns.take nn).map IntKind.i32.wrap := by
              rw [← HRW.out]
              show (List.map _ (ps.flatMap (·.2))).take qe = (List.map _ (ps.flatMap (·.2))).take q ++ _
              rw [← List.map_take, ← List.map_take, ← hqe, hqi, hfp nn hnS, List.map_append]
            have HRE := Aside0.mk hRWe
            have HDR := Aside0.mk hdr
            have HFIT := Aside0.mk hfit
            have HNSL := Aside0.mk hnsl
            have HQI := Aside0.mk hqi
            have HQEN := Aside0.mk hqe
            have HRQ : Aside0 (R - qe = r2) := ⟨by omega⟩
            have HWO : Aside0 (w2 = ol + qe) := ⟨hw2e⟩
            have HR2 := Aside0.mk hr2
            have HW2 := Aside0.mk hw2
            have hw29 : w2 ≤ T := by omega
            have hwo9 : wo ≤ w2 := by omega
            have HNN := Aside0.mk hnn
            have cutE := cutTail (P := Tryd.prog) 45 21 Tryd.underlying45 hE.1 hE.2 gO T T ol w2 (by omega) (by omega) (by omega)
            rw [show w2 - ol = qe by omega] at cutE
            have hcS : nn = S ∨ r2 = 0 := by omega
            have hin : i + 1 ≤ P := ci
            have hwoT : wo < T := by omega
            have hr9 : r ≤ R := by omega
            have HWOQ := Aside0.mk hwo
            have HQR := Aside0.mk hqr
            clear hmem hw hns hdr hfp hqi hRWe hfit hw2e hiS1 hqe hr2 hw2 hnn hwo hqr
            by_cases cw0 : w = 0
            · have q7 : ((w : Int) == 0) = true := by rw [beq_iff_eq]; omega
              have q7n : ((w : Int) != 0) = false := by simp [bne, q7]
              have HCN : Aside0 (∀ W1, Below W.heap.size W W1 → (Kd.int .u8).C W1 A3 n3 (partsB (ps.drop (i + 1)) ++ Y2)) := ⟨fun W1 h => by have := HCP.out W1 h; rw [HDR.out, cw0, packLo_zero, List.nil_append] at this; exact this⟩
              have HF9 : Aside0 (Front wr gO T 21 .i32 (V0 ++ (RW.take qe ++ List.replicate r2 0))) := ⟨by
                have h := HF.out
                have hz := fit_zero (show fitL 0 ns by rw [← cw0]; exact HFIT.out)
                rw [HRE.out, hz, HNSL.out, List.take_replicate, Nat.min_eq_left hnS, List.map_replicate, show IntKind.i32.wrap 0 = 0 by decide, List.append_assoc, List.replicate_append_replicate, show nn + r2 = r by have := HR2.out; omega]
                exact h⟩
              have HM9 := Aside0.mk HM.out
              have HB9 := Aside0.mk HB.out
              have HW0 := Aside0.mk cw0
              clear cw0 HF HM HB HCP
              by_cases cr2 : r2 = 0
              · have q8 : ((r2 : Int) == 0) = true := by rw [beq_iff_eq]; omega
                have HEND := Aside0.mk (HBE.out (i + 1) qe hin HQE.out (.inr (by have := HRQ.out; omega)))
                clear cr2
                go_wp2_with (fail)
                have HFE : Aside0 (Front wr gO T 21 .i32 (V0 ++ (RW.take qe ++ List.replicate (R - qe) 0))) := ⟨by rw [HRQ.out]; exact HF9.out⟩
                have HCE := Aside0.mk HCN.out
                have HME := Aside0.mk HM9.out
                have HBE2 := Aside0.mk HB9.out
                go_wp2_with (first
                  | (go_at_call 126; go_loud (with_reducible refine (HDS.out _ qe hqe9 hqeR HFE.out).mono ?_); rintro e w8 ⟨rfl, hf, hg⟩; have HF8 := Aside0.mk hf; have HM8 := Aside0.mk (frontG HME.out hg (fun e => hgm (by injection e))); have HB8 : Aside0 (Below W.heap.size W w8) := ⟨HBE2.out.grown hg HBE2.out.size (fun j hj => by injection hj with hj; omega)⟩; clear hf hg))
                go_roundg gk0
                case measure => omega
                case rel =>
                  obtain ⟨e1, e2, e3, e4, e5⟩ := HEND.out
                  have hrr : R - P * S = r2 := by have := HRQ.out; omega
                  refine ⟨bb, R - P * S, prv last VB qe, V0 ++ VB.take qe, ol + qe, n3, c3, A3, nm, gm, Cm, rfl, hc3, hn3, by rw [hrr], by rw [HWO.out], rfl, rfl, hnm, hCm, hbm, hgm, by omega, ⟨by rw [List.length_append, List.length_take, HVBL.out, HOLQ.out]; omega⟩, ⟨e2⟩, ⟨e5⟩, ⟨fun W1 h => ?_⟩, ⟨?_⟩, HM8, HB8, ⟨by have := HKr.out; omega⟩⟩
                  · have := HCE.out W1 h
                    rw [e1, ← HY2.out, List.nil_append] at this
                    exact this
                  · have h := HF8.out
                    rw [show R - qe = R - P * S by omega] at h
                    exact h
              · have q8 : ((r2 : Int) == 0) = false := by rw [beq_eq_false_iff_ne]; omega
                go_wp2_with (fail)
                go_roundg (gk - 1)
                case measure => have := HK2.out; omega
                case rel =>
                  exact ⟨i + 1, qe, n3, c3, A3, r2, w2, nm, gm, Cm, hin, by go_num, rfl, hc3, hn3, rfl, by have := HRQ.out; omega, by omega, rfl, HWO.out, rfl, hnm, hCm, hbm, hgm, ⟨by have := HQE.out; have := HRQ.out; omega⟩, HCN, HF9, HM9, HB9, ⟨by have := HK2.out; omega⟩⟩
            · have q7 : ((w : Int) == 0) = false := by rw [beq_eq_false_iff_ne]; omega
              have q7n : ((w : Int) != 0) = true := by simp [bne, q7]
              obtain ⟨sz, hsz⟩ : ∃ sz, S * w / 8 = sz := ⟨_, rfl⟩
              have hsz8 : S * w = 8 * sz := by
                obtain ⟨s8, hs8⟩ : ∃ s8, S = 8 * s8 := ⟨S / 8, by omega⟩
                rw [← hsz, hs8, Nat.mul_assoc]; omega
              have hszI : (S : Int) * (w : Int) = ((8 * sz : Nat) : Int) := by rw [← hsz8]; push_cast; rfl
              have hsw : S * w ≤ 4194304 := Nat.le_trans (Nat.mul_le_mul hS9 hw64) (by omega)
              have hswp : S ≤ S * w := Nat.le_mul_of_pos_right S (by omega)
              obtain ⟨sw, hswq⟩ : ∃ sw, 8 * sz = sw := ⟨_, rfl⟩
              rw [hswq] at hszI
              have hq1 : (sw : Int) / 8 = (sz : Int) := by omega
              have hq2 : (sw : Int).tdiv 8 = (sz : Int) := by rw [Int.tdiv_eq_ediv_of_nonneg (by omega)]; exact hq1
              have hpk : (packLo w ns).length = sz := by unfold packLo; rw [bytesLo_length, HNSL.out, hsz]
              have hn3l := (HCP.out wr HB.out).1
              rw [HDR.out, List.append_assoc, List.length_append, hpk] at hn3l
              have hsz3 : sz ≤ n3 := by omega
              have hsz0 : 0 < sz := by omega
              have hsz9 : sz ≤ 524288 := by omega
              have qn3 : decide ((sz : Int) ≤ (n3 : Int)) = true := decide_eq_true (by omega)
              have qn3n : decide (sz ≤ n3) = true := decide_eq_true hsz3
              obtain ⟨cutw, hCw⟩ := cutHi (P := Tryd.prog) 29 5 Tryd.underlying29 h8.1 A3 n3 c3 .i64 (sz : Int) sz rfl hsz3 hc3
              obtain ⟨A5, cutb, hCb⟩ := cutLo (P := Tryd.prog) 29 5 Tryd.underlying29 h8.1 h8.2 A3 n3 c3 .i64 (sz : Int) sz rfl hsz3 hc3
              obtain ⟨cutw2, _⟩ := cutHi (P := Tryd.prog) 29 5 Tryd.underlying29 h8.1 A3 sz c3 .i64 (sz : Int) sz rfl (Nat.le_refl _) (by omega)
              have HCPk : Aside0 (∀ W1, Below W.heap.size W W1 → (Kd.int .u8).C W1 A3 sz (packLo w ns)) := ⟨fun W1 h => by have := hCw _ W1 _ (HCP.out W1 h); rw [HDR.out, List.append_assoc, List.take_left' hpk] at this; exact this⟩
              have HCN : Aside0 (∀ W1, Below W.heap.size W W1 → (Kd.int .u8).C W1 A5 (n3 - sz) (partsB (ps.drop (i + 1)) ++ Y2)) := ⟨fun W1 h => by have := hCb (Kd.int .u8) W1 _ rfl (HCP.out W1 h); rw [HDR.out, List.append_assoc, List.drop_left' hpk] at this; exact this⟩
              have HPK := Aside0.mk hpk
              obtain ⟨nz, hnz⟩ : ∃ nz, n3 - sz = nz := ⟨_, rfl⟩
              obtain ⟨cz, hcz⟩ : ∃ cz, c3 - sz = cz := ⟨_, rfl⟩
              rw [hnz] at HCN cutb
              rw [hcz] at cutb
              have hnz1 : nz ≤ cz := by omega
              have hnz9 : nz ≤ 268435455 := by omega
              have cutU := cutTail (P := Tryd.prog) 45 21 Tryd.underlying45 hE.1 hE.2 gO T T wo w2 hwoT hwo9 hw29
              rw [show w2 - wo = nn by have := HW2.out; omega] at cutU
              have HXL : Aside0 ((V0 ++ RW.take q).length = wo) := ⟨by
                have h1 := HQEN.out; have h2 := HWOQ.out; have h3 := HQI.out
                rw [List.length_append, HOLQ.out, List.length_take, HRL.out]; omega⟩
              have HUP : Aside0 (∀ (W1 : World) (A6 : Option Addr) (c6 : Nat), Front W1 gO T 21 .i32 (V0 ++ (RW.take q ++ List.replicate r 0)) → ReadKeep W1 gO .u8 A6 sz (packLo w ns) → Calls Tryd.prog 125 #[.slice (some ⟨gO, wo, none⟩) nn (T - wo), .slice A6 sz c6, .int .u64 w] W1 fun e w' => e = .returned (.tuple #[]) ∧ Front w' gO T 21 .i32 (V0 ++ (RW.take qe ++ List.replicate r2 0)) ∧ W1.grownBy w' (some gO)) := ⟨fun W1 A6 c6 hf hk => by
                have h := unpackInt32_calls gO T 21 nn (T - wo) (V0 ++ RW.take q) (List.replicate r 0) A6 sz c6 sz w (packLo w ns) W1 (by rw [List.append_assoc]; exact hf) (by rw [List.length_replicate]; exact hnr) (by omega) hk (Nat.le_refl _) (by omega) (packLo_bytes w ns) hw64 (by rw [← hsz8]; exact Nat.mul_le_mul_right w hnS) (by omega)
                rw [HXL.out, unpI_pack .i32 w nn ns (by rw [HNSL.out]; exact hnS) (by rw [HNSL.out]; omega) HFIT.out, List.drop_replicate, HR2.out, List.append_assoc, List.append_assoc, ← List.append_assoc (RW.take q), ← HRE.out] at h
                exact h⟩
              clear hsz hsz8 hsw hswq hpk hn3l hCw hCb HCP hnz hcz cw0 hswp
              by_cases ccp : c3 < sz + 16
              · have qcp : decide ((c3 : Int) < (sz : Int) + 16) = true := decide_eq_true (by omega)
                have cutz := cutAtMid0 (P := Tryd.prog) 29 5 Tryd.underlying29 h8.1 h8.2 gm nm Cm 0 (Nat.zero_le _)
                rw [show ((0 : Nat) : Int) = 0 from rfl] at cutz
                have HRZ : Aside0 (Calls Tryd.prog 94 #[.slice (some ⟨gm, 0, none⟩) 0 Cm, .int .i64 ((sz : Int) + 16)] wr fun e w' => ∃ g M, e = .returned (.slice (some ⟨g, 0, none⟩) (sz + 16) M) ∧ Front w' g M 5 .u8 (List.replicate (sz + 16) 0) ∧ sz + 16 ≤ M ∧ M ≤ 9223372036854775807 ∧ W.heap.size ≤ g ∧ g ≠ gO ∧ wr.grownBy w' (some g)) := ⟨by
                  have := resizeZ_calls W.heap.size (.slice (some ⟨gm, 0, none⟩) 0 Cm) [] (sz + 16) wr (HM.out.toOwn hbm hCm) HB.out.size (by simp) (by omega)
                  rw [show ((sz + 16 : Nat) : Int) = (sz : Int) + 16 by omega] at this
                  refine this.mono ?_
                  rintro e w' ⟨g, M, rfl, hf, h1, h2, h3, h4, hg⟩
                  refine ⟨g, M, rfl, by simpa using hf, h1, h2, h3, ?_, hg⟩
                  have hlt := HF.out.lt
                  rcases h4 with h | h
                  · omega
                  · have h : some gm = some g := h
                    injection h with h
                    omega⟩
                obtain ⟨ad3, ead3, _⟩ := copySrc (HCPk.out wr HB.out) (by rw [HPK.out]; exact hsz0)
                subst ead3
                have hlt0 := HF.out.lt
                by_cases cr2 : r2 = 0
                · have q8 : ((r2 : Int) == 0) = true := by rw [beq_iff_eq]; omega
                  have HEND := Aside0.mk (HBE.out (i + 1) qe hin HQE.out (.inr (by have := HRQ.out; omega)))
                  clear cr2
                  go_wp2_with (first
                    | (go_at_call 94; go_loud (with_reducible refine HRZ.out.mono ?_); rintro e w6 ⟨g2, M2, rfl, hf, h1, h2, h3, h4, hg⟩; have HF6 := Aside0.mk hf; have HO6 := Aside0.mk (frontG HF.out hg (fun e => h4 (by injection e with e; exact e.symm))); have HB6 : Aside0 (Below W.heap.size W w6) := ⟨HB.out.grown hg HB.out.size (fun j hj => by injection hj with hj; omega)⟩; obtain ⟨ad3', e3, hsrc⟩ := copySrc (HCPk.out w6 HB6.out) (by rw [HPK.out]; exact hsz0); injection e3 with e3; subst e3; have HSRC := Aside0.mk hsrc; have cutm := cutAtMid0 (P := Tryd.prog) 29 5 Tryd.underlying29 h8.1 h8.2 g2 (sz + 16) M2 sz (by omega); have cutm2 := cutAtMid0 (P := Tryd.prog) 29 5 Tryd.underlying29 h8.1 h8.2 g2 sz M2 sz (by omega); have hmin : Nat.min sz (sz + 16) = sz := Nat.min_eq_left (by omega); have hgint : goInt (packLo w ns).length = .int .i64 (sz : Int) := (by rw [HPK.out]; rfl); have HGI := Aside0.mk hgint; clear hf hg hsrc hgint)
                    | ((refine wpList_copy_front ?hgd (.tmp 136) (.tmp 137) 29 29 ?ho0 5 Tryd.underlying29 ?h1 g2 (sz + 16) M2 ad3 sz c3 [] (packLo w ns) (List.replicate (sz + 16) 0) ?hd ?hs 5 M2 .u8 HF6.out ?hn HSRC.out ?hy ?_); (case ho0 => rfl); (case hgd => rfl); (case hd => rfl); (case hs => rfl); go_loud ((case h1 => kernel_rfl)); go_loud ((case hn => rw [HPK.out]; exact hmin.symm)); go_loud ((case hy => rw [HPK.out, List.length_replicate]; omega)); intro w7 hf hg; rw [HGI.out]; have HF7 := Aside0.mk hf; have HO7 := Aside0.mk (frontG HO6.out hg (fun e => h4 (by injection e with e; exact e.symm))); have HB7 : Aside0 (Below W.heap.size W w7) := ⟨HB6.out.grown hg HB6.out.size (fun j hj => by injection hj with hj; omega)⟩; have HRK : Aside0 (ReadKeep w7 gO .u8 (some ⟨g2, 0, none⟩) sz (packLo w ns)) := ⟨fun W1 hW => (by have h := frontR ((frontG HF7.out hW (fun e => h4 (by injection e))).take sz) h2; rw [List.nil_append, List.take_left' HPK.out, HPK.out] at h; exact h)⟩; clear hf hg)
                    | (go_at_call 125; go_loud (with_reducible refine (HUP.out w7 (some ⟨g2, 0, none⟩) M2 HO7.out HRK.out).mono ?_); rintro e w9 ⟨rfl, hf, hg⟩; have HF9 := Aside0.mk hf; have HM9 : Aside0 (Front w9 g2 M2 5 .u8 []) := ⟨(by have := (frontG HF7.out hg (fun e => h4 (by injection e))).take 0; rw [List.take_zero] at this; exact this)⟩; have HB9 : Aside0 (Below W.heap.size W w9) := ⟨HB7.out.grown hg HB7.out.size (fun j hj => by injection hj with hj; omega)⟩; clear hf hg))
                  have HFE : Aside0 (Front w9 gO T 21 .i32 (V0 ++ (RW.take qe ++ List.replicate (R - qe) 0))) := ⟨by rw [HRQ.out]; exact HF9.out⟩
                  have HCE := Aside0.mk HCN.out
                  have HME := Aside0.mk HM9.out
                  have HBE2 := Aside0.mk HB9.out
                  go_wp2_with (first
                    | (go_at_call 126; go_loud (with_reducible refine (HDS.out _ qe hqe9 hqeR HFE.out).mono ?_); rintro e w8 ⟨rfl, hf, hg⟩; have HF8 := Aside0.mk hf; have HM8 := Aside0.mk (frontG HME.out hg (fun e => h4 (by injection e))); have HB8 : Aside0 (Below W.heap.size W w8) := ⟨HBE2.out.grown hg HBE2.out.size (fun j hj => by injection hj with hj; omega)⟩; clear hf hg))
                  go_roundg gk0
                  case measure => omega
                  case rel =>
                    obtain ⟨e1, e2, e3, e4, e5⟩ := HEND.out
                    have hrr : R - P * S = r2 := by have := HRQ.out; omega
                    refine ⟨bb, R - P * S, prv last VB qe, V0 ++ VB.take qe, ol + qe, nz, cz, A5, (sz + 16), g2, M2, rfl, hnz1, hnz9, by rw [hrr], by rw [HWO.out], rfl, rfl, h1, h2, h3, h4, by omega, ⟨by rw [List.length_append, List.length_take, HVBL.out, HOLQ.out]; omega⟩, ⟨e2⟩, ⟨e5⟩, ⟨fun W1 h => ?_⟩, ⟨?_⟩, HM8, HB8, ⟨by have := HKr.out; omega⟩⟩
                    · have := HCE.out W1 h
                      rw [e1, ← HY2.out, List.nil_append] at this
                      exact this
                    · have h := HF8.out
                      rw [show R - qe = R - P * S by omega] at h
                      exact h
                · have q8 : ((r2 : Int) == 0) = false := by rw [beq_eq_false_iff_ne]; omega
                  go_wp2_with (first
                    | (go_at_call 94; go_loud (with_reducible refine HRZ.out.mono ?_); rintro e w6 ⟨g2, M2, rfl, hf, h1, h2, h3, h4, hg⟩; have HF6 := Aside0.mk hf; have HO6 := Aside0.mk (frontG HF.out hg (fun e => h4 (by injection e with e; exact e.symm))); have HB6 : Aside0 (Below W.heap.size W w6) := ⟨HB.out.grown hg HB.out.size (fun j hj => by injection hj with hj; omega)⟩; obtain ⟨ad3', e3, hsrc⟩ := copySrc (HCPk.out w6 HB6.out) (by rw [HPK.out]; exact hsz0); injection e3 with e3; subst e3; have HSRC := Aside0.mk hsrc; have cutm := cutAtMid0 (P := Tryd.prog) 29 5 Tryd.underlying29 h8.1 h8.2 g2 (sz + 16) M2 sz (by omega); have cutm2 := cutAtMid0 (P := Tryd.prog) 29 5 Tryd.underlying29 h8.1 h8.2 g2 sz M2 sz (by omega); have hmin : Nat.min sz (sz + 16) = sz := Nat.min_eq_left (by omega); have hgint : goInt (packLo w ns).length = .int .i64 (sz : Int) := (by rw [HPK.out]; rfl); have HGI := Aside0.mk hgint; clear hf hg hsrc hgint)
                    | ((refine wpList_copy_front ?hgd (.tmp 136) (.tmp 137) 29 29 ?ho0 5 Tryd.underlying29 ?h1 g2 (sz + 16) M2 ad3 sz c3 [] (packLo w ns) (List.replicate (sz + 16) 0) ?hd ?hs 5 M2 .u8 HF6.out ?hn HSRC.out ?hy ?_); (case ho0 => rfl); (case hgd => rfl); (case hd => rfl); (case hs => rfl); go_loud ((case h1 => kernel_rfl)); go_loud ((case hn => rw [HPK.out]; exact hmin.symm)); go_loud ((case hy => rw [HPK.out, List.length_replicate]; omega)); intro w7 hf hg; rw [HGI.out]; have HF7 := Aside0.mk hf; have HO7 := Aside0.mk (frontG HO6.out hg (fun e => h4 (by injection e with e; exact e.symm))); have HB7 : Aside0 (Below W.heap.size W w7) := ⟨HB6.out.grown hg HB6.out.size (fun j hj => by injection hj with hj; omega)⟩; have HRK : Aside0 (ReadKeep w7 gO .u8 (some ⟨g2, 0, none⟩) sz (packLo w ns)) := ⟨fun W1 hW => (by have h := frontR ((frontG HF7.out hW (fun e => h4 (by injection e))).take sz) h2; rw [List.nil_append, List.take_left' HPK.out, HPK.out] at h; exact h)⟩; clear hf hg)
                    | (go_at_call 125; go_loud (with_reducible refine (HUP.out w7 (some ⟨g2, 0, none⟩) M2 HO7.out HRK.out).mono ?_); rintro e w9 ⟨rfl, hf, hg⟩; have HF9 := Aside0.mk hf; have HM9 : Aside0 (Front w9 g2 M2 5 .u8 []) := ⟨(by have := (frontG HF7.out hg (fun e => h4 (by injection e))).take 0; rw [List.take_zero] at this; exact this)⟩; have HB9 : Aside0 (Below W.heap.size W w9) := ⟨HB7.out.grown hg HB7.out.size (fun j hj => by injection hj with hj; omega)⟩; clear hf hg))
                  go_roundg (gk - 1)
                  case measure => have := HK2.out; omega
                  case rel =>
                    exact ⟨i + 1, qe, nz, cz, A5, r2, w2, (sz + 16), g2, M2, hin, by go_num, rfl, hnz1, hnz9, rfl, by have := HRQ.out; omega, by omega, rfl, HWO.out, rfl, h1, h2, h3, h4, ⟨by have := HQE.out; have := HRQ.out; omega⟩, HCN, HF9, HM9, HB9, ⟨by have := HK2.out; omega⟩⟩

              · have qcp : decide ((c3 : Int) < (sz : Int) + 16) = false := decide_eq_false (by omega)
                have HRK : Aside0 (ReadKeep wr gO .u8 A3 sz (packLo w ns)) := ⟨fun W1 hW => HCPk.out W1 (HB.out.grown hW HB.out.size (fun j hj => by injection hj with hj; omega))⟩
                by_cases cr2 : r2 = 0
                · have q8 : ((r2 : Int) == 0) = true := by rw [beq_iff_eq]; omega
                  have HEND := Aside0.mk (HBE.out (i + 1) qe hin HQE.out (.inr (by have := HRQ.out; omega)))
                  clear cr2
                  go_wp2_with (first
                    | (go_at_call 125; go_loud (with_reducible refine (HUP.out wr A3 c3 HF.out HRK.out).mono ?_); rintro e w9 ⟨rfl, hf, hg⟩; have HF9 := Aside0.mk hf; have HM9 := Aside0.mk (frontG HM.out hg (fun e => hgm (by injection e))); have HB9 : Aside0 (Below W.heap.size W w9) := ⟨HB.out.grown hg HB.out.size (fun j hj => by injection hj with hj; omega)⟩; clear hf hg))
                  have HFE : Aside0 (Front w9 gO T 21 .i32 (V0 ++ (RW.take qe ++ List.replicate (R - qe) 0))) := ⟨by rw [HRQ.out]; exact HF9.out⟩
                  have HCE := Aside0.mk HCN.out
                  have HME := Aside0.mk HM9.out
                  have HBE2 := Aside0.mk HB9.out
                  go_wp2_with (first
                    | (go_at_call 126; go_loud (with_reducible refine (HDS.out _ qe hqe9 hqeR HFE.out).mono ?_); rintro e w8 ⟨rfl, hf, hg⟩; have HF8 := Aside0.mk hf; have HM8 := Aside0.mk (frontG HME.out hg (fun e => hgm (by injection e))); have HB8 : Aside0 (Below W.heap.size W w8) := ⟨HBE2.out.grown hg HBE2.out.size (fun j hj => by injection hj with hj; omega)⟩; clear hf hg))
                  go_roundg gk0
                  case measure => omega
                  case rel =>
                    obtain ⟨e1, e2, e3, e4, e5⟩ := HEND.out
                    have hrr : R - P * S = r2 := by have := HRQ.out; omega
                    refine ⟨bb, R - P * S, prv last VB qe, V0 ++ VB.take qe, ol + qe, nz, cz, A5, nm, gm, Cm, rfl, hnz1, hnz9, by rw [hrr], by rw [HWO.out], rfl, rfl, hnm, hCm, hbm, hgm, by omega, ⟨by rw [List.length_append, List.length_take, HVBL.out, HOLQ.out]; omega⟩, ⟨e2⟩, ⟨e5⟩, ⟨fun W1 h => ?_⟩, ⟨?_⟩, HM8, HB8, ⟨by have := HKr.out; omega⟩⟩
                    · have := HCE.out W1 h
                      rw [e1, ← HY2.out, List.nil_append] at this
                      exact this
                    · have h := HF8.out
                      rw [show R - qe = R - P * S by omega] at h
                      exact h
                · have q8 : ((r2 : Int) == 0) = false := by rw [beq_eq_false_iff_ne]; omega
                  go_wp2_with (first
                    | (go_at_call 125; go_loud (with_reducible refine (HUP.out wr A3 c3 HF.out HRK.out).mono ?_); rintro e w9 ⟨rfl, hf, hg⟩; have HF9 := Aside0.mk hf; have HM9 := Aside0.mk (frontG HM.out hg (fun e => hgm (by injection e))); have HB9 : Aside0 (Below W.heap.size W w9) := ⟨HB.out.grown hg HB.out.size (fun j hj => by injection hj with hj; omega)⟩; clear hf hg))
                  go_roundg (gk - 1)
                  case measure => have := HK2.out; omega
                  case rel =>
                    exact ⟨i + 1, qe, nz, cz, A5, r2, w2, nm, gm, Cm, hin, by go_num, rfl, hnz1, hnz9, rfl, by have := HRQ.out; omega, by omega, rfl, HWO.out, rfl, hnm, hCm, hbm, hgm, ⟨by have := HQE.out; have := HRQ.out; omega⟩, HCN, HF9, HM9, HB9, ⟨by have := HK2.out; omega⟩⟩
          · obtain rfl : i = P := by omega
            have cib : decide ((i : Int) < (i : Int)) = false := decide_eq_false (by omega)
            have cibn : decide (i < i) = false := decide_eq_false (by omega)
            obtain ⟨qe, hqe⟩ : ∃ qe, q = qe := ⟨_, rfl⟩
            subst hqe
            have hqi := HQ.out
            have hqe9 : q ≤ i * S := by omega
            have hqeR : q ≤ R := by omega
            have HEND := Aside0.mk (HBE.out i q (Nat.le_refl _) (by omega) (.inl rfl))
            have HFE : Aside0 (Front wr gO T 21 .i32 (V0 ++ (RW.take q ++ List.replicate (R - q) 0))) := ⟨by rw [show R - q = r by omega]; exact HF.out⟩
            have HCE := Aside0.mk HCP.out
            have HME := Aside0.mk HM.out
            have HBE2 := Aside0.mk HB.out
            have cutE := cutTail (P := Tryd.prog) 45 21 Tryd.underlying45 hE.1 hE.2 gO T T ol wo (by omega) (by omega) (by omega)
            rw [show wo - ol = q by omega] at cutE
            have HWO : Aside0 (wo = ol + q) := ⟨hwo⟩
            have HRQ : Aside0 (R - q = r) := ⟨by omega⟩
            clear hqi hwo hqr
            go_wp2_with (first
              | (go_at_call 126; go_loud (with_reducible refine (HDS.out _ q hqe9 hqeR HFE.out).mono ?_); rintro e w8 ⟨rfl, hf, hg⟩; have HF8 := Aside0.mk hf; have HM8 := Aside0.mk (frontG HME.out hg (fun e => hgm (by injection e))); have HB8 : Aside0 (Below W.heap.size W w8) := ⟨HBE2.out.grown hg HBE2.out.size (fun j hj => by injection hj with hj; omega)⟩; clear hf hg))
            go_roundg gk0
            case measure => omega
            case rel =>
              obtain ⟨e1, e2, e3, e4, e5⟩ := HEND.out
              have hrr : R - i * S = r := by have := HRQ.out; omega
              refine ⟨bb, R - i * S, prv last VB q, V0 ++ VB.take q, ol + q, n3, c3, A3, nm, gm, Cm, rfl, hc3, hn3, by rw [hrr], by rw [HWO.out], rfl, rfl, hnm, hCm, hbm, hgm, by omega, ⟨by rw [List.length_append, List.length_take, HVBL.out, HOLQ.out]; omega⟩, ⟨e2⟩, ⟨e5⟩, ⟨fun W1 h => ?_⟩, ⟨?_⟩, HM8, HB8, ⟨by have := HKr.out; omega⟩⟩
              · have := HCE.out W1 h
                rw [e1, ← HY2.out, List.nil_append] at this
                exact this
              · have h := HF8.out
                rw [show R - q = R - i * S by omega] at h
                exact h
end Go.Proofs.YtigmcdpjlkgocaaDoor.Ddc
