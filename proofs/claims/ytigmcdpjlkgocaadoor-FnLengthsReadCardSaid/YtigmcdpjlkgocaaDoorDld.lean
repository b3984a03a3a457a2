import Derived.Test.YtigmcdpjlkgocaaDoorMdm
/-! Lengths of texts: the decoder. -/
namespace Go.Proofs.YtigmcdpjlkgocaaDoor.Dld
open Go.Proofs.YtigmcdpjlkgocaaDoor.Dls Go.Proofs.YtigmcdpjlkgocaaDoor.Dle Go.Proofs.YtigmcdpjlkgocaaDoor.Dib Go.Proofs.YtigmcdpjlkgocaaDoor.Dew Go.Proofs.YtigmcdpjlkgocaaDoor.Dtx Go.Proofs.YtigmcdpjlkgocaaDoor.Ddc Go.Proofs.YtigmcdpjlkgocaaDoor.Dct Go.Proofs.YtigmcdpjlkgocaaDoor.Dst Go.Proofs.YtigmcdpjlkgocaaDoor.Deo Go.Proofs.YtigmcdpjlkgocaaDoor.Den Go.Proofs.YtigmcdpjlkgocaaDoor.Deb Go.Proofs.YtigmcdpjlkgocaaDoor.Dml Go.Proofs.YtigmcdpjlkgocaaDoor.Dhd Go.Proofs.YtigmcdpjlkgocaaDoor.Dgr Go.Proofs.YtigmcdpjlkgocaaDoor.Dpu Go.Proofs.YtigmcdpjlkgocaaDoor.Dds Go.Proofs.YtigmcdpjlkgocaaDoor.Pak Go.Proofs.YtigmcdpjlkgocaaDoor.Buf Go.Proofs.YtigmcdpjlkgocaaDoor.Fit Go.Proofs.YtigmcdpjlkgocaaDoor.Bit Go.Proofs.YtigmcdpjlkgocaaDoor.Wrd Go.Proofs.YtigmcdpjlkgocaaDoor.Spl Go.Proofs.YtigmcdpjlkgocaaDoor.Str Go.Proofs.YtigmcdpjlkgocaaDoor.Flt Go.Proofs.YtigmcdpjlkgocaaDoor.Owe Go.Proofs.YtigmcdpjlkgocaaDoor.Num Go.Proofs.YtigmcdpjlkgocaaDoor.Le Go.Proofs.YtigmcdpjlkgocaaDoor.Lst Go.Proofs.YtigmcdpjlkgocaaDoor.Aid Go.RowKit Go.Proofs.YtigmcdpjlkgocaaDoorW.PrintWords Go.Proofs.YtigmcdpjlkgocaaDoorW.PrintLast Go.Proofs.YtigmcdpjlkgocaaDoorW.PrintMore
set_option linter.unusedVariables false
set_option linter.unusedSimpArgs false
set_option maxHeartbeats 4000000 in
set_option maxRecDepth 100000 in
theorem decLens_calls (g C m : Nat) (B : Option Addr) (n nc : Nat) (ls : List (List Int)) (w : World) (hF : Front w g C 84 .u32 (List.replicate m 0)) (hm : m = n + 1) (hmC : m ≤ C) (hC9 : C ≤ 9223372036854775807)
    (hO : ReadKeep w g .i32 B n (lenL ls)) (hnc : n ≤ nc) (hn : ls.length = n) (hn9 : n ≤ 100000) (hs : sumLen ls ≤ 100000) :
    Calls Tryd.prog 78 #[.slice (some ⟨g, 0, none⟩) m C, .slice B n nc] w fun e w' => e = .returned (.tuple #[.int .u32 (sumLen ls : Int), .int .i32 0]) ∧ Front w' g C 84 .u32 (offsL ls m) ∧ w.grownBy w' (some g) := by
  have HLN := Aside0.mk hn
  have HSM := Aside0.mk (sumLen_le ls)
  have HS := Aside0.mk hs
  have HO := Aside0.mk hO
  have HM := Aside0.mk hm
  have HF0 : Aside0 (Front w g C 84 .u32 (partI (fun i => (sumLen (ls.take i) : Int)) m 0)) := ⟨by rw [partI_zero]; exact hF⟩
  have hm1 : n < m := by omega
  have hm2 : (n : Int) < (m : Int) := by omega
  clear hF hO hn hs hm
  go_enter Tryd.func78, Tryd.ntmps78
  go_wp2_with (fail)
  go_loopg [6, 7, 8, 11] n (fun kq v6 v7 v8 v11 w' => ∃ (j o : Nat), j ≤ n ∧ v11 = .int .i64 j ∧ v6 = .int .u32 o ∧ Aside0 (o = sumLen (ls.take j)) ∧ Aside0 (Front w' g C 84 .u32 (partI (fun i => (sumLen (ls.take i) : Int)) m j)) ∧ Aside0 (w.grownBy w' (some g)) ∧ Aside0 (n - j ≤ kq))
  case atStart => exact ⟨0, 0, by omega, rfl, rfl, ⟨by simp [sumLen]⟩, HF0, ⟨grownRefl _ _⟩, ⟨by omega⟩⟩
  case round =>
    clear HF0
    obtain ⟨j, o, hj, rfl, rfl, HQ, HF, HG, HK⟩ := hrel
    by_cases cj : j < n
    · have cjb : decide ((j : Int) < n) = true := decide_eq_true (by omega)
      have cjn : decide (j < n) = true := decide_eq_true cj
      have hOw := HO.out wr HG.out
      obtain ⟨ad, ead, x0⟩ := Kd.at_int hOw (j : Int) (by omega) (by omega)
      rw [Int.toNat_natCast, rd_lenL ls j (by rw [HLN.out]; exact cj)] at x0
      have hst := sumLen_take ls j (by rw [HLN.out]; exact cj)
      have hq9 := HSM.out (j + 1)
      obtain ⟨d, hd⟩ : ∃ d, (ls.getD j []).length = d := ⟨_, rfl⟩
      rw [hd] at x0 hst
      rw [← HQ.out] at hst
      obtain ⟨q, hq⟩ : ∃ q, sumLen (ls.take (j + 1)) = q := ⟨_, rfl⟩
      rw [hq] at hst hq9
      have HQ1 := Aside0.mk hq
      have hq99 : q ≤ 100000 := by have := HS.out; omega
      have hqo : (o : Int) + (d : Int) = (q : Int) := by omega
      obtain ⟨z, rc⟩ := HF.out.cell j (by omega)
      have rf := HF.out.free j
      have b0 := World.block_lt_of_cell? wr _ x0
      have b2 := World.block_lt_of_cell? wr _ rc
      have qd : decide ((d : Int) < 0) = false := decide_eq_false (by omega)
      have qw1 : IntKind.u32.wrap (d : Int) = (d : Int) := by rw [IntKind.wrap_u32]; omega
      have qw2 : IntKind.u32.wrap (q : Int) = (q : Int) := by rw [IntKind.wrap_u32]; omega
      have qi1 : (j : Int) < (n : Int) := by omega
      have qi2 : (j : Int) < (m : Int) := by omega
      have qi3 : j < m := by omega
      clear hq hd hst hOw
      subst ead
      go_wp2_with (fail)
      go_roundg (gk - 1)
      case measure => have := HK.out; omega
      case rel =>
        refine ⟨j + 1, q, by omega, by go_num, by go_num, ⟨HQ1.out.symm⟩, ⟨?_⟩, ⟨grownSet HG.out _ _⟩, ⟨by have := HK.out; omega⟩⟩
        have := setF HF.out j (by rw [partI_length]; omega) (sumLen (ls.take j) : Int)
        rw [partI_set (fun i => (sumLen (ls.take i) : Int)) m j, ← HQ.out] at this
        exact this
    · obtain rfl : j = n := by omega
      have cjb : decide ((j : Int) < j) = false := decide_eq_false (by omega)
      obtain ⟨z, rc⟩ := HF.out.cell j (by omega)
      have rf := HF.out.free j
      have b2 := World.block_lt_of_cell? wr _ rc
      go_wp2_with (fail)
      go_ret2
      have hq2 := HQ.out
      rw [show ls.take j = ls by rw [← HLN.out, List.take_length]] at hq2
      refine ⟨by rw [hq2]; rfl, ?_, grownSet HG.out _ _⟩
      have := setF HF.out j (by rw [partI_length]; omega) (sumLen (ls.take j) : Int)
      rw [partI_set (fun i => (sumLen (ls.take i) : Int)) m j, ← HQ.out, ← HM.out, partI_full] at this
      exact this
theorem infoU32d : (Tryd.prog.info? 84).map (fun i => (i.zero, i.size, i.bytes)) = some (some (.int .u32 0), 1, 4) := by kernel_rfl
set_option maxHeartbeats 4000000 in
set_option maxRecDepth 100000 in
theorem leDecode_calls (p0 : Option Addr) (A : Option Addr) (N c k : Nat) (X : List Int) (ls : List (List Int)) (B P S : Nat) (bs : List DBlk) (w : World) (hC : (Kd.int .u8).C w A N X) (hX : NumStr (lenL ls) X (joinL ls) B P S bs) (hc : N ≤ c) (hN : N ≤ 268435455) (hk : ls.length = k) (hk9 : k ≤ 100000) (hs : sumLen ls ≤ 100000) :
    Calls Tryd.prog 42 #[.pointer p0, .slice none 0 0, .slice A N c, .slice none 0 0] w fun e w' => ∃ v u, e = .returned (.tuple #[v, u, .nilIface]) ∧ Own w' w.heap.size 5 .u8 v (joinL ls) ∧ Own w' w.heap.size 84 .u32 u (offsL ls (k + 1)) ∧ Below w.heap.size w w' := by
  have HC := Aside0.mk hC
  have HX := Aside0.mk hX
  have HKL := Aside0.mk hk
  have HS := Aside0.mk hs
  have HLL : Aside0 ((lenL ls).length = k) := ⟨by rw [lenL_length]; exact hk⟩
  obtain ⟨M, hM⟩ : ∃ M, sumLen ls = M := ⟨_, rfl⟩
  have HJL : Aside0 ((joinL ls).length = M) := ⟨by rw [joinL_length]; exact hM⟩
  have HMQ := Aside0.mk hM
  have hM9 : M ≤ 100000 := by omega
  obtain ⟨m, hm⟩ : ∃ m, k + 1 = m := ⟨_, rfl⟩
  have HMK := Aside0.mk hm.symm
  have hmi : (k : Int) + 1 = (m : Int) := by omega
  have hm9 : m ≤ 100001 := by omega
  have qc : decide (0 < (m : Int)) = true := decide_eq_true (by omega)
  have qc2 : 0 < m := by omega
  obtain ⟨i8, h8⟩ := h8
  obtain ⟨i32, h32⟩ : ∃ i, (Tryd.prog.info? 84) = some i ∧ i.size = 1 := Option.map_eq_some_iff.1 (show (Tryd.prog.info? 84).map (fun i => i.size) = some 1 by kernel_rfl)
  obtain ⟨cutz, _⟩ := cutHi (P := Tryd.prog) 29 5 Tryd.underlying29 h8.1 none 0 0 .i64 0 0 rfl (by omega) (by omega)
  obtain ⟨cuty, _⟩ := cutHi (P := Tryd.prog) 77 84 Tryd.underlying77 h32.1 none 0 0 .i64 0 0 rfl (by omega) (by omega)
  have hmk : ∀ W : World, (Instr.makeSlice 77 (.int .i64 (m : Int)) (.int .i64 (2 * (m : Int)))).run Tryd.prog W = .ok (.slice (some ⟨W.heap.size, 0, none⟩) m (2 * m)) (W.alloc (.cells (madeCells #[.int .u32 0] (2 * m)) 84)) := by
    have := make1 (P := Tryd.prog) 77 84 (.int .u32 0) 4 Tryd.underlying77 infoU32d rfl m (2 * m) (by omega) (by omega) (by omega)
    intro W
    have h := this W
    push_cast at h
    exact h
  have HBD : Aside0 (∀ q, Below w.heap.size w (w.drewN q)) := ⟨fun q => drewN_below w q⟩
  rw [hm]
  clear hC hX hk hs hM hm
  go_enter_defers Tryd.func42, Tryd.ntmps42
  go_wp2_with (first
    | (go_at_call 74; go_loud (with_reducible refine (getBuf_calls _).mono ?_); rintro e w1 ⟨p, a, rfl, hn, hb⟩; have HN1 := Aside0.mk hn; have HB1 := Aside0.mk ((HBD.out _).trans hb); have HSZ1 := Aside0.mk hb.size; clear hn hb)
    | (go_at_call 76; go_loud (with_reducible refine (bufDecode_calls p (some ⟨a, 0, none⟩) 1024 A N c (lenL ls) X (joinL ls) B P S bs _ HN1.out.cell (Kd.C_below HC.out HB1.out) HX.out hc hN (by rw [HLL.out]; exact hk9)).mono ?_); rintro e w2 ⟨A2, c2, A3, c3, rfl, hblk, hkc, hv, hrc, hr, hg⟩; rw [HLL.out] at hblk hkc hv; rw [HJL.out] at hrc hr; rw [HJL.out]; have HP2 := Aside0.mk hblk; have HV2 := Aside0.mk hv; have HR2 := Aside0.mk hr; have HB2 := Aside0.mk (belowGrown HB1.out hg HN1.out.bp); have xp2 := hblk.cell (j := 0) (v := .slice A3 k c3) rfl; have xl2 := hblk.lt; obtain ⟨cutM, hCM⟩ := cutHi (P := Tryd.prog) 29 5 Tryd.underlying29 h8.1 A2 M c2 .u32 (M : Int) M rfl (Nat.le_refl _) hrc; have HBW3 : Aside0 (Below w.heap.size w (w2.alloc (.cells (madeCells #[.int .u32 0] (2 * m)) 84))) := (Aside0.mk (HB2.out.alloc HB2.out.size _)); have HP3 : Aside0 (Blk (w2.alloc (.cells (madeCells #[.int .u32 0] (2 * m)) 84)) p #[.slice A3 k c3] 119) := (Aside0.mk (HP2.out.alloc _)); have xp3 := HP3.out.cell (j := 0) (v := .slice A3 k c3) rfl; have HF3 : Aside0 (Front (w2.alloc (.cells (madeCells #[.int .u32 0] (2 * m)) 84)) w2.heap.size (2 * m) 84 .u32 (List.replicate m 0)) := (Aside0.mk (by have h := Front.ofRow (madeRow w2 84 .u32 (2 * m)) m (by rw [List.length_replicate]; omega); rw [List.length_replicate, List.take_replicate, Nat.min_eq_left (by omega)] at h; exact h)); have HK3 : Aside0 (∀ W, (w2.alloc (.cells (madeCells #[.int .u32 0] (2 * m)) 84)).grownBy W (some w2.heap.size) → Below w2.heap.size w2 W) := (Aside0.mk (fun W h => ⟨h.os, h.tape, h.output, by have := h.size; simp at this; omega, fun q hq => by rw [h.block q (by simp; omega) (by intro e; injection e with e; omega)]; exact ((Below.refl w2.heap.size w2).alloc (Nat.le_refl _) _).block q hq⟩)); have HV3 : Aside0 (ReadKeep (w2.alloc (.cells (madeCells #[.int .u32 0] (2 * m)) 84)) w2.heap.size .i32 A3 k (lenL ls)) := (Aside0.mk (fun W h => Kd.C_below HV2.out (HK3.out W h))); clear hblk hv hr hg hCM)
    | (go_at_call 78; go_loud (with_reducible refine (decLens_calls w2.heap.size (2 * m) m A3 k c3 ls _ HF3.out HMK.out (by omega) (by omega) HV3.out hkc HKL.out hk9 HS.out).mono ?_); rintro e w3 ⟨rfl, hF, hg⟩; rw [HMQ.out]; have HF4 := Aside0.mk hF; have HB23 := Aside0.mk (HK3.out _ hg); have HB4 := Aside0.mk (HB2.out.trans (HB23.out.mono HB2.out.size)); have HO4 : Aside0 (Own w3 w.heap.size 84 .u32 (.slice (some ⟨w2.heap.size, 0, none⟩) m (2 * m)) (offsL ls m)) := (Aside0.mk (by have h := hF.toOwn (base := w.heap.size) HB2.out.size (by omega); rw [offsL_length] at h; exact h)); clear hF hg)
    | (at_builtin; go_loud (refine appendRead (w0 := w3) w3.heap.size rfl (.tmp 84) (.tmp 87) 29 5 .u8 1 rfl Tryd.underlying29 infoU8 (by decide) _ [] A2 M c2 (joinL ls) rfl rfl (Own.nil _ _ _ _) (Below.refl _ _) (Nat.le_refl _) (Kd.C_below HR2.out HB23.out) ?hl ?_); (case hl => simp; omega); intro v5 w5 ho hb hg; rw [List.nil_append] at ho; have HO5 := Aside0.mk ho; have HB5 := Aside0.mk hb; clear ho hb hg)
    | go_quiet (fail))
  refine leaves_cons (f := 75) (args := #[.pointer (some ⟨p, 0, none⟩)]) (by simp) (by simp [go_sem]) ?_
  refine (putBuf_d _ _ _).mono ?_
  rintro e u' w'' ⟨rfl, rfl, rfl⟩
  exact ⟨_, results_tmp3 rfl _ _ _, v5, _, rfl, Own.lower HO5.out HB4.out.size, HO4.out.below HB5.out, HB4.out.trans (HB5.out.mono HB4.out.size)⟩
theorem leDecodeS_calls (p0 : Option Addr) (A : Option Addr) (N c k : Nat) (X : List Int) (ls : List (List Int)) (B P S : Nat) (w : World) (hC : (Kd.int .u8).C w A N X) (hX : LenStr ls X B P S) (hc : N ≤ c) (hN : N ≤ 268435455) (hk : ls.length = k) (hk9 : k ≤ 100000) (hs : sumLen ls ≤ 100000) :
    Calls Tryd.prog 42 #[.pointer p0, .slice none 0 0, .slice A N c, .slice none 0 0] w fun e w' => ∃ v u, e = .returned (.tuple #[v, u, .nilIface]) ∧ Own w' w.heap.size 5 .u8 v (joinL ls) ∧ Own w' w.heap.size 84 .u32 u (offsL ls (k + 1)) ∧ Below w.heap.size w w' := by
  obtain ⟨bs, hX⟩ := hX
  exact leDecode_calls p0 A N c k X ls B P S bs w hC hX hc hN hk hk9 hs
end Go.Proofs.YtigmcdpjlkgocaaDoor.Dld
