import Derived.Test.YtkefklemcoehmaaGreatDoorCut
import Derived.LaidLaws
import Derived.LaidMore
import Derived.Stop.Joined
/-! The law of what breaks off. -/
namespace Go.Proofs.YtkefklemcoehmaaGreatDoor.Lcu
open Go.Proofs.YtkefklemcoehmaaGreatDoor.Cut Go.Proofs.YtkefklemcoehmaaGreatDoor.Txt Go.Proofs.YtkefklemcoehmaaGreatDoor.Imd Go.Proofs.YtkefklemcoehmaaGreatDoor.Pln Go.Proofs.YtkefklemcoehmaaGreatDoor.Wrd Go.Proofs.YtkefklemcoehmaaGreatDoor.Spl Go.Proofs.YtkefklemcoehmaaGreatDoor.Str Go.Proofs.YtkefklemcoehmaaGreatDoor.Flt Go.Proofs.YtkefklemcoehmaaGreatDoor.Owe Go.Proofs.YtkefklemcoehmaaGreatDoor.Num Go.Proofs.YtkefklemcoehmaaGreatDoor.Le Go.Proofs.YtkefklemcoehmaaGreatDoor.Lst Go.Proofs.YtkefklemcoehmaaGreatDoor.Aid Go.RowKit Go.Proofs.YtkefklemcoehmaaGreatDoorW.PrintWords Go.Proofs.YtkefklemcoehmaaGreatDoorW.PrintLast Go.Proofs.YtkefklemcoehmaaGreatDoorW.PrintMore
set_option linter.unusedVariables false
set_option linter.unusedSimpArgs false
theorem fits2_true' {ls : List (List Int)} (h : fits2 ls = true) : ls.length ≤ 2147483647 ∧ ∀ j, j < ls.length → (ls.getD j []).length ≤ 2147483647 := by
  have := of_decide_eq_true h
  exact ⟨this.1, fun j hj => this.2 _ (getD_mem hj)⟩
theorem gEof : Tryz.prog.globalNamed "io.ErrUnexpectedEOF" = some 0 := by kernel_rfl
theorem tEof : (Tryz.prog.globals[0]?).map (·.type) = some 40 := by kernel_rfl
theorem eof_of_laid {W : World} (h : laidMetH Tryz.prog [("io.ErrUnexpectedEOF", .iface "*errors.errorString" (.ptr (.agg [.lit (.string [117, 110, 101, 120, 112, 101, 99, 116, 101, 100, 32, 69, 79, 70])])))] W) : ∃ u v, W.cell? ⟨0, 0, none⟩ = some (.iface u v) := by
  rw [MakeChecks.laidMetH_plain _ _ _ (by kernel_rfl)] at h
  obtain ⟨ps, ⟨g0, t0, cs0, f0, p0, q0, hg0, ht0, hv0, hd0, _⟩, _⟩ := h
  obtain rfl := Option.some.inj (gEof.symm.trans hg0)
  obtain rfl := Option.some.inj (tEof.symm.trans ht0)
  obtain ⟨l0⟩ := cs0
  obtain ⟨f1, u, v, rfl, _, _⟩ := iface_of_trod Tryz.underlying40 hd0
  exact ⟨u, v, by simpa using World.var?_cell gEof hv0 0⟩
theorem mask_any (a : Int) (M : Nat) (hM : M < 4611686018427387904) : ∃ r : Nat, Go.bits .and .i64 a (M : Int) = (r : Int) ∧ r ≤ M := by
  have h : Go.bits .and .i64 a (M : Int) = IntKind.i64.wrap (((BitVec.ofInt 64 a &&& BitVec.ofInt 64 (M : Int)).toNat : Nat) : Int) := rfl
  have h2 : (BitVec.ofInt 64 a &&& BitVec.ofInt 64 (M : Int)).toNat ≤ M := by
    rw [BitVec.toNat_and]
    refine Nat.le_trans Nat.and_le_right ?_
    rw [BitVec.toNat_ofInt]
    omega
  refine ⟨(BitVec.ofInt 64 a &&& BitVec.ofInt 64 (M : Int)).toNat, ?_, h2⟩
  rw [h, IntWalk.i64_in _ (by omega)]
theorem cut_take (ls : List (List Int)) (n k : Nat) (hn : ls.length = n + 1) (hk : k ≤ 4) :
    (textsB ls).take ((textsB ls).length - (ls.getD n []).length - k) = textsB (ls.take n) ++ (lowL 4 (ls.getD n []).length).take (4 - k) := by
  have h := textsB_take ls n (by omega)
  rw [show n + 1 = ls.length by omega, List.take_length] at h
  have hl := congrArg List.length h
  rw [List.length_append, List.length_append, lowL_length] at hl
  rw [show (textsB ls).length - (ls.getD n []).length - k = (textsB (ls.take n)).length + (4 - k) by omega]
  conv => lhs; rw [h]
  rw [List.take_length_add_append, List.take_append_of_le_length (by rw [lowL_length]; omega)]
set_option maxHeartbeats 8000000 in
theorem plainCutLaw0 (a0 : Option Addr) (n cap0 : Nat) (ls : List (List Int)) (x1 x2 : Int) (W : World) (u0 : TypeId) (e0 : Value) (hE : W.cell? ⟨0, 0, none⟩ = some (.iface u0 e0)) (hC0 : (Kd.slice 5 (Kd.int .u8)).C W a0 (n + 1) ls) (hc : n + 1 ≤ cap0) (hby : ∀ l ∈ ls, bytesB l = true)
    (hz : fits2 ls = true) (hs : n + 1 + sumLen ls ≤ 100000) :
    Calls Tryz.prog 3 #[.slice a0 (n + 1) cap0, .int .i64 x1, .int .i64 x2] W fun e w' => e = .returned (.bool true) ∧ Below W.heap.size W w' := by
  have HC := Aside0.mk hC0
  have hln : ls.length = n + 1 := hC0.1
  have HLN := Aside0.mk hln
  have HZ := Aside0.mk (zzFits2_calls 5 a0 (n + 1) cap0 ls W hC0 hc)
  rw [hz] at HZ
  have hfl := fits2_true' hz
  rw [hln] at hfl
  have HSH := Aside0.mk (short_calls 5 a0 (n + 1) cap0 ls W hC0 hc hfl.1 hfl.2)
  have hsb : shortB ls = true := by unfold shortB; rw [hln]; exact decide_eq_true hs
  rw [hsb] at HSH
  have HS := Aside0.mk hs
  have hn9 : n ≤ 100000 := by omega
  obtain ⟨r, hr, hr9⟩ := mask_any x2 16777215 (by decide)
  obtain ⟨x, hx, hx9⟩ := mask_any x1 4095 (by decide)
  have e1 : ((16777215 : Nat) : Int) = 16777215 := rfl
  have e2 : ((4095 : Nat) : Int) = 4095 := rfl
  rw [e1] at hr
  rw [e2] at hx
  obtain ⟨k, hk⟩ : ∃ k, 1 + r % 3 = k := ⟨_, rfl⟩
  have hk0 : 1 ≤ k := by omega
  have hk3 : k ≤ 3 := by omega
  have hki : 1 + (r : Int) % 3 = (k : Int) := by omega
  have hrt : (r : Int).tmod 3 = (r : Int) % 3 := Int.tmod_eq_emod_of_nonneg (by omega)
  have hcutL := cut_take ls n k hln (by omega)
  have hTL := textsB_length ls
  have hlast := sumLen_take ls n (by omega)
  rw [show n + 1 = ls.length by omega, List.take_length] at hlast
  obtain ⟨N, hN⟩ : ∃ N, (textsB ls).length = N := ⟨_, rfl⟩
  obtain ⟨m, hm⟩ : ∃ m, (ls.getD n []).length = m := ⟨_, rfl⟩
  rw [hN, hln] at hTL
  rw [hm] at hlast
  rw [hN, hm] at hcutL
  have hN4 : m + 4 ≤ N := by omega
  have hN9 : N ≤ 500000 := by omega
  obtain ⟨q, hq⟩ : ∃ q, N - m - k = q := ⟨_, rfl⟩
  rw [hq] at hcutL
  have hqi : (N : Int) - m - k = (q : Int) := by omega
  have hqN : q ≤ N := by omega
  have HCUT := Aside0.mk hcutL
  have HN := Aside0.mk hN
  have HHE := Aside0.mk hE
  have HEL := Aside0.mk (World.block_lt_of_cell? W _ hE)
  have HINIT : Aside0 ((ls.take n).length = n) := ⟨by rw [List.length_take]; omega⟩
  have HSI : Aside0 (n + sumLen (ls.take n) ≤ 100000) := ⟨by have := sumLen_le ls n; omega⟩
  have HBI : Aside0 (∀ l ∈ ls.take n, bytesB l = true) := ⟨fun l hl => hby l (List.mem_of_mem_take hl)⟩
  have HTB : Aside0 (bytesB ((lowL 4 (m : Int)).take (4 - k)) = true) := ⟨bytesB_of fun y hy => by
    have := List.mem_of_mem_take hy
    simp only [lowL, List.mem_map] at this
    obtain ⟨_, _, rfl⟩ := this
    exact ⟨Int.emod_nonneg _ (by decide), Int.emod_lt_of_pos _ (by decide)⟩⟩
  have HTL : Aside0 (((lowL 4 (m : Int)).take (4 - k)).length = 4 - k) := ⟨by rw [List.length_take, lowL_length]; omega⟩
  obtain ⟨ad, A', c', ead, hcell, hle, _⟩ := at_list hC0 n (by omega)
  rw [hm] at hcell hle
  obtain ⟨i8, h8⟩ := h8
  obtain ⟨M1, hM1⟩ : ∃ M1, 4 * x + k = M1 := ⟨_, rfl⟩
  obtain ⟨M2, hM2⟩ : ∃ M2, 8 * x + k = M2 := ⟨_, rfl⟩
  have hM1i : 4 * (x : Int) + (k : Int) = (M1 : Int) := by omega
  have hM2i : 8 * (x : Int) + (k : Int) = (M2 : Int) := by omega
  have hM1r : M1 % 4 ≠ 0 := by omega
  have hM2r : M2 % 8 ≠ 0 := by omega
  have hM1n : M1 ≤ 40000 := by omega
  have hM2n : M2 ≤ 40000 := by omega
  have hmk1 := print_make (P := Tryz.prog) 25 5 .u8 1 Tryz.underlying25 infoU8 (by decide) M1 (by omega)
  have hmk2 := print_make (P := Tryz.prog) 25 5 .u8 1 Tryz.underlying25 infoU8 (by decide) M2 (by omega)
  have c4 : decide ((N : Int) < 4) = false := decide_eq_false (by omega)
  have cne : ((n : Int) + 1 == 0) = false := by simpa using (show (n : Int) + 1 ≠ 0 by omega)
  have cne2 : (((n + 1 : Nat) : Int) == 0) = false := by simpa using (show (n : Int) + 1 ≠ 0 by omega)
  have HM1 := Aside0.mk hM1r
  have HM2 := Aside0.mk hM2r
  clear hC0 hln hz hfl hsb hs hby hE hk hcutL hTL hlast hN hm hq hM1 hM2 hM1r hM2r e1 e2
  subst ead
  go_enter Tryz.func3, Tryz.ntmps3
  go_wp2_with (first
    | (go_at_call 4; (with_reducible refine HZ.out.mono ?_); rintro e w1 ⟨rfl, rfl⟩)
    | (go_at_call 5; (with_reducible refine HSH.out.mono ?_); rintro e w1 ⟨rfl, rfl⟩)
    | (go_at_call 6; (with_reducible refine (encodeTextsPlain_calls 5 (some ad) (n + 1) cap0 ls W HC.out hc HS.out).mono ?_); rintro e w2 ⟨v2, rfl, ho, hb⟩; obtain ⟨A2, c2, rfl, hc2, hr2⟩ := ho.read; rw [HN.out] at hc2 hr2; rw [HN.out]; obtain ⟨cut2, hC2⟩ := cutHi (P := Tryz.prog) 25 5 Tryz.underlying25 h8.1 A2 N c2 .i64 (q : Int) q rfl hqN hc2; have HR2 : Aside0 ((Kd.int .u8).C w2 A2 q (textsB (ls.take n) ++ (lowL 4 (m : Int)).take (4 - k))) := (Aside0.mk (by have := hC2 (Kd.int .u8) w2 _ hr2; rw [HCUT.out] at this; exact this)); have hcell2 := pw_cell_below hb hcell; have HB2 := Aside0.mk hb; have hqc : q ≤ c2 := Nat.le_trans hqN hc2; clear ho hb hr2 hC2)
    | (go_at_call 7; (with_reducible refine (decodeTextsCut_calls A2 q c2 n (ls.take n) _ u0 e0 w2 ((HB2.out.cell (p := ⟨0, 0, none⟩) HEL.out).trans HHE.out) (by rw [HTL.out]; omega) (by rw [HTL.out]; omega) HTB.out HR2.out hqc HINIT.out HSI.out HBI.out).mono ?_); rintro e w3 ⟨v3, rfl, hb⟩; have HB3 := Aside0.mk (HB2.out.trans (hb.mono HB2.out.size)); have HR3 : Aside0 ((Kd.int .u8).C (w3.alloc (.cells (madeCells #[.int .u8 0] M1) 5)) (some ⟨w3.heap.size, 0, none⟩) M1 (List.replicate M1 0)) := (Aside0.mk (rowC (madeRow w3 5 .u8 M1) (by simp) (by omega))); have HBA3 : Aside0 (Below W.heap.size W (w3.alloc (.cells (madeCells #[.int .u8 0] M1) 5))) := (Aside0.mk (HB3.out.alloc HB3.out.size _)); clear hb)
    | (go_at_call 8; (with_reducible refine (decodeInt32sBad_calls (some ⟨w3.heap.size, 0, none⟩) M1 M1 _ _ HR3.out (Nat.le_refl _) HM1.out (by omega)).mono ?_); rintro e w4 ⟨v4, rfl, hb⟩; have HB4 := Aside0.mk (HBA3.out.trans (hb.mono HBA3.out.size)); have HR4 : Aside0 ((Kd.int .u8).C (w4.alloc (.cells (madeCells #[.int .u8 0] M2) 5)) (some ⟨w4.heap.size, 0, none⟩) M2 (List.replicate M2 0)) := (Aside0.mk (rowC (madeRow w4 5 .u8 M2) (by simp) (by omega))); have HBA4 : Aside0 (Below W.heap.size W (w4.alloc (.cells (madeCells #[.int .u8 0] M2) 5))) := (Aside0.mk (HB4.out.alloc HB4.out.size _)); clear hb)
    | (go_at_call 9; (with_reducible refine (decodeInt64sBad_calls (some ⟨w4.heap.size, 0, none⟩) M2 M2 _ _ HR4.out (Nat.le_refl _) HM2.out (by omega)).mono ?_); rintro e w5 ⟨v5, rfl, hb⟩; have HB5 := Aside0.mk (HBA4.out.trans (hb.mono HBA4.out.size)); clear hb))
  go_ret
  exact ⟨rfl, HB5.out⟩
set_option maxHeartbeats 8000000 in
theorem plainCutLaw (a0 : Option Addr) (len0 cap0 : Nat) (ls : List (List Int)) (x1 x2 : Int) (W : World) (w0 : IsTexts 5 W a0 len0 cap0 ls) (w1 : (Lit.int .i64 x1).wf = true) (w2 : (Lit.int .i64 x2).wf = true)
    (hL : laidMetH Tryz.prog [("io.ErrUnexpectedEOF", .iface "*errors.errorString" (.ptr (.agg [.lit (.string [117, 110, 101, 120, 112, 101, 99, 116, 101, 100, 32, 69, 79, 70])])))] W) :
    Calls Tryz.prog 3 #[.slice a0 len0 cap0, .int .i64 x1, .int .i64 x2] W fun e w' => e = .returned (.bool true) ∧ Below W.heap.size W w' := by
  obtain ⟨u0, e0, hE⟩ := eof_of_laid hL
  have HC := Aside0.mk w0.C
  have hc := w0.le
  have HLN : Aside0 (ls.length = len0) := ⟨w0.C.1⟩
  have HBY : Aside0 (∀ l ∈ ls, bytesB l = true) := ⟨fun l hl => bytesB_of fun x hx => byt_of_wf (w0.wf l hl x hx)⟩
  have HZ := Aside0.mk (zzFits2_calls 5 a0 len0 cap0 ls W w0.C w0.le)
  have HHE := Aside0.mk hE
  clear w0 w1 w2 hL hE
  by_cases hf : ¬ fits2 ls = true
  · have hf' : fits2 ls = false := by cases h : fits2 ls with | true => exact absurd h hf | false => rfl
    rw [hf'] at HZ
    go_enter Tryz.func3, Tryz.ntmps3
    go_wp2_with (first
      | (go_at_call 4; (with_reducible refine HZ.out.mono ?_); rintro e w1 ⟨rfl, rfl⟩))
    go_ret
    exact ⟨rfl, Below.refl _ _⟩
  have hf := Decidable.not_not.1 hf
  rw [hf] at HZ
  have hfl := fits2_true' hf
  rw [HLN.out] at hfl
  obtain ⟨hl1, hl2⟩ := hfl
  have HSH := Aside0.mk (short_calls 5 a0 len0 cap0 ls W HC.out hc hl1 hl2)
  have HF := Aside0.mk hf
  clear hf hl2
  by_cases hs : ¬ len0 + sumLen ls ≤ 100000
  · have hsb : shortB ls = false := by unfold shortB; rw [HLN.out]; exact decide_eq_false hs
    rw [hsb] at HSH
    clear hsb hs
    go_enter Tryz.func3, Tryz.ntmps3
    go_wp2_with (first
      | (go_at_call 4; (with_reducible refine HZ.out.mono ?_); rintro e w1 ⟨rfl, rfl⟩)
      | (go_at_call 5; (with_reducible refine HSH.out.mono ?_); rintro e w1 ⟨rfl, rfl⟩))
    go_ret
    exact ⟨rfl, Below.refl _ _⟩
  have hs := Decidable.not_not.1 hs
  by_cases h0 : len0 = 0
  · subst h0
    have hsb : shortB ls = true := by unfold shortB; rw [HLN.out]; exact decide_eq_true hs
    rw [hsb] at HSH
    clear hsb hs
    go_enter Tryz.func3, Tryz.ntmps3
    go_wp2_with (first
      | (go_at_call 4; (with_reducible refine HZ.out.mono ?_); rintro e w1 ⟨rfl, rfl⟩)
      | (go_at_call 5; (with_reducible refine HSH.out.mono ?_); rintro e w1 ⟨rfl, rfl⟩))
    go_ret
    exact ⟨rfl, Below.refl _ _⟩
  · obtain ⟨n, rfl⟩ : ∃ n, len0 = n + 1 := ⟨len0 - 1, by omega⟩
    exact plainCutLaw0 a0 n cap0 ls x1 x2 W u0 e0 HHE.out HC.out hc HBY.out HF.out hs
end Go.Proofs.YtkefklemcoehmaaGreatDoor.Lcu
