import Derived.Test.YtkefklemcoehmaaDoorTxt
/-! The law of plain texts. -/
namespace Go.Proofs.YtkefklemcoehmaaDoor.Ltx
open Go.Proofs.YtkefklemcoehmaaDoor.Txt Go.Proofs.YtkefklemcoehmaaDoor.Imd Go.Proofs.YtkefklemcoehmaaDoor.Pln Go.Proofs.YtkefklemcoehmaaDoor.Wrd Go.Proofs.YtkefklemcoehmaaDoor.Spl Go.Proofs.YtkefklemcoehmaaDoor.Str Go.Proofs.YtkefklemcoehmaaDoor.Flt Go.Proofs.YtkefklemcoehmaaDoor.Owe Go.Proofs.YtkefklemcoehmaaDoor.Num Go.Proofs.YtkefklemcoehmaaDoor.Le Go.Proofs.YtkefklemcoehmaaDoor.Lst Go.Proofs.YtkefklemcoehmaaDoor.Aid Go.RowKit Go.Proofs.YtkefklemcoehmaaDoorW.PrintWords Go.Proofs.YtkefklemcoehmaaDoorW.PrintLast Go.Proofs.YtkefklemcoehmaaDoorW.PrintMore
set_option linter.unusedVariables false
set_option linter.unusedSimpArgs false
theorem low_any (kx : Int) (k : Nat) (hkx : kx = k) (x : Int) (hk : k ≤ 8) (hx : u64B x) (w : World) :
    Calls Tryd.prog 21 #[.int .i64 kx, .int .u64 x] w fun e w' => ∃ v, e = .returned v ∧ Own w' w.heap.size 5 .u8 v (lowL k x) ∧ Below w.heap.size w w' := by
  subst hkx; exact low_calls k x hk hx w
theorem texts_wfB {ls : List (List Int)} (h : ∀ l ∈ ls, ∀ x ∈ l, (Lit.int .u8 x).wf = true) : ∀ l ∈ ls, bytesB l = true := fun l hl => bytesB_of fun x hx => byt_of_wf (h l hl x hx)
theorem fits2_true {ls : List (List Int)} (h : fits2 ls = true) : ls.length ≤ 2147483647 ∧ ∀ j, j < ls.length → (ls.getD j []).length ≤ 2147483647 := by
  have := of_decide_eq_true h
  exact ⟨this.1, fun j hj => this.2 _ (getD_mem hj)⟩
set_option maxHeartbeats 8000000 in
theorem plainTextsLaw (a0 : Option Addr) (len0 cap0 : Nat) (ls : List (List Int)) (W : World) (w0 : IsTexts 5 W a0 len0 cap0 ls) :
    Calls Tryd.prog 6 #[.slice a0 len0 cap0] W fun e w' => e = .returned (.bool true) ∧ Below W.heap.size W w' := by
  have HC := Aside0.mk w0.C
  have hc := w0.le
  have HLN : Aside0 (ls.length = len0) := ⟨w0.C.1⟩
  have HBY := Aside0.mk (texts_wfB w0.wf)
  have HZ := Aside0.mk (zzFits2_calls 5 a0 len0 cap0 ls W w0.C w0.le)
  clear w0
  by_cases hf : ¬ fits2 ls = true
  · have hf' : fits2 ls = false := by cases h : fits2 ls with | true => exact absurd h hf | false => rfl
    rw [hf'] at HZ
    go_enter Tryd.func6, Tryd.ntmps6
    go_wp2_with (first
      | (go_at_call 20; (with_reducible refine HZ.out.mono ?_); rintro e w1 ⟨rfl, rfl⟩))
    go_ret
    exact ⟨rfl, Below.refl _ _⟩
  have hf := Decidable.not_not.1 hf
  rw [hf] at HZ
  have hfl := fits2_true hf
  rw [HLN.out] at hfl
  obtain ⟨hl1, hl2⟩ := hfl
  have HSH := Aside0.mk (short_calls 5 a0 len0 cap0 ls W HC.out hc hl1 hl2)
  clear hf hl2
  by_cases hs : ¬ len0 + sumLen ls ≤ 100000
  · have hsb : shortB ls = false := by unfold shortB; rw [HLN.out]; exact decide_eq_false hs
    rw [hsb] at HSH
    clear hsb hs
    go_enter Tryd.func6, Tryd.ntmps6
    go_wp2_with (first
      | (go_at_call 20; (with_reducible refine HZ.out.mono ?_); rintro e w1 ⟨rfl, rfl⟩)
      | (go_at_call 8; (with_reducible refine HSH.out.mono ?_); rintro e w1 ⟨rfl, rfl⟩))
    go_ret
    exact ⟨rfl, Below.refl _ _⟩
  have hs := Decidable.not_not.1 hs
  have hsb : shortB ls = true := by unfold shortB; rw [HLN.out]; exact decide_eq_true hs
  rw [hsb] at HSH
  have HS := Aside0.mk hs
  have hn9 : len0 ≤ 100000 := by omega
  have HLE := Aside0.mk (textsB_le ls)
  have HMN := Aside0.mk (textsB_mono ls)
  have hTL : (textsB ls).length ≤ 500000 := by rw [textsB_length, HLN.out]; omega
  obtain ⟨N, hN⟩ : ∃ N, (textsB ls).length = N := ⟨_, rfl⟩
  rw [hN] at hTL HLE
  have HN := Aside0.mk hN
  clear hsb hs hN
  go_enter Tryd.func6, Tryd.ntmps6
  go_wp2_with (first
    | (go_at_call 20; (with_reducible refine HZ.out.mono ?_); rintro e w1 ⟨rfl, rfl⟩)
    | (go_at_call 8; (with_reducible refine HSH.out.mono ?_); rintro e w1 ⟨rfl, rfl⟩))
  go_loopg [3, 5, 18] len0 (fun kq v3 v5 v18 w' => ∃ (j : Nat), j ≤ len0 ∧ v18 = .int .i64 j ∧ Aside0 (Own w' W.heap.size 5 .u8 v3 (textsB (ls.take j))) ∧ Aside0 (Below W.heap.size W w') ∧ Aside0 (len0 - j ≤ kq))
  case atStart => exact ⟨0, by omega, rfl, ⟨Own.nil _ _ _ _⟩, ⟨Below.refl _ _⟩, ⟨by omega⟩⟩
  case round =>
    obtain ⟨j, hj, rfl, HO, HB, HK⟩ := hrel
    by_cases cj : j < len0
    · have cjb : decide ((j : Int) < len0) = true := decide_eq_true (by omega)
      have cjn : decide (j < len0) = true := decide_eq_true (by omega)
      obtain ⟨ad, A', c', ead, hcell, hle, hCl⟩ := at_list HC.out j cj
      have h1 := HMN.out j (by rw [HLN.out]; exact cj)
      have h2 := HLE.out (j + 1)
      have HT := Aside0.mk (textsB_take ls j (by rw [HLN.out]; exact cj))
      obtain ⟨l, hl⟩ : ∃ l, ls.getD j [] = l := ⟨_, rfl⟩
      rw [hl] at hcell hle hCl HT h1
      obtain ⟨m, hm⟩ : ∃ m, l.length = m := ⟨_, rfl⟩
      rw [hm] at hcell hle hCl HT h1
      have hx : (textsB (ls.take j)).length + 4 + m ≤ 500000 := by omega
      have hcell2 := pw_cell_below HB.out hcell
      have HCL := Aside0.mk hCl
      have hm9 : m ≤ 500000 := by omega
      have qw : IntKind.u64.wrap (m : Int) = (m : Int) := IntWalk.u64_in _ (by omega)
      clear hl hm hCl h1 h2 hcell
      subst ead
      go_wp2_with (first
        | (go_at_call 21; (with_reducible refine (low_any 4 4 rfl (m : Int) (by omega) (by unfold u64B; omega) wr).mono ?_); rintro e w2 ⟨v2, rfl, ho, hb⟩; obtain ⟨A2, c2, rfl, hc2, hr2⟩ := ho.read; rw [lowL_length] at hc2 hr2; rw [lowL_length]; have HR2 := Aside0.mk hr2; have HB2 := Aside0.mk (HB.out.trans (hb.mono HB.out.size)); have HO2 := Aside0.mk (HO.out.below hb); clear ho hb hr2)
        | (at_builtin; refine appendRead (w0 := W) W.heap.size rfl (.tmp 22) (.tmp 26) 22 5 .u8 1 rfl Tryd.underlying22 infoU8 (by decide) u3 (textsB (ls.take j)) A2 4 c2 (lowL 4 m) rfl rfl HO2.out HB2.out HB2.out.size HR2.out ?hl ?_; (case hl => omega); intro v3 w3 ho hb hg; have HO3 := Aside0.mk ho; have HB3 := Aside0.mk hb; clear ho hb hg)
        | (at_builtin; refine appendRead (w0 := W) W.heap.size rfl (.tmp 27) (.tmp 28) 22 5 .u8 1 rfl Tryd.underlying22 infoU8 (by decide) v3 (textsB (ls.take j) ++ lowL 4 m) A' m c' l rfl rfl HO3.out HB3.out HB3.out.size (Kd.C_below HCL.out HB3.out) ?hl ?_; (case hl => rw [List.length_append, lowL_length]; omega); intro v4 w4 ho hb hg; rw [List.append_assoc] at ho; have HO4 := Aside0.mk ho; have HB4 := Aside0.mk hb; clear ho hb hg))
      go_roundg (gk - 1)
      case measure => have := HK.out; omega
      case rel => exact ⟨j + 1, by omega, by go_num, ⟨by rw [HT.out]; exact HO4.out⟩, HB4, ⟨by have := HK.out; omega⟩⟩
    · obtain rfl : j = len0 := by omega
      have cjb : decide ((j : Int) < j) = false := decide_eq_false (by omega)
      have HTA : Aside0 (ls.take j = ls) := ⟨by rw [← HLN.out, List.take_length]⟩
      rw [HTA.out] at HO
      obtain ⟨A1, c1, rfl, hc1, hr1⟩ := HO.out.read
      rw [HN.out] at hc1 hr1
      have HR1 := Aside0.mk hr1
      rw [HN.out]
      clear hr1 hj
      go_wp2_with (first
        | (go_at_call 22; (with_reducible refine (encodeTextsPlain_calls 5 a0 j cap0 ls wr (Kd.C_below HC.out HB.out) hc HS.out).mono ?_); rintro e w2 ⟨v2, rfl, ho, hb⟩; obtain ⟨A2, c2, rfl, hc2, hr2⟩ := ho.read; rw [HN.out] at hc2 hr2; rw [HN.out]; have HR2 := Aside0.mk hr2; have HR12 := Aside0.mk (Kd.C_below HR1.out hb); have HB2 := Aside0.mk (HB.out.trans (hb.mono HB.out.size)); clear ho hb hr2)
        | (go_at_call 23; (with_reducible refine (decodeTextsPlain_calls A1 N c1 j ls w2 HR12.out hc1 HLN.out HS.out HBY.out).mono ?_); rintro e w3 ⟨v3, rfl, ho, hb⟩; obtain ⟨A3, c3, rfl, hc3, hr3⟩ := Kd.R_reads ho; rw [HLN.out] at hc3 hr3; rw [HLN.out]; have HR3 := Aside0.mk hr3; have HR13 := Aside0.mk (Kd.C_below HR12.out hb); have HR23 := Aside0.mk (Kd.C_below HR2.out hb); have HB3 := Aside0.mk (HB2.out.trans (hb.mono HB2.out.size)); clear ho hb hr3)
        | (go_at_call 11; (with_reducible refine (enBytes_calls A2 A1 N c2 c1 (textsB ls) w3 HR23.out HR13.out).mono ?_); rintro e w4 ⟨rfl, ⟨nd, rfl⟩⟩; have HB4 := Aside0.mk (HB3.out.trans ((drewN_below w3 nd).mono HB3.out.size)))
        | (go_at_call 24; (with_reducible refine (sameTexts_calls 5 5 A3 a0 j c3 cap0 ls _ (Kd.C_drewN HR3.out _) (Kd.C_below HC.out HB4.out) (by omega)).mono ?_); rintro e w5 ⟨rfl, ⟨nd2, rfl⟩⟩; have HB5 := Aside0.mk (HB4.out.trans ((drewN_below _ nd2).mono HB4.out.size)); rw [World.drewN_drewN] at HB5))
      go_ret
      exact ⟨rfl, HB5.out⟩
end Go.Proofs.YtkefklemcoehmaaDoor.Ltx
