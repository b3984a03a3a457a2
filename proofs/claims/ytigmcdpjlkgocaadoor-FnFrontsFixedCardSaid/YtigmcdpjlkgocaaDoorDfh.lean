import Derived.Test.YtigmcdpjlkgocaaDoorDff
import Derived.Test.YtigmcdpjlkgocaaDoorMdo
/-! Texts of one length: their parts, the thin package. -/
namespace Go.Proofs.YtigmcdpjlkgocaaDoor.Dfh
open Go.Proofs.YtigmcdpjlkgocaaDoor.Dff Go.Proofs.YtigmcdpjlkgocaaDoor.Dfg Go.Proofs.YtigmcdpjlkgocaaDoor.Dfs Go.Proofs.YtigmcdpjlkgocaaDoor.Dfe0 Go.Proofs.YtigmcdpjlkgocaaDoor.Dfl Go.Proofs.YtigmcdpjlkgocaaDoor.Dhd Go.Proofs.YtigmcdpjlkgocaaDoor.Dgr Go.Proofs.YtigmcdpjlkgocaaDoor.Dml Go.Proofs.YtigmcdpjlkgocaaDoor.Dby Go.Proofs.YtigmcdpjlkgocaaDoor.Dfp Go.Proofs.YtigmcdpjlkgocaaDoor.Dls Go.Proofs.YtigmcdpjlkgocaaDoor.Dlp Go.Proofs.YtigmcdpjlkgocaaDoor.Dre Go.Proofs.YtigmcdpjlkgocaaDoor.Dle Go.Proofs.YtigmcdpjlkgocaaDoor.Dib Go.Proofs.YtigmcdpjlkgocaaDoor.Dew Go.Proofs.YtigmcdpjlkgocaaDoor.Dtx Go.Proofs.YtigmcdpjlkgocaaDoor.Dct Go.Proofs.YtigmcdpjlkgocaaDoor.Dst Go.Proofs.YtigmcdpjlkgocaaDoor.Deo Go.Proofs.YtigmcdpjlkgocaaDoor.Den Go.Proofs.YtigmcdpjlkgocaaDoor.Deb Go.Proofs.YtigmcdpjlkgocaaDoor.Dds Go.Proofs.YtigmcdpjlkgocaaDoor.Dpu Go.Proofs.YtigmcdpjlkgocaaDoor.Pak Go.Proofs.YtigmcdpjlkgocaaDoor.Buf Go.Proofs.YtigmcdpjlkgocaaDoor.Fit Go.Proofs.YtigmcdpjlkgocaaDoor.Bit Go.Proofs.YtigmcdpjlkgocaaDoor.Wrd Go.Proofs.YtigmcdpjlkgocaaDoor.Spl Go.Proofs.YtigmcdpjlkgocaaDoor.Str Go.Proofs.YtigmcdpjlkgocaaDoor.Flt Go.Proofs.YtigmcdpjlkgocaaDoor.Owe Go.Proofs.YtigmcdpjlkgocaaDoor.Num Go.Proofs.YtigmcdpjlkgocaaDoor.Le Go.Proofs.YtigmcdpjlkgocaaDoor.Lst Go.Proofs.YtigmcdpjlkgocaaDoor.Aid Go.RowKit Go.Proofs.YtigmcdpjlkgocaaDoorW.PrintWords Go.Proofs.YtigmcdpjlkgocaaDoorW.PrintLast Go.Proofs.YtigmcdpjlkgocaaDoorW.PrintMore
set_option linter.unusedVariables false
set_option linter.unusedSimpArgs false
/-- the texts of one length of bytes -/
def partsL (s : Nat) (D : List Int) : List (List Int) := (List.range (D.length / s)).map fun j => (D.drop (s * j)).take s
theorem partsL_length (s k : Nat) (D : List Int) (hs : 0 < s) (h : D.length = s * k) : (partsL s D).length = k := by
  simp [partsL, h, Nat.mul_div_cancel_left _ hs]
theorem partsL_getD (s k : Nat) (D : List Int) (hs : 0 < s) (h : D.length = s * k) (j : Nat) (hj : j < k) : (partsL s D).getD j [] = (D.drop (s * j)).take s := by
  have : j < D.length / s := by rw [h, Nat.mul_div_cancel_left _ hs]; exact hj
  simp [partsL, List.getD_eq_getElem?_getD, this]
theorem partsL_even (s k : Nat) (D : List Int) (hs : 0 < s) (h : D.length = s * k) (j : Nat) (hj : j < k) : ((partsL s D).getD j []).length = s := by
  rw [partsL_getD s k D hs h j hj, List.length_take, List.length_drop, h]
  have : s * (j + 1) ≤ s * k := Nat.mul_le_mul_left s hj
  rw [Nat.mul_succ] at this
  omega
theorem joinL_parts (s k : Nat) (D : List Int) (hs : 0 < s) (h : D.length = s * k) : ∀ j : Nat, j ≤ k → joinL ((partsL s D).take j) = D.take (s * j)
  | 0, _ => by simp [joinL]
  | j + 1, hj => by
    rw [joinL_take _ j (by rw [partsL_length s k D hs h]; omega), joinL_parts s k D hs h j (by omega), partsL_getD s k D hs h j (by omega), Nat.mul_succ, List.take_add]
theorem joinL_parts_all (s k : Nat) (D : List Int) (hs : 0 < s) (h : D.length = s * k) : joinL (partsL s D) = D := by
  have h1 := joinL_parts s k D hs h k (Nat.le_refl _)
  have h2 := partsL_length s k D hs h
  rw [show (partsL s D).take k = partsL s D by rw [← h2, List.take_length], ← h, List.take_length] at h1
  exact h1
set_option maxHeartbeats 8000000 in
set_option maxRecDepth 100000 in
theorem dlParts_calls (s k : Nat) (A : Option Addr) (N c : Nat) (ls : List (List Int)) (w : World) (hC : (Kd.int .u8).C w A N (joinL ls)) (hc : N ≤ c) (hN : N ≤ 100000) (hs1 : 1 ≤ s) (hs9 : s ≤ 100) (hNk : N = s * k) (hk : ls.length = k) (hev : ∀ j : Nat, j < ls.length → (ls.getD j []).length = s) :
    Calls Tryd.prog 30 #[.int .i64 s, .slice A N c] w fun e w' => ∃ v, e = .returned v ∧ (∀ t', ∃ A c, v = .slice A k c ∧ k ≤ c ∧ (Kd.slice t' (Kd.int .u8)).C w' A k ls) ∧ Below w.heap.size w w' := by
  have hk9 : k ≤ 100000 := by
    have : 1 * k ≤ s * k := Nat.mul_le_mul_right k hs1
    omega
  have HC := Aside0.mk hC
  have HKL := Aside0.mk hk
  have hS9 : sumLen ls = N := by rw [← joinL_length]; exact hC.1
  have HS := Aside0.mk hS9
  have HSM : Aside0 (∀ j : Nat, sumLen (ls.take j) ≤ N) := ⟨fun j => by rw [← hS9]; exact sumLen_le ls j⟩
  have HEV : Aside0 (∀ j : Nat, j < k → (ls.getD j []).length = s) := ⟨fun j hj => hev j (by omega)⟩
  have HO0 : Aside0 (OwnE encS w w.heap.size 29 (.slice none 0 0) []) := ⟨OwnE.nil _ _ _ _⟩
  have HB0 : Aside0 (Below w.heap.size w w) := ⟨Below.refl _ _⟩
  have HV0 : Aside0 (∀ W1, Below w.heap.size w W1 → Views W1 (ls.take 0) []) := ⟨fun W1 _ => ⟨by simp, fun j l h => by simp at h⟩⟩
  obtain ⟨i8, h8⟩ := h8
  clear hC hk hS9 hNk hev
  go_enter Tryd.func30, Tryd.ntmps30
  go_wp2_with (fail)
  go_loopg [5, 6] k (fun kq v5 v6 w' => ∃ (j o : Nat) (zs : List (Option Addr × Nat × Nat)), j ≤ k ∧ v6 = .int .i64 o ∧ o ≤ N ∧ Aside0 (o = sumLen (ls.take j)) ∧ Aside0 (OwnE encS w' w.heap.size 29 v5 zs) ∧ Aside0 (∀ W1, Below w.heap.size w W1 → Views W1 (ls.take j) zs) ∧ Aside0 (Below w.heap.size w w') ∧ Aside0 (k - j ≤ kq))
  case atStart => exact ⟨0, 0, [], by omega, rfl, by omega, ⟨by simp [sumLen]⟩, HO0, HV0, HB0, ⟨by omega⟩⟩
  case round =>
    clear HO0 HB0 HV0
    obtain ⟨j, o, zs, hj, rfl, hoN, HQ, HO, HV, HB, HK⟩ := hrel
    by_cases cj : j < k
    · have hst := sumLen_take ls j (by rw [HKL.out]; exact cj)
      have hq9 := HSM.out (j + 1)
      have hcut := join_cut ls j (by rw [HKL.out]; exact cj)
      have hd := HEV.out j cj
      have HTK : Aside0 (ls.take (j + 1) = ls.take j ++ [ls.getD j []]) := ⟨by rw [List.take_succ_eq_append_getElem (by rw [HKL.out]; exact cj)]; simp [List.getD_eq_getElem?_getD, (show j < ls.length by rw [HKL.out]; exact cj)]⟩
      obtain ⟨en, hen⟩ : ∃ en, o + s = en := ⟨_, rfl⟩
      rw [hd, ← HQ.out, hen] at hst
      rw [hst] at hq9 hcut
      rw [← HQ.out] at hcut
      have HQ1 : Aside0 (en = sumLen (ls.take (j + 1))) := ⟨hst.symm⟩
      have hos : (o : Int) + (s : Int) = (en : Int) := by omega
      have hoN2 : o < N := by omega
      have cjb : decide ((o : Int) < (N : Int)) = true := decide_eq_true (by omega)
      have cjn : decide (o < N) = true := decide_eq_true hoN2
      obtain ⟨Av, cutv, hCv⟩ := cutMid (P := Tryd.prog) 29 5 Tryd.underlying29 h8.1 h8.2 A N c .i64 .i64 (o : Int) (en : Int) o en rfl rfl (by omega) hq9 hc
      rw [show en - o = s by omega] at cutv hCv
      have HVC : Aside0 (∀ W1, Below w.heap.size w W1 → (Kd.int .u8).C W1 Av s (ls.getD j [])) := ⟨fun W1 h => by have h2 := hCv (Kd.int .u8) W1 _ rfl (Kd.C_below HC.out h); rw [hcut] at h2; exact h2⟩
      have HDL := Aside0.mk hd
      have hsc : s ≤ c - o := by omega
      have HZL : Aside0 (zs.length = j) := ⟨by rw [(HV.out wr HB.out).len, List.length_take, HKL.out]; omega⟩
      clear hd hcut hCv hst hen hoN2
      go_wp2_with (first
        | (at_builtin; go_loud (refine appendOneE (w0 := w) encS w.heap.size rfl (.tmp 14) (.tmp 21) 35 29 (.slice none 0 0) 24 rfl Tryd.underlying35 infoSl2 rfl (by decide) u5 zs (Av, s, c - o) rfl rfl rfl HO.out HB.out ?hb ?hl ?_); (case hb => exact HB.out.size); (case hl => rw [HZL.out]; omega); intro v3 w3 ho hb hg; have HO3 := Aside0.mk ho; have HB3 := Aside0.mk hb; clear ho hb hg))
      go_roundg (gk - 1)
      case measure => have := HK.out; omega
      case rel =>
        refine ⟨j + 1, en, zs ++ [(Av, s, c - o)], by omega, by go_num, hq9, HQ1, HO3, ⟨fun W1 hW => ?_⟩, HB3, ⟨by have := HK.out; omega⟩⟩
        rw [HTK.out]
        have h := (HV.out W1 hW).snoc (l := ls.getD j []) (A := Av) (c := c - o) (by rw [HDL.out]; exact hsc) (by rw [HDL.out]; exact HVC.out W1 hW)
        rw [HDL.out] at h
        exact h
    · obtain rfl : j = k := by omega
      have HTA : Aside0 (ls.take j = ls) := ⟨by rw [← HKL.out, List.take_length]⟩
      have hoN2 : o = N := by rw [HQ.out, HTA.out]; exact HS.out
      have cjb : decide ((o : Int) < (N : Int)) = false := decide_eq_false (by omega)
      have cjn : decide (o < N) = false := decide_eq_false (by omega)
      rw [HTA.out] at HV
      clear hoN2
      go_wp2_with (fail)
      go_ret
      refine ⟨u5, rfl, fun t' => ?_, HB.out⟩
      have h := views_C HO.out (HV.out wr HB.out) t'
      rw [HKL.out] at h
      exact h
set_option maxHeartbeats 4000000 in
theorem encodeFixedBytes_calls (A : Option Addr) (N c s : Nat) (D : List Int) (R : List Int → Prop) (w0 : World) (hC : (Kd.int .u8).C w0 A N D) (hc : N ≤ c) (hN : N ≤ 200000000)
    (hM : ∀ (p : Option Addr) (A1 : Option Addr) (c1 : Nat) (w1 : World), (Kd.int .u8).C w1 A1 N D → N ≤ c1 → Calls Tryd.prog 55 #[.pointer p, .slice none 0 0, .slice A1 N c1, .int .i64 s] w1 fun e w' => ∃ v X, e = .returned (.tuple #[v, .nilIface]) ∧ Own w' w1.heap.size 5 .u8 v X ∧ R X ∧ Below w1.heap.size w1 w') :
    Calls Tryd.prog 27 #[.string ⟨#[98, 121, 116, 101, 115]⟩, .int .i64 s, .slice A N c] w0 fun e w' => ∃ v X, e = .returned (.tuple #[v, .bool true]) ∧ Own w' w0.heap.size 5 .u8 v X ∧ R X ∧ Below w0.heap.size w0 w' := by
  have HLN : Aside0 ((D).length = N) := ⟨hC.1⟩
  have HMM := Aside0.mk hM
  have HC2 : Aside0 ((Kd.int .u8).C (w0.alloc (.cells #[] 5)) A N D) := ⟨Kd.C_alloc hC _⟩
  have HE := Aside0.mk (Own.empty w0 w0.heap.size 5 .u8 (Nat.le_refl _))
  have HEB : Aside0 (Below w0.heap.size w0 (w0.alloc (.cells #[] 5))) := ⟨(Below.refl _ _).alloc (Nat.le_refl _) _⟩
  clear hC hM
  go_enter Tryd.func27, Tryd.ntmps27
  go_wp2_with (first
    | (at_builtin; go_loud (refine appendRead (w0 := w0) w0.heap.size rfl (.tmp 11) (.tmp 12) 29 5 .u8 1 rfl Tryd.underlying29 infoU8 (by decide) _ [] A N c D rfl rfl HE.out HEB.out ?hb HC2.out ?hl ?_); (case hb => exact HEB.out.size); (case hl => simp; omega); intro v1 w1 ho hb hg; rw [List.nil_append] at ho; obtain ⟨A1, c1, rfl, hc1, hr1⟩ := ho.read; rw [HLN.out] at hc1 hr1; rw [HLN.out]; have HR1 := Aside0.mk (Kd.C_alloc hr1 (.cells #[] 83)); have HBA : Aside0 (Below w0.heap.size w0 (w1.alloc (.cells #[] 83))) := ⟨hb.alloc hb.size _⟩; clear ho hb hg hr1)
    | (go_at_call 55; go_loud (with_reducible refine (HMM.out _ A1 c1 _ HR1.out hc1).mono ?_); rintro e w2 ⟨v2, X, rfl, ho, hx, hb⟩; have HX := Aside0.mk hx; have HB2 := Aside0.mk (HBA.out.trans (hb.mono HBA.out.size)); have HO2 := Aside0.mk (Own.lower ho HBA.out.size); clear ho hb hx)
    | go_quiet (fail))
  go_ret2
  exact ⟨v2, X, rfl, HO2.out.drewN _, HX.out, HB2.out.trans ((drewN_below _ _).mono HB2.out.size)⟩
set_option maxHeartbeats 4000000 in
theorem decodeFixedBytes_calls (A : Option Addr) (N c s : Nat) (X D : List Int) (w0 : World) (hC : (Kd.int .u8).C w0 A N X) (hc : N ≤ c) (hN : N ≤ 200000000)
    (hM : ∀ (p : Option Addr) (A1 : Option Addr) (c1 : Nat) (w1 : World), (Kd.int .u8).C w1 A1 N X → N ≤ c1 → Calls Tryd.prog 60 #[.pointer p, .slice none 0 0, .slice A1 N c1, .int .i64 s] w1 fun e w' => ∃ v, e = .returned (.tuple #[v, .nilIface]) ∧ Own w' w1.heap.size 5 .u8 v D ∧ Below w1.heap.size w1 w') :
    Calls Tryd.prog 29 #[.string ⟨#[98, 121, 116, 101, 115]⟩, .int .i64 s, .slice A N c] w0 fun e w' => ∃ v, e = .returned (.tuple #[v, .bool true]) ∧ Own w' w0.heap.size 5 .u8 v D ∧ Below w0.heap.size w0 w' := by
  have HLN : Aside0 ((X).length = N) := ⟨hC.1⟩
  have HMM := Aside0.mk hM
  have HC2 : Aside0 ((Kd.int .u8).C (w0.alloc (.cells #[] 5)) A N X) := ⟨Kd.C_alloc hC _⟩
  have HE := Aside0.mk (Own.empty w0 w0.heap.size 5 .u8 (Nat.le_refl _))
  have HEB : Aside0 (Below w0.heap.size w0 (w0.alloc (.cells #[] 5))) := ⟨(Below.refl _ _).alloc (Nat.le_refl _) _⟩
  clear hC hM
  go_enter Tryd.func29, Tryd.ntmps29
  go_wp2_with (first
    | (at_builtin; go_loud (refine appendRead (w0 := w0) w0.heap.size rfl (.tmp 11) (.tmp 12) 29 5 .u8 1 rfl Tryd.underlying29 infoU8 (by decide) _ [] A N c X rfl rfl HE.out HEB.out ?hb HC2.out ?hl ?_); (case hb => exact HEB.out.size); (case hl => simp; omega); intro v1 w1 ho hb hg; rw [List.nil_append] at ho; obtain ⟨A1, c1, rfl, hc1, hr1⟩ := ho.read; rw [HLN.out] at hc1 hr1; rw [HLN.out]; have HR1 := Aside0.mk (Kd.C_alloc hr1 (.cells #[] 83)); have HBA : Aside0 (Below w0.heap.size w0 (w1.alloc (.cells #[] 83))) := ⟨hb.alloc hb.size _⟩; clear ho hb hg hr1)
    | (go_at_call 60; go_loud (with_reducible refine (HMM.out _ A1 c1 _ HR1.out hc1).mono ?_); rintro e w2 ⟨v2, rfl, ho, hb⟩; have HB2 := Aside0.mk (HBA.out.trans (hb.mono HBA.out.size)); have HO2 := Aside0.mk (Own.lower ho HBA.out.size); clear ho hb)
    | go_quiet (fail))
  go_ret2
  exact ⟨v2, rfl, HO2.out.drewN _, HB2.out.trans ((drewN_below _ _).mono HB2.out.size)⟩
end Go.Proofs.YtigmcdpjlkgocaaDoor.Dfh
