import Derived.Test.YtojoppondgnajaaDoorBl8
namespace Go.Proofs.YtojoppondgnajaaDoor.Bl
open Go.Proofs.YtojoppondgnajaaDoor.Aid Go.RowKit Go.Proofs.YtojoppondgnajaaDoorW.PrintWords Go.Proofs.YtojoppondgnajaaDoorW.PrintLast Go.Proofs.YtojoppondgnajaaDoorW.PrintMore
set_option linter.unusedVariables false
set_option linter.unusedSimpArgs false
/-- the condition of the rows -/
def Laid (W : World) : Prop := laidMetH Tryd.prog [("loop.example/pub-g01502/pub/pqbloom.salt", Lib.tabData .u32 [1203114875, 1150766481, 2284105051, 2729912477, 1884591559, 770785867, 2667333959, 1550580529])] W
def IsRow (k : IntKind) (w : World) (a : Option Addr) (len cap : Nat) (zs : List Int) : Prop :=
  (a = none ∧ len = 0 ∧ cap = 0 ∧ zs = []) ∨
  ∃ x, a = some x ∧ len ≤ cap ∧ cap ≤ maxLen ∧ zs.length = cap ∧ (∀ i, i < zs.length → w.cell? (x.add i) = some (.int k (zs.getD i 0))) ∧ ∀ n ∈ zs, (Lit.int k n).wf = true
theorem same_self (l : List Int) : PFnBloomInsert.spec_Same.f l l = some true := by
  unfold PFnBloomInsert.spec_Same.f
  rw [beq_self_eq_true]
set_option maxHeartbeats 4000000 in
theorem insertLaw (a0 : Option Addr) (len0 cap0 : Nat) (z0 : List Int) (a1 : Option Addr) (len1 cap1 : Nat) (z1 : List Int) (W : World) (w0 : IsRow .u8 W a0 len0 cap0 z0) (y0 : len0 * 1 ≤ 140737488351232) (w1 : IsRow .u64 W a1 len1 cap1 z1) (y1 : len1 * 8 ≤ 140737488351232) (hL : Laid W) :
    Calls Tryd.prog 4 #[.slice a0 len0 cap0, .slice a1 len1 cap1] W fun e w' => e = .returned (.bool true) ∧ Below W.heap.size W w' := by
  obtain ⟨hS, hW0⟩ := of_laid hL
  obtain ⟨l, hlen0, hr1, hm1, hw1, hc1⟩ := ReadsInt.ofRowC w0
  obtain ⟨hs, hlen1, hr2, hm2, hw2, hc2⟩ := ReadsInt.ofRowC w1
  have hC := Kd.C_of_reads (d := (0 : Int)) (h1 := fun _ => rfl) hr1
  have hCH := Kd.C_of_reads (d := (0 : Int)) (h1 := fun _ => rfl) hr2
  have hb : bytesB l = true := bytesB_of fun x hx => byt_of_wf (hw1 x hx)
  have hh : u64L hs := fun x hx => u64_of_wf (hw2 x hx)
  have HC : Aside0 ((Kd.int .u8).C W a0 len0 l) := ⟨by rw [hlen0]; exact hC⟩
  have HCH : Aside0 ((Kd.int .u64).C W a1 len1 hs) := ⟨by rw [hlen1]; exact hCH⟩
  have HS := Aside0.mk hS
  have HW0 := Aside0.mk hW0
  have HBY := Aside0.mk hb
  have HH := Aside0.mk hh
  rw [← hlen0] at hc1
  rw [← hlen1] at hc2
  have HLN : Aside0 (l.length = len0) := ⟨hlen0.symm⟩
  have HLM : Aside0 (hs.length = len1) := ⟨hlen1.symm⟩
  clear w0 w1 hL hS hW0 hr1 hr2 hm1 hm2 hw1 hw2 hC hCH hb hh hlen0 hlen1
  by_cases h1 : 2147483647 < len0
  · have q1 : decide (2147483647 < (len0 : Int)) = true := decide_eq_true (by omega)
    go_enter Tryd.func4, Tryd.ntmps4
    go_wp2
    go_ret
    exact ⟨rfl, Below.refl _ _⟩
  have q1 : decide (2147483647 < (len0 : Int)) = false := decide_eq_false (by omega)
  by_cases h2 : 2147483647 < len1
  · have q2 : decide (2147483647 < (len1 : Int)) = true := decide_eq_true (by omega)
    go_enter Tryd.func4, Tryd.ntmps4
    go_wp2
    go_ret
    exact ⟨rfl, Below.refl _ _⟩
  have q2 : decide (2147483647 < (len1 : Int)) = false := decide_eq_false (by omega)
  have hv := isFilter_val l (by have := HLN.out; omega)
  by_cases h3 : 0 < l.length ∧ l.length % 32 = 0 ∧ l.length ≤ 100000
  · rw [decide_eq_true h3] at hv
    have HL : Aside0 (∀ W' : World, Below W.heap.size W W' → Calls Tryd.prog 7 #[.slice a0 len0 cap0] W' fun e w' => e = .returned (.bool true) ∧ Drawn0 W' w') := ⟨fun W' hb => by
      have := PFnBloomInsert.spec_IsFilter.calls a0 cap0 l true W' (by rw [HLN.out]; exact Kd.C_below HC.out hb) (by rw [HLN.out]; exact hc1) hv
      rwa [HLN.out] at this⟩
    have HF : Aside0 (Fil l) := ⟨⟨HBY.out, h3.1, h3.2.1, h3.2.2⟩⟩
    obtain ⟨B, hB⟩ : ∃ B, len0 = 32 * B := ⟨len0 / 32, by have := HLN.out; omega⟩
    have hB1 : 0 < B ∧ B < 65536 := by have := HLN.out; omega
    have HB := Aside0.mk hB
    have HE : Aside0 (insertB l hs = insertS l B hs) := ⟨by rw [insertB_eq l HF.out hs HH.out, show l.length / 32 = B by have := HLN.out; omega]⟩
    obtain ⟨X, hX⟩ : ∃ X, insertS l B hs = X := ⟨_, rfl⟩
    rw [hX] at HE
    have HX := Aside0.mk hX
    clear hv hB h3 hX
    by_cases h4 : 10000 < len1
    · have q4 : decide (10000 < (len1 : Int)) = true := decide_eq_true (by omega)
      go_enter Tryd.func4, Tryd.ntmps4
      go_wp2_with (first
        | (go_at_call 7; (with_reducible refine (HL.out W (Below.refl _ _)).mono ?_); rintro e w' ⟨rfl, ⟨nd, rfl⟩⟩))
      go_ret
      exact ⟨rfl, drewN_below W nd⟩
    have q4 : decide (10000 < (len1 : Int)) = false := decide_eq_false (by omega)
    go_enter Tryd.func4, Tryd.ntmps4
    go_wp2_with (first
      | (go_at_call 7; (with_reducible refine (HL.out W (Below.refl _ _)).mono ?_); rintro e w' ⟨rfl, ⟨nd, rfl⟩⟩; have HB0 := Aside0.mk (drewN_below W nd))
      | (go_at_call 10; (with_reducible refine (inserted_calls a0 len0 cap0 l a1 len1 cap1 hs B (W.drewN nd) (Kd.C_below HC.out HB0.out) hc1 HB.out hB1.1 hB1.2 HBY.out (Kd.C_below HCH.out HB0.out) hc2 (by omega) HH.out).mono ?_); rintro e w2 ⟨v2, rfl, ho, hb⟩; rw [HX.out] at ho; obtain ⟨A2, c2, rfl, hc2', hr2⟩ := ho.read; have HR2 := Aside0.mk hr2; have HB2 := Aside0.mk (HB0.out.trans hb); clear ho hb hr2)
      | (go_at_call 12; (with_reducible refine (implInsert_calls a0 len0 cap0 l a1 len1 cap1 hs w2 (HS.out.below HB2.out HW0.out) (Nat.lt_of_lt_of_le HW0.out HB2.out.size) (Kd.C_below HC.out HB2.out) hc1 HF.out (Kd.C_below HCH.out HB2.out) hc2 (by omega) HH.out).mono ?_); rintro e w3 ⟨v3, rfl, ho, hb⟩; rw [HE.out] at ho; obtain ⟨A3, c3, rfl, hc3', hr3⟩ := ho.read; have HR3 := Aside0.mk hr3; have HR23 := Aside0.mk (Kd.C_below HR2.out hb); have HB3 := Aside0.mk (HB2.out.trans (hb.mono HB2.out.size)); clear ho hb hr3)
      | (go_at_call_of 11 (Value.slice A3 X.length c3); (with_reducible refine (PFnBloomInsert.spec_Same.calls A3 c3 X A2 c2 X true w3 HR3.out hc3' HR23.out hc2' (same_self X)).mono ?_); rintro e w' ⟨rfl, ⟨nd2, rfl⟩⟩; have HB4 := Aside0.mk (HB3.out.trans ((drewN_below w3 nd2).mono HB3.out.size)); have HR24 := Aside0.mk (Kd.C_below HR23.out (drewN_below w3 nd2)))
      | (go_at_call 13; (with_reducible refine (implBulk_calls a0 len0 cap0 l a1 len1 cap1 hs (w3.drewN nd2) (HS.out.below HB4.out HW0.out) (Nat.lt_of_lt_of_le HW0.out HB4.out.size) (Kd.C_below HC.out HB4.out) hc1 HF.out (Kd.C_below HCH.out HB4.out) hc2 (by omega) HH.out).mono ?_); rintro e w5 ⟨v5, rfl, ho, hb⟩; rw [HE.out] at ho; obtain ⟨A5, c5, rfl, hc5', hr5⟩ := ho.read; have HR5 := Aside0.mk hr5; have HR25 := Aside0.mk (Kd.C_below HR24.out hb); have HB5 := Aside0.mk (HB4.out.trans (hb.mono HB4.out.size)); clear ho hb hr5)
      | (go_at_call_of 11 (Value.slice A5 X.length c5); (with_reducible refine (PFnBloomInsert.spec_Same.calls A5 c5 X A2 c2 X true w5 HR5.out hc5' HR25.out hc2' (same_self X)).mono ?_); rintro e w' ⟨rfl, ⟨nd3, rfl⟩⟩; have HB6 := Aside0.mk (HB5.out.trans ((drewN_below w5 nd3).mono HB5.out.size))))
    go_ret
    exact ⟨rfl, HB6.out⟩
  · rw [decide_eq_false h3] at hv
    have HL : Aside0 (Calls Tryd.prog 7 #[.slice a0 len0 cap0] W fun e w' => e = .returned (.bool false) ∧ Drawn0 W w') := ⟨by
      have := PFnBloomInsert.spec_IsFilter.calls a0 cap0 l false W (by rw [HLN.out]; exact HC.out) (by rw [HLN.out]; exact hc1) hv
      rwa [HLN.out] at this⟩
    clear hv h3
    go_enter Tryd.func4, Tryd.ntmps4
    go_wp2_with (first
      | (go_at_call 7; (with_reducible refine HL.out.mono ?_); rintro e w' ⟨rfl, ⟨nd, rfl⟩⟩))
    go_ret
    exact ⟨rfl, drewN_below W nd⟩
end Go.Proofs.YtojoppondgnajaaDoor.Bl
