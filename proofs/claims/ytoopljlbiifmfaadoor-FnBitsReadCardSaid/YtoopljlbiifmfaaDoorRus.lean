import Derived.Test.YtoopljlbiifmfaaDoorRin
import Derived.Test.YtoopljlbiifmfaaDoorUva
/-! Runs that come in: sizes, what they are. -/
namespace Go.Proofs.YtoopljlbiifmfaaDoor.Rus
open Go.Proofs.YtoopljlbiifmfaaDoor.Rin Go.Proofs.YtoopljlbiifmfaaDoor.Uva Go.Proofs.YtoopljlbiifmfaaDoor.Rle Go.Proofs.YtoopljlbiifmfaaDoor.Run Go.Proofs.YtoopljlbiifmfaaDoor.Rlp Go.Proofs.YtoopljlbiifmfaaDoor.Rlb Go.Proofs.YtoopljlbiifmfaaDoor.Buf Go.Proofs.YtoopljlbiifmfaaDoor.Fit Go.Proofs.YtoopljlbiifmfaaDoor.Bit Go.Proofs.YtoopljlbiifmfaaDoor.Wrd Go.Proofs.YtoopljlbiifmfaaDoor.Spl Go.Proofs.YtoopljlbiifmfaaDoor.Str Go.Proofs.YtoopljlbiifmfaaDoor.Flt Go.Proofs.YtoopljlbiifmfaaDoor.Owe Go.Proofs.YtoopljlbiifmfaaDoor.Num Go.Proofs.YtoopljlbiifmfaaDoor.Le Go.Proofs.YtoopljlbiifmfaaDoor.Lst Go.Proofs.YtoopljlbiifmfaaDoor.Aid Go.RowKit Go.Proofs.YtoopljlbiifmfaaDoorW.PrintWords Go.Proofs.YtoopljlbiifmfaaDoorW.PrintLast Go.Proofs.YtoopljlbiifmfaaDoorW.PrintMore
set_option linter.unusedVariables false
set_option linter.unusedSimpArgs false
def fits3 (ls : List RunT) : Bool := decide (ls.length ≤ 2147483647 ∧ ∀ r ∈ ls, r.2.2.length ≤ 2147483647)
set_option maxHeartbeats 4000000 in
theorem zzFits4_calls (v k : Int) (A : Option Addr) (n c : Nat) (w : World) (hn : n ≤ 9223372036854775807) :
    Calls Tryd.prog 34 #[.agg #[.int .u64 v, .int .i64 k, .slice A n c]] w fun e w' => e = .returned (.bool (decide (n ≤ 2147483647))) ∧ Below w.heap.size w w' := by
  have HB : Aside0 (∀ o, Below w.heap.size w (w.alloc o)) := ⟨fun o => (Below.refl _ _).alloc (Nat.le_refl _) o⟩
  by_cases h : n ≤ 2147483647
  · have q : decide (2147483647 < (n : Int)) = false := decide_eq_false (by omega)
    have q2 : decide (2147483647 < n) = false := decide_eq_false (by omega)
    have HD : Aside0 (decide (n ≤ 2147483647) = true) := ⟨decide_eq_true h⟩
    clear h
    go_enter Tryd.func34, Tryd.ntmps34
    go_wp2_with (fail)
    go_ret
    exact ⟨by rw [HD.out]; rfl, HB.out _⟩
  · have q : decide (2147483647 < (n : Int)) = true := decide_eq_true (by omega)
    have q2 : decide (2147483647 < n) = true := decide_eq_true (by omega)
    have HD : Aside0 (decide (n ≤ 2147483647) = false) := ⟨decide_eq_false h⟩
    clear h
    go_enter Tryd.func34, Tryd.ntmps34
    go_wp2_with (fail)
    go_ret
    exact ⟨by rw [HD.out]; rfl, HB.out _⟩
set_option maxHeartbeats 4000000 in
theorem zzFits3_calls (t : Nat) (A : Option Addr) (n c : Nat) (ls : List RunT) (w : World) (hC : (runK t).C w A n ls) (hc : n ≤ c) :
    Calls Tryd.prog 10 #[.slice A n c] w fun e w' => e = .returned (.bool (fits3 ls)) ∧ Below w.heap.size w w' := by
  have HLN : Aside0 (ls.length = n) := ⟨hC.1⟩
  have hn9 : n ≤ 9223372036854775807 := hC.2.1
  have HC := Aside0.mk hC
  have HT : Aside0 ((ls.length ≤ 2147483647 ∧ ∀ r ∈ ls, r.2.2.length ≤ 2147483647) → fits3 ls = true) := ⟨fun h => decide_eq_true h⟩
  have HF : Aside0 (¬ (ls.length ≤ 2147483647 ∧ ∀ r ∈ ls, r.2.2.length ≤ 2147483647) → fits3 ls = false) := ⟨fun h => decide_eq_false h⟩
  have HB0 : Aside0 (Below w.heap.size w w) := ⟨Below.refl _ _⟩
  clear hC
  by_cases h1 : 2147483647 < n
  · have q1 : decide (2147483647 < (n : Int)) = true := decide_eq_true (by omega)
    go_enter Tryd.func10, Tryd.ntmps10
    go_wp2_with (fail)
    go_ret
    refine ⟨?_, HB0.out⟩
    rw [HF.out fun h => by have := HLN.out; omega]; rfl
  have q1 : decide (2147483647 < (n : Int)) = false := decide_eq_false (by omega)
  go_enter Tryd.func10, Tryd.ntmps10
  go_wp2_with (fail)
  go_loopg [10] n (fun kq v10 w' => ∃ (j : Nat), j ≤ n ∧ v10 = .int .i64 j ∧ Aside0 (∀ i, i < j → (rdr ls i).2.2.length ≤ 2147483647) ∧ Aside0 (Below w.heap.size w w') ∧ Aside0 (n - j ≤ kq))
  case atStart => exact ⟨0, by omega, rfl, ⟨fun i hi => by omega⟩, HB0, ⟨by omega⟩⟩
  case round =>
    clear HB0
    obtain ⟨j, hj, rfl, HP, HB, HK⟩ := hrel
    by_cases cj : j < n
    · have cjb : decide ((j : Int) < n) = true := decide_eq_true (by omega)
      have cjn : decide (j < n) = true := decide_eq_true (by omega)
      obtain ⟨ad, A', c', ead, g0, g1, g2, hle, hCl⟩ := at_run (Kd.C_below HC.out HB.out) j cj
      have hm9 : (rdr ls j).2.2.length ≤ 9223372036854775807 := hCl.2.1
      obtain ⟨m, hmq⟩ : ∃ m, (rdr ls j).2.2.length = m := ⟨_, rfl⟩
      rw [hmq] at g2 hle hm9
      obtain ⟨v, hv⟩ : ∃ v, (rdr ls j).1 = v := ⟨_, rfl⟩
      obtain ⟨k, hk⟩ : ∃ k, (rdr ls j).2.1 = k := ⟨_, rfl⟩
      rw [hv] at g0
      rw [hk] at g1
      have HMQ := Aside0.mk hmq
      clear hmq hCl hv hk
      subst ead
      have HAL : Aside0 (Below w.heap.size w (wr.alloc (.cells #[.int .u64 v, .int .i64 k, .slice A' m c'] 52))) := ⟨HB.out.alloc HB.out.size _⟩
      by_cases c1 : m ≤ 2147483647
      · have HF4 := Aside0.mk (zzFits4_calls v k A' m c' (wr.alloc (.cells #[.int .u64 v, .int .i64 k, .slice A' m c'] 52)) hm9)
        rw [decide_eq_true c1] at HF4
        go_wp2_with (first
          | (go_at_call 34; (with_reducible refine HF4.out.mono ?_); rintro e w2 ⟨rfl, hb⟩; have HB2 := Aside0.mk (HAL.out.trans (hb.mono HAL.out.size)); clear hb))
        go_roundg (gk - 1)
        case measure => have := HK.out; omega
        case rel =>
          refine ⟨j + 1, by omega, by go_num, ⟨fun i hi => ?_⟩, HB2, ⟨by have := HK.out; omega⟩⟩
          by_cases h : i < j
          · exact HP.out i h
          · obtain rfl : i = j := by omega
            have := HMQ.out; omega
      · have HF4 := Aside0.mk (zzFits4_calls v k A' m c' (wr.alloc (.cells #[.int .u64 v, .int .i64 k, .slice A' m c'] 52)) hm9)
        rw [decide_eq_false c1] at HF4
        go_wp2_with (first
          | (go_at_call 34; (with_reducible refine HF4.out.mono ?_); rintro e w2 ⟨rfl, hb⟩; have HB2 := Aside0.mk (HAL.out.trans (hb.mono HAL.out.size)); clear hb))
        go_ret
        refine ⟨?_, HB2.out⟩
        rw [HF.out fun h => by have := h.2 _ (rdr_mem (i := j) (by rw [HLN.out]; exact cj)); have := HMQ.out; omega]; rfl
    · obtain rfl : j = n := by omega
      have cjb : decide ((j : Int) < j) = false := decide_eq_false (by omega)
      go_wp2_with (fail)
      go_ret
      refine ⟨?_, HB.out⟩
      rw [HT.out ⟨by have := HLN.out; omega, fun r hr => ?_⟩]; rfl
      obtain ⟨i, hi, rfl⟩ := List.getElem_of_mem hr
      have := HP.out i (by rw [← HLN.out]; exact hi)
      simpa [rdr, List.getD_eq_getElem?_getD, hi] using this
/-! ### what runs are -/
def okRun (w : Nat) (r : RunT) : Prop := r.2.2.length ≤ 100000 ∧ 0 ≤ r.2.1 ∧ r.2.1 ≤ 100000 ∧ r.2.2.length % 8 = 0 ∧ (r.2.2.length = 0 → r.2.1 ≠ 0 ∧ r.1 < 2 ^ w) ∧ ∀ x ∈ r.2.2, x < 2 ^ w
def total (ls : List RunT) : Nat := (ls.map fun r => r.2.1.toNat + r.2.2.length).sum
def areP (w : Nat) (ls : List RunT) : Prop := (∀ r ∈ ls, okRun w r) ∧ total ls ≤ 100000 ∧ ls.length ≤ 100000
open Classical in
noncomputable def areB (w : Nat) (ls : List RunT) : Bool := decide (areP w ls)
open Classical in
theorem areB_true {w : Nat} {ls : List RunT} (h : areP w ls) : areB w ls = true := by unfold areB; exact decide_eq_true h
open Classical in
theorem areB_false {w : Nat} {ls : List RunT} (h : ¬ areP w ls) : areB w ls = false := by unfold areB; exact decide_eq_false h
theorem total_take (ls : List RunT) (j : Nat) (hj : j < ls.length) : total (ls.take (j + 1)) = total (ls.take j) + ((rdr ls j).2.1.toNat + (rdr ls j).2.2.length) := by
  rw [take_run ls j hj]; simp [total]
theorem total_le (ls : List RunT) (j : Nat) : total (ls.take j) ≤ total ls := by
  have h : total ls = total (ls.take j) + total (ls.drop j) := by
    conv => lhs; rw [← List.take_append_drop j ls]
    unfold total; rw [List.map_append, List.sum_append]
  omega
set_option maxHeartbeats 16000000 in
set_option maxRecDepth 100000 in
theorem areRuns_calls (t : Nat) (w : Nat) (A : Option Addr) (n c : Nat) (ls : List RunT) (W : World) (hC : (runK t).C W A n ls) (hc : n ≤ c) (hn : n ≤ 2147483647) (hw : w < 64) (hwf : ∀ r ∈ ls, (Lit.int .u64 r.1).wf = true ∧ (Lit.int .i64 r.2.1).wf = true ∧ ∀ x ∈ r.2.2, (Lit.int .u64 x).wf = true) (hpk : ∀ r ∈ ls, r.2.2.length ≤ 2147483647) :
    Calls Tryd.prog 11 #[.int .i64 w, .slice A n c] W fun e w' => e = .returned (.bool (areB w ls)) ∧ Below W.heap.size W w' := by
  have HLN : Aside0 (ls.length = n) := ⟨hC.1⟩
  have HC := Aside0.mk hC
  have HWF := Aside0.mk hwf
  have HPK := Aside0.mk hpk
  have HF : Aside0 (¬ areP w ls → areB w ls = false) := ⟨areB_false⟩
  have HB0 : Aside0 (Below W.heap.size W W) := ⟨Below.refl _ _⟩
  clear hC hwf hpk
  go_enter Tryd.func11, Tryd.ntmps11
  go_wp2_with (fail)
  go_loopg [5, 12] n (fun kq v5 v12 w' => ∃ (j T : Nat), j ≤ n ∧ v12 = .int .i64 j ∧ v5 = .int .i64 T ∧ T ≤ 100000 ∧ Aside0 (total (ls.take j) = T) ∧ Aside0 (∀ i, i < j → okRun w (rdr ls i)) ∧ Aside0 (Below W.heap.size W w') ∧ Aside0 (n - j ≤ kq))
  case atStart => exact ⟨0, 0, by omega, rfl, rfl, by omega, ⟨rfl⟩, ⟨fun i hi => by omega⟩, HB0, ⟨by omega⟩⟩
  case round =>
    clear HB0
    obtain ⟨j, T, hj, rfl, rfl, hT9, HT, HP, HB, HK⟩ := hrel
    by_cases cj : j < n
    · have cjb : decide ((j : Int) < n) = true := decide_eq_true (by omega)
      have cjn : decide (j < n) = true := decide_eq_true (by omega)
      obtain ⟨gk0, rfl⟩ : ∃ gk0, gk = gk0 + 1 := ⟨gk - 1, by have := HK.out; omega⟩
      obtain ⟨ad, A', c', ead, g0, g1, g2, hle, hCl⟩ := at_run (Kd.C_below HC.out HB.out) j cj
      have hmem : rdr ls j ∈ ls := rdr_mem (by rw [HLN.out]; exact cj)
      have hwr := HWF.out _ hmem
      have hpr := HPK.out _ hmem
      have HBAD : Aside0 (¬ okRun w (rdr ls j) → areB w ls = false) := ⟨fun h => HF.out fun h2 => h (h2.1 _ hmem)⟩
      obtain ⟨v, hv⟩ : ∃ v, (rdr ls j).1 = v := ⟨_, rfl⟩
      obtain ⟨k, hk⟩ : ∃ k, (rdr ls j).2.1 = k := ⟨_, rfl⟩
      obtain ⟨l, hl⟩ : ∃ l, (rdr ls j).2.2 = l := ⟨_, rfl⟩
      rw [hl] at g2 hle hCl hpr
      rw [hv] at g0
      rw [hk] at g1
      obtain ⟨m, hm⟩ : ∃ m, l.length = m := ⟨_, rfl⟩
      rw [hm] at g2 hle hCl hpr
      rw [hv, hk, hl] at hwr
      obtain ⟨hw1, hw2, hw3⟩ := hwr
      have hv64 := u64_of_wf hw1
      have hk64 := wf_bd hw2
      have e1 : IntKind.i64.min = -9223372036854775808 := by decide +kernel
      have e2 : IntKind.i64.max = 9223372036854775807 := by decide +kernel
      rw [e1, e2] at hk64
      have HLW : Aside0 (∀ x ∈ l, 0 ≤ x ∧ x < 18446744073709551616) := ⟨fun x hx => u64_of_wf (hw3 x hx)⟩
      have HVQ := Aside0.mk hv
      have HKQ := Aside0.mk hk
      have HLQ := Aside0.mk hl
      have HLL := Aside0.mk hm
      have HCL := Aside0.mk (Kd.C_alloc hCl (.cells #[.int .u64 v, .int .i64 k, .slice A' m c'] 52))
      have HAL : Aside0 (Below W.heap.size W (wr.alloc (.cells #[.int .u64 v, .int .i64 k, .slice A' m c'] 52))) := ⟨HB.out.alloc HB.out.size _⟩
      clear hv hk hl hm hCl hw1 hw2 hw3 e1 e2 hmem
      subst ead
      by_cases c1 : ¬ (m ≤ 100000)
      · have q1 : decide (100000 < (m : Int)) = true := decide_eq_true (by omega)
        have q12 : decide (100000 < m) = true := decide_eq_true (by omega)
        go_wp2_with (fail)
        go_ret
        refine ⟨?_, HAL.out⟩
        rw [HBAD.out fun h => by have := h.1; rw [HLQ.out, HLL.out] at this; omega]; rfl
      have c1 : m ≤ 100000 := Classical.byContradiction c1
      have q1 : decide (100000 < (m : Int)) = false := decide_eq_false (by omega)
      have q12 : decide (100000 < m) = false := decide_eq_false (by omega)
      by_cases c2 : ¬ (0 ≤ k)
      · have q2 : decide (k < 0) = true := decide_eq_true (by omega)
        go_wp2_with (fail)
        go_ret
        refine ⟨?_, HAL.out⟩
        rw [HBAD.out fun h => by have := h.2.1; rw [HKQ.out] at this; omega]; rfl
      have c2 : 0 ≤ k := Classical.byContradiction c2
      have q2 : decide (k < 0) = false := decide_eq_false (by omega)
      by_cases c3 : ¬ (k ≤ 100000)
      · have q3 : decide (100000 < k) = true := decide_eq_true (by omega)
        go_wp2_with (fail)
        go_ret
        refine ⟨?_, HAL.out⟩
        rw [HBAD.out fun h => by have := h.2.2.1; rw [HKQ.out] at this; omega]; rfl
      have c3 : k ≤ 100000 := Classical.byContradiction c3
      have q3 : decide (100000 < k) = false := decide_eq_false (by omega)
      have htm : (m : Int).tmod 8 = (m : Int) % 8 := Int.tmod_eq_emod_of_nonneg (by omega)
      by_cases c4 : ¬ (m % 8 = 0)
      · have q4 : ((m : Int) % 8 != 0) = true := by rw [bne_iff_ne]; omega
        go_wp2_with (fail)
        go_ret
        refine ⟨?_, HAL.out⟩
        rw [HBAD.out fun h => by have := h.2.2.2.1; rw [HLQ.out, HLL.out] at this; omega]; rfl
      have c4 : m % 8 = 0 := Classical.byContradiction c4
      have q4 : ((m : Int) % 8 != 0) = false := by rw [show (m : Int) % 8 = 0 by omega]; rfl
      obtain ⟨kn, hkn⟩ : ∃ kn : Nat, k = (kn : Int) := ⟨k.toNat, by omega⟩
      subst hkn
      by_cases z : m = 0
      · have q5 : ((m : Int) == 0) = true := by rw [z]; rfl
        have HZM := Aside0.mk z
        clear z
        by_cases c5 : kn = 0
        · have q6 : ((kn : Int) == 0) = true := by rw [c5]; rfl
          have HC5 := Aside0.mk c5
          clear c5
          go_wp2_with (fail)
          go_ret
          refine ⟨?_, HAL.out⟩
          rw [HBAD.out fun h => by have := h.2.2.2.2.1 (by rw [HLQ.out, HLL.out]; exact HZM.out); rw [HKQ.out] at this; have := HC5.out; omega]; rfl
        have q6 : ((kn : Int) == 0) = false := by rw [beq_eq_false_iff_ne]; omega
        have HFV := Aside0.mk fun W1 => fitsIn_calls w v W1 hw hv64.1 hv64.2
        by_cases c6 : ¬ (v < 2 ^ w)
        · rw [decide_eq_false c6] at HFV
          have HC6 := Aside0.mk c6
          clear c6 hv64
          go_wp2_with (first
            | (go_at_call 35; (with_reducible refine (HFV.out _).mono ?_); rintro e w1 ⟨rfl, rfl⟩))
          go_ret
          refine ⟨?_, HAL.out⟩
          rw [HBAD.out fun h => by have := (h.2.2.2.2.1 (by rw [HLQ.out, HLL.out]; exact HZM.out)).2; rw [HVQ.out] at this; exact absurd this (by have := HC6.out; omega)]; rfl
        · have c6 : v < 2 ^ w := Classical.byContradiction c6
          rw [decide_eq_true c6] at HFV
          have HZ : Aside0 (m = 0 → (kn : Int) ≠ 0 ∧ v < 2 ^ w) := ⟨fun _ => ⟨by omega, c6⟩⟩
          clear c6 hv64
          go_wp2_with (first
            | (go_at_call 35; (with_reducible refine (HFV.out _).mono ?_); rintro e w1 ⟨rfl, rfl⟩))
          go_loopg [9, 56] m (fun kq v9 v56 w' => ∃ (i : Nat), i ≤ m ∧ v56 = .int .i64 i ∧ Aside0 (∀ p : Nat, p < i → rd l (p : Nat) < 2 ^ w) ∧ (wr.alloc (.cells #[.int .u64 v, .int .i64 (kn : Int), .slice A' m c'] 52)) = w' ∧ Aside0 (m - i ≤ kq))
          case atStart => exact ⟨0, by omega, rfl, ⟨fun p hp => by omega⟩, rfl, ⟨by omega⟩⟩
          case round =>
            obtain ⟨i, hi, rfl, HQ, rfl, HK2⟩ := hrel
            by_cases ci : i < m
            · have cib : decide ((i : Int) < m) = true := decide_eq_true (by omega)
              have cib2 : decide (i < m) = true := decide_eq_true (by omega)
              obtain ⟨ad2, ead2, hcell⟩ := Kd.at_int HCL.out (i : Int) (by omega) (by omega)
              rw [Int.toNat_natCast] at hcell
              have hxm := rd_mem (l := l) (i := i) (by rw [HLL.out]; exact ci)
              have hxw := HLW.out _ hxm
              obtain ⟨y, hy⟩ : ∃ y, rd l (i : Int) = y := ⟨_, rfl⟩
              rw [hy] at hcell hxm hxw
              have HM := Aside0.mk hxm
              have HY := Aside0.mk hy
              have HFI := Aside0.mk fun W1 => fitsIn_calls w y W1 hw hxw.1 hxw.2
              subst ead2
              clear hy hxm
              by_cases cf : y < 2 ^ w
              · rw [decide_eq_true cf] at HFI
                have HCF := Aside0.mk cf
                clear cf hxw
                go_wp2_with (first
                  | (go_at_call 35; (with_reducible refine (HFI.out _).mono ?_); rintro e w1 ⟨rfl, rfl⟩))
                go_roundg (gk - 1)
                case measure => have := HK2.out; omega
                case rel =>
                  refine ⟨i + 1, by omega, by go_num, ⟨fun p hp => ?_⟩, rfl, ⟨by have := HK2.out; omega⟩⟩
                  by_cases h : p < i
                  · exact HQ.out p h
                  · obtain rfl : p = i := by omega
                    rw [HY.out]; exact HCF.out
              · rw [decide_eq_false cf] at HFI
                have HCF := Aside0.mk cf
                clear cf hxw
                go_wp2_with (first
                  | (go_at_call 35; (with_reducible refine (HFI.out _).mono ?_); rintro e w1 ⟨rfl, rfl⟩))
                go_ret
                refine ⟨?_, HAL.out⟩
                rw [HBAD.out fun h => absurd (h.2.2.2.2.2 y (by rw [HLQ.out]; exact HM.out)) (by have := HCF.out; omega)]; rfl
            · obtain rfl : i = m := by omega
              have cib : decide ((i : Int) < i) = false := decide_eq_false (by omega)
              have HOKR : Aside0 (okRun w (rdr ls j)) := ⟨by
                refine ⟨by rw [HLQ.out, HLL.out]; omega, by rw [HKQ.out]; omega, by rw [HKQ.out]; omega, by rw [HLQ.out, HLL.out]; omega, by rw [HLQ.out, HLL.out, HKQ.out, HVQ.out]; exact HZ.out, fun x hx => ?_⟩
                rw [HLQ.out] at hx
                obtain ⟨p, hp, rfl⟩ := List.getElem_of_mem hx
                have := HQ.out p (by rw [← HLL.out]; exact hp)
                rw [rd_nat _ _ hp] at this
                exact this⟩
              obtain ⟨T2, hT2⟩ : ∃ T2, T + (kn + i) = T2 := ⟨_, rfl⟩
              have hTI : (T : Int) + ((kn : Int) + (i : Int)) = (T2 : Int) := by omega
              have HT2 : Aside0 (total (ls.take (j + 1)) = T2) := ⟨by rw [total_take ls j (by rw [HLN.out]; exact cj), HT.out, HKQ.out, HLQ.out, HLL.out]; simpa using hT2⟩
              by_cases ct : T2 ≤ 100000
              · have ctb : decide (100000 < (T2 : Int)) = false := decide_eq_false (by omega)
                have ctb2 : decide (100000 < T2) = false := decide_eq_false (by omega)
                go_wp2_with (fail)
                go_roundg gk0
                case measure => omega
                case rel =>
                  refine ⟨j + 1, T2, by omega, by go_num, rfl, ct, HT2, ⟨fun q hq => ?_⟩, HAL, ⟨by have := HK.out; omega⟩⟩
                  by_cases h : q < j
                  · exact HP.out q h
                  · obtain rfl : q = j := by omega
                    exact HOKR.out
              · have ctb : decide (100000 < (T2 : Int)) = true := decide_eq_true (by omega)
                have ctb2 : decide (100000 < T2) = true := decide_eq_true (by omega)
                go_wp2_with (fail)
                go_ret
                refine ⟨?_, HAL.out⟩
                rw [HF.out fun h => by have h1 := h.2.1; have h2 := total_le ls (j + 1); have h3 := HT2.out; omega]; rfl
      · have q5 : ((m : Int) == 0) = false := by rw [beq_eq_false_iff_ne]; omega
        have HZ : Aside0 (m = 0 → (kn : Int) ≠ 0 ∧ v < 2 ^ w) := ⟨fun h => absurd h z⟩
        clear hv64
        go_wp2_with (fail)
        go_loopg [9, 56] m (fun kq v9 v56 w' => ∃ (i : Nat), i ≤ m ∧ v56 = .int .i64 i ∧ Aside0 (∀ p : Nat, p < i → rd l (p : Nat) < 2 ^ w) ∧ (wr.alloc (.cells #[.int .u64 v, .int .i64 (kn : Int), .slice A' m c'] 52)) = w' ∧ Aside0 (m - i ≤ kq))
        case atStart => exact ⟨0, by omega, rfl, ⟨fun p hp => by omega⟩, rfl, ⟨by omega⟩⟩
        case round =>
          obtain ⟨i, hi, rfl, HQ, rfl, HK2⟩ := hrel
          by_cases ci : i < m
          · have cib : decide ((i : Int) < m) = true := decide_eq_true (by omega)
            have cib2 : decide (i < m) = true := decide_eq_true (by omega)
            obtain ⟨ad2, ead2, hcell⟩ := Kd.at_int HCL.out (i : Int) (by omega) (by omega)
            rw [Int.toNat_natCast] at hcell
            have hxm := rd_mem (l := l) (i := i) (by rw [HLL.out]; exact ci)
            have hxw := HLW.out _ hxm
            obtain ⟨y, hy⟩ : ∃ y, rd l (i : Int) = y := ⟨_, rfl⟩
            rw [hy] at hcell hxm hxw
            have HM := Aside0.mk hxm
            have HY := Aside0.mk hy
            have HFI := Aside0.mk fun W1 => fitsIn_calls w y W1 hw hxw.1 hxw.2
            subst ead2
            clear hy hxm
            by_cases cf : y < 2 ^ w
            · rw [decide_eq_true cf] at HFI
              have HCF := Aside0.mk cf
              clear cf hxw
              go_wp2_with (first
                | (go_at_call 35; (with_reducible refine (HFI.out _).mono ?_); rintro e w1 ⟨rfl, rfl⟩))
              go_roundg (gk - 1)
              case measure => have := HK2.out; omega
              case rel =>
                refine ⟨i + 1, by omega, by go_num, ⟨fun p hp => ?_⟩, rfl, ⟨by have := HK2.out; omega⟩⟩
                by_cases h : p < i
                · exact HQ.out p h
                · obtain rfl : p = i := by omega
                  rw [HY.out]; exact HCF.out
            · rw [decide_eq_false cf] at HFI
              have HCF := Aside0.mk cf
              clear cf hxw
              go_wp2_with (first
                | (go_at_call 35; (with_reducible refine (HFI.out _).mono ?_); rintro e w1 ⟨rfl, rfl⟩))
              go_ret
              refine ⟨?_, HAL.out⟩
              rw [HBAD.out fun h => absurd (h.2.2.2.2.2 y (by rw [HLQ.out]; exact HM.out)) (by have := HCF.out; omega)]; rfl
          · obtain rfl : i = m := by omega
            have cib : decide ((i : Int) < i) = false := decide_eq_false (by omega)
            have HOKR : Aside0 (okRun w (rdr ls j)) := ⟨by
              refine ⟨by rw [HLQ.out, HLL.out]; omega, by rw [HKQ.out]; omega, by rw [HKQ.out]; omega, by rw [HLQ.out, HLL.out]; omega, by rw [HLQ.out, HLL.out, HKQ.out, HVQ.out]; exact HZ.out, fun x hx => ?_⟩
              rw [HLQ.out] at hx
              obtain ⟨p, hp, rfl⟩ := List.getElem_of_mem hx
              have := HQ.out p (by rw [← HLL.out]; exact hp)
              rw [rd_nat _ _ hp] at this
              exact this⟩
            obtain ⟨T2, hT2⟩ : ∃ T2, T + (kn + i) = T2 := ⟨_, rfl⟩
            have hTI : (T : Int) + ((kn : Int) + (i : Int)) = (T2 : Int) := by omega
            have HT2 : Aside0 (total (ls.take (j + 1)) = T2) := ⟨by rw [total_take ls j (by rw [HLN.out]; exact cj), HT.out, HKQ.out, HLQ.out, HLL.out]; simpa using hT2⟩
            by_cases ct : T2 ≤ 100000
            · have ctb : decide (100000 < (T2 : Int)) = false := decide_eq_false (by omega)
              have ctb2 : decide (100000 < T2) = false := decide_eq_false (by omega)
              go_wp2_with (fail)
              go_roundg gk0
              case measure => omega
              case rel =>
                refine ⟨j + 1, T2, by omega, by go_num, rfl, ct, HT2, ⟨fun q hq => ?_⟩, HAL, ⟨by have := HK.out; omega⟩⟩
                by_cases h : q < j
                · exact HP.out q h
                · obtain rfl : q = j := by omega
                  exact HOKR.out
            · have ctb : decide (100000 < (T2 : Int)) = true := decide_eq_true (by omega)
              have ctb2 : decide (100000 < T2) = true := decide_eq_true (by omega)
              go_wp2_with (fail)
              go_ret
              refine ⟨?_, HAL.out⟩
              rw [HF.out fun h => by have h1 := h.2.1; have h2 := total_le ls (j + 1); have h3 := HT2.out; omega]; rfl
    · obtain rfl : j = n := by omega
      have cjb : decide ((j : Int) < j) = false := decide_eq_false (by omega)
      have HTA : Aside0 (total ls = T) := ⟨by rw [← HT.out, ← HLN.out, List.take_length]⟩
      have HAR : Aside0 (areB w ls = decide ((j : Int) ≤ 100000)) := ⟨by
        by_cases c : j ≤ 100000
        · rw [decide_eq_true (show (j : Int) ≤ 100000 by omega)]
          refine areB_true ⟨fun r hr => ?_, by rw [HTA.out]; omega, by rw [HLN.out]; exact c⟩
          obtain ⟨i, hi, rfl⟩ := List.getElem_of_mem hr
          have := HP.out i (by rw [← HLN.out]; exact hi)
          simpa [rdr, List.getD_eq_getElem?_getD, hi] using this
        · rw [decide_eq_false (show ¬ (j : Int) ≤ 100000 by omega)]
          exact areB_false fun h => c (by have := h.2.2; rw [HLN.out] at this; exact this)⟩
      go_wp2_with (fail)
      go_ret
      exact ⟨by rw [HAR.out]; rfl, HB.out⟩
end Go.Proofs.YtoopljlbiifmfaaDoor.Rus
