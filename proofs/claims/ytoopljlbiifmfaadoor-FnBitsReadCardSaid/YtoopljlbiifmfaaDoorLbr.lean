import Derived.Test.YtoopljlbiifmfaaDoorRhc
import Derived.Test.YtoopljlbiifmfaaDoorRvh
import Derived.Test.YtoopljlbiifmfaaDoorDbm
/-! Truth values in groups and in runs of zeros are read: the law. -/
namespace Go.Proofs.YtoopljlbiifmfaaDoor.Lbr
open Go.Proofs.YtoopljlbiifmfaaDoor.Dbm Go.Proofs.YtoopljlbiifmfaaDoor.Dbi Go.Proofs.YtoopljlbiifmfaaDoor.Dec Go.Proofs.YtoopljlbiifmfaaDoor.Rvh Go.Proofs.YtoopljlbiifmfaaDoor.Rhc Go.Proofs.YtoopljlbiifmfaaDoor.Rhb Go.Proofs.YtoopljlbiifmfaaDoor.Rub Go.Proofs.YtoopljlbiifmfaaDoor.Rus Go.Proofs.YtoopljlbiifmfaaDoor.Rin Go.Proofs.YtoopljlbiifmfaaDoor.Uva Go.Proofs.YtoopljlbiifmfaaDoor.Rle Go.Proofs.YtoopljlbiifmfaaDoor.Run Go.Proofs.YtoopljlbiifmfaaDoor.Rlp Go.Proofs.YtoopljlbiifmfaaDoor.Rlb Go.Proofs.YtoopljlbiifmfaaDoor.Buf Go.Proofs.YtoopljlbiifmfaaDoor.Fit Go.Proofs.YtoopljlbiifmfaaDoor.Bit Go.Proofs.YtoopljlbiifmfaaDoor.Wrd Go.Proofs.YtoopljlbiifmfaaDoor.Spl Go.Proofs.YtoopljlbiifmfaaDoor.Str Go.Proofs.YtoopljlbiifmfaaDoor.Flt Go.Proofs.YtoopljlbiifmfaaDoor.Owe Go.Proofs.YtoopljlbiifmfaaDoor.Num Go.Proofs.YtoopljlbiifmfaaDoor.Le Go.Proofs.YtoopljlbiifmfaaDoor.Lst Go.Proofs.YtoopljlbiifmfaaDoor.Aid Go.RowKit Go.Proofs.YtoopljlbiifmfaaDoorW.PrintWords Go.Proofs.YtoopljlbiifmfaaDoorW.PrintLast Go.Proofs.YtoopljlbiifmfaaDoorW.PrintMore
set_option linter.unusedVariables false
set_option linter.unusedSimpArgs false
/-! ### what the bytes say -/
theorem bitLo_left (xs ys : List Int) (p : Nat) (h : p < 8 * xs.length) : bitLo (xs ++ ys) p = bitLo xs p := by
  unfold bitLo
  rw [rd_append, if_pos (by omega)]
theorem bitLo_right (xs ys : List Int) (p : Nat) : bitLo (xs ++ ys) (8 * xs.length + p) = bitLo ys p := by
  unfold bitLo
  rw [rd_append, if_neg (by omega), show (8 * xs.length + p) / 8 - xs.length = p / 8 by omega, show (8 * xs.length + p) % 8 = p % 8 by omega]
theorem unp_app (xs ys : List Int) (a b : Nat) (ha : a = 8 * xs.length) : unpL 1 (a + b) (xs ++ ys) = unpL 1 a xs ++ unpL 1 b ys := by
  subst ha
  unfold unpL
  rw [List.range_add, List.map_append, List.map_map]
  congr 1
  · refine List.map_congr_left fun i hi => ?_
    have hi := List.mem_range.1 hi
    unfold valLo
    congr 1
    refine bitsN_congr fun q hq => bitLo_left _ _ _ (by omega)
  · refine List.map_congr_left fun i hi => ?_
    show (valLo (xs ++ ys) 1 ((8 * xs.length + i) * 1) : Int) = (valLo ys 1 (i * 1) : Int)
    unfold valLo
    congr 1
    refine bitsN_congr fun q hq => ?_
    rw [show (8 * xs.length + i) * 1 + q = 8 * xs.length + (i * 1 + q) by omega]
    exact bitLo_right _ _ _
theorem unp_zeros (k q : Nat) : unpL 1 k (List.replicate q 0) = List.replicate k 0 := by
  unfold unpL
  rw [List.eq_replicate_iff]
  refine ⟨by simp, fun b hb => ?_⟩
  obtain ⟨i, _, rfl⟩ := List.mem_map.1 hb
  have : (0 : Nat) = valLo (List.replicate q 0) 1 (i * 1) := by
    unfold valLo
    refine eq_bitsN (by decide) fun r hr => ?_
    unfold bitLo
    have h0 : rd (List.replicate q 0) ((i * 1 + r) / 8 : Nat) = 0 := by
      unfold rd
      rw [Int.toNat_natCast, List.getD_eq_getElem?_getD, List.getElem?_replicate]
      split <;> rfl
    rw [h0]; simp
  rw [← this]; rfl
/-- a run is one of zeros, or of groups -/
def zOk (r : R) : Prop := r.ok 1 ∧ ∀ v k, r = R.rep v k → v = 0
theorem unp_run (r : R) (h : zOk r) : unpL 1 r.vals.length (dB r) = r.vals ∧ (dB r).length = (r.vals.length + 7) / 8 := by
  cases r with
  | rep v k =>
    have hv : v = 0 := h.2 v k rfl
    subst hv
    simp only [dB, R.vals, List.length_replicate]
    exact ⟨unp_zeros k _, trivial⟩
  | grp l =>
    obtain ⟨h0, h8, hf⟩ := h.1
    obtain ⟨K, hK⟩ : ∃ K, l.length / 8 = K := ⟨_, rfl⟩
    have hlK : l.length = 8 * K := by omega
    simp only [dB, R.vals]
    refine ⟨by rw [hlK]; unfold unpL; exact grp_vals 1 l K (by omega) hlK hf, ?_⟩
    unfold packLo; rw [bytesLo_length]; omega
theorem unp_bits : ∀ rs : List R, (∀ r ∈ rs, zOk r) → (∀ i, i + 1 < rs.length → (rs.getD i (R.rep 0 0)).vals.length % 8 = 0) → unpL 1 (hybV rs).length (dBs rs) = hybV rs ∧ (dBs rs).length = ((hybV rs).length + 7) / 8
  | [], _, _ => ⟨rfl, rfl⟩
  | [r], hz, _ => by
    have e1 : dBs [r] = dB r := by simp [dBs]
    have e2 : hybV [r] = r.vals := by simp [hybV]
    rw [e1, e2]
    exact unp_run r (hz r (by simp))
  | r :: r2 :: rs, hz, hw => by
    have e1 : dBs (r :: r2 :: rs) = dB r ++ dBs (r2 :: rs) := rfl
    have e2 : hybV (r :: r2 :: rs) = r.vals ++ hybV (r2 :: rs) := rfl
    have h0 : r.vals.length % 8 = 0 := hw 0 (by simp)
    have hr := unp_run r (hz r (by simp))
    have hi := unp_bits (r2 :: rs) (fun x hx => hz x (List.mem_cons_of_mem _ hx)) (fun i hi => by
      have := hw (i + 1) (by simp at hi ⊢; omega)
      rw [List.getD_cons_succ] at this; exact this)
    rw [e1, e2, List.length_append, List.length_append, hi.2, hr.2]
    refine ⟨?_, by omega⟩
    rw [unp_app _ _ _ _ (by rw [hr.2]; omega), hr.1, hi.1]
theorem hyb_bytes (w : Nat) (rs : List R) : bytesB (hyb w rs) = true := bytesB_of fun x hx => by
  simp only [hyb, List.mem_flatMap] at hx
  obtain ⟨r, _, hx⟩ := hx
  have hv : ∀ n, ∀ y ∈ varL n, byt y := fun n => by
    induction n using Nat.strongRecOn with
    | _ n ih =>
      intro y hy
      by_cases c : n < 128
      · rw [varL_lo c, List.mem_singleton] at hy; subst hy; exact ⟨by omega, by omega⟩
      · rw [varL_hi c] at hy
        rcases List.mem_cons.1 hy with h | h
        · subst h; exact ⟨by omega, by omega⟩
        · exact ih (n / 128) (by omega) y h
  cases r with
  | rep v k =>
    rcases List.mem_append.1 hx with h | h
    · exact hv _ x h
    · simp only [lowL, List.mem_map] at h
      obtain ⟨i, _, rfl⟩ := h
      exact ⟨by omega, by omega⟩
  | grp l =>
    rcases List.mem_append.1 hx with h | h
    · exact hv _ x h
    · unfold packLo bytesLo at h
      obtain ⟨q, _, rfl⟩ := List.mem_map.1 h
      have := byteLo_lt (bitsLo w l) q
      exact ⟨by omega, by omega⟩
theorem dBs_bytes (w : Nat) (rs : List R) (hk : hybOk 1 rs) : bytesB (dBs rs) = true := bytesB_of fun x hx => by
  simp only [dBs, List.mem_flatMap] at hx
  obtain ⟨r, hr, hx⟩ := hx
  have hok := hk r hr
  cases r with
  | rep v k =>
    have := List.eq_of_mem_replicate hx
    subst this
    have h2 := hok.2
    exact ⟨by omega, by omega⟩
  | grp l =>
    unfold dB packLo bytesLo at hx
    obtain ⟨q, _, rfl⟩ := List.mem_map.1 hx
    have := byteLo_lt (bitsLo 1 l) q
    exact ⟨by omega, by omega⟩
theorem low_bytes (k N : Nat) (X : List Int) (h : bytesB X = true) : bytesB (lowL k (N : Int) ++ X) = true := bytesB_of fun x hx => by
  rcases List.mem_append.1 hx with h1 | h1
  · simp only [lowL, List.mem_map] at h1
    obtain ⟨i, _, rfl⟩ := h1
    exact ⟨by omega, by omega⟩
  · exact bytesB_mem h x h1
/-! ### what the runs are -/
def wholeP (ls : List RunT) : Prop := ∀ i, i + 1 < ls.length → (rdr ls i).2.2.length = 0 → (rdr ls i).2.1 % 8 = 0
def zeroP (ls : List RunT) : Prop := ∀ i, i < ls.length → (rdr ls i).2.2.length = 0 → (rdr ls i).1 = 0
theorem rr_zero (ls : List RunT) (hk : hybOk 1 (rsR ls)) (h : zeroP ls) : ∀ r ∈ rsR ls, zOk r := by
  intro r hr
  refine ⟨hk r hr, fun v k e => ?_⟩
  simp only [rsR, List.mem_map] at hr
  obtain ⟨q, hq, rfl⟩ := hr
  obtain ⟨i, hi, rfl⟩ := List.getElem_of_mem hq
  unfold rR at e
  by_cases c : ls[i].2.2.length = 0
  · rw [if_pos c] at e
    injection e with e1 e2
    have := h i hi (by simpa [rdr, List.getD_eq_getElem?_getD, hi] using c)
    have h2 : rdr ls i = ls[i] := by simp [rdr, List.getD_eq_getElem?_getD, hi]
    rw [h2] at this
    rw [this] at e1
    omega
  · rw [if_neg c] at e
    cases e
theorem rr_whole (ls : List RunT) (hk : hybOk 1 (rsR ls)) (h : wholeP ls) (hp : ∀ r ∈ ls, 0 ≤ r.2.1) : ∀ i, i + 1 < (rsR ls).length → ((rsR ls).getD i (R.rep 0 0)).vals.length % 8 = 0 := by
  intro i hi
  have hil : i + 1 < ls.length := by simpa [rsR] using hi
  have e : (rsR ls).getD i (R.rep 0 0) = rR (rdr ls i) := by
    simp [rsR, rdr, List.getD_eq_getElem?_getD, show i < ls.length by omega]
  have hm : rdr ls i ∈ ls := rdr_mem (by omega)
  have hok := hk (rR (rdr ls i)) (by unfold rsR; exact List.mem_map_of_mem hm)
  rw [e]
  unfold rR at hok ⊢
  by_cases c : (rdr ls i).2.2.length = 0
  · rw [if_pos c]
    have := h i hil c
    have := hp _ hm
    simp [R.vals]
    omega
  · rw [if_neg c] at hok ⊢
    exact hok.2.1
set_option maxHeartbeats 8000000 in
set_option maxRecDepth 100000 in
theorem wholeBytes_calls (t : Nat) (A : Option Addr) (n c : Nat) (ls : List RunT) (W : World) (hC : (runK t).C W A n ls) (hc : n ≤ c) (hn : n ≤ 2147483647) (hp : ∀ r ∈ ls, 0 ≤ r.2.1 ∧ r.2.1 ≤ 100000 ∧ r.2.2.length ≤ 100000) :
    Calls Tryd.prog 12 #[.slice A n c] W fun e w' => ∃ B : Bool, e = .returned (.bool B) ∧ (B = true → wholeP ls) ∧ Below W.heap.size W w' := by
  have HLN : Aside0 (ls.length = n) := ⟨hC.1⟩
  have HC := Aside0.mk hC
  have HPP := Aside0.mk hp
  have HB0 : Aside0 (Below W.heap.size W W) := ⟨Below.refl _ _⟩
  clear hC hp
  go_enter Tryd.func12, Tryd.ntmps12
  go_wp2_with (fail)
  go_loopg [7] n (fun kq v7 w' => ∃ (j : Nat), j ≤ n ∧ v7 = .int .i64 j ∧ Aside0 (∀ i, i < j → i + 1 < n → (rdr ls i).2.2.length = 0 → (rdr ls i).2.1 % 8 = 0) ∧ Aside0 (Below W.heap.size W w') ∧ Aside0 (n - j ≤ kq))
  case atStart => exact ⟨0, by omega, rfl, ⟨fun i hi => by omega⟩, HB0, ⟨by omega⟩⟩
  case round =>
    clear HB0
    obtain ⟨j, hj, rfl, HP, HB, HK⟩ := hrel
    by_cases cj : j < n
    · have cjb : decide ((j : Int) < n) = true := decide_eq_true (by omega)
      have cjn : decide (j < n) = true := decide_eq_true (by omega)
      obtain ⟨ad, A', c', ead, g0, g1, g2, hle, hCl⟩ := at_run (Kd.C_below HC.out HB.out) j cj
      have hpr := HPP.out _ (rdr_mem (by rw [HLN.out]; exact cj))
      obtain ⟨v, hv⟩ : ∃ v, (rdr ls j).1 = v := ⟨_, rfl⟩
      obtain ⟨kn, hkn⟩ : ∃ kn : Nat, (rdr ls j).2.1 = (kn : Int) := ⟨(rdr ls j).2.1.toNat, by omega⟩
      obtain ⟨m, hm⟩ : ∃ m, (rdr ls j).2.2.length = m := ⟨_, rfl⟩
      rw [hm] at g2 hpr
      rw [hv] at g0
      rw [hkn] at g1 hpr
      have HKQ := Aside0.mk hkn
      have HMQ := Aside0.mk hm
      have HAL : Aside0 (Below W.heap.size W (wr.alloc (.cells #[.int .u64 v, .int .i64 (kn : Int), .slice A' m c'] 52))) := ⟨HB.out.alloc HB.out.size _⟩
      obtain ⟨n1, hn1⟩ : ∃ n1, n - 1 = n1 := ⟨_, rfl⟩
      have hnI : (n : Int) - 1 = (n1 : Int) := by omega
      have HN1 : Aside0 (n = n1 + 1) := ⟨by omega⟩
      have hk9 : kn ≤ 100000 := by omega
      have hm9 : m ≤ 100000 := by omega
      have htm : (kn : Int).tmod 8 = (kn : Int) % 8 := Int.tmod_eq_emod_of_nonneg (by omega)
      clear hv hkn hm hCl hle hpr hn1
      subst ead
      by_cases c1 : j < n1
      · have q1 : decide ((j : Int) < (n1 : Int)) = true := decide_eq_true (by omega)
        have q12 : decide (j < n1) = true := decide_eq_true c1
        by_cases z : m = 0
        · have q5 : ((m : Int) == 0) = true := by rw [z]; rfl
          have HZM := Aside0.mk z
          clear z
          by_cases c4 : kn % 8 = 0
          · have q4 : ((kn : Int) % 8 != 0) = false := by rw [show (kn : Int) % 8 = 0 by omega]; rfl
            have HC4 := Aside0.mk c4
            clear c4
            go_wp2_with (fail)
            go_roundg (gk - 1)
            case measure => have := HK.out; omega
            case rel => exact ⟨j + 1, by omega, by go_num, ⟨fun i hi h1 h2 => by
              by_cases h : i < j
              · exact HP.out i h h1 h2
              · obtain rfl : i = j := by omega
                rw [HKQ.out]; have := HC4.out; omega⟩, HAL, ⟨by have := HK.out; omega⟩⟩
          · have q4 : ((kn : Int) % 8 != 0) = true := by rw [bne_iff_ne]; omega
            clear c4
            go_wp2_with (fail)
            go_ret
            exact ⟨false, rfl, (fun h => by cases h), HAL.out⟩
        · have q5 : ((m : Int) == 0) = false := by rw [beq_eq_false_iff_ne]; omega
          have HZM := Aside0.mk z
          clear z
          go_wp2_with (fail)
          go_roundg (gk - 1)
          case measure => have := HK.out; omega
          case rel => exact ⟨j + 1, by omega, by go_num, ⟨fun i hi h1 h2 => by
            by_cases h : i < j
            · exact HP.out i h h1 h2
            · obtain rfl : i = j := by omega
              exact absurd (HMQ.out.symm.trans h2) HZM.out⟩, HAL, ⟨by have := HK.out; omega⟩⟩
      · have q1 : decide ((j : Int) < (n1 : Int)) = false := decide_eq_false (by omega)
        have q12 : decide (j < n1) = false := decide_eq_false c1
        go_wp2_with (fail)
        go_roundg (gk - 1)
        case measure => have := HK.out; omega
        case rel => exact ⟨j + 1, by omega, by go_num, ⟨fun i hi h1 h2 => by
          by_cases h : i < j
          · exact HP.out i h h1 h2
          · have := HN1.out; omega⟩, HAL, ⟨by have := HK.out; omega⟩⟩
    · obtain rfl : j = n := by omega
      have cjb : decide ((j : Int) < j) = false := decide_eq_false (by omega)
      go_wp2_with (fail)
      go_ret
      exact ⟨true, rfl, fun _ i hi h2 => HP.out i (by rw [HLN.out] at hi; omega) (by rw [HLN.out] at hi; exact hi) h2, HB.out⟩
set_option maxHeartbeats 8000000 in
set_option maxRecDepth 100000 in
theorem hasOnes_calls (t : Nat) (A : Option Addr) (n c : Nat) (ls : List RunT) (W : World) (hC : (runK t).C W A n ls) (hc : n ≤ c) (hn : n ≤ 2147483647) (hp : ∀ r ∈ ls, 0 ≤ r.2.1 ∧ r.2.1 ≤ 100000 ∧ r.2.2.length ≤ 100000) :
    Calls Tryd.prog 13 #[.slice A n c] W fun e w' => ∃ B : Bool, e = .returned (.bool B) ∧ (B = false → zeroP ls) ∧ Below W.heap.size W w' := by
  have HLN : Aside0 (ls.length = n) := ⟨hC.1⟩
  have HC := Aside0.mk hC
  have HPP := Aside0.mk hp
  have HB0 : Aside0 (Below W.heap.size W W) := ⟨Below.refl _ _⟩
  clear hC hp
  go_enter Tryd.func13, Tryd.ntmps13
  go_wp2_with (fail)
  go_loopg [7] n (fun kq v7 w' => ∃ (j : Nat), j ≤ n ∧ v7 = .int .i64 j ∧ Aside0 (∀ i, i < j → (rdr ls i).2.2.length = 0 → (rdr ls i).1 = 0) ∧ Aside0 (Below W.heap.size W w') ∧ Aside0 (n - j ≤ kq))
  case atStart => exact ⟨0, by omega, rfl, ⟨fun i hi => by omega⟩, HB0, ⟨by omega⟩⟩
  case round =>
    clear HB0
    obtain ⟨j, hj, rfl, HP, HB, HK⟩ := hrel
    by_cases cj : j < n
    · have cjb : decide ((j : Int) < n) = true := decide_eq_true (by omega)
      have cjn : decide (j < n) = true := decide_eq_true (by omega)
      obtain ⟨ad, A', c', ead, g0, g1, g2, hle, hCl⟩ := at_run (Kd.C_below HC.out HB.out) j cj
      have hpr := HPP.out _ (rdr_mem (by rw [HLN.out]; exact cj))
      obtain ⟨v, hv⟩ : ∃ v, (rdr ls j).1 = v := ⟨_, rfl⟩
      obtain ⟨k, hk⟩ : ∃ k, (rdr ls j).2.1 = k := ⟨_, rfl⟩
      obtain ⟨m, hm⟩ : ∃ m, (rdr ls j).2.2.length = m := ⟨_, rfl⟩
      rw [hm] at g2 hpr
      rw [hv] at g0
      rw [hk] at g1 hpr
      have HVQ := Aside0.mk hv
      have HMQ := Aside0.mk hm
      have HAL : Aside0 (Below W.heap.size W (wr.alloc (.cells #[.int .u64 v, .int .i64 k, .slice A' m c'] 52))) := ⟨HB.out.alloc HB.out.size _⟩
      have hm9 : m ≤ 100000 := by omega
      clear hv hk hm hCl hle hpr
      subst ead
      by_cases z : m = 0
      · have q5 : ((m : Int) == 0) = true := by rw [z]; rfl
        have HZM := Aside0.mk z
        clear z
        by_cases c4 : v = 0
        · have q4 : (v != 0) = false := by rw [c4]; rfl
          have HC4 := Aside0.mk c4
          clear c4
          go_wp2_with (fail)
          go_roundg (gk - 1)
          case measure => have := HK.out; omega
          case rel => exact ⟨j + 1, by omega, by go_num, ⟨fun i hi h2 => by
            by_cases h : i < j
            · exact HP.out i h h2
            · obtain rfl : i = j := by omega
              rw [HVQ.out]; exact HC4.out⟩, HAL, ⟨by have := HK.out; omega⟩⟩
        · have q4 : (v != 0) = true := by rw [bne_iff_ne]; exact c4
          clear c4
          go_wp2_with (fail)
          go_ret
          exact ⟨true, rfl, (fun h => by cases h), HAL.out⟩
      · have q5 : ((m : Int) == 0) = false := by rw [beq_eq_false_iff_ne]; omega
        have HZM := Aside0.mk z
        clear z
        go_wp2_with (fail)
        go_roundg (gk - 1)
        case measure => have := HK.out; omega
        case rel => exact ⟨j + 1, by omega, by go_num, ⟨fun i hi h2 => by
          by_cases h : i < j
          · exact HP.out i h h2
          · obtain rfl : i = j := by omega
            exact absurd (HMQ.out.symm.trans h2) HZM.out⟩, HAL, ⟨by have := HK.out; omega⟩⟩
    · obtain rfl : j = n := by omega
      have cjb : decide ((j : Int) < j) = false := decide_eq_false (by omega)
      go_wp2_with (fail)
      go_ret
      exact ⟨false, rfl, fun _ i hi h2 => HP.out i (by rw [HLN.out] at hi; exact hi) h2, HB.out⟩
set_option maxHeartbeats 8000000 in
set_option maxRecDepth 100000 in
theorem bitsReadLaw (a1 : Option Addr) (len1 cap1 : Nat) (ls : List RunT) (W : World) (w1 : IsRuns 32 W a1 len1 cap1 ls) :
    Calls Tryd.prog 3 #[.slice a1 len1 cap1] W fun e w' => e = .returned (.bool true) ∧ Below W.heap.size W w' := by
  have HLN : Aside0 (ls.length = len1) := ⟨w1.C.1⟩
  have HC := Aside0.mk w1.C
  have hc := w1.le
  have HWF : Aside0 (wfRuns ls) := ⟨w1.wf⟩
  have HF3 := Aside0.mk (zzFits3_calls _ a1 len1 cap1 ls W w1.C hc)
  clear w1
  by_cases f3 : fits3 ls = false
  · rw [f3] at HF3
    clear f3
    go_enter Tryd.func3, Tryd.ntmps3
    go_wp2_with (first
      | (go_at_call 10; (with_reducible refine HF3.out.mono ?_); rintro e w2 ⟨rfl, hb⟩; have HB2 := Aside0.mk hb; clear hb))
    go_ret
    exact ⟨rfl, HB2.out⟩
  have f3t : fits3 ls = true := by simpa using f3
  rw [f3t] at HF3
  obtain ⟨hn9, hp9⟩ := (show ls.length ≤ 2147483647 ∧ ∀ r ∈ ls, r.2.2.length ≤ 2147483647 from of_decide_eq_true f3t)
  rw [HLN.out] at hn9
  have HP9 := Aside0.mk hp9
  clear f3 f3t hp9
  have HAR : Aside0 (∀ w0, Below W.heap.size W w0 → Calls Tryd.prog 11 #[.int .i64 (1 : Nat), .slice a1 len1 cap1] w0 fun e w' => e = .returned (.bool (areB 1 ls)) ∧ Below w0.heap.size w0 w') := ⟨fun w0 hb => areRuns_calls _ 1 a1 len1 cap1 ls w0 (Kd.C_below HC.out hb) hc hn9 (by omega) HWF.out HP9.out⟩
  rw [show ((1 : Nat) : Int) = 1 from rfl] at HAR
  by_cases ar : areP 1 ls
  · rw [areB_true ar] at HAR
    have HPP : Aside0 (∀ r ∈ ls, 0 ≤ r.2.1 ∧ r.2.1 ≤ 100000 ∧ r.2.2.length ≤ 100000) := ⟨fun r hr => ⟨(ar.1 r hr).2.1, (ar.1 r hr).2.2.1, (ar.1 r hr).1⟩⟩
    have HWB : Aside0 (∀ w0, Below W.heap.size W w0 → Calls Tryd.prog 12 #[.slice a1 len1 cap1] w0 fun e w' => ∃ B : Bool, e = .returned (.bool B) ∧ (B = true → wholeP ls) ∧ Below w0.heap.size w0 w') := ⟨fun w0 hb => wholeBytes_calls _ a1 len1 cap1 ls w0 (Kd.C_below HC.out hb) hc hn9 HPP.out⟩
    have HHO : Aside0 (∀ w0, Below W.heap.size W w0 → Calls Tryd.prog 13 #[.slice a1 len1 cap1] w0 fun e w' => ∃ B : Bool, e = .returned (.bool B) ∧ (B = false → zeroP ls) ∧ Below w0.heap.size w0 w') := ⟨fun w0 hb => hasOnes_calls _ a1 len1 cap1 ls w0 (Kd.C_below HC.out hb) hc hn9 HPP.out⟩
    have HOK := Aside0.mk (rsR_ok 1 ls ar HWF.out)
    have HAP := Aside0.mk ar
    have hv9 : (hybV (rsR ls)).length ≤ 100000 := by have := hybV_le ls; have := ar.2.1; omega
    have hX9 := hyb_le 1 (by omega) (rsR ls) HOK.out (by omega)
    obtain ⟨X, hX⟩ : ∃ X, hyb 1 (rsR ls) = X := ⟨_, rfl⟩
    have HXB : Aside0 (bytesB X = true) := ⟨by rw [← hX]; exact hyb_bytes 1 _⟩
    obtain ⟨N, hN⟩ : ∃ N, X.length = N := ⟨_, rfl⟩
    rw [hX, hN] at hX9
    have hN9 : N ≤ 900000 := by omega
    obtain ⟨V, hV⟩ : ∃ V, hybV (rsR ls) = V := ⟨_, rfl⟩
    obtain ⟨K, hK⟩ : ∃ K, V.length = K := ⟨_, rfl⟩
    have hVK : (hybV (rsR ls)).length ≤ 1000000 := by omega
    rw [hV, hK] at hv9
    obtain ⟨Y, hY⟩ : ∃ Y, dBs (rsR ls) = Y := ⟨_, rfl⟩
    obtain ⟨D, hD⟩ : ∃ D, Y.length = D := ⟨_, rfl⟩
    have HUB : Aside0 (wholeP ls → zeroP ls → unpL 1 K Y = V ∧ D = (K + 7) / 8) := ⟨fun h1 h2 => by
      have := unp_bits (rsR ls) (rr_zero ls HOK.out h2) (rr_whole ls HOK.out h1 (fun r hr => (HPP.out r hr).1))
      rw [hV, hY, hK, hD] at this; exact this⟩
    have HYB : Aside0 (bytesB Y = true) := ⟨by rw [← hY]; exact dBs_bytes 1 _ HOK.out⟩
    have hD9 : D ≤ 100000 := by have := dBs_len (rsR ls); rw [hY, hD, hV, hK] at this; omega
    have HHB : Aside0 (∀ w0, Below W.heap.size W w0 → Calls Tryd.prog 14 #[.int .i64 (1 : Nat), .slice a1 len1 cap1] w0 fun e w' => ∃ v, e = .returned v ∧ Own w' w0.heap.size 5 .u8 v X ∧ Below w0.heap.size w0 w') := ⟨fun w0 hb => by
      have := hybridBytes_calls _ 1 a1 len1 cap1 ls w0 (Kd.C_below HC.out hb) hc HAP.out HWF.out (by omega) (by omega)
      rw [hX] at this; exact this⟩
    rw [show ((1 : Nat) : Int) = 1 from rfl] at HHB
    have HRV : Aside0 (∀ w0, Below W.heap.size W w0 → Calls Tryd.prog 15 #[.slice a1 len1 cap1] w0 fun e w' => ∃ v, e = .returned v ∧ Own w' w0.heap.size 32 .u64 v V ∧ Below w0.heap.size w0 w') := ⟨fun w0 hb => by
      have := runValues_calls _ 1 a1 len1 cap1 ls w0 (Kd.C_below HC.out hb) hc HAP.out HWF.out
      rw [hV] at this; exact this⟩
    have HDB : Aside0 (∀ (A : Option Addr) (c : Nat) (w0 : World), (Kd.int .u8).C w0 A (N + 4) (lowL 4 (N : Int) ++ X) → N + 4 ≤ c → Calls Tryd.prog 16 #[.string ⟨#[114, 108, 101]⟩, .slice A (N + 4) c] w0 fun e w' => ∃ v, e = .returned (.tuple #[v, .bool true]) ∧ Own w' w0.heap.size 5 .u8 v Y ∧ Below w0.heap.size w0 w') := ⟨fun A c w0 h hcA => by
      have := decodeBitsRl_calls A N c X (rsR ls) w0 h hX.symm hN (low_bytes 4 N X HXB.out) hcA (by omega) HOK.out hVK
      rw [hY] at this; exact this⟩
    have HLOW := Aside0.mk fun w0 => low_calls 4 (N : Int) (by omega) (show u64B (N : Int) by unfold u64B; omega) w0
    simp only [show ((4 : Nat) : Int) = 4 from rfl] at HLOW
    have hNw : IntKind.u64.wrap (N : Int) = (N : Int) := IntWalk.u64_in _ (by omega)
    have HXN := Aside0.mk hN
    have HVN := Aside0.mk hK
    have HYN := Aside0.mk hD
    clear hX hN hV hK hY hD ar hX9 hVK
    go_enter Tryd.func3, Tryd.ntmps3
    have HZL : Aside0 ((lowL 4 (N : Int) ++ X).length = N + 4) := ⟨by rw [List.length_append, lowL_length, HXN.out]; omega⟩
    go_wp2_with (first
      | (go_at_call 10; (with_reducible refine HF3.out.mono ?_); rintro e w2 ⟨rfl, hb⟩; have HB2 := Aside0.mk hb; clear hb)
      | (go_at_call 11; go_loud (with_reducible refine (HAR.out _ HB2.out).mono ?_); rintro e w3 ⟨rfl, hb⟩; have HB3 := Aside0.mk (HB2.out.trans (hb.mono HB2.out.size)); clear hb)
      | (go_at_call 12; go_loud (with_reducible refine (HWB.out _ HB3.out).mono ?_); rintro e w4 ⟨B1, rfl, hB1, hb⟩; have HB4 := Aside0.mk (HB3.out.trans (hb.mono HB3.out.size)); have HW1 := Aside0.mk hB1; clear hb hB1)
      | (go_at_call 13; go_loud (with_reducible refine (HHO.out _ HB4.out).mono ?_); rintro e w5 ⟨B2, rfl, hB2, hb⟩; have HB5 := Aside0.mk (HB4.out.trans (hb.mono HB4.out.size)); have HW2 := Aside0.mk hB2; clear hb hB2)
      | (go_at_call 14; go_loud (with_reducible refine (HHB.out _ HB5.out).mono ?_); rintro e w6 ⟨v6, rfl, ho, hb⟩; obtain ⟨A6, c6, rfl, hc6, hr6⟩ := ho.read; rw [HXN.out] at hc6 hr6; rw [HXN.out]; have HR6 := Aside0.mk hr6; have HB6 := Aside0.mk (HB5.out.trans (hb.mono HB5.out.size)); have HU6 : Aside0 (unpL 1 K Y = V ∧ D = (K + 7) / 8) := ⟨HUB.out (HW1.out (by assumption)) (HW2.out (by assumption))⟩; have hdiv : ((K : Int) + 7) / 8 = (D : Int) := (by have := HU6.out.2; omega); have hdt : ((K : Int) + 7).tdiv 8 = (D : Int) := (by rw [Int.tdiv_eq_ediv_of_nonneg (by omega)]; exact hdiv); clear ho hb hr6)
      | (go_at_call 15; go_loud (with_reducible refine (HRV.out _ HB6.out).mono ?_); rintro e w7 ⟨v7, rfl, ho, hb⟩; obtain ⟨A7, c7, rfl, hc7, hr7⟩ := ho.read; rw [HVN.out] at hc7 hr7; rw [HVN.out]; have HR7 := Aside0.mk hr7; have HR67 := Aside0.mk (Kd.C_below HR6.out hb); have HB7 := Aside0.mk (HB6.out.trans (hb.mono HB6.out.size)); clear ho hb hr7)
      | (go_at_call 17; go_loud (with_reducible refine (HLOW.out _).mono ?_); rintro e w8 ⟨v8, rfl, ho, hb⟩; have HO8 := Aside0.mk ho; have HR68 := Aside0.mk (Kd.C_below HR67.out hb); have HR78 := Aside0.mk (Kd.C_below HR7.out hb); have HB78 := Aside0.mk hb; have HB8 := Aside0.mk (HB7.out.trans (hb.mono HB7.out.size)); clear ho hb)
      | (at_builtin; go_loud (refine appendRead (w0 := w7) w7.heap.size rfl (.tmp 30) (.tmp 31) 25 5 .u8 1 rfl Tryd.underlying25 infoU8 (by decide) v8 (lowL 4 (N : Int)) A6 N c6 X rfl rfl HO8.out HB78.out ?hb HR68.out ?hl ?_); (case hb => exact HB78.out.size); (case hl => rw [lowL_length]; omega); intro v9 w9 ho hb hg; obtain ⟨A9, c9, rfl, hc9, hr9⟩ := ho.read; rw [HZL.out] at hc9 hr9; rw [HZL.out]; have HR9 := Aside0.mk hr9; have HR79 := Aside0.mk (Kd.C_below HR7.out hb); have HB9 := Aside0.mk (HB7.out.trans (hb.mono HB7.out.size)); clear ho hb hg hr9)
      | (go_at_call 16; go_loud (with_reducible refine (HDB.out A9 c9 w9 HR9.out hc9).mono ?_); rintro e w10 ⟨v10, rfl, ho, hb⟩; obtain ⟨A10, c10, rfl, hc10, hr10⟩ := ho.read; rw [HYN.out] at hc10 hr10; rw [HYN.out]; have HR10 := Aside0.mk hr10; have HR710 := Aside0.mk (Kd.C_below HR79.out hb); have HB10 := Aside0.mk (HB9.out.trans (hb.mono HB9.out.size)); have HUP := Aside0.mk (unpackLow_calls A10 D c10 1 K Y w10 hr10 hc10 (by omega) HYB.out (by omega) (by have := HU6.out.2; omega) (by omega)); rw [HU6.out.1, show ((1 : Nat) : Int) = 1 from rfl] at HUP; clear ho hb hr10)
      | (go_at_call 19; go_loud (with_reducible refine HUP.out.mono ?_); rintro e w11 ⟨v11, rfl, ho, hb⟩; obtain ⟨A11, c11, rfl, hc11, hr11⟩ := ho.read; rw [HVN.out] at hc11 hr11; rw [HVN.out]; have HR11 := Aside0.mk hr11; have HR711 := Aside0.mk (Kd.C_below HR710.out hb); have HB11 := Aside0.mk (HB10.out.trans (hb.mono HB10.out.size)); clear ho hb hr11)
      | (go_at_call 18; go_loud (with_reducible refine (sameNumbers_uint64_calls A11 A7 K c11 c7 V w11 HR11.out HR711.out (by omega)).mono ?_); rintro e w12 ⟨rfl, hd⟩; have HB12 := Aside0.mk (by obtain ⟨nd, rfl⟩ := hd; exact HB11.out.trans ((drewN_below _ nd).mono HB11.out.size) : Below W.heap.size W w12); clear hd))
    all_goals go_ret
    all_goals first
      | exact ⟨rfl, HB12.out⟩
      | exact ⟨rfl, HB5.out⟩
      | exact ⟨rfl, HB4.out⟩
  · rw [areB_false ar] at HAR
    clear ar
    go_enter Tryd.func3, Tryd.ntmps3
    go_wp2_with (first
      | (go_at_call 10; (with_reducible refine HF3.out.mono ?_); rintro e w2 ⟨rfl, hb⟩; have HB2 := Aside0.mk hb; clear hb)
      | (go_at_call 11; go_loud (with_reducible refine (HAR.out _ HB2.out).mono ?_); rintro e w3 ⟨rfl, hb⟩; have HB3 := Aside0.mk (HB2.out.trans (hb.mono HB2.out.size)); clear hb))
    go_ret
    exact ⟨rfl, HB3.out⟩
end Go.Proofs.YtoopljlbiifmfaaDoor.Lbr
