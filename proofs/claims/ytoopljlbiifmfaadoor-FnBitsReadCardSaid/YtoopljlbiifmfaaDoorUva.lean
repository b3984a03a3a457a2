import Derived.Test.YtoopljlbiifmfaaDoorRle
import Derived.ArgAppend
/-! Reading: numbers in groups of 7 bits; filling; groups of bytes. -/
namespace Go.Proofs.YtoopljlbiifmfaaDoor.Uva
open Go.Proofs.YtoopljlbiifmfaaDoor.Rle Go.Proofs.YtoopljlbiifmfaaDoor.Run Go.Proofs.YtoopljlbiifmfaaDoor.Rlp Go.Proofs.YtoopljlbiifmfaaDoor.Rlb Go.Proofs.YtoopljlbiifmfaaDoor.Buf Go.Proofs.YtoopljlbiifmfaaDoor.Fit Go.Proofs.YtoopljlbiifmfaaDoor.Bit Go.Proofs.YtoopljlbiifmfaaDoor.Wrd Go.Proofs.YtoopljlbiifmfaaDoor.Spl Go.Proofs.YtoopljlbiifmfaaDoor.Str Go.Proofs.YtoopljlbiifmfaaDoor.Flt Go.Proofs.YtoopljlbiifmfaaDoor.Owe Go.Proofs.YtoopljlbiifmfaaDoor.Num Go.Proofs.YtoopljlbiifmfaaDoor.Le Go.Proofs.YtoopljlbiifmfaaDoor.Lst Go.Proofs.YtoopljlbiifmfaaDoor.Aid Go.RowKit Go.Proofs.YtoopljlbiifmfaaDoorW.PrintWords Go.Proofs.YtoopljlbiifmfaaDoorW.PrintLast Go.Proofs.YtoopljlbiifmfaaDoorW.PrintMore
set_option linter.unusedVariables false
set_option linter.unusedSimpArgs false
theorem Front.pushes {g C t : Nat} {k : IntKind} : ∀ (ys : List Int) {w : World} {xs : List Int}, Front w g C t k xs → xs.length + ys.length ≤ C → ∀ o, o = xs.length → Front (w.setCells g o (nums k ys)) g C t k (xs ++ ys) ∧ w.grownBy (w.setCells g o (nums k ys)) (some g)
  | [], w, xs, h, _, o, _ => ⟨by rw [List.append_nil]; exact h, grownRefl w _⟩
  | y :: ys, w, xs, h, hl, o, ho => by
    have h1 := h.push (by simp at hl; omega) y o ho
    obtain ⟨h2, h3⟩ := Front.pushes ys h1 (by simp at hl ⊢; omega) (o + 1) (by rw [List.length_append, ho]; rfl)
    rw [List.append_assoc] at h2
    exact ⟨h2, (grownSet (grownRefl w _) o _).trans h3⟩
theorem or_high (acc b s : Nat) (h : acc < 2 ^ s) (h1 : acc < 18446744073709551616) (h2 : b * 2 ^ s < 18446744073709551616) : bits .or .u64 (acc : Int) ((b * 2 ^ s : Nat) : Int) = ((acc + b * 2 ^ s : Nat) : Int) := by
  rw [u64_or_nat _ _ h1 h2]
  congr 1
  rw [Nat.or_comm, Nat.mul_comm, ← Nat.two_pow_add_eq_or_of_lt h]
  omega
theorem or_high' (acc b s : Nat) (h : acc < 2 ^ s) (h1 : acc < 18446744073709551616) (h2 : b * 2 ^ s < 18446744073709551616) : bits .or .u64 (acc : Int) (IntKind.u64.wrap ((b : Int) * 2 ^ s)) = ((acc + b * 2 ^ s : Nat) : Int) := by
  have e : (b : Int) * 2 ^ s = ((b * 2 ^ s : Nat) : Int) := by push_cast; rfl
  rw [e, IntWalk.u64_in _ (by omega), or_high acc b s h h1 h2]
theorem and127 (y : Nat) : bits .and .u8 ((y % 128 + 128 : Nat) : Int) 127 = ((y % 128 : Nat) : Int) := by
  rw [show (127 : Int) = ((2 ^ 7 - 1 : Nat) : Int) by decide, u8_and_nat _ _ (by omega) (by decide), Nat.and_two_pow_sub_one_eq_mod]
  congr 1; omega
theorem varL_head (bs rest : List Int) (i y : Nat) (h : bs.drop i = varL y ++ rest) : rd bs (i : Nat) = if y < 128 then (y : Int) else ((y % 128 + 128 : Nat) : Int) := by
  have e := rd_drop bs i 0
  rw [Nat.add_zero, h] at e
  rw [← e]
  by_cases c : y < 128
  · rw [if_pos c, varL_lo c]; rfl
  · rw [if_neg c, varL_hi c]; rfl
theorem varL_tail (bs rest : List Int) (i y : Nat) (h : bs.drop i = varL y ++ rest) (c : ¬ y < 128) : bs.drop (i + 1) = varL (y / 128) ++ rest := by
  rw [varL_hi c] at h
  rw [← List.drop_drop, h]; rfl
theorem small5 (acc y i x : Nat) (hx : x < 34359738368) (h : acc + y * 2 ^ (7 * i) = x) (hi : i ≤ 4) (hy : ¬ y < 128) : i < 4 := by
  rcases Nat.lt_or_ge i 4 with h4 | h4
  · exact h4
  · obtain rfl : i = 4 := by omega
    rw [show (2 : Nat) ^ (7 * 4) = 268435456 by decide] at h
    omega
set_option maxHeartbeats 4000000 in
theorem uvarint_calls (A : Option Addr) (n c : Nat) (bs rest : List Int) (x : Nat) (w : World) (hC : (Kd.int .u8).C w A n bs) (hc : n ≤ c) (hn : n ≤ 2147483647) (hb : bs = varL x ++ rest) (hx : x < 34359738368) :
    Calls Tryd.prog 80 #[.slice A n c] w fun e w' => e = .returned (.tuple #[.int .u64 x, .int .i64 ((varL x).length : Int)]) ∧ w = w' := by
  have HLN : Aside0 (bs.length = n) := ⟨hC.1⟩
  have HLB : Aside0 ((varL x).length ≤ bs.length) := ⟨by rw [hb, List.length_append]; omega⟩
  have HC := Aside0.mk hC
  have HBB := Aside0.mk hb
  clear hC hb
  go_enter Tryd.func80, Tryd.ntmps80
  go_wp2_with (fail)
  go_loopg [4, 5, 6, 7, 10] n (fun kq v4 v5 v6 v7 v10 w' => ∃ (y i acc : Nat), v4 = .int .u64 acc ∧ v5 = .int .u64 ((7 * i : Nat) : Int) ∧ v10 = .int .i64 i ∧ i ≤ 4 ∧ Aside0 (acc + y * 2 ^ (7 * i) = x) ∧ Aside0 (acc < 2 ^ (7 * i)) ∧ Aside0 (bs.drop i = varL y ++ rest) ∧ Aside0 (i + (varL y).length = (varL x).length) ∧ w = w' ∧ Aside0 (n - i ≤ kq))
  case atStart => exact ⟨x, 0, 0, rfl, rfl, rfl, by omega, ⟨by simp⟩, ⟨by simp⟩, ⟨by rw [List.drop_zero]; exact HBB.out⟩, ⟨by omega⟩, rfl, ⟨by omega⟩⟩
  case round =>
    obtain ⟨y, i, acc, rfl, rfl, rfl, hi4, HX, HAC, HD, HL, rfl, HK⟩ := hrel
    have hpos := varL_pos y
    have hin : i < n := by have h1 := HL.out; have h2 := HLB.out; have h3 := HLN.out; omega
    have qin : decide ((i : Int) < n) = true := decide_eq_true (by omega)
    obtain ⟨ad, ead, hcell⟩ := Kd.at_int HC.out (i : Int) (by omega) (by omega)
    rw [Int.toNat_natCast, varL_head bs rest i y HD.out] at hcell
    have qi10 : ((i : Int) == 10) = false := by rw [beq_eq_false_iff_ne]; omega
    have qi9 : ((i : Int) == 9) = false := by rw [beq_eq_false_iff_ne]; omega
    subst ead
    have hp4 : 2 ^ (7 * i) ≤ 268435456 := by
      have := two_pow_le (show 7 * i ≤ 28 by omega)
      have e : (2 : Nat) ^ 28 = 268435456 := by decide
      omega
    have hacc := HAC.out
    have hy9 : y * 2 ^ (7 * i) ≤ x := by have := HX.out; omega
    by_cases cy : y < 128
    · rw [if_pos cy] at hcell
      have qy : decide ((y : Int) < 128) = true := decide_eq_true (by omega)
      have qy2 : decide (y < 128) = true := decide_eq_true cy
      have HOR := or_high' acc y (7 * i) hacc (by omega) (by omega)
      have HLY : Aside0 ((varL x).length = i + 1) := ⟨by rw [← HL.out, varL_lo cy]; rfl⟩
      go_wp2_with (fail)
      go_ret2
      refine ⟨?_, rfl⟩
      show Ending.returned (Value.tuple #[Value.int IntKind.u64 ((acc : Int) + (y : Int) * 2 ^ (7 * i)), Value.int IntKind.i64 ((i : Int) + 1)]) = _
      rw [HLY.out, ← HX.out]; push_cast; rfl
    · rw [if_neg cy] at hcell
      have qy : decide (((y % 128 + 128 : Nat) : Int) < 128) = false := decide_eq_false (by omega)
      have qy2 : decide (y % 128 + 128 < 128) = false := decide_eq_false (by omega)
      have hand := and127 y
      have ht := varL_tail bs rest i y HD.out cy
      have hs5 := small5 acc y i x hx HX.out hi4 cy
      have hlz : (varL y).length = (varL (y / 128)).length + 1 := by rw [varL_hi cy]; rfl
      obtain ⟨z, hz⟩ : ∃ z, y % 128 = z := ⟨_, rfl⟩
      have hzy : y = 128 * (y / 128) + z := by omega
      have hz9 : z < 128 := by omega
      rw [hz] at hcell qy qy2 hand
      obtain ⟨t, ht2⟩ : ∃ t, z + 128 = t := ⟨_, rfl⟩
      rw [ht2] at hcell qy qy2 hand
      have hzx : z * 2 ^ (7 * i) ≤ 127 * 268435456 := Nat.mul_le_mul (by omega) hp4
      have HOR := Aside0.mk (or_high' acc z (7 * i) hacc (by omega) (by omega))
      have HT := Aside0.mk ht
      have HLZ := Aside0.mk hlz
      have HZY := Aside0.mk hzy
      clear ht hlz hzy hzx hz
      go_wp2_with (fail)
      rw [HOR.out]
      go_roundg (gk - 1)
      case measure => have := HK.out; omega
      case rel =>
        have e1 : 2 ^ (7 * (i + 1)) = 128 * 2 ^ (7 * i) := by rw [Nat.mul_add, Nat.pow_add]; omega
        have e2 : z * 2 ^ (7 * i) + 2 ^ (7 * i) ≤ 128 * 2 ^ (7 * i) := by rw [← Nat.succ_mul]; exact Nat.mul_le_mul_right _ hz9
        refine ⟨y / 128, i + 1, acc + z * 2 ^ (7 * i), rfl, by go_num, by go_num, by omega, ⟨?_⟩, ⟨by rw [e1]; omega⟩, HT, ⟨by have := HL.out; have := HLZ.out; omega⟩, rfl, ⟨by have := HK.out; omega⟩⟩
        have h := HX.out
        conv at h => lhs; rw [HZY.out]
        rw [e1, ← h, Nat.add_mul, ← Nat.mul_assoc, Nat.mul_comm (y / 128) 128]
        omega
set_option maxHeartbeats 4000000 in
theorem fill_calls (g C t n c : Nat) (xs : List Int) (y : Int) (w : World) (hF : Front w g C t .u8 xs) (hC : xs.length + n ≤ C) (hn : n ≤ 4294967296) :
    Calls Tryd.prog 84 #[.slice (some ⟨g, xs.length, none⟩) n c, .int .u8 y] w fun e w' => e = .returned (.tuple #[]) ∧ Front w' g C t .u8 (xs ++ List.replicate n y) ∧ w.grownBy w' (some g) := by
  have HF := Aside0.mk hF
  obtain ⟨o, ho⟩ : ∃ o, xs.length = o := ⟨_, rfl⟩
  have HO := Aside0.mk ho
  rw [ho] at hC ⊢
  clear hF ho
  go_enter Tryd.func84, Tryd.ntmps84
  go_wp2_with (fail)
  go_loopg [4, 7] n (fun kq v4 v7 w' => ∃ (i : Nat), v7 = .int .i64 i ∧ i ≤ n ∧ Aside0 (Front w' g C t .u8 (xs ++ List.replicate i y)) ∧ Aside0 (w.grownBy w' (some g)) ∧ Aside0 (n - i ≤ kq))
  case atStart => exact ⟨0, rfl, by omega, ⟨by rw [List.replicate_zero, List.append_nil]; exact HF.out⟩, ⟨grownRefl _ _⟩, ⟨by omega⟩⟩
  case round =>
    obtain ⟨i, rfl, hi, HR, HG, HK⟩ := hrel
    by_cases ci : i < n
    · have cib : decide ((i : Int) < n) = true := decide_eq_true (by omega)
      obtain ⟨z, rc⟩ := HR.out.cell (o + i) (by omega)
      have rf := HR.out.free (o + i)
      go_wp2_with (fail)
      go_roundg (gk - 1)
      case measure => have := HK.out; omega
      case rel =>
        refine ⟨i + 1, by go_num, by omega, ⟨?_⟩, ⟨grownSet HG.out _ _⟩, ⟨by have := HK.out; omega⟩⟩
        have := HR.out.push (by rw [List.length_append, List.length_replicate, HO.out]; omega) y (o + i) (by rw [List.length_append, List.length_replicate, HO.out])
        rw [List.append_assoc, ← List.replicate_succ'] at this
        exact this
    · obtain rfl : i = n := by omega
      have cib : decide ((i : Int) < i) = false := decide_eq_false (by omega)
      go_wp2_with (fail)
      go_end0
      exact ⟨rfl, HR.out, HG.out⟩
/-! ### groups of bytes: unpacking -/
theorem rd_over (l : List Int) (i : Nat) (h : l.length ≤ i) : rd l (i : Nat) = 0 := by
  unfold rd
  rw [Int.toNat_natCast, List.getD_eq_getElem?_getD, List.getElem?_eq_none h]; rfl
theorem pad_rd (bs : List Int) (o b k : Nat) (hb : b ≤ 8) (hk : k < b) (hl : o + b ≤ bs.length) : rd ((bs.drop o).take b ++ List.replicate (8 - b) 0) (k : Nat) = rd bs (o + k : Nat) := by
  rw [rd_append, if_pos (by rw [List.length_take, List.length_drop]; omega)]
  rw [rd_nat _ _ (by rw [List.length_take, List.length_drop]; omega), rd_nat _ _ (by omega)]
  simp
theorem unpk (bs : List Int) (hB : bytesB bs = true) (b r q X : Nat) (hb1 : 1 ≤ b) (hb : b ≤ 8) (hq : q < 8) (hl : r * b + b ≤ bs.length) (hX : le8L ((bs.drop (r * b)).take b ++ List.replicate (8 - b) 0) = (X : Int)) :
    X / 2 ^ (q * b) % 2 ^ b = valLo bs b ((8 * r + q) * b) := by
  refine eq_bitsN (Nat.mod_lt _ (Nat.two_pow_pos b)) fun p hp => ?_
  rw [Nat.testBit_mod_two_pow, Nat.testBit_div_two_pow, decide_eq_true hp, Bool.true_and]
  have hqb : q * b + b ≤ 8 * b := by rw [← Nat.succ_mul]; exact Nat.mul_le_mul_right b hq
  have hYB : bytesB ((bs.drop (r * b)).take b ++ List.replicate (8 - b) 0) = true := bytesB_of fun x hx => by
    rcases List.mem_append.1 hx with h | h
    · exact bytesB_mem (bytesB_take (bytesB_drop hB _) _) x h
    · have := List.eq_of_mem_replicate h
      rw [this]; unfold byt; omega
  have hw := wd8_bit _ hYB 0 (p + q * b) (by omega)
  have e : wd8 ((bs.drop (r * b)).take b ++ List.replicate (8 - b) 0) 0 = (X : Int) := by
    rw [← hX]; unfold wd8; rw [Nat.mul_zero, List.drop_zero]
  rw [e, Int.toNat_natCast, Nat.mul_zero, Nat.zero_add] at hw
  rw [hw, pad_rd bs (r * b) b ((p + q * b) / 8) hb (by omega) hl]
  unfold bitLo
  have e2 : (8 * r + q) * b + p = 8 * (r * b) + (p + q * b) := by rw [Nat.add_mul, Nat.mul_assoc]; omega
  rw [e2, Nat.mul_add_div (by omega), Nat.mul_add_mod]
end Go.Proofs.YtoopljlbiifmfaaDoor.Uva
