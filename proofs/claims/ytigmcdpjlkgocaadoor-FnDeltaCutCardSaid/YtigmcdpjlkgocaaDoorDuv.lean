import Derived.Test.YtigmcdpjlkgocaaDoorMda
import Derived.ArgAppend
/-! Reading numbers in groups of 7 bits, up to 64 bits. -/
namespace Go.Proofs.YtigmcdpjlkgocaaDoor.Duv
open Go.Proofs.YtigmcdpjlkgocaaDoor.Dpu Go.Proofs.YtigmcdpjlkgocaaDoor.Pak Go.Proofs.YtigmcdpjlkgocaaDoor.Buf Go.Proofs.YtigmcdpjlkgocaaDoor.Fit Go.Proofs.YtigmcdpjlkgocaaDoor.Bit Go.Proofs.YtigmcdpjlkgocaaDoor.Wrd Go.Proofs.YtigmcdpjlkgocaaDoor.Spl Go.Proofs.YtigmcdpjlkgocaaDoor.Str Go.Proofs.YtigmcdpjlkgocaaDoor.Flt Go.Proofs.YtigmcdpjlkgocaaDoor.Owe Go.Proofs.YtigmcdpjlkgocaaDoor.Num Go.Proofs.YtigmcdpjlkgocaaDoor.Le Go.Proofs.YtigmcdpjlkgocaaDoor.Lst Go.Proofs.YtigmcdpjlkgocaaDoor.Aid Go.RowKit Go.Proofs.YtigmcdpjlkgocaaDoorW.PrintWords Go.Proofs.YtigmcdpjlkgocaaDoorW.PrintLast Go.Proofs.YtigmcdpjlkgocaaDoorW.PrintMore
set_option linter.unusedVariables false
set_option linter.unusedSimpArgs false
theorem or_high (acc b s : Nat) (h : acc < 2 ^ s) (h1 : acc < 18446744073709551616) (h2 : b * 2 ^ s < 18446744073709551616) : bits .or .u64 (acc : Int) ((b * 2 ^ s : Nat) : Int) = ((acc + b * 2 ^ s : Nat) : Int) := by
  rw [u64_or_nat _ _ h1 h2]
  congr 1
  rw [Nat.or_comm, Nat.mul_comm, ← Nat.two_pow_add_eq_or_of_lt h]
  omega
theorem or_high' (acc b s : Nat) (h : acc < 2 ^ s) (h1 : acc < 18446744073709551616) (h2 : b * 2 ^ s < 18446744073709551616) : bits .or .u64 (acc : Int) (IntKind.u64.wrap ((b : Int) * 2 ^ s)) = ((acc + b * 2 ^ s : Nat) : Int) := by
  have e : (b : Int) * 2 ^ s = ((b * 2 ^ s : Nat) : Int) := by push_cast; rfl
  rw [e, IntWalk.u64_in _ (by omega), or_high acc b s h h1 h2]
theorem and127 (y : Nat) : bits .and .u8 ((y % 128 + 128 : Nat) : Int) 127 = ((y % 128 : Nat) : Int) := by
  rw [show (127 : Int) = ((2 ^ 7 - 1 : Nat) : Int) by decide, u8_and_nat _ _ (by omega) (by decide), Nat.and_two_pow_sub_one_eq_mod]
  congr 1; omega
theorem varL_head (bs rest : List Int) (i y : Nat) (h : bs.drop i = varL y ++ rest) : rd bs (i : Nat) = if y < 128 then (y : Int) else ((y % 128 + 128 : Nat) : Int) := by
  have e := rd_drop bs i 0
  rw [Nat.add_zero, h] at e
  rw [← e]
  by_cases c : y < 128
  · rw [if_pos c, varL_lo c]; rfl
  · rw [if_neg c, varL_hi c]; rfl
theorem varL_tail (bs rest : List Int) (i y : Nat) (h : bs.drop i = varL y ++ rest) (c : ¬ y < 128) : bs.drop (i + 1) = varL (y / 128) ++ rest := by
  rw [varL_hi c] at h
  rw [← List.drop_drop, h]; rfl
theorem small10 (acc y i x : Nat) (hx : x < 18446744073709551616) (h : acc + y * 2 ^ (7 * i) = x) (hi : i ≤ 9) (hy : ¬ y < 128) : i < 9 := by
  rcases Nat.lt_or_ge i 9 with h4 | h4
  · exact h4
  · obtain rfl : i = 9 := by omega
    rw [show (2 : Nat) ^ (7 * 9) = 9223372036854775808 by decide] at h
    omega
theorem last10 (acc y i x : Nat) (hx : x < 18446744073709551616) (h : acc + y * 2 ^ (7 * i) = x) (hi : i = 9) : y ≤ 1 := by
  subst hi
  rw [show (2 : Nat) ^ (7 * 9) = 9223372036854775808 by decide] at h
  omega
/-- all groups but the last one have the bit set -/
theorem varL_high : ∀ (k x : Nat), x < 2 ^ k → ∀ j : Nat, j + 1 < (varL x).length → 128 ≤ rd (varL x) (j : Nat) ∧ rd (varL x) (j : Nat) < 256
  | 0, x, hx, j, hj => by
    obtain rfl : x = 0 := by simpa using hx
    rw [varL_lo (by omega)] at hj; simp at hj
  | k + 1, x, hx, j, hj => by
    by_cases c : x < 128
    · rw [varL_lo c] at hj; simp at hj
    · rw [varL_hi c] at hj ⊢
      cases j with
      | zero =>
        have e : rd (((x % 128 + 128 : Nat) : Int) :: varL (x / 128)) ((0 : Nat) : Int) = ((x % 128 + 128 : Nat) : Int) := rfl
        rw [e]; omega
      | succ j =>
        have e : rd (((x % 128 + 128 : Nat) : Int) :: varL (x / 128)) ((j + 1 : Nat) : Int) = rd (varL (x / 128)) (j : Nat) := by simp [rd]
        rw [e]
        exact varL_high k (x / 128) (by rw [Nat.pow_succ] at hx; omega) j (by simpa using hj)
theorem zz_half_neg (x : Int) (h : x < 0) : ((zz x : Nat) : Int) = -2 * x - 1 := by unfold zz; rw [if_neg (by omega)]; omega
theorem zz_half_pos (x : Int) (h : 0 ≤ x) : ((zz x : Nat) : Int) = 2 * x := by unfold zz; rw [if_pos h]; omega
theorem xor_m1_i64 (a : Nat) (ha : a < 9223372036854775808) : bits .xor .i64 (-1) (a : Int) = -1 - (a : Int) := by
  have h1 : (BitVec.ofInt 64 (a : Int)).toNat = a := by
    rw [BitVec.ofInt_natCast, BitVec.toNat_ofNat]; exact Nat.mod_eq_of_lt (by omega)
  have h2 : (BitVec.ofInt 64 (-1)).toNat = 2 ^ 64 - 1 := by decide
  show IntKind.i64.wrap ((BitVec.ofInt 64 (-1) ^^^ BitVec.ofInt 64 (a : Int)).toNat : Int) = _
  rw [BitVec.toNat_xor, h1, h2, xor_ones a (by omega), IntKind.wrap_i64]
  omega
set_option maxHeartbeats 4000000 in
theorem uvarint_calls (A : Option Addr) (n c : Nat) (bs rest : List Int) (x : Nat) (w : World) (hC : (Kd.int .u8).C w A n bs) (hc : n ≤ c) (hn : n ≤ 2147483647) (hb : bs = varL x ++ rest) (hx : x < 18446744073709551616) :
    Calls Tryd.prog 117 #[.slice A n c] w fun e w' => e = .returned (.tuple #[.int .u64 x, .int .i64 ((varL x).length : Int)]) ∧ w = w' := by
  have HLN : Aside0 (bs.length = n) := ⟨hC.1⟩
  have HLB : Aside0 ((varL x).length ≤ bs.length) := ⟨by rw [hb, List.length_append]; omega⟩
  have HC := Aside0.mk hC
  have HBB := Aside0.mk hb
  clear hC hb
  go_enter Tryd.func117, Tryd.ntmps117
  go_wp2_with (fail)
  go_loopg [4, 5, 6, 7, 10] n (fun kq v4 v5 v6 v7 v10 w' => ∃ (y i acc : Nat), v4 = .int .u64 acc ∧ v5 = .int .u64 ((7 * i : Nat) : Int) ∧ v10 = .int .i64 i ∧ i ≤ 9 ∧ Aside0 (acc + y * 2 ^ (7 * i) = x) ∧ Aside0 (acc < 2 ^ (7 * i)) ∧ Aside0 (bs.drop i = varL y ++ rest) ∧ Aside0 (i + (varL y).length = (varL x).length) ∧ w = w' ∧ Aside0 (n - i ≤ kq))
  case atStart => exact ⟨x, 0, 0, rfl, rfl, rfl, by omega, ⟨by simp⟩, ⟨by simp⟩, ⟨by rw [List.drop_zero]; exact HBB.out⟩, ⟨by omega⟩, rfl, ⟨by omega⟩⟩
  case round =>
    obtain ⟨y, i, acc, rfl, rfl, rfl, hi4, HX, HAC, HD, HL, rfl, HK⟩ := hrel
    have hpos := varL_pos y
    have hin : i < n := by have h1 := HL.out; have h2 := HLB.out; have h3 := HLN.out; omega
    have qin : decide ((i : Int) < n) = true := decide_eq_true (by omega)
    obtain ⟨ad, ead, hcell⟩ := Kd.at_int HC.out (i : Int) (by omega) (by omega)
    rw [Int.toNat_natCast, varL_head bs rest i y HD.out] at hcell
    have qi10 : ((i : Int) == 10) = false := by rw [beq_eq_false_iff_ne]; omega
    subst ead
    have hacc := HAC.out
    have hacc9 : acc < 18446744073709551616 := by have := HX.out; have := Nat.le_add_right acc (y * 2 ^ (7 * i)); omega
    have hy9 : y * 2 ^ (7 * i) < 18446744073709551616 := by have := HX.out; omega
    by_cases cy : y < 128
    · rw [if_pos cy] at hcell
      have qy : decide ((y : Int) < 128) = true := decide_eq_true (by omega)
      have qy2 : decide (y < 128) = true := decide_eq_true cy
      have HOR := or_high' acc y (7 * i) hacc hacc9 hy9
      have HLY : Aside0 ((varL x).length = i + 1) := ⟨by rw [← HL.out, varL_lo cy]; rfl⟩
      have h10 := last10 acc y i x hx HX.out
      by_cases c9 : i = 9
      · have qi9 : ((i : Int) == 9) = true := by rw [beq_iff_eq]; omega
        have qy1 : decide (1 < (y : Int)) = false := decide_eq_false (by have := h10 c9; omega)
        have qy3 : decide (1 < y) = false := decide_eq_false (by have := h10 c9; omega)
        clear h10 c9
        go_wp2_with (fail)
        go_ret2
        refine ⟨?_, rfl⟩
        show Ending.returned (Value.tuple #[Value.int IntKind.u64 ((acc : Int) + (y : Int) * 2 ^ (7 * i)), Value.int IntKind.i64 ((i : Int) + 1)]) = _
        rw [HLY.out, ← HX.out]; push_cast; rfl
      · have qi9 : ((i : Int) == 9) = false := by rw [beq_eq_false_iff_ne]; omega
        clear h10 c9
        go_wp2_with (fail)
        go_ret2
        refine ⟨?_, rfl⟩
        show Ending.returned (Value.tuple #[Value.int IntKind.u64 ((acc : Int) + (y : Int) * 2 ^ (7 * i)), Value.int IntKind.i64 ((i : Int) + 1)]) = _
        rw [HLY.out, ← HX.out]; push_cast; rfl
    · rw [if_neg cy] at hcell
      have qy : decide (((y % 128 + 128 : Nat) : Int) < 128) = false := decide_eq_false (by omega)
      have qy2 : decide (y % 128 + 128 < 128) = false := decide_eq_false (by omega)
      have hand := and127 y
      have ht := varL_tail bs rest i y HD.out cy
      have hs5 := small10 acc y i x hx HX.out hi4 cy
      have qi9 : ((i : Int) == 9) = false := by rw [beq_eq_false_iff_ne]; omega
      have hlz : (varL y).length = (varL (y / 128)).length + 1 := by rw [varL_hi cy]; rfl
      obtain ⟨z, hz⟩ : ∃ z, y % 128 = z := ⟨_, rfl⟩
      have hzy : y = 128 * (y / 128) + z := by omega
      have hz9 : z < 128 := by omega
      rw [hz] at hcell qy qy2 hand
      obtain ⟨t, ht2⟩ : ∃ t, z + 128 = t := ⟨_, rfl⟩
      rw [ht2] at hcell qy qy2 hand
      have hzx : z * 2 ^ (7 * i) ≤ y * 2 ^ (7 * i) := Nat.mul_le_mul_right _ (by omega)
      have HOR := Aside0.mk (or_high' acc z (7 * i) hacc hacc9 (Nat.lt_of_le_of_lt hzx hy9))
      have HT := Aside0.mk ht
      have HLZ := Aside0.mk hlz
      have HZY := Aside0.mk hzy
      clear ht hlz hzy hzx hz hy9
      go_wp2_with (fail)
      rw [HOR.out]
      go_roundg (gk - 1)
      case measure => have := HK.out; omega
      case rel =>
        have e1 : 2 ^ (7 * (i + 1)) = 128 * 2 ^ (7 * i) := by rw [Nat.mul_add, Nat.pow_add]; omega
        have e2 : z * 2 ^ (7 * i) + 2 ^ (7 * i) ≤ 128 * 2 ^ (7 * i) := by rw [← Nat.succ_mul]; exact Nat.mul_le_mul_right _ hz9
        refine ⟨y / 128, i + 1, acc + z * 2 ^ (7 * i), rfl, by go_num, by go_num, by omega, ⟨?_⟩, ⟨by rw [e1]; omega⟩, HT, ⟨by have := HL.out; have := HLZ.out; omega⟩, rfl, ⟨by have := HK.out; omega⟩⟩
        have h := HX.out
        conv at h => lhs; rw [HZY.out]
        rw [e1, ← h, Nat.add_mul, ← Nat.mul_assoc, Nat.mul_comm (y / 128) 128]
        omega
set_option maxHeartbeats 4000000 in
/-- groups that break off -/
theorem uvarintCut_calls (A : Option Addr) (n c : Nat) (bs : List Int) (w : World) (hC : (Kd.int .u8).C w A n bs) (hc : n ≤ c) (hn : n ≤ 9) (hb : ∀ j : Nat, j < n → 128 ≤ rd bs (j : Nat) ∧ rd bs (j : Nat) < 256) :
    Calls Tryd.prog 117 #[.slice A n c] w fun e w' => e = .returned (.tuple #[.int .u64 0, .int .i64 0]) ∧ w = w' := by
  have HC := Aside0.mk hC
  have HBB := Aside0.mk hb
  clear hC hb
  go_enter Tryd.func117, Tryd.ntmps117
  go_wp2_with (fail)
  go_loopg [4, 5, 6, 7, 10] n (fun kq v4 v5 v6 v7 v10 w' => ∃ (i : Nat) (acc : Int), v4 = .int .u64 acc ∧ v5 = .int .u64 ((7 * i : Nat) : Int) ∧ v10 = .int .i64 i ∧ i ≤ n ∧ w = w' ∧ Aside0 (n - i ≤ kq))
  case atStart => exact ⟨0, 0, rfl, rfl, rfl, by omega, rfl, ⟨by omega⟩⟩
  case round =>
    obtain ⟨i, acc, rfl, rfl, rfl, hi4, rfl, HK⟩ := hrel
    by_cases ci : i < n
    · have qin : decide ((i : Int) < n) = true := decide_eq_true (by omega)
      obtain ⟨ad, ead, hcell⟩ := Kd.at_int HC.out (i : Int) (by omega) (by omega)
      rw [Int.toNat_natCast] at hcell
      have hy := HBB.out i ci
      obtain ⟨y, hy2⟩ : ∃ y, rd bs (i : Nat) = y := ⟨_, rfl⟩
      rw [hy2] at hy hcell
      have qi10 : ((i : Int) == 10) = false := by rw [beq_eq_false_iff_ne]; omega
      have qy : decide (y < 128) = false := decide_eq_false (by omega)
      subst ead
      clear hy2
      go_wp2_with (fail)
      go_roundg (gk - 1)
      case measure => have := HK.out; omega
      case rel => exact ⟨i + 1, _, rfl, by go_num, by go_num, by omega, rfl, ⟨by have := HK.out; omega⟩⟩
    · obtain rfl : i = n := by omega
      have qin : decide ((i : Int) < i) = false := decide_eq_false (by omega)
      go_wp2_with (fail)
      go_ret2
      exact ⟨rfl, rfl⟩
set_option maxHeartbeats 4000000 in
theorem varint_calls' (A : Option Addr) (n c : Nat) (bs rest : List Int) (x : Int) (w : World) (hC : (Kd.int .u8).C w A n bs) (hc : n ≤ c) (hn : n ≤ 2147483647) (hb : bs = varL (zz x) ++ rest) (hx0 : -9223372036854775808 ≤ x) (hx1 : x ≤ 9223372036854775807) :
    Calls Tryd.prog 152 #[.slice A n c] w fun e w' => e = .returned (.tuple #[.int .i64 x, .int .i64 ((varL (zz x)).length : Int)]) ∧ w = w' := by
  have HPU := Aside0.mk (uvarint_calls A n c bs rest (zz x) w hC hc hn hb (zz_lt x hx0 hx1))
  obtain ⟨L, hL⟩ : ∃ L, (varL (zz x)).length = L := ⟨_, rfl⟩
  rw [hL] at HPU ⊢
  clear hC hb hL
  by_cases c0 : x < 0
  · have hz := zz_half_neg x c0
    obtain ⟨Z, hZ⟩ : ∃ Z, zz x = Z := ⟨_, rfl⟩
    rw [hZ] at HPU hz
    have qand : bits .and .u64 (Z : Int) 1 = 1 := by
      rw [show (1 : Int) = ((2 ^ 1 - 1 : Nat) : Int) by decide, u64_and_nat _ _ (by omega) (by decide), Nat.and_two_pow_sub_one_eq_mod]; omega
    have qh : (Z : Int) / 2 = -x - 1 := by omega
    have qw : IntKind.i64.wrap (-x - 1) = -x - 1 := IntWalk.i64_in _ (by omega)
    have qn : bits .xor .i64 (-1) (-x - 1) = x := by
      obtain ⟨a, ha⟩ : ∃ a : Nat, -x - 1 = (a : Int) := ⟨(-x - 1).toNat, by omega⟩
      rw [ha, xor_m1_i64 a (by omega)]; omega
    clear hz hZ
    go_enter Tryd.func152, Tryd.ntmps152
    go_wp2_with (first
      | (go_at_call 117; go_loud (with_reducible refine HPU.out.mono ?_); rintro e w2 ⟨rfl, rfl⟩))
    go_ret2
    exact ⟨rfl, rfl⟩
  · have hz := zz_half_pos x (by omega)
    obtain ⟨Z, hZ⟩ : ∃ Z, zz x = Z := ⟨_, rfl⟩
    rw [hZ] at HPU hz
    have qand : bits .and .u64 (Z : Int) 1 = 0 := by
      rw [show (1 : Int) = ((2 ^ 1 - 1 : Nat) : Int) by decide, u64_and_nat _ _ (by omega) (by decide), Nat.and_two_pow_sub_one_eq_mod]; omega
    have qh : (Z : Int) / 2 = x := by omega
    have qw : IntKind.i64.wrap x = x := IntWalk.i64_in _ (by omega)
    clear hz hZ
    go_enter Tryd.func152, Tryd.ntmps152
    go_wp2_with (first
      | (go_at_call 117; go_loud (with_reducible refine HPU.out.mono ?_); rintro e w2 ⟨rfl, rfl⟩))
    go_ret2
    exact ⟨rfl, rfl⟩
set_option maxHeartbeats 4000000 in
theorem varintCut_calls (A : Option Addr) (n c : Nat) (bs : List Int) (w : World) (hC : (Kd.int .u8).C w A n bs) (hc : n ≤ c) (hn : n ≤ 9) (hb : ∀ j : Nat, j < n → 128 ≤ rd bs (j : Nat) ∧ rd bs (j : Nat) < 256) :
    Calls Tryd.prog 152 #[.slice A n c] w fun e w' => e = .returned (.tuple #[.int .i64 0, .int .i64 0]) ∧ w = w' := by
  have HPU := Aside0.mk (uvarintCut_calls A n c bs w hC hc hn hb)
  clear hC hb
  go_enter Tryd.func152, Tryd.ntmps152
  go_wp2_with (first
    | (go_at_call 117; go_loud (with_reducible refine HPU.out.mono ?_); rintro e w2 ⟨rfl, rfl⟩))
  go_ret2
  exact ⟨rfl, rfl⟩
set_option maxHeartbeats 4000000 in
set_option maxRecDepth 100000 in
theorem readVarint_calls (A : Option Addr) (n c : Nat) (bs rest : List Int) (x : Nat) (w : World) (hC : (Kd.int .u8).C w A n bs) (hc : n ≤ c) (hn : n ≤ 2147483647) (hb : bs = varL x ++ rest) (hx : x < 18446744073709551616) :
    Calls Tryd.prog 97 #[.slice A n c] w fun e w' => ∃ A' c', e = .returned (.tuple #[.int .u64 x, .slice A' rest.length c', .bool true]) ∧ rest.length ≤ c' ∧ (∀ W, (Kd.int .u8).C W A n bs → (Kd.int .u8).C W A' rest.length rest) ∧ Drawn0 w w' := by
  have HLN : Aside0 (bs.length = n) := ⟨hC.1⟩
  have HLB : Aside0 ((varL x).length + rest.length = n) := ⟨by rw [← hC.1, hb, List.length_append]⟩
  have HC := Aside0.mk hC
  have HBB := Aside0.mk hb
  obtain ⟨i8, h8⟩ := h8
  clear hC hb
  go_enter Tryd.func97, Tryd.ntmps97
  go_wp2_with (fail)
  go_loopg [5, 6, 7, 10] n (fun kq v5 v6 v7 v10 w' => ∃ (y i acc : Nat), v5 = .int .u64 acc ∧ v10 = .int .i64 i ∧ i ≤ 9 ∧ Aside0 (acc + y * 2 ^ (7 * i) = x) ∧ Aside0 (acc < 2 ^ (7 * i)) ∧ Aside0 (bs.drop i = varL y ++ rest) ∧ Aside0 (i + (varL y).length = (varL x).length) ∧ w = w' ∧ Aside0 (n - i ≤ kq))
  case atStart => exact ⟨x, 0, 0, rfl, rfl, by omega, ⟨by simp⟩, ⟨by simp⟩, ⟨by rw [List.drop_zero]; exact HBB.out⟩, ⟨by omega⟩, rfl, ⟨by omega⟩⟩
  case round =>
    obtain ⟨y, i, acc, rfl, rfl, hi4, HX, HAC, HD, HL, rfl, HK⟩ := hrel
    have hpos := varL_pos y
    have hin : i < n := by have h1 := HL.out; have h2 := HLB.out; omega
    have qin : decide ((i : Int) < n) = true := decide_eq_true (by omega)
    obtain ⟨ad, ead, hcell⟩ := Kd.at_int HC.out (i : Int) (by omega) (by omega)
    rw [Int.toNat_natCast, varL_head bs rest i y HD.out] at hcell
    have qi10 : ((i : Int) == 10) = false := by rw [beq_eq_false_iff_ne]; omega
    subst ead
    have hacc := HAC.out
    have hacc9 : acc < 18446744073709551616 := by have := HX.out; have := Nat.le_add_right acc (y * 2 ^ (7 * i)); omega
    have hy9 : y * 2 ^ (7 * i) < 18446744073709551616 := by have := HX.out; omega
    obtain ⟨s, hs⟩ : ∃ s, 7 * i = s := ⟨_, rfl⟩
    have hsI : (7 : Int) * (i : Int) = (s : Int) := by omega
    have hs28 : s ≤ 63 := by omega
    by_cases cy : y < 128
    · rw [if_pos cy] at hcell
      have qy : decide ((y : Int) < 128) = true := decide_eq_true (by omega)
      have qy2 : decide (y < 128) = true := decide_eq_true cy
      have hand : bits .and .u8 (y : Int) 127 = (y : Int) := by
        rw [show (127 : Int) = ((2 ^ 7 - 1 : Nat) : Int) by decide, u8_and_nat _ _ (by omega) (by decide), Nat.and_two_pow_sub_one_eq_mod]
        congr 1; omega
      have HOR := or_high' acc y (7 * i) hacc hacc9 hy9
      rw [hs] at HOR
      have HLY : Aside0 ((varL x).length = i + 1) := ⟨by rw [← HL.out, varL_lo cy]; rfl⟩
      have hR : n - (i + 1) = rest.length := by have h1 := HLB.out; have h2 := HLY.out; omega
      obtain ⟨A1, cut1, hC1⟩ := cutLo (P := Tryd.prog) 29 5 Tryd.underlying29 h8.1 h8.2 (some ad) n c .i64 ((i : Int) + 1) (i + 1) (by omega) (by omega) hc
      have hdr : bs.drop (i + 1) = rest := by
        rw [HBB.out, List.drop_left' HLY.out]
      have HC1 : Aside0 (∀ W, (Kd.int .u8).C W (some ad) n bs → (Kd.int .u8).C W A1 rest.length rest) := ⟨fun W h => by have := hC1 _ W bs rfl h; rw [hdr, hR] at this; exact this⟩
      rw [hR] at cut1
      have HXX : Aside0 (((acc + y * 2 ^ s : Nat) : Int) = (x : Int)) := ⟨by rw [← hs, HX.out]⟩
      have hrc : rest.length ≤ c - (i + 1) := by omega
      have h10 := last10 acc y i x hx HX.out
      have hyw : (y : Int) % 18446744073709551616 = (y : Int) := by omega
      clear hC1 hdr hR
      by_cases c9 : i = 9
      · have qi9 : ((i : Int) == 9) = true := by rw [beq_iff_eq]; omega
        have qy1 : decide (1 < (y : Int)) = false := decide_eq_false (by have := h10 c9; omega)
        have qy3 : decide (1 < y) = false := decide_eq_false (by have := h10 c9; omega)
        clear h10 c9
        go_wp2_with (first | (go_quiet (fail)))
        go_ret3
        refine ⟨A1, c - (i + 1), ?_, hrc, HC1.out, ⟨nq, rfl⟩⟩
        show Ending.returned (Value.tuple #[Value.int IntKind.u64 ((acc : Int) + (y : Int) * 2 ^ s), Value.slice A1 rest.length (c - (i + 1)), Value.bool true]) = _
        rw [← HXX.out]; push_cast; rfl
      · have qi9 : ((i : Int) == 9) = false := by rw [beq_eq_false_iff_ne]; omega
        clear h10 c9
        go_wp2_with (first | (go_quiet (fail)))
        go_ret3
        refine ⟨A1, c - (i + 1), ?_, hrc, HC1.out, ⟨nq, rfl⟩⟩
        show Ending.returned (Value.tuple #[Value.int IntKind.u64 ((acc : Int) + (y : Int) * 2 ^ s), Value.slice A1 rest.length (c - (i + 1)), Value.bool true]) = _
        rw [← HXX.out]; push_cast; rfl
    · rw [if_neg cy] at hcell
      have qy : decide (((y % 128 + 128 : Nat) : Int) < 128) = false := decide_eq_false (by omega)
      have qy2 : decide (y % 128 + 128 < 128) = false := decide_eq_false (by omega)
      have hand := and127 y
      have ht := varL_tail bs rest i y HD.out cy
      have hs5 := small10 acc y i x hx HX.out hi4 cy
      have qi9 : ((i : Int) == 9) = false := by rw [beq_eq_false_iff_ne]; omega
      have hlz : (varL y).length = (varL (y / 128)).length + 1 := by rw [varL_hi cy]; rfl
      obtain ⟨z, hz⟩ : ∃ z, y % 128 = z := ⟨_, rfl⟩
      have hzy : y = 128 * (y / 128) + z := by omega
      have hz9 : z < 128 := by omega
      rw [hz] at hcell qy qy2 hand
      obtain ⟨t, ht2⟩ : ∃ t, z + 128 = t := ⟨_, rfl⟩
      rw [ht2] at hcell qy qy2 hand
      have hzx : z * 2 ^ (7 * i) ≤ y * 2 ^ (7 * i) := Nat.mul_le_mul_right _ (by omega)
      have HOR := Aside0.mk (or_high' acc z (7 * i) hacc hacc9 (Nat.lt_of_le_of_lt hzx hy9))
      rw [hs] at HOR
      have HT := Aside0.mk ht
      have HLZ := Aside0.mk hlz
      have HZY := Aside0.mk hzy
      clear ht hlz hzy hzx hz hy9
      go_wp2_with (fail)
      rw [HOR.out]
      go_roundg (gk - 1)
      case measure => have := HK.out; omega
      case rel =>
        have e1 : 2 ^ (7 * (i + 1)) = 128 * 2 ^ (7 * i) := by rw [Nat.mul_add, Nat.pow_add]; omega
        have e2 : z * 2 ^ (7 * i) + 2 ^ (7 * i) ≤ 128 * 2 ^ (7 * i) := by rw [← Nat.succ_mul]; exact Nat.mul_le_mul_right _ hz9
        refine ⟨y / 128, i + 1, acc + z * 2 ^ s, rfl, by go_num, by omega, ⟨?_⟩, ⟨by rw [e1, ← hs]; omega⟩, HT, ⟨by have := HL.out; have := HLZ.out; omega⟩, rfl, ⟨by have := HK.out; omega⟩⟩
        have h := HX.out
        conv at h => lhs; rw [HZY.out]
        rw [e1, ← hs, ← h, Nat.add_mul, ← Nat.mul_assoc, Nat.mul_comm (y / 128) 128]
        omega
end Go.Proofs.YtigmcdpjlkgocaaDoor.Duv
