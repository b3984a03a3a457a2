import Derived.Test.YtigmcdpjlkgocaaDoorMda
import Derived.ArgAppend
import Derived.Test.YtigmcdpjlkgocaaDoorMdb
import Derived.Laws.CopyOwn
/-! Reading numbers in groups of 7 bits, up to 64 bits. -/
namespace Go.Proofs.YtigmcdpjlkgocaaDoor.Duv
open Go.Proofs.YtigmcdpjlkgocaaDoor.Dpu Go.Proofs.YtigmcdpjlkgocaaDoor.Pak Go.Proofs.YtigmcdpjlkgocaaDoor.Buf Go.Proofs.YtigmcdpjlkgocaaDoor.Fit Go.Proofs.YtigmcdpjlkgocaaDoor.Bit Go.Proofs.YtigmcdpjlkgocaaDoor.Wrd Go.Proofs.YtigmcdpjlkgocaaDoor.Spl Go.Proofs.YtigmcdpjlkgocaaDoor.Str Go.Proofs.YtigmcdpjlkgocaaDoor.Flt Go.Proofs.YtigmcdpjlkgocaaDoor.Owe Go.Proofs.YtigmcdpjlkgocaaDoor.Num Go.Proofs.YtigmcdpjlkgocaaDoor.Le Go.Proofs.YtigmcdpjlkgocaaDoor.Lst Go.Proofs.YtigmcdpjlkgocaaDoor.Aid Go.RowKit Go.Proofs.YtigmcdpjlkgocaaDoorW.PrintWords Go.Proofs.YtigmcdpjlkgocaaDoorW.PrintLast Go.Proofs.YtigmcdpjlkgocaaDoorW.PrintMore
set_option linter.unusedVariables false
set_option linter.unusedSimpArgs false
theorem or_high (acc b s : Nat) (h : acc < 2 ^ s) (h1 : acc < 18446744073709551616) (h2 : b * 2 ^ s < 18446744073709551616) : bits .or .u64 (acc : Int) ((b * 2 ^ s : Nat) : Int) = ((acc + b * 2 ^ s : Nat) : Int) := by
  rw [u64_or_nat _ _ h1 h2]
  congr 1
  rw [Nat.or_comm, Nat.mul_comm, ← Nat.two_pow_add_eq_or_of_lt h]
  omega
theorem or_high' (acc b s : Nat) (h : acc < 2 ^ s) (h1 : acc < 18446744073709551616) (h2 : b * 2 ^ s < 18446744073709551616) : bits .or .u64 (acc : Int) (IntKind.u64.wrap ((b : Int) * 2 ^ s)) = ((acc + b * 2 ^ s : Nat) : Int) := by
  have e : (b : Int) * 2 ^ s = ((b * 2 ^ s : Nat) : Int) := by push_cast; rfl
  rw [e, IntWalk.u64_in _ (by omega), or_high acc b s h h1 h2]
theorem and127 (y : Nat) : bits .and .u8 ((y % 128 + 128 : Nat) : Int) 127 = ((y % 128 : Nat) : Int) := by
  rw [show (127 : Int) = ((2 ^ 7 - 1 : Nat) : Int) by decide, u8_and_nat _ _ (by omega) (by decide), Nat.and_two_pow_sub_one_eq_mod]
  congr 1; omega
theorem varL_head (bs rest : List Int) (i y : Nat) (h : bs.drop i = varL y ++ rest) : rd bs (i : Nat) = if y < 128 then (y : Int) else ((y % 128 + 128 : Nat) : Int) := by
  have e := rd_drop bs i 0
  rw [Nat.add_zero, h] at e
  rw [← e]
  by_cases c : y < 128
  · rw [if_pos c, varL_lo c]; rfl
  · rw [if_neg c, varL_hi c]; rfl
theorem varL_tail (bs rest : List Int) (i y : Nat) (h : bs.drop i = varL y ++ rest) (c : ¬ y < 128) : bs.drop (i + 1) = varL (y / 128) ++ rest := by
  rw [varL_hi c] at h
  rw [← List.drop_drop, h]; rfl
theorem small10 (acc y i x : Nat) (hx : x < 18446744073709551616) (h : acc + y * 2 ^ (7 * i) = x) (hi : i ≤ 9) (hy : ¬ y < 128) : i < 9 := by
  rcases Nat.lt_or_ge i 9 with h4 | h4
  · exact h4
  · obtain rfl : i = 9 := by omega
    rw [show (2 : Nat) ^ (7 * 9) = 9223372036854775808 by decide] at h
    omega
theorem last10 (acc y i x : Nat) (hx : x < 18446744073709551616) (h : acc + y * 2 ^ (7 * i) = x) (hi : i = 9) : y ≤ 1 := by
  subst hi
  rw [show (2 : Nat) ^ (7 * 9) = 9223372036854775808 by decide] at h
  omega
/-- all groups but the last one have the bit set -/
theorem varL_high : ∀ (k x : Nat), x < 2 ^ k → ∀ j : Nat, j + 1 < (varL x).length → 128 ≤ rd (varL x) (j : Nat) ∧ rd (varL x) (j : Nat) < 256
  | 0, x, hx, j, hj => by
    obtain rfl : x = 0 := by simpa using hx
    rw [varL_lo (by omega)] at hj; simp at hj
  | k + 1, x, hx, j, hj => by
    by_cases c : x < 128
    · rw [varL_lo c] at hj; simp at hj
    · rw [varL_hi c] at hj ⊢
      cases j with
      | zero =>
        have e : rd (((x % 128 + 128 : Nat) : Int) :: varL (x / 128)) ((0 : Nat) : Int) = ((x % 128 + 128 : Nat) : Int) := rfl
        rw [e]; omega
      | succ j =>
        have e : rd (((x % 128 + 128 : Nat) : Int) :: varL (x / 128)) ((j + 1 : Nat) : Int) = rd (varL (x / 128)) (j : Nat) := by simp [rd]
        rw [e]
        exact varL_high k (x / 128) (by rw [Nat.pow_succ] at hx; omega) j (by simpa using hj)
theorem zz_half_neg (x : Int) (h : x < 0) : ((zz x : Nat) : Int) = -2 * x - 1 := by unfold zz; rw [if_neg (by omega)]; omega
theorem zz_half_pos (x : Int) (h : 0 ≤ x) : ((zz x : Nat) : Int) = 2 * x := by unfold zz; rw [if_pos h]; omega
theorem xor_m1_i64 (a : Nat) (ha : a < 9223372036854775808) : bits .xor .i64 (-1) (a : Int) = -1 - (a : Int) := by
  have h1 : (BitVec.ofInt 64 (a : Int)).toNat = a := by
    rw [BitVec.ofInt_natCast, BitVec.toNat_ofNat]; exact Nat.mod_eq_of_lt (by omega)
  have h2 : (BitVec.ofInt 64 (-1)).toNat = 2 ^ 64 - 1 := by decide
  show IntKind.i64.wrap ((BitVec.ofInt 64 (-1) ^^^ BitVec.ofInt 64 (a : Int)).toNat : Int) = _
  rw [BitVec.toNat_xor, h1, h2, xor_ones a (by omega), IntKind.wrap_i64]
  omega
set_option maxHeartbeats 4000000 in
theorem uvarint_calls (A : Option Addr) (n c : Nat) (bs rest : List Int) (x : Nat) (w : World) (hC : (Kd.int .u8).C w A n bs) (hc : n ≤ c) (hn : n ≤ 2147483647) (hb : bs = varL x ++ rest) (hx : x < 18446744073709551616) :
    Calls Tryd.prog 117 #[.slice A n c] w fun e w' => e = .returned (.tuple #[.int .u64 x, .int .i64 ((varL x).length : Int)]) ∧ w = w' := by
  have HLN : Aside0 (bs.length = n) := ⟨hC.1⟩
  have HLB : Aside0 ((varL x).length ≤ bs.length) := ⟨by rw [hb, List.length_append]; omega⟩
  have HC := Aside0.mk hC
  have HBB := Aside0.mk hb
  clear hC hb
  go_enter Tryd.func117, Tryd.ntmps117
  go_wp2_with (fail)
  go_loopg [4, 5, 6, 7, 10] n (fun kq v4 v5 v6 v7 v10 w' => ∃ (y i acc : Nat), v4 = .int .u64 acc ∧ v5 = .int .u64 ((7 * i : Nat) : Int) ∧ v10 = .int .i64 i ∧ i ≤ 9 ∧ Aside0 (acc + y * 2 ^ (7 * i) = x) ∧ Aside0 (acc < 2 ^ (7 * i)) ∧ Aside0 (bs.drop i = varL y ++ rest) ∧ Aside0 (i + (varL y).length = (varL x).length) ∧ w = w' ∧ Aside0 (n - i ≤ kq))
  case atStart => exact ⟨x, 0, 0, rfl, rfl, rfl, by omega, ⟨by simp⟩, ⟨by simp⟩, ⟨by rw [List.drop_zero]; exact HBB.out⟩, ⟨by omega⟩, rfl, ⟨by omega⟩⟩
  case round =>
    obtain ⟨y, i, acc, rfl, rfl, rfl, hi4, HX, HAC, HD, HL, rfl, HK⟩ := hrel
    have hpos := varL_pos y
    have hin : i < n := by have h1 := HL.out; have h2 := HLB.out; have h3 := HLN.out; omega
    have qin : decide ((i : Int) < n) = true := decide_eq_true (by omega)
    obtain ⟨ad, ead, hcell⟩ := Kd.at_int HC.out (i : Int) (by omega) (by omega)
    rw [Int.toNat_natCast, varL_head bs rest i y HD.out] at hcell
    have qi10 : ((i : Int) == 10) = false := by rw [beq_eq_false_iff_ne]; omega
    subst ead
    have hacc := HAC.out
    have hacc9 : acc < 18446744073709551616 := by have := HX.out; have := Nat.le_add_right acc (y * 2 ^ (7 * i)); omega
    have hy9 : y * 2 ^ (7 * i) < 18446744073709551616 := by have := HX.out; omega
    by_cases cy : y < 128
    · rw [if_pos cy] at hcell
      have qy : decide ((y : Int) < 128) = true := decide_eq_true (by omega)
      have qy2 : decide (y < 128) = true := decide_eq_true cy
      have HOR := or_high' acc y (7 * i) hacc hacc9 hy9
      have HLY : Aside0 ((varL x).length = i + 1) := ⟨by rw [← HL.out, varL_lo cy]; rfl⟩
      have h10 := last10 acc y i x hx HX.out
      by_cases c9 : i = 9
      · have qi9 : ((i : Int) == 9) = true := by rw [beq_iff_eq]; omega
        have qy1 : decide (1 < (y : Int)) = false := decide_eq_false (by have := h10 c9; omega)
        have qy3 : decide (1 < y) = false := decide_eq_false (by have := h10 c9; omega)
        clear h10 c9
        go_wp2_with (fail)
        go_ret2
        refine ⟨?_, rfl⟩
        show Ending.returned (Value.tuple #[Value.int IntKind.u64 ((acc : Int) + (y : Int) * 2 ^ (7 * i)), Value.int IntKind.i64 ((i : Int) + 1)]) = _
        rw [HLY.out, ← HX.out]; push_cast; rfl
      · have qi9 : ((i : Int) == 9) = false := by rw [beq_eq_false_iff_ne]; omega
        clear h10 c9
        go_wp2_with (fail)
        go_ret2
        refine ⟨?_, rfl⟩
        show Ending.returned (Value.tuple #[Value.int IntKind.u64 ((acc : Int) + (y : Int) * 2 ^ (7 * i)), Value.int IntKind.i64 ((i : Int) + 1)]) = _
        rw [HLY.out, ← HX.out]; push_cast; rfl
    · rw [if_neg cy] at hcell
      have qy : decide (((y % 128 + 128 : Nat) : Int) < 128) = false := decide_eq_false (by omega)
      have qy2 : decide (y % 128 + 128 < 128) = false := decide_eq_false (by omega)
      have hand := and127 y
      have ht := varL_tail bs rest i y HD.out cy
      have hs5 := small10 acc y i x hx HX.out hi4 cy
      have qi9 : ((i : Int) == 9) = false := by rw [beq_eq_false_iff_ne]; omega
      have hlz : (varL y).length = (varL (y / 128)).length + 1 := by rw [varL_hi cy]; rfl
      obtain ⟨z, hz⟩ : ∃ z, y % 128 = z := ⟨_, rfl⟩
      have hzy : y = 128 * (y / 128) + z := by omega
      have hz9 : z < 128 := by omega
      rw [hz] at hcell qy qy2 hand
      obtain ⟨t, ht2⟩ : ∃ t, z + 128 = t := ⟨_, rfl⟩
      rw [ht2] at hcell qy qy2 hand
      have hzx : z * 2 ^ (7 * i) ≤ y * 2 ^ (7 * i) := Nat.mul_le_mul_right _ (by omega)
      have HOR := Aside0.mk (or_high' acc z (7 * i) hacc hacc9 (Nat.lt_of_le_of_lt hzx hy9))
      have HT := Aside0.mk ht
      have HLZ := Aside0.mk hlz
      have HZY := Aside0.mk hzy
      clear ht hlz hzy hzx hz hy9
      go_wp2_with (fail)
      rw [HOR.out]
      go_roundg (gk - 1)
      case measure => have := HK.out; omega
      case rel =>
        have e1 : 2 ^ (7 * (i + 1)) = 128 * 2 ^ (7 * i) := by rw [Nat.mul_add, Nat.pow_add]; omega
        have e2 : z * 2 ^ (7 * i) + 2 ^ (7 * i) ≤ 128 * 2 ^ (7 * i) := by rw [← Nat.succ_mul]; exact Nat.mul_le_mul_right _ hz9
        refine ⟨y / 128, i + 1, acc + z * 2 ^ (7 * i), rfl, by go_num, by go_num, by omega, ⟨?_⟩, ⟨by rw [e1]; omega⟩, HT, ⟨by have := HL.out; have := HLZ.out; omega⟩, rfl, ⟨by have := HK.out; omega⟩⟩
        have h := HX.out
        conv at h => lhs; rw [HZY.out]
        rw [e1, ← h, Nat.add_mul, ← Nat.mul_assoc, Nat.mul_comm (y / 128) 128]
        omega
set_option maxHeartbeats 4000000 in
/-- groups that break off -/
theorem uvarintCut_calls (A : Option Addr) (n c : Nat) (bs : List Int) (w : World) (hC : (Kd.int .u8).C w A n bs) (hc : n ≤ c) (hn : n ≤ 9) (hb : ∀ j : Nat, j < n → 128 ≤ rd bs (j : Nat) ∧ rd bs (j : Nat) < 256) :
    Calls Tryd.prog 117 #[.slice A n c] w fun e w' => e = .returned (.tuple #[.int .u64 0, .int .i64 0]) ∧ w = w' := by
  have HC := Aside0.mk hC
  have HBB := Aside0.mk hb
  clear hC hb
  go_enter Tryd.func117, Tryd.ntmps117
  go_wp2_with (fail)
  go_loopg [4, 5, 6, 7, 10] n (fun kq v4 v5 v6 v7 v10 w' => ∃ (i : Nat) (acc : Int), v4 = .int .u64 acc ∧ v5 = .int .u64 ((7 * i : Nat) : Int) ∧ v10 = .int .i64 i ∧ i ≤ n ∧ w = w' ∧ Aside0 (n - i ≤ kq))
  case atStart => exact ⟨0, 0, rfl, rfl, rfl, by omega, rfl, ⟨by omega⟩⟩
  case round =>
    obtain ⟨i, acc, rfl, rfl, rfl, hi4, rfl, HK⟩ := hrel
    by_cases ci : i < n
    · have qin : decide ((i : Int) < n) = true := decide_eq_true (by omega)
      obtain ⟨ad, ead, hcell⟩ := Kd.at_int HC.out (i : Int) (by omega) (by omega)
      rw [Int.toNat_natCast] at hcell
      have hy := HBB.out i ci
      obtain ⟨y, hy2⟩ : ∃ y, rd bs (i : Nat) = y := ⟨_, rfl⟩
      rw [hy2] at hy hcell
      have qi10 : ((i : Int) == 10) = false := by rw [beq_eq_false_iff_ne]; omega
      have qy : decide (y < 128) = false := decide_eq_false (by omega)
      subst ead
      clear hy2
      go_wp2_with (fail)
      go_roundg (gk - 1)
      case measure => have := HK.out; omega
      case rel => exact ⟨i + 1, _, rfl, by go_num, by go_num, by omega, rfl, ⟨by have := HK.out; omega⟩⟩
    · obtain rfl : i = n := by omega
      have qin : decide ((i : Int) < i) = false := decide_eq_false (by omega)
      go_wp2_with (fail)
      go_ret2
      exact ⟨rfl, rfl⟩
set_option maxHeartbeats 4000000 in
theorem varint_calls' (A : Option Addr) (n c : Nat) (bs rest : List Int) (x : Int) (w : World) (hC : (Kd.int .u8).C w A n bs) (hc : n ≤ c) (hn : n ≤ 2147483647) (hb : bs = varL (zz x) ++ rest) (hx0 : -9223372036854775808 ≤ x) (hx1 : x ≤ 9223372036854775807) :
    Calls Tryd.prog 152 #[.slice A n c] w fun e w' => e = .returned (.tuple #[.int .i64 x, .int .i64 ((varL (zz x)).length : Int)]) ∧ w = w' := by
  have HPU := Aside0.mk (uvarint_calls A n c bs rest (zz x) w hC hc hn hb (zz_lt x hx0 hx1))
  obtain ⟨L, hL⟩ : ∃ L, (varL (zz x)).length = L := ⟨_, rfl⟩
  rw [hL] at HPU ⊢
  clear hC hb hL
  by_cases c0 : x < 0
  · have hz := zz_half_neg x c0
    obtain ⟨Z, hZ⟩ : ∃ Z, zz x = Z := ⟨_, rfl⟩
    rw [hZ] at HPU hz
    have qand : bits .and .u64 (Z : Int) 1 = 1 := by
      rw [show (1 : Int) = ((2 ^ 1 - 1 : Nat) : Int) by decide, u64_and_nat _ _ (by omega) (by decide), Nat.and_two_pow_sub_one_eq_mod]; omega
    have qh : (Z : Int) / 2 = -x - 1 := by omega
    have qw : IntKind.i64.wrap (-x - 1) = -x - 1 := IntWalk.i64_in _ (by omega)
    have qn : bits .xor .i64 (-1) (-x - 1) = x := by
      obtain ⟨a, ha⟩ : ∃ a : Nat, -x - 1 = (a : Int) := ⟨(-x - 1).toNat, by omega⟩
      rw [ha, xor_m1_i64 a (by omega)]; omega
    clear hz hZ
    go_enter Tryd.func152, Tryd.ntmps152
    go_wp2_with (first
      | (go_at_call 117; go_loud (with_reducible refine HPU.out.mono ?_); rintro e w2 ⟨rfl, rfl⟩))
    go_ret2
    exact ⟨rfl, rfl⟩
  · have hz := zz_half_pos x (by omega)
    obtain ⟨Z, hZ⟩ : ∃ Z, zz x = Z := ⟨_, rfl⟩
    rw [hZ] at HPU hz
    have qand : bits .and .u64 (Z : Int) 1 = 0 := by
      rw [show (1 : Int) = ((2 ^ 1 - 1 : Nat) : Int) by decide, u64_and_nat _ _ (by omega) (by decide), Nat.and_two_pow_sub_one_eq_mod]; omega
    have qh : (Z : Int) / 2 = x := by omega
    have qw : IntKind.i64.wrap x = x := IntWalk.i64_in _ (by omega)
    clear hz hZ
    go_enter Tryd.func152, Tryd.ntmps152
    go_wp2_with (first
      | (go_at_call 117; go_loud (with_reducible refine HPU.out.mono ?_); rintro e w2 ⟨rfl, rfl⟩))
    go_ret2
    exact ⟨rfl, rfl⟩
set_option maxHeartbeats 4000000 in
theorem varintCut_calls (A : Option Addr) (n c : Nat) (bs : List Int) (w : World) (hC : (Kd.int .u8).C w A n bs) (hc : n ≤ c) (hn : n ≤ 9) (hb : ∀ j : Nat, j < n → 128 ≤ rd bs (j : Nat) ∧ rd bs (j : Nat) < 256) :
    Calls Tryd.prog 152 #[.slice A n c] w fun e w' => e = .returned (.tuple #[.int .i64 0, .int .i64 0]) ∧ w = w' := by
  have HPU := Aside0.mk (uvarintCut_calls A n c bs w hC hc hn hb)
  clear hC hb
  go_enter Tryd.func152, Tryd.ntmps152
  go_wp2_with (first
    | (go_at_call 117; go_loud (with_reducible refine HPU.out.mono ?_); rintro e w2 ⟨rfl, rfl⟩))
  go_ret2
  exact ⟨rfl, rfl⟩
set_option maxHeartbeats 4000000 in
set_option maxRecDepth 100000 in
theorem readVarint_calls (A : Option Addr) (n c : Nat) (bs rest : List Int) (x : Nat) (w : World) (hC : (Kd.int .u8).C w A n bs) (hc : n ≤ c) (hn : n ≤ 2147483647) (hb : bs = varL x ++ rest) (hx : x < 18446744073709551616) :
    Calls Tryd.prog 97 #[.slice A n c] w fun e w' => ∃ A' c', e = .returned (.tuple #[.int .u64 x, .slice A' rest.length c', .bool true]) ∧ rest.length ≤ c' ∧ (∀ W, (Kd.int .u8).C W A n bs → (Kd.int .u8).C W A' rest.length rest) ∧ Drawn0 w w' := by
  have HLN : Aside0 (bs.length = n) := ⟨hC.1⟩
  have HLB : Aside0 ((varL x).length + rest.length = n) := ⟨by rw [← hC.1, hb, List.length_append]⟩
  have HC := Aside0.mk hC
  have HBB := Aside0.mk hb
  obtain ⟨i8, h8⟩ := h8
  clear hC hb
  go_enter Tryd.func97, Tryd.ntmps97
  go_wp2_with (fail)
  go_loopg [5, 6, 7, 10] n (fun kq v5 v6 v7 v10 w' => ∃ (y i acc : Nat), v5 = .int .u64 acc ∧ v10 = .int .i64 i ∧ i ≤ 9 ∧ Aside0 (acc + y * 2 ^ (7 * i) = x) ∧ Aside0 (acc < 2 ^ (7 * i)) ∧ Aside0 (bs.drop i = varL y ++ rest) ∧ Aside0 (i + (varL y).length = (varL x).length) ∧ w = w' ∧ Aside0 (n - i ≤ kq))
  case atStart => exact ⟨x, 0, 0, rfl, rfl, by omega, ⟨by simp⟩, ⟨by simp⟩, ⟨by rw [List.drop_zero]; exact HBB.out⟩, ⟨by omega⟩, rfl, ⟨by omega⟩⟩
  case round =>
    obtain ⟨y, i, acc, rfl, rfl, hi4, HX, HAC, HD, HL, rfl, HK⟩ := hrel
    have hpos := varL_pos y
    have hin : i < n := by have h1 := HL.out; have h2 := HLB.out; omega
    have qin : decide ((i : Int) < n) = true := decide_eq_true (by omega)
    obtain ⟨ad, ead, hcell⟩ := Kd.at_int HC.out (i : Int) (by omega) (by omega)
    rw [Int.toNat_natCast, varL_head bs rest i y HD.out] at hcell
    have qi10 : ((i : Int) == 10) = false := by rw [beq_eq_false_iff_ne]; omega
    subst ead
    have hacc := HAC.out
    have hacc9 : acc < 18446744073709551616 := by have := HX.out; have := Nat.le_add_right acc (y * 2 ^ (7 * i)); omega
    have hy9 : y * 2 ^ (7 * i) < 18446744073709551616 := by have := HX.out; omega
    obtain ⟨s, hs⟩ : ∃ s, 7 * i = s := ⟨_, rfl⟩
    have hsI : (7 : Int) * (i : Int) = (s : Int) := by omega
    have hs28 : s ≤ 63 := by omega
    by_cases cy : y < 128
    · rw [if_pos cy] at hcell
      have qy : decide ((y : Int) < 128) = true := decide_eq_true (by omega)
      have qy2 : decide (y < 128) = true := decide_eq_true cy
      have hand : bits .and .u8 (y : Int) 127 = (y : Int) := by
        rw [show (127 : Int) = ((2 ^ 7 - 1 : Nat) : Int) by decide, u8_and_nat _ _ (by omega) (by decide), Nat.and_two_pow_sub_one_eq_mod]
        congr 1; omega
      have HOR := or_high' acc y (7 * i) hacc hacc9 hy9
      rw [hs] at HOR
      have HLY : Aside0 ((varL x).length = i + 1) := ⟨by rw [← HL.out, varL_lo cy]; rfl⟩
      have hR : n - (i + 1) = rest.length := by have h1 := HLB.out; have h2 := HLY.out; omega
      obtain ⟨A1, cut1, hC1⟩ := cutLo (P := Tryd.prog) 29 5 Tryd.underlying29 h8.1 h8.2 (some ad) n c .i64 ((i : Int) + 1) (i + 1) (by omega) (by omega) hc
      have hdr : bs.drop (i + 1) = rest := by
        rw [HBB.out, List.drop_left' HLY.out]
      have HC1 : Aside0 (∀ W, (Kd.int .u8).C W (some ad) n bs → (Kd.int .u8).C W A1 rest.length rest) := ⟨fun W h => by have := hC1 _ W bs rfl h; rw [hdr, hR] at this; exact this⟩
      rw [hR] at cut1
      have HXX : Aside0 (((acc + y * 2 ^ s : Nat) : Int) = (x : Int)) := ⟨by rw [← hs, HX.out]⟩
      have hrc : rest.length ≤ c - (i + 1) := by omega
      have h10 := last10 acc y i x hx HX.out
      have hyw : (y : Int) % 18446744073709551616 = (y : Int) := by omega
      clear hC1 hdr hR
      by_cases c9 : i = 9
      · have qi9 : ((i : Int) == 9) = true := by rw [beq_iff_eq]; omega
        have qy1 : decide (1 < (y : Int)) = false := decide_eq_false (by have := h10 c9; omega)
        have qy3 : decide (1 < y) = false := decide_eq_false (by have := h10 c9; omega)
        clear h10 c9
        go_wp2_with (first | (go_quiet (fail)))
        go_ret3
        refine ⟨A1, c - (i + 1), ?_, hrc, HC1.out, ⟨nq, rfl⟩⟩
        show Ending.returned (Value.tuple #[Value.int IntKind.u64 ((acc : Int) + (y : Int) * 2 ^ s), Value.slice A1 rest.length (c - (i + 1)), Value.bool true]) = _
        rw [← HXX.out]; push_cast; rfl
      · have qi9 : ((i : Int) == 9) = false := by rw [beq_eq_false_iff_ne]; omega
        clear h10 c9
        go_wp2_with (first | (go_quiet (fail)))
        go_ret3
        refine ⟨A1, c - (i + 1), ?_, hrc, HC1.out, ⟨nq, rfl⟩⟩
        show Ending.returned (Value.tuple #[Value.int IntKind.u64 ((acc : Int) + (y : Int) * 2 ^ s), Value.slice A1 rest.length (c - (i + 1)), Value.bool true]) = _
        rw [← HXX.out]; push_cast; rfl
    · rw [if_neg cy] at hcell
      have qy : decide (((y % 128 + 128 : Nat) : Int) < 128) = false := decide_eq_false (by omega)
      have qy2 : decide (y % 128 + 128 < 128) = false := decide_eq_false (by omega)
      have hand := and127 y
      have ht := varL_tail bs rest i y HD.out cy
      have hs5 := small10 acc y i x hx HX.out hi4 cy
      have qi9 : ((i : Int) == 9) = false := by rw [beq_eq_false_iff_ne]; omega
      have hlz : (varL y).length = (varL (y / 128)).length + 1 := by rw [varL_hi cy]; rfl
      obtain ⟨z, hz⟩ : ∃ z, y % 128 = z := ⟨_, rfl⟩
      have hzy : y = 128 * (y / 128) + z := by omega
      have hz9 : z < 128 := by omega
      rw [hz] at hcell qy qy2 hand
      obtain ⟨t, ht2⟩ : ∃ t, z + 128 = t := ⟨_, rfl⟩
      rw [ht2] at hcell qy qy2 hand
      have hzx : z * 2 ^ (7 * i) ≤ y * 2 ^ (7 * i) := Nat.mul_le_mul_right _ (by omega)
      have HOR := Aside0.mk (or_high' acc z (7 * i) hacc hacc9 (Nat.lt_of_le_of_lt hzx hy9))
      rw [hs] at HOR
      have HT := Aside0.mk ht
      have HLZ := Aside0.mk hlz
      have HZY := Aside0.mk hzy
      clear ht hlz hzy hzx hz hy9
      go_wp2_with (fail)
      rw [HOR.out]
      go_roundg (gk - 1)
      case measure => have := HK.out; omega
      case rel =>
        have e1 : 2 ^ (7 * (i + 1)) = 128 * 2 ^ (7 * i) := by rw [Nat.mul_add, Nat.pow_add]; omega
        have e2 : z * 2 ^ (7 * i) + 2 ^ (7 * i) ≤ 128 * 2 ^ (7 * i) := by rw [← Nat.succ_mul]; exact Nat.mul_le_mul_right _ hz9
        refine ⟨y / 128, i + 1, acc + z * 2 ^ s, rfl, by go_num, by omega, ⟨?_⟩, ⟨by rw [e1, ← hs]; omega⟩, HT, ⟨by have := HL.out; have := HLZ.out; omega⟩, rfl, ⟨by have := HK.out; omega⟩⟩
        have h := HX.out
        conv at h => lhs; rw [HZY.out]
        rw [e1, ← hs, ← h, Nat.add_mul, ← Nat.mul_assoc, Nat.mul_comm (y / 128) 128]
        omega
end Go.Proofs.YtigmcdpjlkgocaaDoor.Duv

/-! Numbers of so many bits, unpacked bit by bit. -/
namespace Go.Proofs.YtigmcdpjlkgocaaDoor.Dun
open Go.Proofs.YtigmcdpjlkgocaaDoor.Duv Go.Proofs.YtigmcdpjlkgocaaDoor.Dpu Go.Proofs.YtigmcdpjlkgocaaDoor.Pak Go.Proofs.YtigmcdpjlkgocaaDoor.Buf Go.Proofs.YtigmcdpjlkgocaaDoor.Fit Go.Proofs.YtigmcdpjlkgocaaDoor.Bit Go.Proofs.YtigmcdpjlkgocaaDoor.Wrd Go.Proofs.YtigmcdpjlkgocaaDoor.Spl Go.Proofs.YtigmcdpjlkgocaaDoor.Str Go.Proofs.YtigmcdpjlkgocaaDoor.Flt Go.Proofs.YtigmcdpjlkgocaaDoor.Owe Go.Proofs.YtigmcdpjlkgocaaDoor.Num Go.Proofs.YtigmcdpjlkgocaaDoor.Le Go.Proofs.YtigmcdpjlkgocaaDoor.Lst Go.Proofs.YtigmcdpjlkgocaaDoor.Aid Go.RowKit Go.Proofs.YtigmcdpjlkgocaaDoorW.PrintWords Go.Proofs.YtigmcdpjlkgocaaDoorW.PrintLast Go.Proofs.YtigmcdpjlkgocaaDoorW.PrintMore
set_option linter.unusedVariables false
set_option linter.unusedSimpArgs false
theorem byteN (bs : List Int) (hb : bytesB bs = true) (i : Nat) : ∃ a : Nat, rd bs (i : Nat) = (a : Int) ∧ a < 256 := by
  by_cases h : i < bs.length
  · have := bytesB_rd hb (i := (i : Int)) (k := i) rfl h
    unfold byt at this
    exact ⟨(rd bs (i : Nat)).toNat, by omega, by omega⟩
  · refine ⟨0, ?_, by omega⟩
    unfold rd
    rw [Int.toNat_natCast, List.getD_eq_getElem?_getD, List.getElem?_eq_none (by omega)]; rfl
theorem bitsN_high (g : Nat → Bool) (k : Nat) : bitsN g (k + 1) = bitsN g k + (g k).toNat * 2 ^ k := by
  symm
  have hlt := bitsN_lt k g
  refine eq_bitsN ?_ fun q hq => ?_
  · rw [Nat.pow_succ]; cases g k <;> simp <;> omega
  · rw [Nat.add_comm, Nat.mul_comm, Nat.testBit_two_pow_mul_add _ hlt]
    by_cases h : q < k
    · rw [if_pos h, bitsN_testBit, decide_eq_true h, Bool.true_and]
    · rw [if_neg h]
      obtain rfl : q = k := by omega
      rw [Nat.sub_self]
      cases g q <;> simp
theorem bit_and1 (y r : Nat) (hy : y < 256) : bits .and .u8 ((y : Int) / 2 ^ r) 1 = (((y.testBit r).toNat : Nat) : Int) := by
  have e : (y : Int) / 2 ^ r = ((y / 2 ^ r : Nat) : Int) := by push_cast; rfl
  rw [e, show (1 : Int) = ((2 ^ 1 - 1 : Nat) : Int) by decide, u8_and_nat _ _ (Nat.lt_of_le_of_lt (Nat.div_le_self _ _) hy) (by decide), Nat.and_two_pow_sub_one_eq_mod]
  congr 1
  rw [Nat.testBit_eq_decide_div_mod_eq]
  have := Nat.mod_lt (y / 2 ^ r) (show 0 < 2 by omega)
  rw [Nat.pow_one]
  rcases (show y / 2 ^ r % 2 = 0 ∨ y / 2 ^ r % 2 = 1 by omega) with h | h <;> simp [h]
theorem or_high32 (acc b s : Nat) (h : acc < 2 ^ s) (h1 : acc < 4294967296) (h2 : b * 2 ^ s < 4294967296) : bits .or .u32 (acc : Int) ((b : Int) * 2 ^ s % 4294967296) = ((acc + b * 2 ^ s : Nat) : Int) := by
  have e : (b : Int) * 2 ^ s = ((b * 2 ^ s : Nat) : Int) := by push_cast; rfl
  rw [e, Int.emod_eq_of_lt (by omega) (by omega), u32_or_nat _ _ h1 h2]
  congr 1
  rw [Nat.or_comm, Nat.mul_comm, ← Nat.two_pow_add_eq_or_of_lt h]
  omega
/-- a packed number, read again -/
theorem valLo_packD (w : Nat) (l : List Int) (k : Nat) (hk : k < l.length) (h8 : l.length % 8 = 0) (hf : fitL w l) : (valLo (packLo w l) w (k * w) : Int) = rd l (k : Nat) := by
  by_cases hw : 0 < w
  · refine valLo_pack w l k hw hk ?_ hf
    obtain ⟨q, hq⟩ : ∃ q, l.length = 8 * q := ⟨l.length / 8, by omega⟩
    rw [hq, Nat.mul_assoc]; omega
  · obtain rfl : w = 0 := by omega
    have hx := hf _ (rd_mem (l := l) (i := k) hk)
    rw [Int.pow_zero] at hx
    show ((bitsN _ 0 : Nat) : Int) = _
    have : bitsN (fun r => bitLo (packLo 0 l) (k * 0 + r)) 0 = 0 := rfl
    rw [this]; omega
/-- numbers of so many bits, as ones with a sign -/
def unpI (k : IntKind) (w cnt : Nat) (bs : List Int) : List Int := (List.range cnt).map fun i => k.wrap (valLo bs w (i * w) : Int)
theorem unpI_succ (k : IntKind) (w cnt : Nat) (bs : List Int) : unpI k w (cnt + 1) bs = unpI k w cnt bs ++ [k.wrap (valLo bs w (cnt * w) : Int)] := by
  simp [unpI, List.range_succ]
theorem unpI_length (k : IntKind) (w cnt : Nat) (bs : List Int) : (unpI k w cnt bs).length = cnt := by simp [unpI]
theorem unpI_pack (k : IntKind) (w cnt : Nat) (l : List Int) (hc : cnt ≤ l.length) (h8 : l.length % 8 = 0) (hf : fitL w l) : unpI k w cnt (packLo w l) = (l.take cnt).map k.wrap := by
  apply List.ext_getElem
  · simp [unpI]; omega
  · intro i h1 h2
    rw [unpI_length] at h1
    have := valLo_packD w l i (by omega) h8 hf
    rw [rd_nat _ _ (by omega)] at this
    simp only [unpI, List.getElem_map, List.getElem_range, List.getElem_take]
    rw [this]
def unpL (w cnt : Nat) (bs : List Int) : List Int := (List.range cnt).map fun i => (valLo bs w (i * w) : Int)
theorem unpL_length (w cnt : Nat) (bs : List Int) : (unpL w cnt bs).length = cnt := by simp [unpL]
theorem unpL_pack (w : Nat) (l : List Int) (h8 : l.length % 8 = 0) (hf : fitL w l) : unpL w l.length (packLo w l) = l := by
  apply List.ext_getElem
  · simp [unpL]
  · intro i h1 h2
    have := valLo_packD w l i h2 h8 hf
    rw [rd_nat _ _ h2] at this
    simp only [unpL, List.getElem_map, List.getElem_range]
    exact this
theorem packLo_bytes (w : Nat) (l : List Int) : bytesB (packLo w l) = true := bytesB_of fun x hx => by
  simp only [packLo, bytesLo, List.mem_map] at hx
  obtain ⟨q, _, rfl⟩ := hx
  have := byteLo_lt (bitsLo w l) q
  exact ⟨by omega, by omega⟩
set_option maxHeartbeats 4000000 in
theorem bitAt_calls (A : Option Addr) (n c m : Nat) (bs : List Int) (o : Nat) (w : World) (hC : (Kd.int .u8).C w A m bs) (hmn : m ≤ n) (hn : n ≤ 9223372036854775807) (hb : bytesB bs = true) (ho : o / 8 < m) (ho9 : o ≤ 4611686018427387904) :
    Calls Tryd.prog 137 #[.slice A n c, .int .u64 o] w fun e w' => e = .returned (.int .u64 (((bitLo bs o).toNat : Nat) : Int)) ∧ w = w' := by
  obtain ⟨q, hq⟩ : ∃ q, o / 8 = q := ⟨_, rfl⟩
  obtain ⟨r, hr⟩ : ∃ r, o % 8 = r := ⟨_, rfl⟩
  have hq1 : (o : Int) / 8 = (q : Int) := by omega
  have hr1 : (o : Int) % 8 = (r : Int) := by omega
  have hr8 : r < 8 := by omega
  have hqm : q < m := by omega
  have hqn : q < n := by omega
  obtain ⟨ad, ead, hcell⟩ := Kd.at_int hC (q : Int) (by omega) (by omega)
  obtain ⟨y, hy, hy8⟩ := byteN bs hb q
  rw [Int.toNat_natCast, hy] at hcell
  have hand := bit_and1 y r hy8
  have hbit : bitLo bs o = y.testBit r := by unfold bitLo; rw [hq, hr, hy, Int.toNat_natCast]
  rw [hbit]
  obtain ⟨z, hz⟩ : ∃ z, (y.testBit r).toNat = z := ⟨_, rfl⟩
  rw [hz] at hand ⊢
  have hz2 : z < 2 := by rw [← hz]; cases y.testBit r <;> simp
  have qd : decide ((n : Int) ≤ (q : Int)) = false := decide_eq_false (by omega)
  have qd2 : decide (n ≤ q) = false := decide_eq_false (by omega)
  have hqw : IntKind.i64.wrap (q : Int) = (q : Int) := IntWalk.i64_in _ (by omega)
  subst ead
  clear hC hb hy hz hq hr hbit
  go_enter Tryd.func137, Tryd.ntmps137
  go_wp2_with (fail)
  go_ret
  exact ⟨rfl, rfl⟩
set_option maxHeartbeats 8000000 in
set_option maxRecDepth 100000 in
theorem unpackInt32_calls (g C t cnt c : Nat) (xs zs : List Int) (A : Option Addr) (n' c' m w : Nat) (bs : List Int) (w0 : World) (hF : Front w0 g C t .i32 (xs ++ zs)) (hC : cnt ≤ zs.length) (hcnt : cnt ≤ 2147483647) (hA : ReadKeep w0 g .u8 A m bs) (hmn : m ≤ n') (hn : n' ≤ 9223372036854775807) (hb : bytesB bs = true) (hw : w ≤ 32) (hcw : cnt * w ≤ 8 * m) (hm9 : m ≤ 268435455) :
    Calls Tryd.prog 125 #[.slice (some ⟨g, xs.length, none⟩) cnt c, .slice A n' c', .int .u64 w] w0 fun e w' => e = .returned (.tuple #[]) ∧ Front w' g C t .i32 (xs ++ unpI .i32 w cnt bs ++ zs.drop cnt) ∧ w0.grownBy w' (some g) := by
  have hle := hF.le
  rw [List.length_append] at hle
  have HF := Aside0.mk hF
  have HA := Aside0.mk hA
  have HU := Aside0.mk hb
  have HCW := Aside0.mk hcw
  obtain ⟨o, ho⟩ : ∃ o, xs.length = o := ⟨_, rfl⟩
  have HO := Aside0.mk ho
  rw [ho] at hle ⊢
  clear hF hA hb hcw ho
  go_enter Tryd.func125, Tryd.ntmps125
  go_wp2_with (fail)
  go_loopg [6, 11] cnt (fun kq v6 v11 w' => ∃ (j : Nat), j ≤ cnt ∧ v11 = .int .i64 j ∧ Aside0 (Front w' g C t .i32 (xs ++ unpI .i32 w j bs ++ zs.drop j)) ∧ Aside0 (w0.grownBy w' (some g)) ∧ Aside0 (cnt - j ≤ kq))
  case atStart => exact ⟨0, by omega, rfl, ⟨by simpa [unpI] using HF.out⟩, ⟨grownRefl _ _⟩, ⟨by omega⟩⟩
  case round =>
    obtain ⟨j, hj, rfl, HR, HG, HK⟩ := hrel
    by_cases cj : j < cnt
    · have cjb : decide ((j : Int) < cnt) = true := decide_eq_true (by omega)
      obtain ⟨gk0, rfl⟩ : ∃ gk0, gk = gk0 + 1 := ⟨gk - 1, by have := HK.out; omega⟩
      obtain ⟨jw, hjw⟩ : ∃ jw, j * w = jw := ⟨_, rfl⟩
      have hjwI : (j : Int) * (w : Int) = (jw : Int) := by rw [← hjw]; push_cast; rfl
      have hjw9 : jw + w ≤ 8 * m := by
        have h1 : (j + 1) * w ≤ cnt * w := Nat.mul_le_mul_right w cj
        rw [Nat.succ_mul] at h1
        have := HCW.out; omega
      have HJW := Aside0.mk hjw
      have HCr := Aside0.mk (HA.out wr HG.out)
      clear hjw
      go_wp2_with (fail)
      go_loopg [7, 8] w (fun kq v7 v8 w' => ∃ (k acc : Nat), k ≤ w ∧ v8 = .int .u64 k ∧ v7 = .int .u32 acc ∧ Aside0 (acc = bitsN (fun r => bitLo bs (jw + r)) k) ∧ wr = w' ∧ Aside0 (w - k ≤ kq))
      case atStart => exact ⟨0, 0, by omega, rfl, rfl, ⟨rfl⟩, rfl, ⟨by omega⟩⟩
      case round =>
        obtain ⟨k, acc, hk, rfl, rfl, HACC, rfl, HK2⟩ := hrel
        have hlt := bitsN_lt k (fun r => bitLo bs (jw + r))
        rw [← HACC.out] at hlt
        by_cases ck : k < w
        · have ckb : decide ((k : Int) < (w : Int)) = true := decide_eq_true (by omega)
          have ckb2 : decide (k < w) = true := decide_eq_true ck
          obtain ⟨q, hq⟩ : ∃ q, jw + k = q := ⟨_, rfl⟩
          have hqI : (jw : Int) + (k : Int) = (q : Int) := by omega
          have HBA := Aside0.mk fun W (h : (Kd.int .u8).C W A m bs) => bitAt_calls A n' c' m bs q W h hmn hn HU.out (by omega) (by omega)
          have hsum := bitsN_high (fun r => bitLo bs (jw + r)) k
          rw [← HACC.out] at hsum
          have hsum : bitsN (fun r => bitLo bs (jw + r)) (k + 1) = acc + (bitLo bs q).toNat * 2 ^ k := by rw [← hq]; exact hsum
          obtain ⟨z, hz⟩ : ∃ z, (bitLo bs q).toNat = z := ⟨_, rfl⟩
          have hz2 : z < 2 := by rw [← hz]; cases bitLo bs q <;> simp
          rw [hz] at HBA hsum
          have hp := two_pow_le (show k ≤ 31 by omega)
          have e31 : (2 : Nat) ^ 31 = 2147483648 := by decide
          have hzk : z * 2 ^ k ≤ 2 ^ k := by
            have := Nat.mul_le_mul_right (2 ^ k) (show z ≤ 1 by omega); omega
          have HOR := Aside0.mk (or_high32 acc z k hlt (by omega) (by omega))
          have HSUM := Aside0.mk hsum
          have hacc9 : acc < 4294967296 := by omega
          have hqw : IntKind.u64.wrap (q : Int) = (q : Int) := IntWalk.u64_in _ (by omega)
          have hjww : IntKind.u64.wrap (jw : Int) = (jw : Int) := IntWalk.u64_in _ (by omega)
          clear hz hsum hzk hlt hq
          go_wp2_with (first
            | (go_at_call 137; go_loud (with_reducible refine (HBA.out _ HCr.out).mono ?_); rintro e w1 ⟨rfl, rfl⟩))
          rw [HOR.out]
          go_roundg (gk - 1)
          case measure => have := HK2.out; omega
          case rel => exact ⟨k + 1, acc + z * 2 ^ k, by omega, by go_num, rfl, ⟨HSUM.out.symm⟩, rfl, ⟨by have := HK2.out; omega⟩⟩
        · obtain rfl : k = w := by omega
          have ckb : decide ((k : Int) < (k : Int)) = false := decide_eq_false (by omega)
          obtain ⟨y, hy⟩ : ∃ y, IntKind.i32.wrap (acc : Int) = y := ⟨_, rfl⟩
          have HY : Aside0 (IntKind.i32.wrap (valLo bs k (j * k) : Int) = y) := ⟨by rw [← hy, HACC.out, HJW.out]; rfl⟩
          obtain ⟨z, rc⟩ := HR.out.cell (o + j) (by omega)
          have rf := HR.out.free (o + j)
          have HY2 := Aside0.mk hy
          clear hlt
          go_wp2_with (fail)
          go_roundg gk0
          case measure => omega
          case rel =>
            refine ⟨j + 1, by omega, by go_num, ⟨?_⟩, ⟨grownSet HG.out _ _⟩, ⟨by have := HK.out; omega⟩⟩
            have h := setF HR.out (o + j) (by rw [List.length_append, List.length_append, unpI_length, HO.out, List.length_drop]; omega) y
            rw [setMid xs (unpI .i32 k j bs) zs y o j HO.out (unpI_length _ _ _ _) (by omega), ← HY.out, ← unpI_succ] at h
            rw [HY.out] at h
            exact h
    · obtain rfl : j = cnt := by omega
      have cjb : decide ((j : Int) < j) = false := decide_eq_false (by omega)
      go_wp2_with (fail)
      go_end0
      exact ⟨rfl, HR.out, HG.out⟩
set_option maxHeartbeats 8000000 in
set_option maxRecDepth 100000 in
theorem unpackInt64_calls (g C t cnt c : Nat) (xs zs : List Int) (A : Option Addr) (n' c' m w : Nat) (bs : List Int) (w0 : World) (hF : Front w0 g C t .i64 (xs ++ zs)) (hC : cnt ≤ zs.length) (hcnt : cnt ≤ 2147483647) (hA : ReadKeep w0 g .u8 A m bs) (hmn : m ≤ n') (hn : n' ≤ 9223372036854775807) (hb : bytesB bs = true) (hw : w ≤ 64) (hcw : cnt * w ≤ 8 * m) (hm9 : m ≤ 268435455) :
    Calls Tryd.prog 110 #[.slice (some ⟨g, xs.length, none⟩) cnt c, .slice A n' c', .int .u64 w] w0 fun e w' => e = .returned (.tuple #[]) ∧ Front w' g C t .i64 (xs ++ unpI .i64 w cnt bs ++ zs.drop cnt) ∧ w0.grownBy w' (some g) := by
  have hle := hF.le
  rw [List.length_append] at hle
  have HF := Aside0.mk hF
  have HA := Aside0.mk hA
  have HU := Aside0.mk hb
  have HCW := Aside0.mk hcw
  obtain ⟨o, ho⟩ : ∃ o, xs.length = o := ⟨_, rfl⟩
  have HO := Aside0.mk ho
  rw [ho] at hle ⊢
  clear hF hA hb hcw ho
  go_enter Tryd.func110, Tryd.ntmps110
  go_wp2_with (fail)
  go_loopg [6, 11] cnt (fun kq v6 v11 w' => ∃ (j : Nat), j ≤ cnt ∧ v11 = .int .i64 j ∧ Aside0 (Front w' g C t .i64 (xs ++ unpI .i64 w j bs ++ zs.drop j)) ∧ Aside0 (w0.grownBy w' (some g)) ∧ Aside0 (cnt - j ≤ kq))
  case atStart => exact ⟨0, by omega, rfl, ⟨by simpa [unpI] using HF.out⟩, ⟨grownRefl _ _⟩, ⟨by omega⟩⟩
  case round =>
    obtain ⟨j, hj, rfl, HR, HG, HK⟩ := hrel
    by_cases cj : j < cnt
    · have cjb : decide ((j : Int) < cnt) = true := decide_eq_true (by omega)
      obtain ⟨gk0, rfl⟩ : ∃ gk0, gk = gk0 + 1 := ⟨gk - 1, by have := HK.out; omega⟩
      obtain ⟨jw, hjw⟩ : ∃ jw, j * w = jw := ⟨_, rfl⟩
      have hjwI : (j : Int) * (w : Int) = (jw : Int) := by rw [← hjw]; push_cast; rfl
      have hjw9 : jw + w ≤ 8 * m := by
        have h1 : (j + 1) * w ≤ cnt * w := Nat.mul_le_mul_right w cj
        rw [Nat.succ_mul] at h1
        have := HCW.out; omega
      have HJW := Aside0.mk hjw
      have HCr := Aside0.mk (HA.out wr HG.out)
      clear hjw
      go_wp2_with (fail)
      go_loopg [7, 8] w (fun kq v7 v8 w' => ∃ (k acc : Nat), k ≤ w ∧ v8 = .int .u64 k ∧ v7 = .int .u64 acc ∧ Aside0 (acc = bitsN (fun r => bitLo bs (jw + r)) k) ∧ wr = w' ∧ Aside0 (w - k ≤ kq))
      case atStart => exact ⟨0, 0, by omega, rfl, rfl, ⟨rfl⟩, rfl, ⟨by omega⟩⟩
      case round =>
        obtain ⟨k, acc, hk, rfl, rfl, HACC, rfl, HK2⟩ := hrel
        have hlt := bitsN_lt k (fun r => bitLo bs (jw + r))
        rw [← HACC.out] at hlt
        by_cases ck : k < w
        · have ckb : decide ((k : Int) < (w : Int)) = true := decide_eq_true (by omega)
          have ckb2 : decide (k < w) = true := decide_eq_true ck
          obtain ⟨q, hq⟩ : ∃ q, jw + k = q := ⟨_, rfl⟩
          have hqI : (jw : Int) + (k : Int) = (q : Int) := by omega
          have HBA := Aside0.mk fun W (h : (Kd.int .u8).C W A m bs) => bitAt_calls A n' c' m bs q W h hmn hn HU.out (by omega) (by omega)
          have hsum := bitsN_high (fun r => bitLo bs (jw + r)) k
          rw [← HACC.out] at hsum
          have hsum : bitsN (fun r => bitLo bs (jw + r)) (k + 1) = acc + (bitLo bs q).toNat * 2 ^ k := by rw [← hq]; exact hsum
          obtain ⟨z, hz⟩ : ∃ z, (bitLo bs q).toNat = z := ⟨_, rfl⟩
          have hz2 : z < 2 := by rw [← hz]; cases bitLo bs q <;> simp
          rw [hz] at HBA hsum
          have hp := two_pow_le (show k ≤ 63 by omega)
          have e31 : (2 : Nat) ^ 63 = 9223372036854775808 := by decide
          have hzk : z * 2 ^ k ≤ 2 ^ k := by
            have := Nat.mul_le_mul_right (2 ^ k) (show z ≤ 1 by omega); omega
          have HOR := Aside0.mk (or_high' acc z k hlt (by omega) (by omega))
          have HSUM := Aside0.mk hsum
          have hacc9 : acc < 18446744073709551616 := by omega
          have hqw : IntKind.u64.wrap (q : Int) = (q : Int) := IntWalk.u64_in _ (by omega)
          have hjww : IntKind.u64.wrap (jw : Int) = (jw : Int) := IntWalk.u64_in _ (by omega)
          clear hz hsum hzk hlt hq
          go_wp2_with (first
            | (go_at_call 137; go_loud (with_reducible refine (HBA.out _ HCr.out).mono ?_); rintro e w1 ⟨rfl, rfl⟩))
          rw [HOR.out]
          go_roundg (gk - 1)
          case measure => have := HK2.out; omega
          case rel => exact ⟨k + 1, acc + z * 2 ^ k, by omega, by go_num, rfl, ⟨HSUM.out.symm⟩, rfl, ⟨by have := HK2.out; omega⟩⟩
        · obtain rfl : k = w := by omega
          have ckb : decide ((k : Int) < (k : Int)) = false := decide_eq_false (by omega)
          obtain ⟨y, hy⟩ : ∃ y, IntKind.i64.wrap (acc : Int) = y := ⟨_, rfl⟩
          have HY : Aside0 (IntKind.i64.wrap (valLo bs k (j * k) : Int) = y) := ⟨by rw [← hy, HACC.out, HJW.out]; rfl⟩
          obtain ⟨z, rc⟩ := HR.out.cell (o + j) (by omega)
          have rf := HR.out.free (o + j)
          have HY2 := Aside0.mk hy
          clear hlt
          go_wp2_with (fail)
          go_roundg gk0
          case measure => omega
          case rel =>
            refine ⟨j + 1, by omega, by go_num, ⟨?_⟩, ⟨grownSet HG.out _ _⟩, ⟨by have := HK.out; omega⟩⟩
            have h := setF HR.out (o + j) (by rw [List.length_append, List.length_append, unpI_length, HO.out, List.length_drop]; omega) y
            rw [setMid xs (unpI .i64 k j bs) zs y o j HO.out (unpI_length _ _ _ _) (by omega), ← HY.out, ← unpI_succ] at h
            rw [HY.out] at h
            exact h
    · obtain rfl : j = cnt := by omega
      have cjb : decide ((j : Int) < j) = false := decide_eq_false (by omega)
      go_wp2_with (fail)
      go_end0
      exact ⟨rfl, HR.out, HG.out⟩
set_option maxHeartbeats 8000000 in
set_option maxRecDepth 100000 in
theorem unpackLow_calls (A : Option Addr) (n c w cnt : Nat) (bs : List Int) (W : World) (hC : (Kd.int .u8).C W A n bs) (hc : n ≤ c) (hn : n ≤ 268435455) (hb : bytesB bs = true) (hw : w ≤ 64) (hcw : cnt * w ≤ 8 * n) (hcnt : cnt ≤ 2147483647) :
    Calls Tryd.prog 99 #[.int .i64 w, .int .i64 cnt, .slice A n c] W fun e w' => ∃ v, e = .returned v ∧ Own w' W.heap.size 71 .u64 v (unpL w cnt bs) ∧ Below W.heap.size W w' := by
  have HC := Aside0.mk hC
  have HU := Aside0.mk hb
  have HCW := Aside0.mk hcw
  have hmk := print_make (P := Tryd.prog) 74 71 .u64 8 Tryd.underlying74 infoU64 (by decide) cnt (by omega)
  clear hC hb hcw
  go_enter Tryd.func99, Tryd.ntmps99
  go_wp2_with (fail)
  obtain ⟨f, hf⟩ : ∃ f : Nat → Int, (fun i => (valLo bs w (i * w) : Int)) = f := ⟨_, rfl⟩
  have HF := Aside0.mk hf
  have HR : Aside0 (Row (W.alloc (.cells (madeCells #[.int .u64 0] cnt) 71)) W.heap.size 71 .u64 (partI f cnt 0)) := ⟨by rw [partI_zero]; exact madeRow W 71 .u64 cnt⟩
  have HB : Aside0 (Below W.heap.size W (W.alloc (.cells (madeCells #[.int .u64 0] cnt) 71))) := ⟨(Below.refl _ _).alloc (Nat.le_refl _) _⟩
  generalize W.alloc (.cells (madeCells #[.int .u64 0] cnt) 71) = wm at *
  clear hmk hf
  go_loopg [8, 15] cnt (fun kq v8 v15 w' => ∃ (j : Nat), j ≤ cnt ∧ v15 = .int .i64 j ∧ Aside0 (Row w' W.heap.size 71 .u64 (partI f cnt j)) ∧ Aside0 (Below W.heap.size W w') ∧ Aside0 (cnt - j ≤ kq))
  case atStart => exact ⟨0, by omega, rfl, HR, HB, ⟨by omega⟩⟩
  case round =>
    clear HR HB
    obtain ⟨j, hj, rfl, HR, HB, HK⟩ := hrel
    by_cases cj : j < cnt
    · have cjb : decide ((j : Int) < cnt) = true := decide_eq_true (by omega)
      obtain ⟨gk0, rfl⟩ : ∃ gk0, gk = gk0 + 1 := ⟨gk - 1, by have := HK.out; omega⟩
      obtain ⟨jw, hjw⟩ : ∃ jw, j * w = jw := ⟨_, rfl⟩
      have hjwI : (j : Int) * (w : Int) = (jw : Int) := by rw [← hjw]; push_cast; rfl
      have hjw9 : jw + w ≤ 8 * n := by
        have h1 : (j + 1) * w ≤ cnt * w := Nat.mul_le_mul_right w cj
        rw [Nat.succ_mul] at h1
        have := HCW.out; omega
      have HJW := Aside0.mk hjw
      have HR0 : Aside0 (Row wr W.heap.size 71 .u64 ((partI f cnt j).set j ((bitsN (fun r => bitLo bs (jw + r)) 0 : Nat) : Int))) := ⟨by
        have e : (partI f cnt j).set j ((bitsN (fun r => bitLo bs (jw + r)) 0 : Nat) : Int) = partI f cnt j := by
          apply rd_ext
          · simp
          · intro i hi
            rw [List.length_set, partI_length] at hi
            rw [rd_set _ _ _ _ (by rw [partI_length]; omega)]
            by_cases h : i = j
            · subst h; rw [if_pos rfl, rd_partI _ _ _ _ hi, if_neg (by omega)]; rfl
            · rw [if_neg h]
        rw [e]; exact HR.out⟩
      clear hjw
      go_wp2_with (fail)
      go_loopg [9, 10, 19] w (fun kq v9 v10 v19 w' => ∃ (k : Nat), k ≤ w ∧ v19 = .int .i64 k ∧ Aside0 (Row w' W.heap.size 71 .u64 ((partI f cnt j).set j ((bitsN (fun r => bitLo bs (jw + r)) k : Nat) : Int))) ∧ Aside0 (Below W.heap.size W w') ∧ Aside0 (w - k ≤ kq))
      case atStart => exact ⟨0, by omega, rfl, HR0, HB, ⟨by omega⟩⟩
      case round =>
        clear HR HB HR0
        obtain ⟨k, hk, rfl, HR, HB, HK2⟩ := hrel
        by_cases ck : k < w
        · have ckb : decide ((k : Int) < w) = true := decide_eq_true (by omega)
          obtain ⟨o, ho⟩ : ∃ o, jw + k = o := ⟨_, rfl⟩
          have hoI : (jw : Int) + (k : Int) = (o : Int) := by omega
          obtain ⟨q, hq⟩ : ∃ q, o / 8 = q := ⟨_, rfl⟩
          obtain ⟨r, hr⟩ : ∃ r, o % 8 = r := ⟨_, rfl⟩
          have hq1 : (o : Int) / 8 = (q : Int) := by omega
          have hq2 : (o : Int).tdiv 8 = (q : Int) := by rw [Int.tdiv_eq_ediv_of_nonneg (by omega)]; exact hq1
          have hr1 : (o : Int) % 8 = (r : Int) := by omega
          have hr2 : (o : Int).tmod 8 = (r : Int) := by rw [Int.tmod_eq_emod_of_nonneg (by omega)]; exact hr1
          have hr8 : r < 8 := by omega
          have hqw : IntKind.i64.wrap (q : Int) = (q : Int) := IntWalk.i64_in _ (by omega)
          have hqn : q < n := by omega
          obtain ⟨ad, ead, hcell⟩ := Kd.at_int (Kd.C_below HC.out HB.out) (q : Int) (by omega) (by omega)
          obtain ⟨y, hy, hy8⟩ := byteN bs HU.out q
          rw [Int.toNat_natCast, hy] at hcell
          have hand := bit_and1 y r hy8
          have hbit : bitLo bs o = y.testBit r := by unfold bitLo; rw [hq, hr, hy, Int.toNat_natCast]
          obtain ⟨z, hz⟩ : ∃ z, (y.testBit r).toNat = z := ⟨_, rfl⟩
          rw [hz] at hand
          have hz2 : z < 2 := by rw [← hz]; cases y.testBit r <;> simp
          have hsum := bitsN_high (fun r => bitLo bs (jw + r)) k
          have hlt := bitsN_lt k (fun r => bitLo bs (jw + r))
          rw [ho, hbit, hz] at hsum
          have rc := HR.out.cell (j := j) (by rw [List.length_set, partI_length]; exact cj)
          have rf := HR.out.free j
          rw [rd_set _ _ _ _ (by rw [partI_length]; exact cj), if_pos rfl] at rc
          obtain ⟨acc, hacc⟩ : ∃ acc, bitsN (fun r => bitLo bs (jw + r)) k = acc := ⟨_, rfl⟩
          rw [hacc] at rc hsum hlt
          have hp := two_pow_le (show k ≤ 63 by omega)
          have e31 : (2 : Nat) ^ 63 = 9223372036854775808 := by decide
          have hzk : z * 2 ^ k ≤ 2 ^ k := by
            have := Nat.mul_le_mul_right (2 ^ k) (show z ≤ 1 by omega); omega
          have HOR := Aside0.mk (or_high' acc z k hlt (by omega) (by omega))
          have HSUM := Aside0.mk hsum
          have qi1 : (j < cnt) = True := eq_true cj
          have qi2 : ((j : Int) < (cnt : Int)) = True := eq_true (by omega)
          have qi3 : (0 ≤ (j : Int)) = True := eq_true (by omega)
          have qi4 : (q < n) = True := eq_true hqn
          have qi5 : ((q : Int) < (n : Int)) = True := eq_true (by omega)
          have qi6 : (0 ≤ (q : Int)) = True := eq_true (by omega)
          have qi7 : (0 ≤ (r : Int)) = True := eq_true (by omega)
          have qi8 : (0 ≤ (k : Int)) = True := eq_true (by omega)
          subst ead
          clear hy hz hacc hsum hq hr hbit hzk
          go_wp2_with (fail)
          refine region_tail 17 (by kernel_rfl) (by kernel_rfl) ?_
          simp only [List.take_succ_cons, List.take_zero, List.drop_succ_cons, List.drop_zero]
          repeat (quiet_step ((fail)))
          refine wpQuiet_nil ?_
          rintro _ ⟨nq, rfl⟩
          go_wp2_with (fail)
          rw [HOR.out]
          go_roundg (gk - 1)
          case measure => have := HK2.out; omega
          case rel =>
            refine ⟨k + 1, by omega, by go_num, ⟨?_⟩, ⟨Below.setCell (p := ⟨W.heap.size, j, none⟩) (HB.out.trans ((drewN_below wr nq).mono HB.out.size)) (Nat.le_refl _) _⟩, ⟨by have := HK2.out; omega⟩⟩
            have h := (HR.out.drewN nq).set j ((acc + z * 2 ^ k : Nat) : Int)
            rw [List.set_set, ← HSUM.out] at h
            rw [← HSUM.out]
            exact h
        · obtain rfl : k = w := by omega
          have ckb : decide ((k : Int) < k) = false := decide_eq_false (by omega)
          go_wp2_with (fail)
          go_roundg gk0
          case measure => omega
          case rel =>
            refine ⟨j + 1, by omega, by go_num, ⟨?_⟩, HB, ⟨by have := HK.out; omega⟩⟩
            have h := HR.out
            have e : ((bitsN (fun r => bitLo bs (jw + r)) k : Nat) : Int) = f j := by rw [← HF.out, ← HJW.out]; rfl
            rw [e, partI_set] at h
            exact h
    · obtain rfl : j = cnt := by omega
      have cjb : decide ((j : Int) < j) = false := decide_eq_false (by omega)
      go_wp2_with (fail)
      go_ret
      have := HR.out.toOwn (base := W.heap.size) (n := j) (Nat.le_refl _) (by rw [partI_length]; omega) (by rw [partI_length]; omega)
      rw [partI_length, partI_full, ← HF.out, List.take_of_length_le (by simp)] at this
      exact ⟨_, rfl, this, HB.out⟩
end Go.Proofs.YtigmcdpjlkgocaaDoor.Dun

/-! The decoder of differences: heads, sums. -/
namespace Go.Proofs.YtigmcdpjlkgocaaDoor.Dhr
open Go.Proofs.YtigmcdpjlkgocaaDoor.Dun Go.Proofs.YtigmcdpjlkgocaaDoor.Duv Go.Proofs.YtigmcdpjlkgocaaDoor.Dst Go.Proofs.YtigmcdpjlkgocaaDoor.Deo Go.Proofs.YtigmcdpjlkgocaaDoor.Den Go.Proofs.YtigmcdpjlkgocaaDoor.Deb Go.Proofs.YtigmcdpjlkgocaaDoor.Drx Go.Proofs.YtigmcdpjlkgocaaDoor.Dds Go.Proofs.YtigmcdpjlkgocaaDoor.Dbw Go.Proofs.YtigmcdpjlkgocaaDoor.Dbk Go.Proofs.YtigmcdpjlkgocaaDoor.Dhd Go.Proofs.YtigmcdpjlkgocaaDoor.Dgr Go.Proofs.YtigmcdpjlkgocaaDoor.Dpu Go.Proofs.YtigmcdpjlkgocaaDoor.Pak Go.Proofs.YtigmcdpjlkgocaaDoor.Buf Go.Proofs.YtigmcdpjlkgocaaDoor.Fit Go.Proofs.YtigmcdpjlkgocaaDoor.Bit Go.Proofs.YtigmcdpjlkgocaaDoor.Wrd Go.Proofs.YtigmcdpjlkgocaaDoor.Spl Go.Proofs.YtigmcdpjlkgocaaDoor.Str Go.Proofs.YtigmcdpjlkgocaaDoor.Flt Go.Proofs.YtigmcdpjlkgocaaDoor.Owe Go.Proofs.YtigmcdpjlkgocaaDoor.Num Go.Proofs.YtigmcdpjlkgocaaDoor.Le Go.Proofs.YtigmcdpjlkgocaaDoor.Lst Go.Proofs.YtigmcdpjlkgocaaDoor.Aid Go.RowKit Go.Proofs.YtigmcdpjlkgocaaDoorW.PrintWords Go.Proofs.YtigmcdpjlkgocaaDoorW.PrintLast Go.Proofs.YtigmcdpjlkgocaaDoorW.PrintMore
set_option linter.unusedVariables false
set_option linter.unusedSimpArgs false
theorem infoI64d : (Tryd.prog.info? 2).map (fun i => (i.zero, i.size, i.bytes)) = some (some (.int .i64 0), 1, 8) := by kernel_rfl
theorem infoI32d : (Tryd.prog.info? 21).map (fun i => (i.zero, i.size, i.bytes)) = some (some (.int .i32 0), 1, 4) := by kernel_rfl
theorem walkV_wrap32 (m : Int) : ∀ (ns : List Int) (last : Int), walkV .i32 (IntKind.i32.wrap m) last (ns.map IntKind.i32.wrap) = walkV .i32 m last ns
  | [], _ => rfl
  | n :: ns, last => by
    have e : IntKind.i32.wrap (last + IntKind.i32.wrap m + IntKind.i32.wrap n) = IntKind.i32.wrap (last + m + n) := by
      rw [IntKind.wrap_i32, IntKind.wrap_i32, IntKind.wrap_i32, IntKind.wrap_i32]; omega
    show IntKind.i32.wrap _ :: _ = _ :: _
    rw [e, walkV_wrap32 m ns]
theorem walkV_wrap64 (m : Int) : ∀ (ns : List Int) (last : Int), walkV .i64 m last (ns.map IntKind.i64.wrap) = walkV .i64 m last ns
  | [], _ => rfl
  | n :: ns, last => by
    have e : IntKind.i64.wrap (last + m + IntKind.i64.wrap n) = IntKind.i64.wrap (last + m + n) := by
      rw [IntKind.wrap_i64, IntKind.wrap_i64, IntKind.wrap_i64]; omega
    show IntKind.i64.wrap _ :: _ = _ :: _
    rw [e, walkV_wrap64 m ns]
theorem results_tmp4 {fn : Func} {t u v x : Tmp} (h : fn.results = #[.tmp t, .tmp u, .tmp v, .tmp x]) (tmps : Array Value) (P : Program) (w : World) :
    (results fn tmps).run P w = .ok (.tuple #[tmps.getD t undef, tmps.getD u undef, tmps.getD v undef, tmps.getD x undef]) w := by
  simp [results, h]
theorem results_tmp6 {fn : Func} {t u v x y z : Tmp} (h : fn.results = #[.tmp t, .tmp u, .tmp v, .tmp x, .tmp y, .tmp z]) (tmps : Array Value) (P : Program) (w : World) :
    (results fn tmps).run P w = .ok (.tuple #[tmps.getD t undef, tmps.getD u undef, tmps.getD v undef, tmps.getD x undef, tmps.getD y undef, tmps.getD z undef]) w := by
  simp [results, h]
theorem decUv_calls (A : Option Addr) (n c : Nat) (bs rest : List Int) (x : Nat) (s : Value) (w : World) (hC : (Kd.int .u8).C w A n bs) (hc : n ≤ c) (hn : n ≤ 2147483647) (hb : bs = varL x ++ rest) (hx : x < 18446744073709551616) :
    Calls Tryd.prog 135 #[.slice A n c, s] w fun e w' => e = .returned (.tuple #[.int .u64 x, .int .i64 ((varL x).length : Int), .nilIface]) ∧ w = w' := by
  have HPU := Aside0.mk (uvarint_calls A n c bs rest x w hC hc hn hb hx)
  have hL0 := varL_pos x
  have hL1 := varL_len10 x hx
  obtain ⟨L, hL⟩ : ∃ L, (varL x).length = L := ⟨_, rfl⟩
  rw [hL] at HPU hL0 hL1 ⊢
  have q1 : ((L : Int) == 0) = false := by rw [beq_eq_false_iff_ne]; omega
  have q2 : decide ((L : Int) < 0) = false := decide_eq_false (by omega)
  clear hC hb hL
  go_enter Tryd.func135, Tryd.ntmps135
  go_wp2_with (first
    | (go_at_call 117; go_loud (with_reducible refine HPU.out.mono ?_); rintro e w2 ⟨rfl, rfl⟩))
  go_ret3
  exact ⟨rfl, rfl⟩
theorem decV_calls (A : Option Addr) (n c : Nat) (bs rest : List Int) (x : Int) (s : Value) (w : World) (hC : (Kd.int .u8).C w A n bs) (hc : n ≤ c) (hn : n ≤ 2147483647) (hb : bs = varL (zz x) ++ rest) (hx0 : -9223372036854775808 ≤ x) (hx1 : x ≤ 9223372036854775807) :
    Calls Tryd.prog 136 #[.slice A n c, s] w fun e w' => e = .returned (.tuple #[.int .i64 x, .int .i64 ((varL (zz x)).length : Int), .nilIface]) ∧ w = w' := by
  have HPU := Aside0.mk (varint_calls' A n c bs rest x w hC hc hn hb hx0 hx1)
  have hL0 := varL_pos (zz x)
  have hL1 := varL_len10 (zz x) (zz_lt x hx0 hx1)
  obtain ⟨L, hL⟩ : ∃ L, (varL (zz x)).length = L := ⟨_, rfl⟩
  rw [hL] at HPU hL0 hL1 ⊢
  have q1 : ((L : Int) == 0) = false := by rw [beq_eq_false_iff_ne]; omega
  have q2 : decide ((L : Int) < 0) = false := decide_eq_false (by omega)
  clear hC hb hL
  go_enter Tryd.func136, Tryd.ntmps136
  go_wp2_with (first
    | (go_at_call 152; go_loud (with_reducible refine HPU.out.mono ?_); rintro e w2 ⟨rfl, rfl⟩))
  go_ret3
  exact ⟨rfl, rfl⟩
theorem dropC {k : IntKind} {W : World} {A A' : Option Addr} {n c : Nat} {a b : List Int} (hC : ∀ (k : Kd Int) (w : World) (xs : List Int), k.sz = 1 → k.C w A n xs → k.C w A' (n - a.length) (xs.drop a.length)) (h : (Kd.int k).C W A n (a ++ b)) : (Kd.int k).C W A' (n - a.length) b := by
  have := hC (Kd.int k) W _ rfl h
  rwa [List.drop_left] at this
set_option maxHeartbeats 8000000 in
set_option maxRecDepth 100000 in
theorem decHead_calls (A : Option Addr) (N c : Nat) (X : List Int) (B P S T : Nat) (f : Int) (Y : List Int) (W : World) (hC : (Kd.int .u8).C W A N X) (hX : X = hdG B P T f ++ Y) (hc : N ≤ c) (hN : N ≤ 268435455)
    (hB : B = P * S) (hB1 : B % 128 = 0) (hS : S % 32 = 0) (hP : 0 < P) (hB0 : 0 < B) (hB9 : B ≤ 65536) (hP9 : P ≤ 65536) (hT : T ≤ 2147483647) (hf0 : -9223372036854775808 ≤ f) (hf1 : f ≤ 9223372036854775807) :
    Calls Tryd.prog 107 #[.slice A N c] W fun e w' => ∃ A' c', e = .returned (.tuple #[.int .i64 B, .int .i64 P, .int .i64 T, .int .i64 f, .slice A' Y.length c', .nilIface]) ∧ Y.length ≤ c' ∧ (∀ W1, (Kd.int .u8).C W1 A N X → (Kd.int .u8).C W1 A' Y.length Y) ∧ Drawn0 W w' := by
  have hZ9 := zz_lt f hf0 hf1
  have HXL : Aside0 (N = (varL B).length + (varL P).length + (varL T).length + (varL (zz f)).length + Y.length) := ⟨by
    have := hC.1; rw [hX] at this; unfold hdG at this; simp only [List.length_append] at this; omega⟩
  obtain ⟨i8, h8⟩ := h8
  obtain ⟨l1, hl1⟩ : ∃ l, (varL B).length = l := ⟨_, rfl⟩
  obtain ⟨l2, hl2⟩ : ∃ l, (varL P).length = l := ⟨_, rfl⟩
  obtain ⟨l3, hl3⟩ : ∃ l, (varL T).length = l := ⟨_, rfl⟩
  obtain ⟨l4, hl4⟩ : ∃ l, (varL (zz f)).length = l := ⟨_, rfl⟩
  obtain ⟨Yl, hYl⟩ : ∃ l, Y.length = l := ⟨_, rfl⟩
  have HL := HXL.out
  rw [hl1, hl2, hl3, hl4, hYl] at HL
  have b1 : l1 ≤ N := by omega
  obtain ⟨o2, ho2⟩ : ∃ o, l1 + l2 = o := ⟨_, rfl⟩
  obtain ⟨o3, ho3⟩ : ∃ o, o2 + l3 = o := ⟨_, rfl⟩
  obtain ⟨o4, ho4⟩ : ∃ o, o3 + l4 = o := ⟨_, rfl⟩
  have b2 : o2 ≤ N := by omega
  have b3 : o3 ≤ N := by omega
  have b4 : o4 ≤ N := by omega
  have i2 : (l1 : Int) + (l2 : Int) = (o2 : Int) := by omega
  have i3 : (o2 : Int) + (l3 : Int) = (o3 : Int) := by omega
  have i4 : (o3 : Int) + (l4 : Int) = (o4 : Int) := by omega
  obtain ⟨A0, cut0, hC0⟩ := cutLo (P := Tryd.prog) 29 5 Tryd.underlying29 h8.1 h8.2 A N c .i64 0 0 rfl (by omega) hc
  obtain ⟨A1, cut1, hC1⟩ := cutLo (P := Tryd.prog) 29 5 Tryd.underlying29 h8.1 h8.2 A N c .i64 (l1 : Int) l1 rfl (by omega) hc
  obtain ⟨A2, cut2, hC2⟩ := cutLo (P := Tryd.prog) 29 5 Tryd.underlying29 h8.1 h8.2 A N c .i64 (o2 : Int) o2 rfl (by omega) hc
  obtain ⟨A3, cut3, hC3⟩ := cutLo (P := Tryd.prog) 29 5 Tryd.underlying29 h8.1 h8.2 A N c .i64 (o3 : Int) o3 rfl (by omega) hc
  obtain ⟨A4, cut4, hC4⟩ := cutLo (P := Tryd.prog) 29 5 Tryd.underlying29 h8.1 h8.2 A N c .i64 (o4 : Int) o4 rfl (by omega) hc
  have e0 : X = varL B ++ (varL P ++ (varL T ++ (varL (zz f) ++ Y))) := by rw [hX]; unfold hdG; simp only [List.append_assoc]
  have e1 : X = (varL B) ++ (varL P ++ (varL T ++ (varL (zz f) ++ Y))) := e0
  have e2 : X = (varL B ++ varL P) ++ (varL T ++ (varL (zz f) ++ Y)) := by rw [e0]; simp only [List.append_assoc]
  have e3 : X = (varL B ++ varL P ++ varL T) ++ (varL (zz f) ++ Y) := by rw [e0]; simp only [List.append_assoc]
  have e4 : X = (varL B ++ varL P ++ varL T ++ varL (zz f)) ++ Y := by rw [e0]; simp only [List.append_assoc]
  have g1 : ∀ W1, (Kd.int .u8).C W1 A N X → (Kd.int .u8).C W1 A1 (N - l1) (varL P ++ (varL T ++ (varL (zz f) ++ Y))) := fun W1 h => by
    have := hC1 (Kd.int .u8) W1 _ rfl h; rw [e1, List.drop_left' hl1] at this; exact this
  have g2 : ∀ W1, (Kd.int .u8).C W1 A N X → (Kd.int .u8).C W1 A2 (N - o2) (varL T ++ (varL (zz f) ++ Y)) := fun W1 h => by
    have := hC2 (Kd.int .u8) W1 _ rfl h; rw [e2, List.drop_left' (by rw [List.length_append]; omega)] at this; exact this
  have g3 : ∀ W1, (Kd.int .u8).C W1 A N X → (Kd.int .u8).C W1 A3 (N - o3) (varL (zz f) ++ Y) := fun W1 h => by
    have := hC3 (Kd.int .u8) W1 _ rfl h; rw [e3, List.drop_left' (by rw [List.length_append, List.length_append]; omega)] at this; exact this
  have g4 : ∀ W1, (Kd.int .u8).C W1 A N X → (Kd.int .u8).C W1 A4 (N - o4) Y := fun W1 h => by
    have := hC4 (Kd.int .u8) W1 _ rfl h; rw [e4, List.drop_left' (by rw [List.length_append, List.length_append, List.length_append]; omega)] at this; exact this
  have g0 : (Kd.int .u8).C W A0 (N - 0) X := by have := hC0 (Kd.int .u8) W _ rfl hC; rwa [List.drop_zero] at this
  rw [Nat.sub_zero] at g0
  rw [Nat.sub_zero, Nat.sub_zero] at cut0
  have U1 := Aside0.mk fun s => decUv_calls A0 N c X _ B s W g0 (by omega) (by omega) e0 (by omega)
  have U2 := Aside0.mk fun s => decUv_calls A1 (N - l1) (c - l1) _ _ P s W (g1 W hC) (by omega) (by omega) rfl (by omega)
  have U3 := Aside0.mk fun s => decUv_calls A2 (N - o2) (c - o2) _ _ T s W (g2 W hC) (by omega) (by omega) rfl (by omega)
  have U4 := Aside0.mk fun s => decV_calls A3 (N - o3) (c - o3) _ _ f s W (g3 W hC) (by omega) (by omega) rfl hf0 hf1
  rw [hl1] at U1
  rw [hl2] at U2
  rw [hl3] at U3
  rw [hl4] at U4
  have G4 := Aside0.mk g4
  have hY4 : N - o4 = Yl := by omega
  have hYc : Yl ≤ c - o4 := by omega
  rw [hY4] at cut4 G4
  rw [hYl]
  have hPS : P * S / P = S := Nat.mul_div_cancel_left S hP
  have d1 : (B : Int) / (P : Int) = (S : Int) := by rw [← hPS, ← hB]; push_cast; rfl
  have d3 : (B : Int).tdiv (P : Int) = (S : Int) := by rw [Int.tdiv_eq_ediv_of_nonneg (by omega)]; exact d1
  have hS9 : S ≤ B := by rw [hB]; exact Nat.le_mul_of_pos_left S hP
  have d5 : (S : Int) % 32 = 0 := by omega
  have d6 : (S : Int).tmod 32 = 0 := by rw [Int.tmod_eq_emod_of_nonneg (by omega)]; exact d5
  have d7 : (B : Int) % 128 = 0 := by omega
  have d8 : (B : Int).tmod 128 = 0 := by rw [Int.tmod_eq_emod_of_nonneg (by omega)]; exact d7
  have wB : IntKind.i64.wrap (B : Int) = (B : Int) := IntWalk.i64_in _ (by omega)
  have wP : IntKind.i64.wrap (P : Int) = (P : Int) := IntWalk.i64_in _ (by omega)
  have wT : IntKind.i64.wrap (T : Int) = (T : Int) := IntWalk.i64_in _ (by omega)
  have wS : IntKind.i64.wrap (S : Int) = (S : Int) := IntWalk.i64_in _ (by omega)
  have q1 : decide ((B : Int) ≤ 0) = false := decide_eq_false (by omega)
  have q2 : ((P : Int) == 0) = false := by rw [beq_eq_false_iff_ne]; omega
  have q3 : decide (65536 < (B : Int)) = false := decide_eq_false (by omega)
  have q4 : decide ((P : Int) ≤ 0) = false := decide_eq_false (by omega)
  have q5 : decide ((T : Int) < 0) = false := decide_eq_false (by omega)
  have q6 : decide (2147483647 < (T : Int)) = false := decide_eq_false (by omega)
  have q3n : decide (65536 < B) = false := decide_eq_false (by omega)
  have q6n : decide (2147483647 < T) = false := decide_eq_false (by omega)
  have q1n : decide (B ≤ 0) = false := decide_eq_false (by omega)
  have q4n : decide (P ≤ 0) = false := decide_eq_false (by omega)
  have qP : ¬ (P : Int) = 0 := by omega
  clear hC hX hl1 hl2 hl3 hl4 hYl HL ho2 ho3 ho4 hC0 hC1 hC2 hC3 hC4 e0 e1 e2 e3 e4 g0 g1 g2 g3 g4 hPS hB hY4
  go_enter Tryd.func107, Tryd.ntmps107
  go_wp2_with (first
    | (go_at_call 135; (first
      | (go_loud (with_reducible refine (U1.out _).mono ?_); rintro e w1 ⟨rfl, rfl⟩)
      | (go_loud (with_reducible refine (U2.out _).mono ?_); rintro e w1 ⟨rfl, rfl⟩)
      | (go_loud (with_reducible refine (U3.out _).mono ?_); rintro e w1 ⟨rfl, rfl⟩)))
    | (go_at_call 136; go_loud (with_reducible refine (U4.out _).mono ?_); rintro e w1 ⟨rfl, rfl⟩)
    | (go_quiet (fail)))
  (try simp only [Exit.inBlock, Exit.then])
  refine bodyPost_ret (results_tmp6 rfl _ _ _) rfl ?_
  exact ⟨A4, c - o4, rfl, hYc, G4.out, ⟨nq, rfl⟩⟩
set_option maxHeartbeats 4000000 in
theorem decBlk_calls (A : Option Addr) (N c : Nat) (m : Int) (ws Y : List Int) (P : Nat) (W : World) (hC : (Kd.int .u8).C W A N (varL (zz m) ++ (ws ++ Y))) (hc : N ≤ c) (hN : N ≤ 268435455) (hw : ws.length = P) (hm0 : -9223372036854775808 ≤ m) (hm1 : m ≤ 9223372036854775807) :
    Calls Tryd.prog 109 #[.slice A N c, .int .i64 P] W fun e w' => ∃ Aw cw A' c', e = .returned (.tuple #[.int .i64 m, .slice Aw P cw, .slice A' Y.length c', .nilIface]) ∧ P ≤ cw ∧ Y.length ≤ c' ∧ (∀ W1, (Kd.int .u8).C W1 A N (varL (zz m) ++ (ws ++ Y)) → (Kd.int .u8).C W1 Aw P ws ∧ (Kd.int .u8).C W1 A' Y.length Y) ∧ Drawn0 W w' := by
  have HL := hC.1
  simp only [List.length_append] at HL
  rw [hw] at HL
  have U1 := Aside0.mk fun s => decV_calls A N c _ _ m s W hC hc (by omega) rfl hm0 hm1
  obtain ⟨l1, hl1⟩ : ∃ l, (varL (zz m)).length = l := ⟨_, rfl⟩
  obtain ⟨Yl, hYl⟩ : ∃ l, Y.length = l := ⟨_, rfl⟩
  rw [hl1] at U1 HL
  rw [hYl] at HL ⊢
  obtain ⟨i8, h8⟩ := h8
  obtain ⟨A1, cut1, hC1⟩ := cutLo (P := Tryd.prog) 29 5 Tryd.underlying29 h8.1 h8.2 A N c .i64 (l1 : Int) l1 rfl (by omega) hc
  obtain ⟨R, hR⟩ : ∃ R, N - l1 = R := ⟨_, rfl⟩
  obtain ⟨K, hK⟩ : ∃ K, c - l1 = K := ⟨_, rfl⟩
  rw [hR, hK] at cut1
  obtain ⟨cut2, hC2⟩ := cutHi (P := Tryd.prog) 29 5 Tryd.underlying29 h8.1 A1 R K .i64 (P : Int) P rfl (by omega) (by omega)
  obtain ⟨A3, cut3, hC3⟩ := cutLo (P := Tryd.prog) 29 5 Tryd.underlying29 h8.1 h8.2 A1 R K .i64 (P : Int) P rfl (by omega) (by omega)
  have G : Aside0 (∀ W1, (Kd.int .u8).C W1 A N (varL (zz m) ++ (ws ++ Y)) → (Kd.int .u8).C W1 A1 P ws ∧ (Kd.int .u8).C W1 A3 Yl Y) := ⟨fun W1 h => by
    have h1 := hC1 (Kd.int .u8) W1 _ rfl h
    rw [List.drop_left' hl1, hR] at h1
    have h2 := hC2 (Kd.int .u8) W1 _ h1
    have h3 := hC3 (Kd.int .u8) W1 _ rfl h1
    rw [List.take_left' hw] at h2
    rw [List.drop_left' hw, show R - P = Yl by omega] at h3
    exact ⟨h2, h3⟩⟩
  have hRP : R - P = Yl := by omega
  rw [hRP] at cut3
  have q1 : decide ((R : Int) < (P : Int)) = false := decide_eq_false (by omega)
  have q2 : decide (R < P) = false := decide_eq_false (by omega)
  have hPK : P ≤ K := by omega
  have hYK : Yl ≤ K - P := by omega
  clear hC hl1 hYl hC1 hC2 hC3 hRP hR hK HL hw
  go_enter Tryd.func109, Tryd.ntmps109
  go_wp2_with (first
    | (go_at_call 136; go_loud (with_reducible refine (U1.out _).mono ?_); rintro e w1 ⟨rfl, rfl⟩)
    | (go_quiet (fail)))
  (try simp only [Exit.inBlock, Exit.then])
  refine bodyPost_ret (results_tmp4 rfl _ _ _) rfl ?_
  exact ⟨A1, K, A3, K - P, rfl, hPK, hYK, G.out, ⟨nq, rfl⟩⟩
theorem sum_step (xs V ns zs : List Int) (o j : Nat) (y : Int) (ho : xs.length = o) (hV : V.length = ns.length) (hj : j < ns.length) (hy : y = rd V (j : Nat)) : (xs ++ (V.take j ++ (ns.drop j ++ zs))).set (o + j) y = xs ++ (V.take (j + 1) ++ (ns.drop (j + 1) ++ zs)) := by
  have h1 : (V.take j).length = j := by rw [List.length_take]; omega
  rw [List.set_append_right _ _ (by omega), ho, show o + j - o = j by omega, List.set_append_right _ _ (by omega), h1, Nat.sub_self, List.drop_eq_getElem_cons hj, List.cons_append, List.set_cons_zero, take_rd V j (by omega), hy, List.append_assoc]
  rfl
set_option maxHeartbeats 8000000 in
theorem decSumInt64_calls (g C t n c : Nat) (xs ns zs : List Int) (m last : Int) (W : World) (hF : Front W g C t .i64 (xs ++ (ns ++ zs))) (hn : ns.length = n) (hn9 : n ≤ 2147483647) :
    Calls Tryd.prog 111 #[.slice (some ⟨g, xs.length, none⟩) n c, .int .i64 m, .int .i64 last] W fun e w' => e = .returned (.int .i64 (prv last (walkV .i64 m last ns) n)) ∧ Front w' g C t .i64 (xs ++ (walkV .i64 m last ns ++ zs)) ∧ W.grownBy w' (some g) := by
  have HRV := Aside0.mk fun j hj => rd_walkV .i64 m ns last j hj
  have hVl := walkV_length .i64 m ns last
  obtain ⟨V, hV⟩ : ∃ V, walkV .i64 m last ns = V := ⟨_, rfl⟩
  rw [hV] at HRV hVl ⊢
  obtain ⟨o, ho⟩ : ∃ o, xs.length = o := ⟨_, rfl⟩
  have HO := Aside0.mk ho
  rw [ho]
  have HF0 : Aside0 (Front W g C t .i64 (xs ++ (V.take 0 ++ (ns.drop 0 ++ zs)))) := ⟨by simpa using hF⟩
  have HN := Aside0.mk hn
  have HVL := Aside0.mk hVl
  clear hF hV ho hn hVl
  go_enter Tryd.func111, Tryd.ntmps111
  go_wp2_with (fail)
  go_loopg [2, 7, 10] n (fun kq v2 v7 v10 w' => ∃ (j : Nat), j ≤ n ∧ v10 = .int .i64 j ∧ v2 = .int .i64 (prv last V j) ∧ Aside0 (Front w' g C t .i64 (xs ++ (V.take j ++ (ns.drop j ++ zs)))) ∧ Aside0 (W.grownBy w' (some g)) ∧ Aside0 (n - j ≤ kq))
  case atStart => exact ⟨0, by omega, rfl, rfl, HF0, ⟨grownRefl _ _⟩, ⟨by omega⟩⟩
  case round =>
    clear HF0
    obtain ⟨j, hj, rfl, rfl, HF, HG, HK⟩ := hrel
    by_cases cj : j < n
    · have cjb : decide ((j : Int) < (n : Int)) = true := decide_eq_true (by omega)
      have cjn : decide (j < n) = true := decide_eq_true cj
      have h1 : (V.take j).length = j := by rw [List.length_take, HVL.out, HN.out]; omega
      have rc := HF.out.at' (o + j) (by rw [List.length_append, HO.out, List.length_append, List.length_append, h1, List.length_drop, HN.out]; omega)
      have rf := HF.out.free (o + j)
      rw [rd_append, if_neg (by rw [HO.out]; omega), HO.out, show o + j - o = j by omega, rd_append, if_neg (by rw [h1]; omega), h1, Nat.sub_self, rd_append, if_pos (by rw [List.length_drop, HN.out]; omega), rd_drop, Nat.add_zero] at rc
      have hv := HRV.out j (by rw [HN.out]; exact cj)
      obtain ⟨x, hx⟩ : ∃ x, rd ns (j : Nat) = x := ⟨_, rfl⟩
      rw [hx] at rc hv
      obtain ⟨lv, hlv⟩ : ∃ lv, prv last V j = lv := ⟨_, rfl⟩
      rw [hlv] at hv ⊢
      obtain ⟨y1, hy1⟩ : ∃ y, IntKind.i64.wrap (x + m) = y := ⟨_, rfl⟩
      obtain ⟨y2, hy2⟩ : ∃ y, IntKind.i64.wrap (y1 + lv) = y := ⟨_, rfl⟩
      have HY : Aside0 (y2 = rd V (j : Nat)) := ⟨by
        rw [hv, ← hy2, ← hy1, IntKind.wrap_i64, IntKind.wrap_i64, IntKind.wrap_i64]; omega⟩
      have HPV : Aside0 (prv last V (j + 1) = y2) := ⟨by rw [prv_succ, HY.out]⟩
      clear hv hx hlv h1
      go_wp2_with (fail)
      go_roundg (gk - 1)
      case measure => have := HK.out; omega
      case rel =>
        refine ⟨j + 1, by omega, by go_num, by rw [HPV.out], ⟨?_⟩, ⟨grownSet (grownSet HG.out _ _) _ _⟩, ⟨by have := HK.out; omega⟩⟩
        have h := setF (setF HF.out (o + j) (by rw [List.length_append, HO.out, List.length_append, List.length_append, List.length_take, List.length_drop, HVL.out, HN.out]; omega) y1) (o + j) (by rw [List.length_set, List.length_append, HO.out, List.length_append, List.length_append, List.length_take, List.length_drop, HVL.out, HN.out]; omega) y2
        rw [List.set_set, sum_step xs V ns zs o j y2 HO.out HVL.out (by rw [HN.out]; exact cj) HY.out] at h
        exact h
    · obtain rfl : j = n := by omega
      have cjb : decide ((j : Int) < (j : Int)) = false := decide_eq_false (by omega)
      have cjn : decide (j < j) = false := decide_eq_false (by omega)
      go_wp2_with (fail)
      go_ret
      refine ⟨rfl, ?_, HG.out⟩
      have h := HF.out
      rw [List.take_of_length_le (by rw [HVL.out, HN.out]; exact Nat.le_refl _), List.drop_eq_nil_of_le (by rw [HN.out]; exact Nat.le_refl _), List.nil_append] at h
      exact h
set_option maxHeartbeats 4000000 in
set_option maxRecDepth 100000 in
theorem freshInt64_calls (D : Option Addr) (K T : Nat) (hT : T ≤ 2147483647) (w : World) :
    Calls Tryd.prog 108 #[.slice D 0 K, .int .i64 T] w fun e w' => e = .returned (.slice (some ⟨w.heap.size, 0, none⟩) T T) ∧ Front w' w.heap.size T 2 .i64 (List.replicate T 0) ∧ Below w.heap.size w w' ∧ w.heap.size < w'.heap.size := by
  have hmk := print_make (P := Tryd.prog) 22 2 .i64 8 Tryd.underlying22 infoI64d (by decide) T (by omega)
  have HR : Aside0 (Row (w.alloc (.cells (madeCells #[.int .i64 0] T) 2)) w.heap.size 2 .i64 (List.replicate T 0)) := ⟨madeRow w 2 .i64 T⟩
  have HB : Aside0 (Below w.heap.size w (w.alloc (.cells (madeCells #[.int .i64 0] T) 2))) := ⟨(Below.refl _ _).alloc (Nat.le_refl _) _⟩
  have hlt : w.heap.size < (w.alloc (.cells (madeCells #[.int .i64 0] T) 2)).heap.size := by simp
  have hcp := fun W => run_copy_none (P := Tryd.prog) W 22 22 3 2 (some ⟨w.heap.size, 0, none⟩) D T T 0 K Tryd.underlying22 (by kernel_rfl) (Nat.min_eq_left (Nat.zero_le _))
  go_enter Tryd.func108, Tryd.ntmps108
  go_wp2_with (fail)
  go_ret
  refine ⟨rfl, ?_, HB.out, hlt⟩
  have := Front.ofRow HR.out T (by simp)
  rw [List.length_replicate, List.take_of_length_le (by simp)] at this
  exact this
set_option maxHeartbeats 8000000 in
theorem decSumInt32_calls (g C t n c : Nat) (xs ns zs : List Int) (m last : Int) (W : World) (hF : Front W g C t .i32 (xs ++ (ns ++ zs))) (hn : ns.length = n) (hn9 : n ≤ 2147483647) :
    Calls Tryd.prog 126 #[.slice (some ⟨g, xs.length, none⟩) n c, .int .i32 m, .int .i32 last] W fun e w' => e = .returned (.int .i32 (prv last (walkV .i32 m last ns) n)) ∧ Front w' g C t .i32 (xs ++ (walkV .i32 m last ns ++ zs)) ∧ W.grownBy w' (some g) := by
  have HRV := Aside0.mk fun j hj => rd_walkV .i32 m ns last j hj
  have hVl := walkV_length .i32 m ns last
  obtain ⟨V, hV⟩ : ∃ V, walkV .i32 m last ns = V := ⟨_, rfl⟩
  rw [hV] at HRV hVl ⊢
  obtain ⟨o, ho⟩ : ∃ o, xs.length = o := ⟨_, rfl⟩
  have HO := Aside0.mk ho
  rw [ho]
  have HF0 : Aside0 (Front W g C t .i32 (xs ++ (V.take 0 ++ (ns.drop 0 ++ zs)))) := ⟨by simpa using hF⟩
  have HN := Aside0.mk hn
  have HVL := Aside0.mk hVl
  clear hF hV ho hn hVl
  go_enter Tryd.func126, Tryd.ntmps126
  go_wp2_with (fail)
  go_loopg [2, 7, 10] n (fun kq v2 v7 v10 w' => ∃ (j : Nat), j ≤ n ∧ v10 = .int .i64 j ∧ v2 = .int .i32 (prv last V j) ∧ Aside0 (Front w' g C t .i32 (xs ++ (V.take j ++ (ns.drop j ++ zs)))) ∧ Aside0 (W.grownBy w' (some g)) ∧ Aside0 (n - j ≤ kq))
  case atStart => exact ⟨0, by omega, rfl, rfl, HF0, ⟨grownRefl _ _⟩, ⟨by omega⟩⟩
  case round =>
    clear HF0
    obtain ⟨j, hj, rfl, rfl, HF, HG, HK⟩ := hrel
    by_cases cj : j < n
    · have cjb : decide ((j : Int) < (n : Int)) = true := decide_eq_true (by omega)
      have cjn : decide (j < n) = true := decide_eq_true cj
      have h1 : (V.take j).length = j := by rw [List.length_take, HVL.out, HN.out]; omega
      have rc := HF.out.at' (o + j) (by rw [List.length_append, HO.out, List.length_append, List.length_append, h1, List.length_drop, HN.out]; omega)
      have rf := HF.out.free (o + j)
      rw [rd_append, if_neg (by rw [HO.out]; omega), HO.out, show o + j - o = j by omega, rd_append, if_neg (by rw [h1]; omega), h1, Nat.sub_self, rd_append, if_pos (by rw [List.length_drop, HN.out]; omega), rd_drop, Nat.add_zero] at rc
      have hv := HRV.out j (by rw [HN.out]; exact cj)
      obtain ⟨x, hx⟩ : ∃ x, rd ns (j : Nat) = x := ⟨_, rfl⟩
      rw [hx] at rc hv
      obtain ⟨lv, hlv⟩ : ∃ lv, prv last V j = lv := ⟨_, rfl⟩
      rw [hlv] at hv ⊢
      obtain ⟨y1, hy1⟩ : ∃ y, IntKind.i32.wrap (x + m) = y := ⟨_, rfl⟩
      obtain ⟨y2, hy2⟩ : ∃ y, IntKind.i32.wrap (y1 + lv) = y := ⟨_, rfl⟩
      have HY : Aside0 (y2 = rd V (j : Nat)) := ⟨by
        rw [hv, ← hy2, ← hy1, IntKind.wrap_i32, IntKind.wrap_i32, IntKind.wrap_i32]; omega⟩
      have HPV : Aside0 (prv last V (j + 1) = y2) := ⟨by rw [prv_succ, HY.out]⟩
      clear hv hx hlv h1
      go_wp2_with (fail)
      go_roundg (gk - 1)
      case measure => have := HK.out; omega
      case rel =>
        refine ⟨j + 1, by omega, by go_num, by rw [HPV.out], ⟨?_⟩, ⟨grownSet (grownSet HG.out _ _) _ _⟩, ⟨by have := HK.out; omega⟩⟩
        have h := setF (setF HF.out (o + j) (by rw [List.length_append, HO.out, List.length_append, List.length_append, List.length_take, List.length_drop, HVL.out, HN.out]; omega) y1) (o + j) (by rw [List.length_set, List.length_append, HO.out, List.length_append, List.length_append, List.length_take, List.length_drop, HVL.out, HN.out]; omega) y2
        rw [List.set_set, sum_step xs V ns zs o j y2 HO.out HVL.out (by rw [HN.out]; exact cj) HY.out] at h
        exact h
    · obtain rfl : j = n := by omega
      have cjb : decide ((j : Int) < (j : Int)) = false := decide_eq_false (by omega)
      have cjn : decide (j < j) = false := decide_eq_false (by omega)
      go_wp2_with (fail)
      go_ret
      refine ⟨rfl, ?_, HG.out⟩
      have h := HF.out
      rw [List.take_of_length_le (by rw [HVL.out, HN.out]; exact Nat.le_refl _), List.drop_eq_nil_of_le (by rw [HN.out]; exact Nat.le_refl _), List.nil_append] at h
      exact h
set_option maxHeartbeats 4000000 in
set_option maxRecDepth 100000 in
theorem freshInt32_calls (D : Option Addr) (K T : Nat) (hT : T ≤ 2147483647) (w : World) :
    Calls Tryd.prog 124 #[.slice D 0 K, .int .i64 T] w fun e w' => e = .returned (.slice (some ⟨w.heap.size, 0, none⟩) T T) ∧ Front w' w.heap.size T 21 .i32 (List.replicate T 0) ∧ Below w.heap.size w w' ∧ w.heap.size < w'.heap.size := by
  have hmk := print_make (P := Tryd.prog) 45 21 .i32 4 Tryd.underlying45 infoI32d (by decide) T (by omega)
  have HR : Aside0 (Row (w.alloc (.cells (madeCells #[.int .i32 0] T) 21)) w.heap.size 21 .i32 (List.replicate T 0)) := ⟨madeRow w 21 .i32 T⟩
  have HB : Aside0 (Below w.heap.size w (w.alloc (.cells (madeCells #[.int .i32 0] T) 21))) := ⟨(Below.refl _ _).alloc (Nat.le_refl _) _⟩
  have hlt : w.heap.size < (w.alloc (.cells (madeCells #[.int .i32 0] T) 21)).heap.size := by simp
  have hcp := fun W => run_copy_none (P := Tryd.prog) W 45 45 3 21 (some ⟨w.heap.size, 0, none⟩) D T T 0 K Tryd.underlying45 (by kernel_rfl) (Nat.min_eq_left (Nat.zero_le _))
  go_enter Tryd.func124, Tryd.ntmps124
  go_wp2_with (fail)
  go_ret
  refine ⟨rfl, ?_, HB.out, hlt⟩
  have := Front.ofRow HR.out T (by simp)
  rw [List.length_replicate, List.take_of_length_le (by simp)] at this
  exact this
end Go.Proofs.YtigmcdpjlkgocaaDoor.Dhr

/-! The decoder of differences. -/
namespace Go.Proofs.YtigmcdpjlkgocaaDoor.Ddc
open Go.Proofs.YtigmcdpjlkgocaaDoor.Dhr Go.Proofs.YtigmcdpjlkgocaaDoor.Dun Go.Proofs.YtigmcdpjlkgocaaDoor.Duv Go.Proofs.YtigmcdpjlkgocaaDoor.Dst Go.Proofs.YtigmcdpjlkgocaaDoor.Deo Go.Proofs.YtigmcdpjlkgocaaDoor.Den Go.Proofs.YtigmcdpjlkgocaaDoor.Deb Go.Proofs.YtigmcdpjlkgocaaDoor.Drx Go.Proofs.YtigmcdpjlkgocaaDoor.Dds Go.Proofs.YtigmcdpjlkgocaaDoor.Dbw Go.Proofs.YtigmcdpjlkgocaaDoor.Dbk Go.Proofs.YtigmcdpjlkgocaaDoor.Dhd Go.Proofs.YtigmcdpjlkgocaaDoor.Dgr Go.Proofs.YtigmcdpjlkgocaaDoor.Dpu Go.Proofs.YtigmcdpjlkgocaaDoor.Pak Go.Proofs.YtigmcdpjlkgocaaDoor.Buf Go.Proofs.YtigmcdpjlkgocaaDoor.Fit Go.Proofs.YtigmcdpjlkgocaaDoor.Bit Go.Proofs.YtigmcdpjlkgocaaDoor.Wrd Go.Proofs.YtigmcdpjlkgocaaDoor.Spl Go.Proofs.YtigmcdpjlkgocaaDoor.Str Go.Proofs.YtigmcdpjlkgocaaDoor.Flt Go.Proofs.YtigmcdpjlkgocaaDoor.Owe Go.Proofs.YtigmcdpjlkgocaaDoor.Num Go.Proofs.YtigmcdpjlkgocaaDoor.Le Go.Proofs.YtigmcdpjlkgocaaDoor.Lst Go.Proofs.YtigmcdpjlkgocaaDoor.Aid Go.RowKit Go.Proofs.YtigmcdpjlkgocaaDoorW.PrintWords Go.Proofs.YtigmcdpjlkgocaaDoorW.PrintLast Go.Proofs.YtigmcdpjlkgocaaDoorW.PrintMore
set_option linter.unusedVariables false
set_option linter.unusedSimpArgs false
theorem prv_take (last : Int) (V : List Int) (n : Nat) (h : n ≤ V.length) : prv last (V.take n) n = prv last V n := by
  unfold prv
  by_cases c : n = 0
  · rw [if_pos c, if_pos c]
  · rw [if_neg c, if_neg c]
    unfold rd
    rw [Int.toNat_natCast, List.getD_eq_getElem?_getD, List.getD_eq_getElem?_getD, List.getElem?_take, if_pos (by omega)]
theorem frontG {w W' : World} {g C t : Nat} {k : IntKind} {xs : List Int} {row : Option Nat} (h : Front w g C t k xs) (hg : w.grownBy W' row) (hne : some g ≠ row) : Front W' g C t k xs := by
  obtain ⟨cs, hb, hr⟩ := h.out
  exact ⟨cs, ⟨(hg.block g hb.lt hne).trans hb.out⟩, hr⟩
theorem frontR {w : World} {g C t : Nat} {k : IntKind} {xs : List Int} (h : Front w g C t k xs) (hC : C ≤ 9223372036854775807) : (Kd.int k).C w (some ⟨g, 0, none⟩) xs.length xs := by
  obtain ⟨A, c, e, _, hr⟩ := (h.toOwn (base := 0) (Nat.zero_le _) hC).read
  injection e with e1 _ _
  rw [e1]; exact hr
theorem rd_take (l : List Int) (n j : Nat) (h : j < n) : rd (l.take n) (j : Nat) = rd l (j : Nat) := by
  unfold rd
  rw [Int.toNat_natCast, List.getD_eq_getElem?_getD, List.getD_eq_getElem?_getD, List.getElem?_take, if_pos h]
theorem flat_part (S : Nat) (ps : List DPart) (i n : Nat) (h : ∀ p ∈ ps, p.2.length = S) (hi : i < ps.length) (hn : n ≤ S) : (ps.flatMap (·.2)).take (i * S + n) = (ps.flatMap (·.2)).take (i * S) ++ (ps.getD i (0, [])).2.take n := by
  have hl := flat_length S ps h
  have hiS : i * S + S ≤ ps.length * S := by rw [← Nat.succ_mul]; exact Nat.mul_le_mul_right S hi
  have hp : (ps.getD i (0, [])).2.length = S := h _ (getD_mem ps i hi)
  apply rd_ext
  · rw [List.length_append, List.length_take, List.length_take, List.length_take]; omega
  · intro j hj
    rw [List.length_take] at hj
    have e1 : rd ((ps.flatMap (·.2)).take (i * S + n)) (j : Nat) = rd (ps.flatMap (·.2)) (j : Nat) := by
      exact rd_take _ _ _ (by omega)
    rw [e1, rd_append, List.length_take]
    by_cases c : j < i * S
    · rw [if_pos (by omega), rd_take _ _ _ c]
    · rw [if_neg (by omega), show j - min (i * S) (ps.flatMap (·.2)).length = j - i * S by omega]
      have := flat_rd S ps i (j - i * S) h hi (by omega)
      rw [show i * S + (j - i * S) = j by omega] at this
      rw [this, rd_take _ _ _ (by omega)]
theorem fit_zero {l : List Int} (h : fitL 0 l) : l = List.replicate l.length 0 := by
  apply List.ext_getElem
  · simp
  · intro i h1 h2
    have := h _ (List.getElem_mem h1)
    rw [Int.pow_zero] at this
    simp; omega
set_option maxHeartbeats 32000000 in
set_option maxRecDepth 100000 in
theorem decInt32_calls (D : Option Addr) (K : Nat) (A : Option Addr) (N c : Nat) (X : List Int) (B P S T : Nat) (f : Int) (bs : List DBlk) (rest : List Int) (W : World) (hC : (Kd.int .u8).C W A N X) (hX : X = hdG B P T f ++ (blksB bs ++ rest)) (hc : N ≤ c) (hN : N ≤ 268435455)
    (hB : B = P * S) (hB1 : B % 128 = 0) (hS : S % 32 = 0) (hP : 0 < P) (hB0 : 0 < B) (hB9 : B ≤ 65536) (hT : T ≤ 200000) (hf0 : -2147483648 ≤ f) (hf1 : f ≤ 2147483647) (hst : strOk 32 P S (T - 1) bs) :
    Calls Tryd.prog 87 #[.slice D 0 K, .slice A N c] W fun e w' => ∃ v A' c', e = .returned (.tuple #[v, .slice A' rest.length c', .nilIface]) ∧ ((T = 0 ∧ v = .slice D 0 K) ∨ (0 < T ∧ Own w' W.heap.size 21 .i32 v ((f :: blksV .i32 f bs).take T))) ∧ rest.length ≤ c' ∧ (∀ W1, Below W.heap.size W W1 → (Kd.int .u8).C W1 A' rest.length rest) ∧ Below W.heap.size W w' := by
  have hS0 : 0 < S := by
    rcases Nat.eq_zero_or_pos S with h | h
    · subst h; rw [Nat.mul_zero] at hB; omega
    · exact h
  have hP9 : P ≤ 65536 := by
    have := Nat.le_mul_of_pos_right P hS0; omega
  have hS9 : S ≤ 65536 := by
    have := Nat.le_mul_of_pos_left S hP; omega
  obtain ⟨Y, hY⟩ : ∃ Y, blksB bs ++ rest = Y := ⟨_, rfl⟩
  rw [hY] at hX
  have HHD := Aside0.mk (decHead_calls A N c X B P S T f Y W hC hX hc hN hB hB1 hS hP hB0 hB9 hP9 (by omega) (by omega) (by omega))
  have HCX : Aside0 ((Kd.int .u8).C W A N X) := ⟨hC⟩
  have hYN : Y.length ≤ N := by have := hC.1; rw [hX, List.length_append] at this; omega
  obtain ⟨Yl, hYl⟩ : ∃ l, Y.length = l := ⟨_, rfl⟩
  rw [hYl] at HHD hYN
  have hY9 : Yl ≤ 268435455 := by omega
  have HYL := Aside0.mk hYl
  have HYQ := Aside0.mk hY
  have HST := Aside0.mk hst
  have hPS : P * S / P = S := Nat.mul_div_cancel_left S hP
  have d1 : (B : Int) / (P : Int) = (S : Int) := by rw [← hPS, ← hB]; push_cast; rfl
  have d3 : (B : Int).tdiv (P : Int) = (S : Int) := by rw [Int.tdiv_eq_ediv_of_nonneg (by omega)]; exact d1
  have wS : IntKind.i64.wrap (S : Int) = (S : Int) := IntWalk.i64_in _ (by omega)
  have qP : ¬ (P : Int) = 0 := by omega
  have q2 : ((P : Int) == 0) = false := by rw [beq_eq_false_iff_ne]; omega
  have q9 : decide (f < -2147483648) = false := decide_eq_false (by omega)
  have q10 : decide (2147483647 < f) = false := decide_eq_false (by omega)
  have wf : IntKind.i32.wrap f = f := IntWalk.i32_in _ (by omega)
  obtain ⟨i8, h8⟩ := h8
  obtain ⟨iE, hE⟩ : ∃ i, (Tryd.prog.info? 21) = some i ∧ i.size = 1 := Option.map_eq_some_iff.1 (show (Tryd.prog.info? 21).map (fun i => i.size) = some 1 by kernel_rfl)
  clear hC hX hYl hY hst hPS hB
  by_cases c0 : T = 0
  · have q5 : ((T : Int) == 0) = true := by rw [beq_iff_eq]; omega
    have HT0 := Aside0.mk c0
    clear c0
    go_enter Tryd.func87, Tryd.ntmps87
    go_wp2_with (first
      | (go_at_call 107; go_loud (with_reducible refine HHD.out.mono ?_); rintro e w1 ⟨A1, c1, rfl, hc1, hC1, ⟨nd, rfl⟩⟩; have HC1 := Aside0.mk hC1; clear hC1))
    go_ret3
    have hbs : bs = [] := by have := HST.out; rw [HT0.out] at this; exact strOk_nil this
    have hr : rest = Y := by rw [← HYQ.out, hbs]; rfl
    have hrl : rest.length = Yl := by rw [hr, HYL.out]
    rw [← hrl] at hc1 HC1 ⊢
    exact ⟨_, A1, c1, rfl, .inl ⟨HT0.out, rfl⟩, hc1, fun W1 h => by rw [hr]; have := HC1.out W1 (Kd.C_below HCX.out h); rw [hr] at this; exact this, drewN_below W nd⟩
  have q5 : ((T : Int) == 0) = false := by rw [beq_eq_false_iff_ne]; omega
  obtain ⟨V, hV⟩ : ∃ V, (f :: blksV .i32 f bs).take T = V := ⟨_, rfl⟩
  have HV0 : Aside0 ([f] ++ (blksV .i32 f bs).take (T - 1) = V) := ⟨by rw [← hV]; obtain ⟨T', rfl⟩ : ∃ T', T = T' + 1 := ⟨T - 1, by omega⟩; rfl⟩
  rw [hV]
  have hmk : ∀ W : World, (Instr.makeSlice 29 (.int .i64 272) (.int .i64 272)).run Tryd.prog W = .ok (.slice (some ⟨W.heap.size, 0, none⟩) 272 272) (W.alloc (.cells (madeCells #[.int .u8 0] 272) 5)) := fun W => by
    have h := print_make (P := Tryd.prog) 29 5 .u8 1 Tryd.underlying29 infoU8 (by decide) 272 (by omega) W
    exact h
  have HFS := Aside0.mk fun W1 => freshInt32_calls D K T (by omega) W1
  obtain ⟨T1, hT1⟩ : ∃ T1, T - 1 = T1 := ⟨_, rfl⟩
  have hT1I : (T : Int) - 1 = (T1 : Int) := by omega
  rw [hT1] at HV0 HST
  have hTT : 1 + T1 = T := by omega
  have qi0 : (0 : Int) < (T : Int) := by omega
  have hT0 : 0 < T := by omega
  clear hV hT1 c0
  go_enter Tryd.func87, Tryd.ntmps87
  go_wp2_with (first
    | (go_at_call 107; go_loud (with_reducible refine HHD.out.mono ?_); rintro e w1 ⟨A1, c1, rfl, hc1, hC1, ⟨nd, rfl⟩⟩; have HC1 : Aside0 (∀ W1, Below W.heap.size W W1 → (Kd.int .u8).C W1 A1 Yl (blksB bs ++ rest)) := ⟨fun W1 h => by rw [HYQ.out]; exact hC1 W1 (Kd.C_below HCX.out h)⟩; have HB1 := Aside0.mk (drewN_below W nd); clear hC1)
    | (go_at_call 124; go_loud (with_reducible refine (HFS.out _).mono ?_); rintro e w2 ⟨rfl, hf, hb, hlt⟩; have hgO : W.heap.size ≤ (W.drewN nd).heap.size := Nat.le_refl _; obtain ⟨gO, hgOq⟩ : ∃ gO, (W.drewN nd).heap.size = gO := ⟨_, rfl⟩; rw [hgOq] at hf hlt hgO ⊢; have HF2 := Aside0.mk hf; have HB2 := Aside0.mk (HB1.out.trans (hb.mono HB1.out.size)); have rc := hf.at' 0 (by rw [List.length_replicate]; omega); have rf := hf.free 0; obtain ⟨z0, hz0⟩ : ∃ z, rd (List.replicate T (0 : Int)) ((0 : Nat) : Int) = z := ⟨_, rfl⟩; rw [hz0] at rc; clear hf hb hz0 hgOq))
  have HF3 : Aside0 (Front (w2.setCell ⟨gO, 0, none⟩ (.int .i32 f)) gO T 21 .i32 ([f] ++ List.replicate T1 0)) := ⟨by
    have h := setF HF2.out 0 (by rw [List.length_replicate]; omega) f
    rw [show T = T1 + 1 by omega, List.replicate_succ, List.set_cons_zero] at h
    rw [show T = T1 + 1 by omega]; exact h⟩
  have HB3 : Aside0 (Below W.heap.size W (w2.setCell ⟨gO, 0, none⟩ (.int .i32 f))) := ⟨Below.setCell (p := ⟨gO, 0, none⟩) HB2.out hgO _⟩
  have hsz3 : (w2.setCell ⟨gO, 0, none⟩ (.int .i32 f)).heap.size = w2.heap.size := by simp [World.setCell]
  have hlt3 : gO < (w2.setCell ⟨gO, 0, none⟩ (.int .i32 f)).heap.size := by simpa [World.setCell] using hlt
  generalize w2.setCell ⟨gO, 0, none⟩ (.int .i32 f) = w3 at *
  have HF4 : Aside0 (Front (w3.alloc (.cells (madeCells #[.int .u8 0] 272) 5)) gO T 21 .i32 ([f] ++ List.replicate T1 0)) := ⟨HF3.out.below (B := w3.heap.size) ((Below.refl _ _).alloc (Nat.le_refl _) _) hlt3⟩
  have HM4 : Aside0 (Front (w3.alloc (.cells (madeCells #[.int .u8 0] 272) 5)) w3.heap.size 272 5 .u8 []) := ⟨by
    have := Front.ofRow (madeRow w3 5 .u8 272) 0 (by simp)
    rw [List.length_replicate, List.take_zero] at this; exact this⟩
  have HB4 : Aside0 (Below W.heap.size W (w3.alloc (.cells (madeCells #[.int .u8 0] 272) 5))) := ⟨HB3.out.alloc HB3.out.size _⟩
  rw [hsz3] at HM4
  have hgm0 : w2.heap.size ≠ gO := by omega
  have hbm0 : W.heap.size ≤ w2.heap.size := by rw [← hsz3]; exact HB3.out.size
  go_wp2_with (fail)
  generalize w3.alloc (.cells (madeCells #[.int .u8 0] 272) 5) = w4 at *
  generalize w2.heap.size = gm0 at *
  go_loopg [1, 9, 11, 12, 14, 16, 17, 18, 19, 21, 22, 23, 24] bs.length (fun kq v1 v9 v11 v12 v14 v16 v17 v18 v19 v21 v22 v23 v24 w' => ∃ (bb : List DBlk) (R : Nat) (last : Int) (V0 : List Int) (ol n1 c1 : Nat) (A1 : Option Addr) (nm gm Cm : Nat), v1 = .slice A1 n1 c1 ∧ n1 ≤ c1 ∧ n1 ≤ 268435455 ∧ v9 = .int .i64 R ∧ v12 = .int .i64 ol ∧ v14 = .int .i32 last ∧ v16 = .slice (some ⟨gm, 0, none⟩) nm Cm ∧ nm ≤ Cm ∧ Cm ≤ 9223372036854775807 ∧ W.heap.size ≤ gm ∧ gm ≠ gO ∧ ol + R = T ∧ Aside0 (V0.length = ol) ∧ Aside0 (strOk 32 P S R bb) ∧ Aside0 (V0 ++ (blksV .i32 last bb).take R = V) ∧ Aside0 (∀ W1, Below W.heap.size W W1 → (Kd.int .u8).C W1 A1 n1 (blksB bb ++ rest)) ∧ Aside0 (Front w' gO T 21 .i32 (V0 ++ List.replicate R 0)) ∧ Aside0 (Front w' gm Cm 5 .u8 []) ∧ Aside0 (Below W.heap.size W w') ∧ Aside0 (bb.length ≤ kq))
  case atStart => exact ⟨bs, T1, f, [f], 1, Yl, c1, A1, 272, gm0, 272, rfl, hc1, hY9, rfl, rfl, rfl, rfl, by omega, by omega, hbm0, hgm0, hTT, ⟨rfl⟩, HST, HV0, HC1, HF4, HM4, HB4, ⟨Nat.le_refl _⟩⟩
  case round =>
    clear HF2 HF3 HF4 HM4 HB1 HB2 HB3 HB4 hgm0 hbm0 hlt hlt3 HV0 HST HC1 hc1 hY9 rc rf HHD HFS hmk
    obtain ⟨bb, R, last, V0, ol, n1, c1, A1, nm, gm, Cm, rfl, hc1, hn1, rfl, rfl, rfl, rfl, hnm, hCm, hbm, hgm, hTI, HOLQ, HST, HV, HC1, HF, HM, HB, HK⟩ := hrel
    by_cases cR : R = 0
    · have q0 : decide (0 < (R : Int)) = false := decide_eq_false (by omega)
      have q0n : decide (0 < R) = false := decide_eq_false (by omega)
      have hbb : bb = [] := by have := HST.out; rw [cR] at this; exact strOk_nil this
      have hn := (HC1.out W (Below.refl _ _)).1
      rw [hbb] at hn HC1
      have hn : rest.length = n1 := hn
      have hoV := HV.out
      rw [cR, List.take_zero, List.append_nil] at hoV
      have HOV := Aside0.mk hoV
      have HR0 := Aside0.mk cR
      subst hn
      clear hoV hbb cR
      go_wp2_with (fail)
      go_ret3
      have hown := HF.out.toOwn hgO (by omega)
      rw [HR0.out, List.replicate_zero, List.append_nil, HOLQ.out, show ol = T by have := HR0.out; omega] at hown
      exact ⟨_, A1, c1, rfl, .inr ⟨hT0, by rw [← HOV.out]; exact hown⟩, hc1, HC1.out, HB.out⟩
    · have q0 : decide (0 < (R : Int)) = true := decide_eq_true (by omega)
      have q0n : decide (0 < R) = true := decide_eq_true (by omega)
      obtain ⟨gk0, rfl⟩ : ∃ gk0, gk = gk0 + 1 := ⟨gk - 1, by
        have h1 := HK.out; have h2 := HST.out
        cases bb with
        | nil => exact absurd h2 cR
        | cons b bb => simp at h1; omega⟩
      cases bb with
      | nil => exact absurd HST.out cR
      | cons b bb =>
        obtain ⟨m, ps⟩ := b
        have HBE := Aside0.mk fun i q hi hq he => blk_end (P := P) (S := S) .i32 V0 V i q HST.out HV.out hi hq he
        obtain ⟨h0, ⟨hpl, hps⟩, htl, hm, hst'⟩ := HST.out
        have hpl : ps.length = P := hpl
        have hps : ∀ p ∈ ps, p.1 ≤ 32 ∧ p.2.length = S ∧ fitL p.1 p.2 := hps
        have hm : -9223372036854775808 ≤ m ∧ m ≤ 9223372036854775807 := hm
        obtain ⟨Y2, hY2⟩ : ∃ Y2, blksB bb ++ rest = Y2 := ⟨_, rfl⟩
        have hstr : blksB ((m, ps) :: bb) ++ rest = varL (zz m) ++ (natsI (ps.map (·.1)) ++ (partsB ps ++ Y2)) := by
          rw [blksB_cons, ← hY2]; unfold blkB; simp only [List.append_assoc]
        have HY2 := Aside0.mk hY2
        rw [hstr] at HC1
        have hnl : (natsI (ps.map (·.1))).length = P := by rw [natsI_length, List.length_map, hpl]
        have HBK := Aside0.mk (decBlk_calls A1 n1 c1 m (natsI (ps.map (·.1))) (partsB ps ++ Y2) P wr (HC1.out wr HB.out) hc1 hn1 hnl hm.1 hm.2)
        have hn1l := (HC1.out wr HB.out).1
        have hL0 := varL_pos (zz m)
        rw [List.length_append, List.length_append] at hn1l
        have q1 : decide (0 < (n1 : Int)) = true := decide_eq_true (by omega)
        have q1n : decide (0 < n1) = true := decide_eq_true (by omega)
        obtain ⟨rl, hrl⟩ : ∃ rl, (partsB ps ++ Y2).length = rl := ⟨_, rfl⟩
        rw [hrl] at HBK hn1l
        have hrl9 : rl ≤ 268435455 := by omega
        have HPS := Aside0.mk hps
        have HPL := Aside0.mk hpl
        have HVBL : Aside0 ((walkV .i32 m last (blkN (m, ps))).length = P * S) := ⟨by rw [walkV_length, blkN_length (W := 32) ⟨hpl, hps⟩]⟩
        have hNl : (blkN (m, ps)).length = P * S := blkN_length (W := 32) ⟨hpl, hps⟩
        have HKr := Aside0.mk (show bb.length + 1 ≤ gk0 + 1 from HK.out)
        obtain ⟨VB, hVB⟩ : ∃ VB, walkV .i32 m last (blkN (m, ps)) = VB := ⟨_, rfl⟩
        obtain ⟨RW, hRW⟩ : ∃ RW, (blkN (m, ps)).map IntKind.i32.wrap = RW := ⟨_, rfl⟩
        have hRl0 := hNl
        obtain ⟨mw, hmwq⟩ : ∃ mw, IntKind.i32.wrap m = mw := ⟨_, rfl⟩
        have hRl : RW.length = P * S := by rw [← hRW, List.length_map, hNl]
        have HDS : Aside0 (∀ (W1 : World) (q : Nat), q ≤ P * S → q ≤ R → Front W1 gO T 21 .i32 (V0 ++ (RW.take q ++ List.replicate (R - q) 0)) → Calls Tryd.prog 126 #[.slice (some ⟨gO, ol, none⟩) q (T - ol), .int .i32 mw, .int .i32 last] W1 fun e w' => e = .returned (.int .i32 (prv last VB q)) ∧ Front w' gO T 21 .i32 (V0 ++ VB.take q ++ List.replicate (R - q) 0) ∧ W1.grownBy w' (some gO)) := ⟨fun W1 q hq hqR hf => by
          have h := decSumInt32_calls gO T 21 q (T - ol) V0 (RW.take q) (List.replicate (R - q) 0) mw last W1 hf (by rw [List.length_take, hRl]; omega) (by omega)
          have e : walkV .i32 mw last (RW.take q) = VB.take q := by
            rw [← hmwq, ← hRW, ← List.map_take, walkV_wrap32, walkV_take, hVB]
          rw [e, HOLQ.out, prv_take last VB q (by rw [← hVB, walkV_length, hNl]; exact hq), ← List.append_assoc] at h
          exact h⟩
        rw [hVB] at HBE HVBL
        have HRW := Aside0.mk hRW
        have HRL := Aside0.mk hRl
        have HFR : Aside0 (∀ W1, Front W1 gO T 21 .i32 (V0 ++ List.replicate R 0) → Front W1 gO T 21 .i32 (V0 ++ (RW.take 0 ++ List.replicate R 0))) := ⟨fun W1 h => by rw [List.take_zero, List.nil_append]; exact h⟩
        have HC1L := Aside0.mk HC1.out
        clear htl hps hpl hnl hst' hstr hY2 hn1l hL0 hrl hNl hVB hRW hRl
        go_wp2_with (first
          | (go_at_call 109; go_loud (with_reducible refine HBK.out.mono ?_); rintro e w5 ⟨Aw, cw, A3, c3, rfl, hcw, hc3, hCC, ⟨nd, rfl⟩⟩; have HCWd : Aside0 (∀ W1, Below W.heap.size W W1 → (Kd.int .u8).C W1 Aw P (natsI (ps.map (·.1)))) := ⟨fun W1 h => (hCC W1 (HC1L.out W1 h)).1⟩; have HCP : Aside0 (∀ W1, Below W.heap.size W W1 → (Kd.int .u8).C W1 A3 rl (partsB (ps.drop 0) ++ Y2)) := ⟨fun W1 h => by have := (hCC W1 (HC1L.out W1 h)).2; exact this⟩; have HF5 := Aside0.mk (HFR.out _ (HF.out.drewN nd)); have HM5 := Aside0.mk (HM.out.drewN nd); have HB5 := Aside0.mk (HB.out.trans ((drewN_below wr nd).mono HB.out.size)); clear hCC))
        clear HF HM HB HC1 HC1L HBK HFR hc1 hn1
        go_loopg [1, 9, 12, 16, 21, 22, 23, 24, 99] P (fun kq v1 v9 v12 v16 v21 v22 v23 v24 v88 w' => ∃ (i q n3 c3 : Nat) (A3 : Option Addr) (r wo nm gm Cm : Nat), i ≤ P ∧ v88 = .int .i64 i ∧ v1 = .slice A3 n3 c3 ∧ n3 ≤ c3 ∧ n3 ≤ 268435455 ∧ v9 = .int .i64 r ∧ q + r = R ∧ 0 < r ∧ v12 = .int .i64 wo ∧ wo = ol + q ∧ v16 = .slice (some ⟨gm, 0, none⟩) nm Cm ∧ nm ≤ Cm ∧ Cm ≤ 9223372036854775807 ∧ W.heap.size ≤ gm ∧ gm ≠ gO ∧ Aside0 (q = i * S) ∧ Aside0 (∀ W1, Below W.heap.size W W1 → (Kd.int .u8).C W1 A3 n3 (partsB (ps.drop i) ++ Y2)) ∧ Aside0 (Front w' gO T 21 .i32 (V0 ++ (RW.take q ++ List.replicate r 0))) ∧ Aside0 (Front w' gm Cm 5 .u8 []) ∧ Aside0 (Below W.heap.size W w') ∧ Aside0 (P - i ≤ kq))
        case atStart => exact ⟨0, 0, rl, c3, A3, R, ol, nm, gm, Cm, by omega, rfl, rfl, hc3, hrl9, rfl, by omega, by omega, rfl, by omega, rfl, hnm, hCm, hbm, hgm, ⟨by omega⟩, HCP, HF5, HM5, HB5, ⟨by omega⟩⟩
        case round =>
          clear HCP HF5 HM5 HB5 hc3 hrl9 hbm hgm hnm hCm
          obtain ⟨i, q, n3, c3, A3, r, wo, nm, gm, Cm, hi, rfl, rfl, hc3, hn3, rfl, hqr, hr0, rfl, hwo, rfl, hnm, hCm, hbm, hgm, HQ, HCP, HF, HM, HB, HK2⟩ := hrel
          by_cases ci : i < P
          · have cib : decide ((i : Int) < (P : Int)) = true := decide_eq_true (by omega)
            have cibn : decide (i < P) = true := decide_eq_true ci
            have hmem := getD_mem ps i (by rw [HPL.out]; exact ci)
            obtain ⟨hw64, hnsl, hfit⟩ := HPS.out _ hmem
            obtain ⟨ad, ead, hcell⟩ := Kd.at_int (HCWd.out wr HB.out) (i : Int) (by omega) (by omega)
            rw [Int.toNat_natCast, fst_rd ps i (by rw [HPL.out]; exact ci)] at hcell
            obtain ⟨w, hw⟩ : ∃ w, (ps.getD i (0, [])).1 = w := ⟨_, rfl⟩
            obtain ⟨ns, hns⟩ : ∃ ns, (ps.getD i (0, [])).2 = ns := ⟨_, rfl⟩
            rw [hw] at hcell hw64 hfit
            rw [hns] at hnsl hfit
            have hdr := partsB_drop ps i (by rw [HPL.out]; exact ci)
            rw [hw, hns] at hdr
            have hfp := fun n (hn : n ≤ S) => flat_part S ps i n (fun p hp => (HPS.out p hp).2.1) (by rw [HPL.out]; exact ci) hn
            rw [hns] at hfp
            subst ead
            obtain ⟨nn, hnn⟩ : ∃ nn, min S r = nn := ⟨_, rfl⟩
            have hnS : nn ≤ S := by omega
            have hnr : nn ≤ r := by omega
            have hnp : 0 < nn := by omega
            have hnI : min (S : Int) (r : Int) = (nn : Int) := by omega
            obtain ⟨qe, hqe⟩ : ∃ qe, q + nn = qe := ⟨_, rfl⟩
            obtain ⟨r2, hr2⟩ : ∃ r2, r - nn = r2 := ⟨_, rfl⟩
            have hr2I : (r : Int) - (nn : Int) = (r2 : Int) := by omega
            obtain ⟨w2, hw2⟩ : ∃ w2, wo + nn = w2 := ⟨_, rfl⟩
            have hw2I : (wo : Int) + (nn : Int) = (w2 : Int) := by omega
            have hw2e : w2 = ol + qe := by omega
            have hqi := HQ.out
            have hiS1 : (i + 1) * S ≤ P * S := Nat.mul_le_mul_right S ci
            have hqe9 : qe ≤ P * S := by rw [Nat.succ_mul] at hiS1; omega
            have hqeR : qe ≤ R := by omega
            have HQE : Aside0 (qe = min ((i + 1) * S) R) := ⟨by rw [Nat.succ_mul]; omega⟩
            have hRWe : RW.take qe = RW.take q ++ (ns.take nn).map IntKind.i32.wrap := by
              rw [← HRW.out]
              show (List.map _ (ps.flatMap (·.2))).take qe = (List.map _ (ps.flatMap (·.2))).take q ++ _
              rw [← List.map_take, ← List.map_take, ← hqe, hqi, hfp nn hnS, List.map_append]
            have HRE := Aside0.mk hRWe
            have HDR := Aside0.mk hdr
            have HFIT := Aside0.mk hfit
            have HNSL := Aside0.mk hnsl
            have HQI := Aside0.mk hqi
            have HQEN := Aside0.mk hqe
            have HRQ : Aside0 (R - qe = r2) := ⟨by omega⟩
            have HWO : Aside0 (w2 = ol + qe) := ⟨hw2e⟩
            have HR2 := Aside0.mk hr2
            have HW2 := Aside0.mk hw2
            have hw29 : w2 ≤ T := by omega
            have hwo9 : wo ≤ w2 := by omega
            have HNN := Aside0.mk hnn
            have cutE := cutTail (P := Tryd.prog) 45 21 Tryd.underlying45 hE.1 hE.2 gO T T ol w2 (by omega) (by omega) (by omega)
            rw [show w2 - ol = qe by omega] at cutE
            have hcS : nn = S ∨ r2 = 0 := by omega
            have hin : i + 1 ≤ P := ci
            have hwoT : wo < T := by omega
            have hr9 : r ≤ R := by omega
            have HWOQ := Aside0.mk hwo
            have HQR := Aside0.mk hqr
            clear hmem hw hns hdr hfp hqi hRWe hfit hw2e hiS1 hqe hr2 hw2 hnn hwo hqr
            by_cases cw0 : w = 0
            · have q7 : ((w : Int) == 0) = true := by rw [beq_iff_eq]; omega
              have q7n : ((w : Int) != 0) = false := by simp [bne, q7]
              have HCN : Aside0 (∀ W1, Below W.heap.size W W1 → (Kd.int .u8).C W1 A3 n3 (partsB (ps.drop (i + 1)) ++ Y2)) := ⟨fun W1 h => by have := HCP.out W1 h; rw [HDR.out, cw0, packLo_zero, List.nil_append] at this; exact this⟩
              have HF9 : Aside0 (Front wr gO T 21 .i32 (V0 ++ (RW.take qe ++ List.replicate r2 0))) := ⟨by
                have h := HF.out
                have hz := fit_zero (show fitL 0 ns by rw [← cw0]; exact HFIT.out)
                rw [HRE.out, hz, HNSL.out, List.take_replicate, Nat.min_eq_left hnS, List.map_replicate, show IntKind.i32.wrap 0 = 0 by decide, List.append_assoc, List.replicate_append_replicate, show nn + r2 = r by have := HR2.out; omega]
                exact h⟩
              have HM9 := Aside0.mk HM.out
              have HB9 := Aside0.mk HB.out
              have HW0 := Aside0.mk cw0
              clear cw0 HF HM HB HCP
              by_cases cr2 : r2 = 0
              · have q8 : ((r2 : Int) == 0) = true := by rw [beq_iff_eq]; omega
                have HEND := Aside0.mk (HBE.out (i + 1) qe hin HQE.out (.inr (by have := HRQ.out; omega)))
                clear cr2
                go_wp2_with (fail)
                have HFE : Aside0 (Front wr gO T 21 .i32 (V0 ++ (RW.take qe ++ List.replicate (R - qe) 0))) := ⟨by rw [HRQ.out]; exact HF9.out⟩
                have HCE := Aside0.mk HCN.out
                have HME := Aside0.mk HM9.out
                have HBE2 := Aside0.mk HB9.out
                go_wp2_with (first
                  | (go_at_call 126; go_loud (with_reducible refine (HDS.out _ qe hqe9 hqeR HFE.out).mono ?_); rintro e w8 ⟨rfl, hf, hg⟩; have HF8 := Aside0.mk hf; have HM8 := Aside0.mk (frontG HME.out hg (fun e => hgm (by injection e))); have HB8 : Aside0 (Below W.heap.size W w8) := ⟨HBE2.out.grown hg HBE2.out.size (fun j hj => by injection hj with hj; omega)⟩; clear hf hg))
                go_roundg gk0
                case measure => omega
                case rel =>
                  obtain ⟨e1, e2, e3, e4, e5⟩ := HEND.out
                  have hrr : R - P * S = r2 := by have := HRQ.out; omega
                  refine ⟨bb, R - P * S, prv last VB qe, V0 ++ VB.take qe, ol + qe, n3, c3, A3, nm, gm, Cm, rfl, hc3, hn3, by rw [hrr], by rw [HWO.out], rfl, rfl, hnm, hCm, hbm, hgm, by omega, ⟨by rw [List.length_append, List.length_take, HVBL.out, HOLQ.out]; omega⟩, ⟨e2⟩, ⟨e5⟩, ⟨fun W1 h => ?_⟩, ⟨?_⟩, HM8, HB8, ⟨by have := HKr.out; omega⟩⟩
                  · have := HCE.out W1 h
                    rw [e1, ← HY2.out, List.nil_append] at this
                    exact this
                  · have h := HF8.out
                    rw [show R - qe = R - P * S by omega] at h
                    exact h
              · have q8 : ((r2 : Int) == 0) = false := by rw [beq_eq_false_iff_ne]; omega
                go_wp2_with (fail)
                go_roundg (gk - 1)
                case measure => have := HK2.out; omega
                case rel =>
                  exact ⟨i + 1, qe, n3, c3, A3, r2, w2, nm, gm, Cm, hin, by go_num, rfl, hc3, hn3, rfl, by have := HRQ.out; omega, by omega, rfl, HWO.out, rfl, hnm, hCm, hbm, hgm, ⟨by have := HQE.out; have := HRQ.out; omega⟩, HCN, HF9, HM9, HB9, ⟨by have := HK2.out; omega⟩⟩
            · have q7 : ((w : Int) == 0) = false := by rw [beq_eq_false_iff_ne]; omega
              have q7n : ((w : Int) != 0) = true := by simp [bne, q7]
              obtain ⟨sz, hsz⟩ : ∃ sz, S * w / 8 = sz := ⟨_, rfl⟩
              have hsz8 : S * w = 8 * sz := by
                obtain ⟨s8, hs8⟩ : ∃ s8, S = 8 * s8 := ⟨S / 8, by omega⟩
                rw [← hsz, hs8, Nat.mul_assoc]; omega
              have hszI : (S : Int) * (w : Int) = ((8 * sz : Nat) : Int) := by rw [← hsz8]; push_cast; rfl
              have hsw : S * w ≤ 4194304 := Nat.le_trans (Nat.mul_le_mul hS9 hw64) (by omega)
              have hswp : S ≤ S * w := Nat.le_mul_of_pos_right S (by omega)
              obtain ⟨sw, hswq⟩ : ∃ sw, 8 * sz = sw := ⟨_, rfl⟩
              rw [hswq] at hszI
              have hq1 : (sw : Int) / 8 = (sz : Int) := by omega
              have hq2 : (sw : Int).tdiv 8 = (sz : Int) := by rw [Int.tdiv_eq_ediv_of_nonneg (by omega)]; exact hq1
              have hpk : (packLo w ns).length = sz := by unfold packLo; rw [bytesLo_length, HNSL.out, hsz]
              have hn3l := (HCP.out wr HB.out).1
              rw [HDR.out, List.append_assoc, List.length_append, hpk] at hn3l
              have hsz3 : sz ≤ n3 := by omega
              have hsz0 : 0 < sz := by omega
              have hsz9 : sz ≤ 524288 := by omega
              have qn3 : decide ((sz : Int) ≤ (n3 : Int)) = true := decide_eq_true (by omega)
              have qn3n : decide (sz ≤ n3) = true := decide_eq_true hsz3
              obtain ⟨cutw, hCw⟩ := cutHi (P := Tryd.prog) 29 5 Tryd.underlying29 h8.1 A3 n3 c3 .i64 (sz : Int) sz rfl hsz3 hc3
              obtain ⟨A5, cutb, hCb⟩ := cutLo (P := Tryd.prog) 29 5 Tryd.underlying29 h8.1 h8.2 A3 n3 c3 .i64 (sz : Int) sz rfl hsz3 hc3
              obtain ⟨cutw2, _⟩ := cutHi (P := Tryd.prog) 29 5 Tryd.underlying29 h8.1 A3 sz c3 .i64 (sz : Int) sz rfl (Nat.le_refl _) (by omega)
              have HCPk : Aside0 (∀ W1, Below W.heap.size W W1 → (Kd.int .u8).C W1 A3 sz (packLo w ns)) := ⟨fun W1 h => by have := hCw _ W1 _ (HCP.out W1 h); rw [HDR.out, List.append_assoc, List.take_left' hpk] at this; exact this⟩
              have HCN : Aside0 (∀ W1, Below W.heap.size W W1 → (Kd.int .u8).C W1 A5 (n3 - sz) (partsB (ps.drop (i + 1)) ++ Y2)) := ⟨fun W1 h => by have := hCb (Kd.int .u8) W1 _ rfl (HCP.out W1 h); rw [HDR.out, List.append_assoc, List.drop_left' hpk] at this; exact this⟩
              have HPK := Aside0.mk hpk
              obtain ⟨nz, hnz⟩ : ∃ nz, n3 - sz = nz := ⟨_, rfl⟩
              obtain ⟨cz, hcz⟩ : ∃ cz, c3 - sz = cz := ⟨_, rfl⟩
              rw [hnz] at HCN cutb
              rw [hcz] at cutb
              have hnz1 : nz ≤ cz := by omega
              have hnz9 : nz ≤ 268435455 := by omega
              have cutU := cutTail (P := Tryd.prog) 45 21 Tryd.underlying45 hE.1 hE.2 gO T T wo w2 hwoT hwo9 hw29
              rw [show w2 - wo = nn by have := HW2.out; omega] at cutU
              have HXL : Aside0 ((V0 ++ RW.take q).length = wo) := ⟨by
                have h1 := HQEN.out; have h2 := HWOQ.out; have h3 := HQI.out
                rw [List.length_append, HOLQ.out, List.length_take, HRL.out]; omega⟩
              have HUP : Aside0 (∀ (W1 : World) (A6 : Option Addr) (c6 : Nat), Front W1 gO T 21 .i32 (V0 ++ (RW.take q ++ List.replicate r 0)) → ReadKeep W1 gO .u8 A6 sz (packLo w ns) → Calls Tryd.prog 125 #[.slice (some ⟨gO, wo, none⟩) nn (T - wo), .slice A6 sz c6, .int .u64 w] W1 fun e w' => e = .returned (.tuple #[]) ∧ Front w' gO T 21 .i32 (V0 ++ (RW.take qe ++ List.replicate r2 0)) ∧ W1.grownBy w' (some gO)) := ⟨fun W1 A6 c6 hf hk => by
                have h := unpackInt32_calls gO T 21 nn (T - wo) (V0 ++ RW.take q) (List.replicate r 0) A6 sz c6 sz w (packLo w ns) W1 (by rw [List.append_assoc]; exact hf) (by rw [List.length_replicate]; exact hnr) (by omega) hk (Nat.le_refl _) (by omega) (packLo_bytes w ns) hw64 (by rw [← hsz8]; exact Nat.mul_le_mul_right w hnS) (by omega)
                rw [HXL.out, unpI_pack .i32 w nn ns (by rw [HNSL.out]; exact hnS) (by rw [HNSL.out]; omega) HFIT.out, List.drop_replicate, HR2.out, List.append_assoc, List.append_assoc, ← List.append_assoc (RW.take q), ← HRE.out] at h
                exact h⟩
              clear hsz hsz8 hsw hswq hpk hn3l hCw hCb HCP hnz hcz cw0 hswp
              by_cases ccp : c3 < sz + 16
              · have qcp : decide ((c3 : Int) < (sz : Int) + 16) = true := decide_eq_true (by omega)
                have cutz := cutAtMid0 (P := Tryd.prog) 29 5 Tryd.underlying29 h8.1 h8.2 gm nm Cm 0 (Nat.zero_le _)
                rw [show ((0 : Nat) : Int) = 0 from rfl] at cutz
                have HRZ : Aside0 (Calls Tryd.prog 94 #[.slice (some ⟨gm, 0, none⟩) 0 Cm, .int .i64 ((sz : Int) + 16)] wr fun e w' => ∃ g M, e = .returned (.slice (some ⟨g, 0, none⟩) (sz + 16) M) ∧ Front w' g M 5 .u8 (List.replicate (sz + 16) 0) ∧ sz + 16 ≤ M ∧ M ≤ 9223372036854775807 ∧ W.heap.size ≤ g ∧ g ≠ gO ∧ wr.grownBy w' (some g)) := ⟨by
                  have := resizeZ_calls W.heap.size (.slice (some ⟨gm, 0, none⟩) 0 Cm) [] (sz + 16) wr (HM.out.toOwn hbm hCm) HB.out.size (by simp) (by omega)
                  rw [show ((sz + 16 : Nat) : Int) = (sz : Int) + 16 by omega] at this
                  refine this.mono ?_
                  rintro e w' ⟨g, M, rfl, hf, h1, h2, h3, h4, hg⟩
                  refine ⟨g, M, rfl, by simpa using hf, h1, h2, h3, ?_, hg⟩
                  have hlt := HF.out.lt
                  rcases h4 with h | h
                  · omega
                  · have h : some gm = some g := h
                    injection h with h
                    omega⟩
                obtain ⟨ad3, ead3, _⟩ := copySrc (HCPk.out wr HB.out) (by rw [HPK.out]; exact hsz0)
                subst ead3
                have hlt0 := HF.out.lt
                by_cases cr2 : r2 = 0
                · have q8 : ((r2 : Int) == 0) = true := by rw [beq_iff_eq]; omega
                  have HEND := Aside0.mk (HBE.out (i + 1) qe hin HQE.out (.inr (by have := HRQ.out; omega)))
                  clear cr2
                  go_wp2_with (first
                    | (go_at_call 94; go_loud (with_reducible refine HRZ.out.mono ?_); rintro e w6 ⟨g2, M2, rfl, hf, h1, h2, h3, h4, hg⟩; have HF6 := Aside0.mk hf; have HO6 := Aside0.mk (frontG HF.out hg (fun e => h4 (by injection e with e; exact e.symm))); have HB6 : Aside0 (Below W.heap.size W w6) := ⟨HB.out.grown hg HB.out.size (fun j hj => by injection hj with hj; omega)⟩; obtain ⟨ad3', e3, hsrc⟩ := copySrc (HCPk.out w6 HB6.out) (by rw [HPK.out]; exact hsz0); injection e3 with e3; subst e3; have HSRC := Aside0.mk hsrc; have cutm := cutAtMid0 (P := Tryd.prog) 29 5 Tryd.underlying29 h8.1 h8.2 g2 (sz + 16) M2 sz (by omega); have cutm2 := cutAtMid0 (P := Tryd.prog) 29 5 Tryd.underlying29 h8.1 h8.2 g2 sz M2 sz (by omega); have hmin : Nat.min sz (sz + 16) = sz := Nat.min_eq_left (by omega); have hgint : goInt (packLo w ns).length = .int .i64 (sz : Int) := (by rw [HPK.out]; rfl); have HGI := Aside0.mk hgint; clear hf hg hsrc hgint)
                    | ((refine wpList_copy_front ?hgd (.tmp 136) (.tmp 137) 29 29 ?ho0 5 Tryd.underlying29 ?h1 g2 (sz + 16) M2 ad3 sz c3 [] (packLo w ns) (List.replicate (sz + 16) 0) ?hd ?hs 5 M2 .u8 HF6.out ?hn HSRC.out ?hy ?_); (case ho0 => rfl); (case hgd => rfl); (case hd => rfl); (case hs => rfl); go_loud ((case h1 => kernel_rfl)); go_loud ((case hn => rw [HPK.out]; exact hmin.symm)); go_loud ((case hy => rw [HPK.out, List.length_replicate]; omega)); intro w7 hf hg; rw [HGI.out]; have HF7 := Aside0.mk hf; have HO7 := Aside0.mk (frontG HO6.out hg (fun e => h4 (by injection e with e; exact e.symm))); have HB7 : Aside0 (Below W.heap.size W w7) := ⟨HB6.out.grown hg HB6.out.size (fun j hj => by injection hj with hj; omega)⟩; have HRK : Aside0 (ReadKeep w7 gO .u8 (some ⟨g2, 0, none⟩) sz (packLo w ns)) := ⟨fun W1 hW => (by have h := frontR ((frontG HF7.out hW (fun e => h4 (by injection e))).take sz) h2; rw [List.nil_append, List.take_left' HPK.out, HPK.out] at h; exact h)⟩; clear hf hg)
                    | (go_at_call 125; go_loud (with_reducible refine (HUP.out w7 (some ⟨g2, 0, none⟩) M2 HO7.out HRK.out).mono ?_); rintro e w9 ⟨rfl, hf, hg⟩; have HF9 := Aside0.mk hf; have HM9 : Aside0 (Front w9 g2 M2 5 .u8 []) := ⟨(by have := (frontG HF7.out hg (fun e => h4 (by injection e))).take 0; rw [List.take_zero] at this; exact this)⟩; have HB9 : Aside0 (Below W.heap.size W w9) := ⟨HB7.out.grown hg HB7.out.size (fun j hj => by injection hj with hj; omega)⟩; clear hf hg))
                  have HFE : Aside0 (Front w9 gO T 21 .i32 (V0 ++ (RW.take qe ++ List.replicate (R - qe) 0))) := ⟨by rw [HRQ.out]; exact HF9.out⟩
                  have HCE := Aside0.mk HCN.out
                  have HME := Aside0.mk HM9.out
                  have HBE2 := Aside0.mk HB9.out
                  go_wp2_with (first
                    | (go_at_call 126; go_loud (with_reducible refine (HDS.out _ qe hqe9 hqeR HFE.out).mono ?_); rintro e w8 ⟨rfl, hf, hg⟩; have HF8 := Aside0.mk hf; have HM8 := Aside0.mk (frontG HME.out hg (fun e => h4 (by injection e))); have HB8 : Aside0 (Below W.heap.size W w8) := ⟨HBE2.out.grown hg HBE2.out.size (fun j hj => by injection hj with hj; omega)⟩; clear hf hg))
                  go_roundg gk0
                  case measure => omega
                  case rel =>
                    obtain ⟨e1, e2, e3, e4, e5⟩ := HEND.out
                    have hrr : R - P * S = r2 := by have := HRQ.out; omega
                    refine ⟨bb, R - P * S, prv last VB qe, V0 ++ VB.take qe, ol + qe, nz, cz, A5, (sz + 16), g2, M2, rfl, hnz1, hnz9, by rw [hrr], by rw [HWO.out], rfl, rfl, h1, h2, h3, h4, by omega, ⟨by rw [List.length_append, List.length_take, HVBL.out, HOLQ.out]; omega⟩, ⟨e2⟩, ⟨e5⟩, ⟨fun W1 h => ?_⟩, ⟨?_⟩, HM8, HB8, ⟨by have := HKr.out; omega⟩⟩
                    · have := HCE.out W1 h
                      rw [e1, ← HY2.out, List.nil_append] at this
                      exact this
                    · have h := HF8.out
                      rw [show R - qe = R - P * S by omega] at h
                      exact h
                · have q8 : ((r2 : Int) == 0) = false := by rw [beq_eq_false_iff_ne]; omega
                  go_wp2_with (first
                    | (go_at_call 94; go_loud (with_reducible refine HRZ.out.mono ?_); rintro e w6 ⟨g2, M2, rfl, hf, h1, h2, h3, h4, hg⟩; have HF6 := Aside0.mk hf; have HO6 := Aside0.mk (frontG HF.out hg (fun e => h4 (by injection e with e; exact e.symm))); have HB6 : Aside0 (Below W.heap.size W w6) := ⟨HB.out.grown hg HB.out.size (fun j hj => by injection hj with hj; omega)⟩; obtain ⟨ad3', e3, hsrc⟩ := copySrc (HCPk.out w6 HB6.out) (by rw [HPK.out]; exact hsz0); injection e3 with e3; subst e3; have HSRC := Aside0.mk hsrc; have cutm := cutAtMid0 (P := Tryd.prog) 29 5 Tryd.underlying29 h8.1 h8.2 g2 (sz + 16) M2 sz (by omega); have cutm2 := cutAtMid0 (P := Tryd.prog) 29 5 Tryd.underlying29 h8.1 h8.2 g2 sz M2 sz (by omega); have hmin : Nat.min sz (sz + 16) = sz := Nat.min_eq_left (by omega); have hgint : goInt (packLo w ns).length = .int .i64 (sz : Int) := (by rw [HPK.out]; rfl); have HGI := Aside0.mk hgint; clear hf hg hsrc hgint)
                    | ((refine wpList_copy_front ?hgd (.tmp 136) (.tmp 137) 29 29 ?ho0 5 Tryd.underlying29 ?h1 g2 (sz + 16) M2 ad3 sz c3 [] (packLo w ns) (List.replicate (sz + 16) 0) ?hd ?hs 5 M2 .u8 HF6.out ?hn HSRC.out ?hy ?_); (case ho0 => rfl); (case hgd => rfl); (case hd => rfl); (case hs => rfl); go_loud ((case h1 => kernel_rfl)); go_loud ((case hn => rw [HPK.out]; exact hmin.symm)); go_loud ((case hy => rw [HPK.out, List.length_replicate]; omega)); intro w7 hf hg; rw [HGI.out]; have HF7 := Aside0.mk hf; have HO7 := Aside0.mk (frontG HO6.out hg (fun e => h4 (by injection e with e; exact e.symm))); have HB7 : Aside0 (Below W.heap.size W w7) := ⟨HB6.out.grown hg HB6.out.size (fun j hj => by injection hj with hj; omega)⟩; have HRK : Aside0 (ReadKeep w7 gO .u8 (some ⟨g2, 0, none⟩) sz (packLo w ns)) := ⟨fun W1 hW => (by have h := frontR ((frontG HF7.out hW (fun e => h4 (by injection e))).take sz) h2; rw [List.nil_append, List.take_left' HPK.out, HPK.out] at h; exact h)⟩; clear hf hg)
                    | (go_at_call 125; go_loud (with_reducible refine (HUP.out w7 (some ⟨g2, 0, none⟩) M2 HO7.out HRK.out).mono ?_); rintro e w9 ⟨rfl, hf, hg⟩; have HF9 := Aside0.mk hf; have HM9 : Aside0 (Front w9 g2 M2 5 .u8 []) := ⟨(by have := (frontG HF7.out hg (fun e => h4 (by injection e))).take 0; rw [List.take_zero] at this; exact this)⟩; have HB9 : Aside0 (Below W.heap.size W w9) := ⟨HB7.out.grown hg HB7.out.size (fun j hj => by injection hj with hj; omega)⟩; clear hf hg))
                  go_roundg (gk - 1)
                  case measure => have := HK2.out; omega
                  case rel =>
                    exact ⟨i + 1, qe, nz, cz, A5, r2, w2, (sz + 16), g2, M2, hin, by go_num, rfl, hnz1, hnz9, rfl, by have := HRQ.out; omega, by omega, rfl, HWO.out, rfl, h1, h2, h3, h4, ⟨by have := HQE.out; have := HRQ.out; omega⟩, HCN, HF9, HM9, HB9, ⟨by have := HK2.out; omega⟩⟩

              · have qcp : decide ((c3 : Int) < (sz : Int) + 16) = false := decide_eq_false (by omega)
                have HRK : Aside0 (ReadKeep wr gO .u8 A3 sz (packLo w ns)) := ⟨fun W1 hW => HCPk.out W1 (HB.out.grown hW HB.out.size (fun j hj => by injection hj with hj; omega))⟩
                by_cases cr2 : r2 = 0
                · have q8 : ((r2 : Int) == 0) = true := by rw [beq_iff_eq]; omega
                  have HEND := Aside0.mk (HBE.out (i + 1) qe hin HQE.out (.inr (by have := HRQ.out; omega)))
                  clear cr2
                  go_wp2_with (first
                    | (go_at_call 125; go_loud (with_reducible refine (HUP.out wr A3 c3 HF.out HRK.out).mono ?_); rintro e w9 ⟨rfl, hf, hg⟩; have HF9 := Aside0.mk hf; have HM9 := Aside0.mk (frontG HM.out hg (fun e => hgm (by injection e))); have HB9 : Aside0 (Below W.heap.size W w9) := ⟨HB.out.grown hg HB.out.size (fun j hj => by injection hj with hj; omega)⟩; clear hf hg))
                  have HFE : Aside0 (Front w9 gO T 21 .i32 (V0 ++ (RW.take qe ++ List.replicate (R - qe) 0))) := ⟨by rw [HRQ.out]; exact HF9.out⟩
                  have HCE := Aside0.mk HCN.out
                  have HME := Aside0.mk HM9.out
                  have HBE2 := Aside0.mk HB9.out
                  go_wp2_with (first
                    | (go_at_call 126; go_loud (with_reducible refine (HDS.out _ qe hqe9 hqeR HFE.out).mono ?_); rintro e w8 ⟨rfl, hf, hg⟩; have HF8 := Aside0.mk hf; have HM8 := Aside0.mk (frontG HME.out hg (fun e => hgm (by injection e))); have HB8 : Aside0 (Below W.heap.size W w8) := ⟨HBE2.out.grown hg HBE2.out.size (fun j hj => by injection hj with hj; omega)⟩; clear hf hg))
                  go_roundg gk0
                  case measure => omega
                  case rel =>
                    obtain ⟨e1, e2, e3, e4, e5⟩ := HEND.out
                    have hrr : R - P * S = r2 := by have := HRQ.out; omega
                    refine ⟨bb, R - P * S, prv last VB qe, V0 ++ VB.take qe, ol + qe, nz, cz, A5, nm, gm, Cm, rfl, hnz1, hnz9, by rw [hrr], by rw [HWO.out], rfl, rfl, hnm, hCm, hbm, hgm, by omega, ⟨by rw [List.length_append, List.length_take, HVBL.out, HOLQ.out]; omega⟩, ⟨e2⟩, ⟨e5⟩, ⟨fun W1 h => ?_⟩, ⟨?_⟩, HM8, HB8, ⟨by have := HKr.out; omega⟩⟩
                    · have := HCE.out W1 h
                      rw [e1, ← HY2.out, List.nil_append] at this
                      exact this
                    · have h := HF8.out
                      rw [show R - qe = R - P * S by omega] at h
                      exact h
                · have q8 : ((r2 : Int) == 0) = false := by rw [beq_eq_false_iff_ne]; omega
                  go_wp2_with (first
                    | (go_at_call 125; go_loud (with_reducible refine (HUP.out wr A3 c3 HF.out HRK.out).mono ?_); rintro e w9 ⟨rfl, hf, hg⟩; have HF9 := Aside0.mk hf; have HM9 := Aside0.mk (frontG HM.out hg (fun e => hgm (by injection e))); have HB9 : Aside0 (Below W.heap.size W w9) := ⟨HB.out.grown hg HB.out.size (fun j hj => by injection hj with hj; omega)⟩; clear hf hg))
                  go_roundg (gk - 1)
                  case measure => have := HK2.out; omega
                  case rel =>
                    exact ⟨i + 1, qe, nz, cz, A5, r2, w2, nm, gm, Cm, hin, by go_num, rfl, hnz1, hnz9, rfl, by have := HRQ.out; omega, by omega, rfl, HWO.out, rfl, hnm, hCm, hbm, hgm, ⟨by have := HQE.out; have := HRQ.out; omega⟩, HCN, HF9, HM9, HB9, ⟨by have := HK2.out; omega⟩⟩
          · obtain rfl : i = P := by omega
            have cib : decide ((i : Int) < (i : Int)) = false := decide_eq_false (by omega)
            have cibn : decide (i < i) = false := decide_eq_false (by omega)
            obtain ⟨qe, hqe⟩ : ∃ qe, q = qe := ⟨_, rfl⟩
            subst hqe
            have hqi := HQ.out
            have hqe9 : q ≤ i * S := by omega
            have hqeR : q ≤ R := by omega
            have HEND := Aside0.mk (HBE.out i q (Nat.le_refl _) (by omega) (.inl rfl))
            have HFE : Aside0 (Front wr gO T 21 .i32 (V0 ++ (RW.take q ++ List.replicate (R - q) 0))) := ⟨by rw [show R - q = r by omega]; exact HF.out⟩
            have HCE := Aside0.mk HCP.out
            have HME := Aside0.mk HM.out
            have HBE2 := Aside0.mk HB.out
            have cutE := cutTail (P := Tryd.prog) 45 21 Tryd.underlying45 hE.1 hE.2 gO T T ol wo (by omega) (by omega) (by omega)
            rw [show wo - ol = q by omega] at cutE
            have HWO : Aside0 (wo = ol + q) := ⟨hwo⟩
            have HRQ : Aside0 (R - q = r) := ⟨by omega⟩
            clear hqi hwo hqr
            go_wp2_with (first
              | (go_at_call 126; go_loud (with_reducible refine (HDS.out _ q hqe9 hqeR HFE.out).mono ?_); rintro e w8 ⟨rfl, hf, hg⟩; have HF8 := Aside0.mk hf; have HM8 := Aside0.mk (frontG HME.out hg (fun e => hgm (by injection e))); have HB8 : Aside0 (Below W.heap.size W w8) := ⟨HBE2.out.grown hg HBE2.out.size (fun j hj => by injection hj with hj; omega)⟩; clear hf hg))
            go_roundg gk0
            case measure => omega
            case rel =>
              obtain ⟨e1, e2, e3, e4, e5⟩ := HEND.out
              have hrr : R - i * S = r := by have := HRQ.out; omega
              refine ⟨bb, R - i * S, prv last VB q, V0 ++ VB.take q, ol + q, n3, c3, A3, nm, gm, Cm, rfl, hc3, hn3, by rw [hrr], by rw [HWO.out], rfl, rfl, hnm, hCm, hbm, hgm, by omega, ⟨by rw [List.length_append, List.length_take, HVBL.out, HOLQ.out]; omega⟩, ⟨e2⟩, ⟨e5⟩, ⟨fun W1 h => ?_⟩, ⟨?_⟩, HM8, HB8, ⟨by have := HKr.out; omega⟩⟩
              · have := HCE.out W1 h
                rw [e1, ← HY2.out, List.nil_append] at this
                exact this
              · have h := HF8.out
                rw [show R - q = R - i * S by omega] at h
                exact h
end Go.Proofs.YtigmcdpjlkgocaaDoor.Ddc
