import Derived.Test.YtigmcdpjlkgocaaMda
import Derived.ArgAppend
import Derived.Test.YtigmcdpjlkgocaaMdb
import Derived.Laws.CopyOwn
/-! Reading numbers in groups of 7 bits, up to 64 bits. -/
namespace Go.Proofs.Ytigmcdpjlkgocaa.Duv
open Go.Proofs.Ytigmcdpjlkgocaa.Dpu Go.Proofs.Ytigmcdpjlkgocaa.Pak Go.Proofs.Ytigmcdpjlkgocaa.Buf Go.Proofs.Ytigmcdpjlkgocaa.Fit Go.Proofs.Ytigmcdpjlkgocaa.Bit Go.Proofs.Ytigmcdpjlkgocaa.Wrd Go.Proofs.Ytigmcdpjlkgocaa.Spl Go.Proofs.Ytigmcdpjlkgocaa.Str Go.Proofs.Ytigmcdpjlkgocaa.Flt Go.Proofs.Ytigmcdpjlkgocaa.Owe Go.Proofs.Ytigmcdpjlkgocaa.Num Go.Proofs.Ytigmcdpjlkgocaa.Le Go.Proofs.Ytigmcdpjlkgocaa.Lst Go.Proofs.Ytigmcdpjlkgocaa.Aid Go.RowKit Go.Proofs.YtigmcdpjlkgocaaW.PrintWords Go.Proofs.YtigmcdpjlkgocaaW.PrintLast Go.Proofs.YtigmcdpjlkgocaaW.PrintMore
set_option linter.unusedVariables false
set_option linter.unusedSimpArgs false
theorem or_high (acc b s : Nat) (h : acc < 2 ^ s) (h1 : acc < 18446744073709551616) (h2 : b * 2 ^ s < 18446744073709551616) : bits .or .u64 (acc : Int) ((b * 2 ^ s : Nat) : Int) = ((acc + b * 2 ^ s : Nat) : Int) := by
  rw [u64_or_nat _ _ h1 h2]
  congr 1
  rw [Nat.or_comm, Nat.mul_comm, ← Nat.two_pow_add_eq_or_of_lt h]
  omega
theorem or_high' (acc b s : Nat) (h : acc < 2 ^ s) (h1 : acc < 18446744073709551616) (h2 : b * 2 ^ s < 18446744073709551616) : bits .or .u64 (acc : Int) (IntKind.u64.wrap ((b : Int) * 2 ^ s)) = ((acc + b * 2 ^ s : Nat) : Int) := by
  have e : (b : Int) * 2 ^ s = ((b * 2 ^ s : Nat) : Int) := by push_cast; rfl
  rw [e, IntWalk.u64_in _ (by omega), or_high acc b s h h1 h2]
theorem and127 (y : Nat) : bits .and .u8 ((y % 128 + 128 : Nat) : Int) 127 = ((y % 128 : Nat) : Int) := by
  rw [show (127 : Int) = ((2 ^ 7 - 1 : Nat) : Int) by decide, u8_and_nat _ _ (by omega) (by decide), Nat.and_two_pow_sub_one_eq_mod]
  congr 1; omega
theorem varL_head (bs rest : List Int) (i y : Nat) (h : bs.drop i = varL y ++ rest) : rd bs (i : Nat) = if y < 128 then (y : Int) else ((y % 128 + 128 : Nat) : Int) := by
  have e := rd_drop bs i 0
  rw [Nat.add_zero, h] at e
  rw [← e]
  by_cases c : y < 128
  · rw [if_pos c, varL_lo c]; rfl
  · rw [if_neg c, varL_hi c]; rfl
theorem varL_tail (bs rest : List Int) (i y : Nat) (h : bs.drop i = varL y ++ rest) (c : ¬ y < 128) : bs.drop (i + 1) = varL (y / 128) ++ rest := by
  rw [varL_hi c] at h
  rw [← List.drop_drop, h]; rfl
theorem small10 (acc y i x : Nat) (hx : x < 18446744073709551616) (h : acc + y * 2 ^ (7 * i) = x) (hi : i ≤ 9) (hy : ¬ y < 128) : i < 9 := by
  rcases Nat.lt_or_ge i 9 with h4 | h4
  · exact h4
  · obtain rfl : i = 9 := by omega
    rw [show (2 : Nat) ^ (7 * 9) = 9223372036854775808 by decide] at h
    omega
theorem last10 (acc y i x : Nat) (hx : x < 18446744073709551616) (h : acc + y * 2 ^ (7 * i) = x) (hi : i = 9) : y ≤ 1 := by
  subst hi
  rw [show (2 : Nat) ^ (7 * 9) = 9223372036854775808 by decide] at h
  omega
/-- all groups but the last one have the bit set -/
theorem varL_high : ∀ (k x : Nat), x < 2 ^ k → ∀ j : Nat, j + 1 < (varL x).length → 128 ≤ rd (varL x) (j : Nat) ∧ rd (varL x) (j : Nat) < 256
  | 0, x, hx, j, hj => by
    obtain rfl : x = 0 := by simpa using hx
    rw [varL_lo (by omega)] at hj; simp at hj
  | k + 1, x, hx, j, hj => by
    by_cases c : x < 128
    · rw [varL_lo c] at hj; simp at hj
    · rw [varL_hi c] at hj ⊢
      cases j with
      | zero =>
        have e : rd (((x % 128 + 128 : Nat) : Int) :: varL (x / 128)) ((0 : Nat) : Int) = ((x % 128 + 128 : Nat) : Int) := rfl
        rw [e]; omega
      | succ j =>
        have e : rd (((x % 128 + 128 : Nat) : Int) :: varL (x / 128)) ((j + 1 : Nat) : Int) = rd (varL (x / 128)) (j : Nat) := by simp [rd]
        rw [e]
        exact varL_high k (x / 128) (by rw [Nat.pow_succ] at hx; omega) j (by simpa using hj)
theorem zz_half_neg (x : Int) (h : x < 0) : ((zz x : Nat) : Int) = -2 * x - 1 := by unfold zz; rw [if_neg (by omega)]; omega
theorem zz_half_pos (x : Int) (h : 0 ≤ x) : ((zz x : Nat) : Int) = 2 * x := by unfold zz; rw [if_pos h]; omega
theorem xor_m1_i64 (a : Nat) (ha : a < 9223372036854775808) : bits .xor .i64 (-1) (a : Int) = -1 - (a : Int) := by
  have h1 : (BitVec.ofInt 64 (a : Int)).toNat = a := by
    rw [BitVec.ofInt_natCast, BitVec.toNat_ofNat]; exact Nat.mod_eq_of_lt (by omega)
  have h2 : (BitVec.ofInt 64 (-1)).toNat = 2 ^ 64 - 1 := by decide
  show IntKind.i64.wrap ((BitVec.ofInt 64 (-1) ^^^ BitVec.ofInt 64 (a : Int)).toNat : Int) = _
  rw [BitVec.toNat_xor, h1, h2, xor_ones a (by omega), IntKind.wrap_i64]
  omega
set_option maxHeartbeats 4000000 in
set_option maxRecDepth 100000 in
theorem readVarint_calls (A : Option Addr) (n c : Nat) (bs rest : List Int) (x : Nat) (w : World) (hC : (Kd.int .u8).C w A n bs) (hc : n ≤ c) (hn : n ≤ 2147483647) (hb : bs = varL x ++ rest) (hx : x < 18446744073709551616) :
    Calls Try.prog 21 #[.slice A n c] w fun e w' => ∃ A' c', e = .returned (.tuple #[.int .u64 x, .slice A' rest.length c', .bool true]) ∧ rest.length ≤ c' ∧ (∀ W, (Kd.int .u8).C W A n bs → (Kd.int .u8).C W A' rest.length rest) ∧ Drawn0 w w' := by
  have HLN : Aside0 (bs.length = n) := ⟨hC.1⟩
  have HLB : Aside0 ((varL x).length + rest.length = n) := ⟨by rw [← hC.1, hb, List.length_append]⟩
  have HC := Aside0.mk hC
  have HBB := Aside0.mk hb
  obtain ⟨i8, h8⟩ := h8
  clear hC hb
  go_enter Try.func21, Try.ntmps21
  go_wp2_with (fail)
  go_loopg [5, 6, 7, 10] n (fun kq v5 v6 v7 v10 w' => ∃ (y i acc : Nat), v5 = .int .u64 acc ∧ v10 = .int .i64 i ∧ i ≤ 9 ∧ Aside0 (acc + y * 2 ^ (7 * i) = x) ∧ Aside0 (acc < 2 ^ (7 * i)) ∧ Aside0 (bs.drop i = varL y ++ rest) ∧ Aside0 (i + (varL y).length = (varL x).length) ∧ w = w' ∧ Aside0 (n - i ≤ kq))
  case atStart => exact ⟨x, 0, 0, rfl, rfl, by omega, ⟨by simp⟩, ⟨by simp⟩, ⟨by rw [List.drop_zero]; exact HBB.out⟩, ⟨by omega⟩, rfl, ⟨by omega⟩⟩
  case round =>
    obtain ⟨y, i, acc, rfl, rfl, hi4, HX, HAC, HD, HL, rfl, HK⟩ := hrel
    have hpos := varL_pos y
    have hin : i < n := by have h1 := HL.out; have h2 := HLB.out; omega
    have qin : decide ((i : Int) < n) = true := decide_eq_true (by omega)
    obtain ⟨ad, ead, hcell⟩ := Kd.at_int HC.out (i : Int) (by omega) (by omega)
    rw [Int.toNat_natCast, varL_head bs rest i y HD.out] at hcell
    have qi10 : ((i : Int) == 10) = false := by rw [beq_eq_false_iff_ne]; omega
    subst ead
    have hacc := HAC.out
    have hacc9 : acc < 18446744073709551616 := by have := HX.out; have := Nat.le_add_right acc (y * 2 ^ (7 * i)); omega
    have hy9 : y * 2 ^ (7 * i) < 18446744073709551616 := by have := HX.out; omega
    obtain ⟨s, hs⟩ : ∃ s, 7 * i = s := ⟨_, rfl⟩
    have hsI : (7 : Int) * (i : Int) = (s : Int) := by omega
    have hs28 : s ≤ 63 := by omega
    by_cases cy : y < 128
    · rw [if_pos cy] at hcell
      have qy : decide ((y : Int) < 128) = true := decide_eq_true (by omega)
      have qy2 : decide (y < 128) = true := decide_eq_true cy
      have hand : bits .and .u8 (y : Int) 127 = (y : Int) := by
        rw [show (127 : Int) = ((2 ^ 7 - 1 : Nat) : Int) by decide, u8_and_nat _ _ (by omega) (by decide), Nat.and_two_pow_sub_one_eq_mod]
        congr 1; omega
      have HOR := or_high' acc y (7 * i) hacc hacc9 hy9
      rw [hs] at HOR
      have HLY : Aside0 ((varL x).length = i + 1) := ⟨by rw [← HL.out, varL_lo cy]; rfl⟩
      have hR : n - (i + 1) = rest.length := by have h1 := HLB.out; have h2 := HLY.out; omega
      obtain ⟨A1, cut1, hC1⟩ := cutLo (P := Try.prog) 23 5 Try.underlying23 h8.1 h8.2 (some ad) n c .i64 ((i : Int) + 1) (i + 1) (by omega) (by omega) hc
      have hdr : bs.drop (i + 1) = rest := by
        rw [HBB.out, List.drop_left' HLY.out]
      have HC1 : Aside0 (∀ W, (Kd.int .u8).C W (some ad) n bs → (Kd.int .u8).C W A1 rest.length rest) := ⟨fun W h => by have := hC1 _ W bs rfl h; rw [hdr, hR] at this; exact this⟩
      rw [hR] at cut1
      have HXX : Aside0 (((acc + y * 2 ^ s : Nat) : Int) = (x : Int)) := ⟨by rw [← hs, HX.out]⟩
      have hrc : rest.length ≤ c - (i + 1) := by omega
      have h10 := last10 acc y i x hx HX.out
      have hyw : (y : Int) % 18446744073709551616 = (y : Int) := by omega
      clear hC1 hdr hR
      by_cases c9 : i = 9
      · have qi9 : ((i : Int) == 9) = true := by rw [beq_iff_eq]; omega
        have qy1 : decide (1 < (y : Int)) = false := decide_eq_false (by have := h10 c9; omega)
        have qy3 : decide (1 < y) = false := decide_eq_false (by have := h10 c9; omega)
        clear h10 c9
        go_wp2_with (first | (go_quiet (fail)))
        go_ret3
        refine ⟨A1, c - (i + 1), ?_, hrc, HC1.out, ⟨nq, rfl⟩⟩
        show Ending.returned (Value.tuple #[Value.int IntKind.u64 ((acc : Int) + (y : Int) * 2 ^ s), Value.slice A1 rest.length (c - (i + 1)), Value.bool true]) = _
        rw [← HXX.out]; push_cast; rfl
      · have qi9 : ((i : Int) == 9) = false := by rw [beq_eq_false_iff_ne]; omega
        clear h10 c9
        go_wp2_with (first | (go_quiet (fail)))
        go_ret3
        refine ⟨A1, c - (i + 1), ?_, hrc, HC1.out, ⟨nq, rfl⟩⟩
        show Ending.returned (Value.tuple #[Value.int IntKind.u64 ((acc : Int) + (y : Int) * 2 ^ s), Value.slice A1 rest.length (c - (i + 1)), Value.bool true]) = _
        rw [← HXX.out]; push_cast; rfl
    · rw [if_neg cy] at hcell
      have qy : decide (((y % 128 + 128 : Nat) : Int) < 128) = false := decide_eq_false (by omega)
      have qy2 : decide (y % 128 + 128 < 128) = false := decide_eq_false (by omega)
      have hand := and127 y
      have ht := varL_tail bs rest i y HD.out cy
      have hs5 := small10 acc y i x hx HX.out hi4 cy
      have qi9 : ((i : Int) == 9) = false := by rw [beq_eq_false_iff_ne]; omega
      have hlz : (varL y).length = (varL (y / 128)).length + 1 := by rw [varL_hi cy]; rfl
      obtain ⟨z, hz⟩ : ∃ z, y % 128 = z := ⟨_, rfl⟩
      have hzy : y = 128 * (y / 128) + z := by omega
      have hz9 : z < 128 := by omega
      rw [hz] at hcell qy qy2 hand
      obtain ⟨t, ht2⟩ : ∃ t, z + 128 = t := ⟨_, rfl⟩
      rw [ht2] at hcell qy qy2 hand
      have hzx : z * 2 ^ (7 * i) ≤ y * 2 ^ (7 * i) := Nat.mul_le_mul_right _ (by omega)
      have HOR := Aside0.mk (or_high' acc z (7 * i) hacc hacc9 (Nat.lt_of_le_of_lt hzx hy9))
      rw [hs] at HOR
      have HT := Aside0.mk ht
      have HLZ := Aside0.mk hlz
      have HZY := Aside0.mk hzy
      clear ht hlz hzy hzx hz hy9
      go_wp2_with (fail)
      rw [HOR.out]
      go_roundg (gk - 1)
      case measure => have := HK.out; omega
      case rel =>
        have e1 : 2 ^ (7 * (i + 1)) = 128 * 2 ^ (7 * i) := by rw [Nat.mul_add, Nat.pow_add]; omega
        have e2 : z * 2 ^ (7 * i) + 2 ^ (7 * i) ≤ 128 * 2 ^ (7 * i) := by rw [← Nat.succ_mul]; exact Nat.mul_le_mul_right _ hz9
        refine ⟨y / 128, i + 1, acc + z * 2 ^ s, rfl, by go_num, by omega, ⟨?_⟩, ⟨by rw [e1, ← hs]; omega⟩, HT, ⟨by have := HL.out; have := HLZ.out; omega⟩, rfl, ⟨by have := HK.out; omega⟩⟩
        have h := HX.out
        conv at h => lhs; rw [HZY.out]
        rw [e1, ← hs, ← h, Nat.add_mul, ← Nat.mul_assoc, Nat.mul_comm (y / 128) 128]
        omega
end Go.Proofs.Ytigmcdpjlkgocaa.Duv

/-! Numbers of so many bits, unpacked bit by bit. -/
namespace Go.Proofs.Ytigmcdpjlkgocaa.Dun
open Go.Proofs.Ytigmcdpjlkgocaa.Duv Go.Proofs.Ytigmcdpjlkgocaa.Dpu Go.Proofs.Ytigmcdpjlkgocaa.Pak Go.Proofs.Ytigmcdpjlkgocaa.Buf Go.Proofs.Ytigmcdpjlkgocaa.Fit Go.Proofs.Ytigmcdpjlkgocaa.Bit Go.Proofs.Ytigmcdpjlkgocaa.Wrd Go.Proofs.Ytigmcdpjlkgocaa.Spl Go.Proofs.Ytigmcdpjlkgocaa.Str Go.Proofs.Ytigmcdpjlkgocaa.Flt Go.Proofs.Ytigmcdpjlkgocaa.Owe Go.Proofs.Ytigmcdpjlkgocaa.Num Go.Proofs.Ytigmcdpjlkgocaa.Le Go.Proofs.Ytigmcdpjlkgocaa.Lst Go.Proofs.Ytigmcdpjlkgocaa.Aid Go.RowKit Go.Proofs.YtigmcdpjlkgocaaW.PrintWords Go.Proofs.YtigmcdpjlkgocaaW.PrintLast Go.Proofs.YtigmcdpjlkgocaaW.PrintMore
set_option linter.unusedVariables false
set_option linter.unusedSimpArgs false
theorem byteN (bs : List Int) (hb : bytesB bs = true) (i : Nat) : ∃ a : Nat, rd bs (i : Nat) = (a : Int) ∧ a < 256 := by
  by_cases h : i < bs.length
  · have := bytesB_rd hb (i := (i : Int)) (k := i) rfl h
    unfold byt at this
    exact ⟨(rd bs (i : Nat)).toNat, by omega, by omega⟩
  · refine ⟨0, ?_, by omega⟩
    unfold rd
    rw [Int.toNat_natCast, List.getD_eq_getElem?_getD, List.getElem?_eq_none (by omega)]; rfl
theorem bitsN_high (g : Nat → Bool) (k : Nat) : bitsN g (k + 1) = bitsN g k + (g k).toNat * 2 ^ k := by
  symm
  have hlt := bitsN_lt k g
  refine eq_bitsN ?_ fun q hq => ?_
  · rw [Nat.pow_succ]; cases g k <;> simp <;> omega
  · rw [Nat.add_comm, Nat.mul_comm, Nat.testBit_two_pow_mul_add _ hlt]
    by_cases h : q < k
    · rw [if_pos h, bitsN_testBit, decide_eq_true h, Bool.true_and]
    · rw [if_neg h]
      obtain rfl : q = k := by omega
      rw [Nat.sub_self]
      cases g q <;> simp
theorem bit_and1 (y r : Nat) (hy : y < 256) : bits .and .u8 ((y : Int) / 2 ^ r) 1 = (((y.testBit r).toNat : Nat) : Int) := by
  have e : (y : Int) / 2 ^ r = ((y / 2 ^ r : Nat) : Int) := by push_cast; rfl
  rw [e, show (1 : Int) = ((2 ^ 1 - 1 : Nat) : Int) by decide, u8_and_nat _ _ (Nat.lt_of_le_of_lt (Nat.div_le_self _ _) hy) (by decide), Nat.and_two_pow_sub_one_eq_mod]
  congr 1
  rw [Nat.testBit_eq_decide_div_mod_eq]
  have := Nat.mod_lt (y / 2 ^ r) (show 0 < 2 by omega)
  rw [Nat.pow_one]
  rcases (show y / 2 ^ r % 2 = 0 ∨ y / 2 ^ r % 2 = 1 by omega) with h | h <;> simp [h]
theorem or_high32 (acc b s : Nat) (h : acc < 2 ^ s) (h1 : acc < 4294967296) (h2 : b * 2 ^ s < 4294967296) : bits .or .u32 (acc : Int) ((b : Int) * 2 ^ s % 4294967296) = ((acc + b * 2 ^ s : Nat) : Int) := by
  have e : (b : Int) * 2 ^ s = ((b * 2 ^ s : Nat) : Int) := by push_cast; rfl
  rw [e, Int.emod_eq_of_lt (by omega) (by omega), u32_or_nat _ _ h1 h2]
  congr 1
  rw [Nat.or_comm, Nat.mul_comm, ← Nat.two_pow_add_eq_or_of_lt h]
  omega
/-- a packed number, read again -/
theorem valLo_packD (w : Nat) (l : List Int) (k : Nat) (hk : k < l.length) (h8 : l.length % 8 = 0) (hf : fitL w l) : (valLo (packLo w l) w (k * w) : Int) = rd l (k : Nat) := by
  by_cases hw : 0 < w
  · refine valLo_pack w l k hw hk ?_ hf
    obtain ⟨q, hq⟩ : ∃ q, l.length = 8 * q := ⟨l.length / 8, by omega⟩
    rw [hq, Nat.mul_assoc]; omega
  · obtain rfl : w = 0 := by omega
    have hx := hf _ (rd_mem (l := l) (i := k) hk)
    rw [Int.pow_zero] at hx
    show ((bitsN _ 0 : Nat) : Int) = _
    have : bitsN (fun r => bitLo (packLo 0 l) (k * 0 + r)) 0 = 0 := rfl
    rw [this]; omega
/-- numbers of so many bits, as ones with a sign -/
def unpI (k : IntKind) (w cnt : Nat) (bs : List Int) : List Int := (List.range cnt).map fun i => k.wrap (valLo bs w (i * w) : Int)
theorem unpI_succ (k : IntKind) (w cnt : Nat) (bs : List Int) : unpI k w (cnt + 1) bs = unpI k w cnt bs ++ [k.wrap (valLo bs w (cnt * w) : Int)] := by
  simp [unpI, List.range_succ]
theorem unpI_length (k : IntKind) (w cnt : Nat) (bs : List Int) : (unpI k w cnt bs).length = cnt := by simp [unpI]
theorem unpI_pack (k : IntKind) (w cnt : Nat) (l : List Int) (hc : cnt ≤ l.length) (h8 : l.length % 8 = 0) (hf : fitL w l) : unpI k w cnt (packLo w l) = (l.take cnt).map k.wrap := by
  apply List.ext_getElem
  · simp [unpI]; omega
  · intro i h1 h2
    rw [unpI_length] at h1
    have := valLo_packD w l i (by omega) h8 hf
    rw [rd_nat _ _ (by omega)] at this
    simp only [unpI, List.getElem_map, List.getElem_range, List.getElem_take]
    rw [this]
def unpL (w cnt : Nat) (bs : List Int) : List Int := (List.range cnt).map fun i => (valLo bs w (i * w) : Int)
theorem unpL_length (w cnt : Nat) (bs : List Int) : (unpL w cnt bs).length = cnt := by simp [unpL]
theorem unpL_pack (w : Nat) (l : List Int) (h8 : l.length % 8 = 0) (hf : fitL w l) : unpL w l.length (packLo w l) = l := by
  apply List.ext_getElem
  · simp [unpL]
  · intro i h1 h2
    have := valLo_packD w l i h2 h8 hf
    rw [rd_nat _ _ h2] at this
    simp only [unpL, List.getElem_map, List.getElem_range]
    exact this
theorem packLo_bytes (w : Nat) (l : List Int) : bytesB (packLo w l) = true := bytesB_of fun x hx => by
  simp only [packLo, bytesLo, List.mem_map] at hx
  obtain ⟨q, _, rfl⟩ := hx
  have := byteLo_lt (bitsLo w l) q
  exact ⟨by omega, by omega⟩
set_option maxHeartbeats 8000000 in
set_option maxRecDepth 100000 in
theorem unpackLow_calls (A : Option Addr) (n c w cnt : Nat) (bs : List Int) (W : World) (hC : (Kd.int .u8).C W A n bs) (hc : n ≤ c) (hn : n ≤ 268435455) (hb : bytesB bs = true) (hw : w ≤ 64) (hcw : cnt * w ≤ 8 * n) (hcnt : cnt ≤ 2147483647) :
    Calls Try.prog 23 #[.int .i64 w, .int .i64 cnt, .slice A n c] W fun e w' => ∃ v, e = .returned v ∧ Own w' W.heap.size 52 .u64 v (unpL w cnt bs) ∧ Below W.heap.size W w' := by
  have HC := Aside0.mk hC
  have HU := Aside0.mk hb
  have HCW := Aside0.mk hcw
  have hmk := print_make (P := Try.prog) 57 52 .u64 8 Try.underlying57 infoU64 (by decide) cnt (by omega)
  clear hC hb hcw
  go_enter Try.func23, Try.ntmps23
  go_wp2_with (fail)
  obtain ⟨f, hf⟩ : ∃ f : Nat → Int, (fun i => (valLo bs w (i * w) : Int)) = f := ⟨_, rfl⟩
  have HF := Aside0.mk hf
  have HR : Aside0 (Row (W.alloc (.cells (madeCells #[.int .u64 0] cnt) 52)) W.heap.size 52 .u64 (partI f cnt 0)) := ⟨by rw [partI_zero]; exact madeRow W 52 .u64 cnt⟩
  have HB : Aside0 (Below W.heap.size W (W.alloc (.cells (madeCells #[.int .u64 0] cnt) 52))) := ⟨(Below.refl _ _).alloc (Nat.le_refl _) _⟩
  generalize W.alloc (.cells (madeCells #[.int .u64 0] cnt) 52) = wm at *
  clear hmk hf
  go_loopg [8, 15] cnt (fun kq v8 v15 w' => ∃ (j : Nat), j ≤ cnt ∧ v15 = .int .i64 j ∧ Aside0 (Row w' W.heap.size 52 .u64 (partI f cnt j)) ∧ Aside0 (Below W.heap.size W w') ∧ Aside0 (cnt - j ≤ kq))
  case atStart => exact ⟨0, by omega, rfl, HR, HB, ⟨by omega⟩⟩
  case round =>
    clear HR HB
    obtain ⟨j, hj, rfl, HR, HB, HK⟩ := hrel
    by_cases cj : j < cnt
    · have cjb : decide ((j : Int) < cnt) = true := decide_eq_true (by omega)
      obtain ⟨gk0, rfl⟩ : ∃ gk0, gk = gk0 + 1 := ⟨gk - 1, by have := HK.out; omega⟩
      obtain ⟨jw, hjw⟩ : ∃ jw, j * w = jw := ⟨_, rfl⟩
      have hjwI : (j : Int) * (w : Int) = (jw : Int) := by rw [← hjw]; push_cast; rfl
      have hjw9 : jw + w ≤ 8 * n := by
        have h1 : (j + 1) * w ≤ cnt * w := Nat.mul_le_mul_right w cj
        rw [Nat.succ_mul] at h1
        have := HCW.out; omega
      have HJW := Aside0.mk hjw
      have HR0 : Aside0 (Row wr W.heap.size 52 .u64 ((partI f cnt j).set j ((bitsN (fun r => bitLo bs (jw + r)) 0 : Nat) : Int))) := ⟨by
        have e : (partI f cnt j).set j ((bitsN (fun r => bitLo bs (jw + r)) 0 : Nat) : Int) = partI f cnt j := by
          apply rd_ext
          · simp
          · intro i hi
            rw [List.length_set, partI_length] at hi
            rw [rd_set _ _ _ _ (by rw [partI_length]; omega)]
            by_cases h : i = j
            · subst h; rw [if_pos rfl, rd_partI _ _ _ _ hi, if_neg (by omega)]; rfl
            · rw [if_neg h]
        rw [e]; exact HR.out⟩
      clear hjw
      go_wp2_with (fail)
      go_loopg [9, 10, 19] w (fun kq v9 v10 v19 w' => ∃ (k : Nat), k ≤ w ∧ v19 = .int .i64 k ∧ Aside0 (Row w' W.heap.size 52 .u64 ((partI f cnt j).set j ((bitsN (fun r => bitLo bs (jw + r)) k : Nat) : Int))) ∧ Aside0 (Below W.heap.size W w') ∧ Aside0 (w - k ≤ kq))
      case atStart => exact ⟨0, by omega, rfl, HR0, HB, ⟨by omega⟩⟩
      case round =>
        clear HR HB HR0
        obtain ⟨k, hk, rfl, HR, HB, HK2⟩ := hrel
        by_cases ck : k < w
        · have ckb : decide ((k : Int) < w) = true := decide_eq_true (by omega)
          obtain ⟨o, ho⟩ : ∃ o, jw + k = o := ⟨_, rfl⟩
          have hoI : (jw : Int) + (k : Int) = (o : Int) := by omega
          obtain ⟨q, hq⟩ : ∃ q, o / 8 = q := ⟨_, rfl⟩
          obtain ⟨r, hr⟩ : ∃ r, o % 8 = r := ⟨_, rfl⟩
          have hq1 : (o : Int) / 8 = (q : Int) := by omega
          have hq2 : (o : Int).tdiv 8 = (q : Int) := by rw [Int.tdiv_eq_ediv_of_nonneg (by omega)]; exact hq1
          have hr1 : (o : Int) % 8 = (r : Int) := by omega
          have hr2 : (o : Int).tmod 8 = (r : Int) := by rw [Int.tmod_eq_emod_of_nonneg (by omega)]; exact hr1
          have hr8 : r < 8 := by omega
          have hqw : IntKind.i64.wrap (q : Int) = (q : Int) := IntWalk.i64_in _ (by omega)
          have hqn : q < n := by omega
          obtain ⟨ad, ead, hcell⟩ := Kd.at_int (Kd.C_below HC.out HB.out) (q : Int) (by omega) (by omega)
          obtain ⟨y, hy, hy8⟩ := byteN bs HU.out q
          rw [Int.toNat_natCast, hy] at hcell
          have hand := bit_and1 y r hy8
          have hbit : bitLo bs o = y.testBit r := by unfold bitLo; rw [hq, hr, hy, Int.toNat_natCast]
          obtain ⟨z, hz⟩ : ∃ z, (y.testBit r).toNat = z := ⟨_, rfl⟩
          rw [hz] at hand
          have hz2 : z < 2 := by rw [← hz]; cases y.testBit r <;> simp
          have hsum := bitsN_high (fun r => bitLo bs (jw + r)) k
          have hlt := bitsN_lt k (fun r => bitLo bs (jw + r))
          rw [ho, hbit, hz] at hsum
          have rc := HR.out.cell (j := j) (by rw [List.length_set, partI_length]; exact cj)
          have rf := HR.out.free j
          rw [rd_set _ _ _ _ (by rw [partI_length]; exact cj), if_pos rfl] at rc
          obtain ⟨acc, hacc⟩ : ∃ acc, bitsN (fun r => bitLo bs (jw + r)) k = acc := ⟨_, rfl⟩
          rw [hacc] at rc hsum hlt
          have hp := two_pow_le (show k ≤ 63 by omega)
          have e31 : (2 : Nat) ^ 63 = 9223372036854775808 := by decide
          have hzk : z * 2 ^ k ≤ 2 ^ k := by
            have := Nat.mul_le_mul_right (2 ^ k) (show z ≤ 1 by omega); omega
          have HOR := Aside0.mk (or_high' acc z k hlt (by omega) (by omega))
          have HSUM := Aside0.mk hsum
          have qi1 : (j < cnt) = True := eq_true cj
          have qi2 : ((j : Int) < (cnt : Int)) = True := eq_true (by omega)
          have qi3 : (0 ≤ (j : Int)) = True := eq_true (by omega)
          have qi4 : (q < n) = True := eq_true hqn
          have qi5 : ((q : Int) < (n : Int)) = True := eq_true (by omega)
          have qi6 : (0 ≤ (q : Int)) = True := eq_true (by omega)
          have qi7 : (0 ≤ (r : Int)) = True := eq_true (by omega)
          have qi8 : (0 ≤ (k : Int)) = True := eq_true (by omega)
          subst ead
          clear hy hz hacc hsum hq hr hbit hzk
          go_wp2_with (fail)
          refine region_tail 17 (by kernel_rfl) (by kernel_rfl) ?_
          simp only [List.take_succ_cons, List.take_zero, List.drop_succ_cons, List.drop_zero]
          repeat (quiet_step ((fail)))
          refine wpQuiet_nil ?_
          rintro _ ⟨nq, rfl⟩
          go_wp2_with (fail)
          rw [HOR.out]
          go_roundg (gk - 1)
          case measure => have := HK2.out; omega
          case rel =>
            refine ⟨k + 1, by omega, by go_num, ⟨?_⟩, ⟨Below.setCell (p := ⟨W.heap.size, j, none⟩) (HB.out.trans ((drewN_below wr nq).mono HB.out.size)) (Nat.le_refl _) _⟩, ⟨by have := HK2.out; omega⟩⟩
            have h := (HR.out.drewN nq).set j ((acc + z * 2 ^ k : Nat) : Int)
            rw [List.set_set, ← HSUM.out] at h
            rw [← HSUM.out]
            exact h
        · obtain rfl : k = w := by omega
          have ckb : decide ((k : Int) < k) = false := decide_eq_false (by omega)
          go_wp2_with (fail)
          go_roundg gk0
          case measure => omega
          case rel =>
            refine ⟨j + 1, by omega, by go_num, ⟨?_⟩, HB, ⟨by have := HK.out; omega⟩⟩
            have h := HR.out
            have e : ((bitsN (fun r => bitLo bs (jw + r)) k : Nat) : Int) = f j := by rw [← HF.out, ← HJW.out]; rfl
            rw [e, partI_set] at h
            exact h
    · obtain rfl : j = cnt := by omega
      have cjb : decide ((j : Int) < j) = false := decide_eq_false (by omega)
      go_wp2_with (fail)
      go_ret
      have := HR.out.toOwn (base := W.heap.size) (n := j) (Nat.le_refl _) (by rw [partI_length]; omega) (by rw [partI_length]; omega)
      rw [partI_length, partI_full, ← HF.out, List.take_of_length_le (by simp)] at this
      exact ⟨_, rfl, this, HB.out⟩
end Go.Proofs.Ytigmcdpjlkgocaa.Dun

/-! The decoder of differences: heads, sums. -/
namespace Go.Proofs.Ytigmcdpjlkgocaa.Dhr
open Go.Proofs.Ytigmcdpjlkgocaa.Dun Go.Proofs.Ytigmcdpjlkgocaa.Duv Go.Proofs.Ytigmcdpjlkgocaa.Dst Go.Proofs.Ytigmcdpjlkgocaa.Deo Go.Proofs.Ytigmcdpjlkgocaa.Den Go.Proofs.Ytigmcdpjlkgocaa.Deb Go.Proofs.Ytigmcdpjlkgocaa.Drx Go.Proofs.Ytigmcdpjlkgocaa.Dds Go.Proofs.Ytigmcdpjlkgocaa.Dbw Go.Proofs.Ytigmcdpjlkgocaa.Dbk Go.Proofs.Ytigmcdpjlkgocaa.Dhd Go.Proofs.Ytigmcdpjlkgocaa.Dgr Go.Proofs.Ytigmcdpjlkgocaa.Dpu Go.Proofs.Ytigmcdpjlkgocaa.Pak Go.Proofs.Ytigmcdpjlkgocaa.Buf Go.Proofs.Ytigmcdpjlkgocaa.Fit Go.Proofs.Ytigmcdpjlkgocaa.Bit Go.Proofs.Ytigmcdpjlkgocaa.Wrd Go.Proofs.Ytigmcdpjlkgocaa.Spl Go.Proofs.Ytigmcdpjlkgocaa.Str Go.Proofs.Ytigmcdpjlkgocaa.Flt Go.Proofs.Ytigmcdpjlkgocaa.Owe Go.Proofs.Ytigmcdpjlkgocaa.Num Go.Proofs.Ytigmcdpjlkgocaa.Le Go.Proofs.Ytigmcdpjlkgocaa.Lst Go.Proofs.Ytigmcdpjlkgocaa.Aid Go.RowKit Go.Proofs.YtigmcdpjlkgocaaW.PrintWords Go.Proofs.YtigmcdpjlkgocaaW.PrintLast Go.Proofs.YtigmcdpjlkgocaaW.PrintMore
set_option linter.unusedVariables false
set_option linter.unusedSimpArgs false
theorem infoI64d : (Try.prog.info? 2).map (fun i => (i.zero, i.size, i.bytes)) = some (some (.int .i64 0), 1, 8) := by kernel_rfl
theorem infoI32d : (Try.prog.info? 21).map (fun i => (i.zero, i.size, i.bytes)) = some (some (.int .i32 0), 1, 4) := by kernel_rfl
theorem walkV_wrap32 (m : Int) : ∀ (ns : List Int) (last : Int), walkV .i32 (IntKind.i32.wrap m) last (ns.map IntKind.i32.wrap) = walkV .i32 m last ns
  | [], _ => rfl
  | n :: ns, last => by
    have e : IntKind.i32.wrap (last + IntKind.i32.wrap m + IntKind.i32.wrap n) = IntKind.i32.wrap (last + m + n) := by
      rw [IntKind.wrap_i32, IntKind.wrap_i32, IntKind.wrap_i32, IntKind.wrap_i32]; omega
    show IntKind.i32.wrap _ :: _ = _ :: _
    rw [e, walkV_wrap32 m ns]
theorem walkV_wrap64 (m : Int) : ∀ (ns : List Int) (last : Int), walkV .i64 m last (ns.map IntKind.i64.wrap) = walkV .i64 m last ns
  | [], _ => rfl
  | n :: ns, last => by
    have e : IntKind.i64.wrap (last + m + IntKind.i64.wrap n) = IntKind.i64.wrap (last + m + n) := by
      rw [IntKind.wrap_i64, IntKind.wrap_i64, IntKind.wrap_i64]; omega
    show IntKind.i64.wrap _ :: _ = _ :: _
    rw [e, walkV_wrap64 m ns]
theorem results_tmp4 {fn : Func} {t u v x : Tmp} (h : fn.results = #[.tmp t, .tmp u, .tmp v, .tmp x]) (tmps : Array Value) (P : Program) (w : World) :
    (results fn tmps).run P w = .ok (.tuple #[tmps.getD t undef, tmps.getD u undef, tmps.getD v undef, tmps.getD x undef]) w := by
  simp [results, h]
theorem results_tmp6 {fn : Func} {t u v x y z : Tmp} (h : fn.results = #[.tmp t, .tmp u, .tmp v, .tmp x, .tmp y, .tmp z]) (tmps : Array Value) (P : Program) (w : World) :
    (results fn tmps).run P w = .ok (.tuple #[tmps.getD t undef, tmps.getD u undef, tmps.getD v undef, tmps.getD x undef, tmps.getD y undef, tmps.getD z undef]) w := by
  simp [results, h]
theorem dropC {k : IntKind} {W : World} {A A' : Option Addr} {n c : Nat} {a b : List Int} (hC : ∀ (k : Kd Int) (w : World) (xs : List Int), k.sz = 1 → k.C w A n xs → k.C w A' (n - a.length) (xs.drop a.length)) (h : (Kd.int k).C W A n (a ++ b)) : (Kd.int k).C W A' (n - a.length) b := by
  have := hC (Kd.int k) W _ rfl h
  rwa [List.drop_left] at this
theorem sum_step (xs V ns zs : List Int) (o j : Nat) (y : Int) (ho : xs.length = o) (hV : V.length = ns.length) (hj : j < ns.length) (hy : y = rd V (j : Nat)) : (xs ++ (V.take j ++ (ns.drop j ++ zs))).set (o + j) y = xs ++ (V.take (j + 1) ++ (ns.drop (j + 1) ++ zs)) := by
  have h1 : (V.take j).length = j := by rw [List.length_take]; omega
  rw [List.set_append_right _ _ (by omega), ho, show o + j - o = j by omega, List.set_append_right _ _ (by omega), h1, Nat.sub_self, List.drop_eq_getElem_cons hj, List.cons_append, List.set_cons_zero, take_rd V j (by omega), hy, List.append_assoc]
  rfl
end Go.Proofs.Ytigmcdpjlkgocaa.Dhr

/-! The decoder of differences. -/
namespace Go.Proofs.Ytigmcdpjlkgocaa.Ddc
open Go.Proofs.Ytigmcdpjlkgocaa.Dhr Go.Proofs.Ytigmcdpjlkgocaa.Dun Go.Proofs.Ytigmcdpjlkgocaa.Duv Go.Proofs.Ytigmcdpjlkgocaa.Dst Go.Proofs.Ytigmcdpjlkgocaa.Deo Go.Proofs.Ytigmcdpjlkgocaa.Den Go.Proofs.Ytigmcdpjlkgocaa.Deb Go.Proofs.Ytigmcdpjlkgocaa.Drx Go.Proofs.Ytigmcdpjlkgocaa.Dds Go.Proofs.Ytigmcdpjlkgocaa.Dbw Go.Proofs.Ytigmcdpjlkgocaa.Dbk Go.Proofs.Ytigmcdpjlkgocaa.Dhd Go.Proofs.Ytigmcdpjlkgocaa.Dgr Go.Proofs.Ytigmcdpjlkgocaa.Dpu Go.Proofs.Ytigmcdpjlkgocaa.Pak Go.Proofs.Ytigmcdpjlkgocaa.Buf Go.Proofs.Ytigmcdpjlkgocaa.Fit Go.Proofs.Ytigmcdpjlkgocaa.Bit Go.Proofs.Ytigmcdpjlkgocaa.Wrd Go.Proofs.Ytigmcdpjlkgocaa.Spl Go.Proofs.Ytigmcdpjlkgocaa.Str Go.Proofs.Ytigmcdpjlkgocaa.Flt Go.Proofs.Ytigmcdpjlkgocaa.Owe Go.Proofs.Ytigmcdpjlkgocaa.Num Go.Proofs.Ytigmcdpjlkgocaa.Le Go.Proofs.Ytigmcdpjlkgocaa.Lst Go.Proofs.Ytigmcdpjlkgocaa.Aid Go.RowKit Go.Proofs.YtigmcdpjlkgocaaW.PrintWords Go.Proofs.YtigmcdpjlkgocaaW.PrintLast Go.Proofs.YtigmcdpjlkgocaaW.PrintMore
set_option linter.unusedVariables false
set_option linter.unusedSimpArgs false
theorem prv_take (last : Int) (V : List Int) (n : Nat) (h : n ≤ V.length) : prv last (V.take n) n = prv last V n := by
  unfold prv
  by_cases c : n = 0
  · rw [if_pos c, if_pos c]
  · rw [if_neg c, if_neg c]
    unfold rd
    rw [Int.toNat_natCast, List.getD_eq_getElem?_getD, List.getD_eq_getElem?_getD, List.getElem?_take, if_pos (by omega)]
theorem frontG {w W' : World} {g C t : Nat} {k : IntKind} {xs : List Int} {row : Option Nat} (h : Front w g C t k xs) (hg : w.grownBy W' row) (hne : some g ≠ row) : Front W' g C t k xs := by
  obtain ⟨cs, hb, hr⟩ := h.out
  exact ⟨cs, ⟨(hg.block g hb.lt hne).trans hb.out⟩, hr⟩
theorem frontR {w : World} {g C t : Nat} {k : IntKind} {xs : List Int} (h : Front w g C t k xs) (hC : C ≤ 9223372036854775807) : (Kd.int k).C w (some ⟨g, 0, none⟩) xs.length xs := by
  obtain ⟨A, c, e, _, hr⟩ := (h.toOwn (base := 0) (Nat.zero_le _) hC).read
  injection e with e1 _ _
  rw [e1]; exact hr
theorem rd_take (l : List Int) (n j : Nat) (h : j < n) : rd (l.take n) (j : Nat) = rd l (j : Nat) := by
  unfold rd
  rw [Int.toNat_natCast, List.getD_eq_getElem?_getD, List.getD_eq_getElem?_getD, List.getElem?_take, if_pos h]
theorem flat_part (S : Nat) (ps : List DPart) (i n : Nat) (h : ∀ p ∈ ps, p.2.length = S) (hi : i < ps.length) (hn : n ≤ S) : (ps.flatMap (·.2)).take (i * S + n) = (ps.flatMap (·.2)).take (i * S) ++ (ps.getD i (0, [])).2.take n := by
  have hl := flat_length S ps h
  have hiS : i * S + S ≤ ps.length * S := by rw [← Nat.succ_mul]; exact Nat.mul_le_mul_right S hi
  have hp : (ps.getD i (0, [])).2.length = S := h _ (getD_mem ps i hi)
  apply rd_ext
  · rw [List.length_append, List.length_take, List.length_take, List.length_take]; omega
  · intro j hj
    rw [List.length_take] at hj
    have e1 : rd ((ps.flatMap (·.2)).take (i * S + n)) (j : Nat) = rd (ps.flatMap (·.2)) (j : Nat) := by
      exact rd_take _ _ _ (by omega)
    rw [e1, rd_append, List.length_take]
    by_cases c : j < i * S
    · rw [if_pos (by omega), rd_take _ _ _ c]
    · rw [if_neg (by omega), show j - min (i * S) (ps.flatMap (·.2)).length = j - i * S by omega]
      have := flat_rd S ps i (j - i * S) h hi (by omega)
      rw [show i * S + (j - i * S) = j by omega] at this
      rw [this, rd_take _ _ _ (by omega)]
theorem fit_zero {l : List Int} (h : fitL 0 l) : l = List.replicate l.length 0 := by
  apply List.ext_getElem
  · simp
  · intro i h1 h2
    have := h _ (List.getElem_mem h1)
    rw [Int.pow_zero] at this
    simp; omega
end Go.Proofs.Ytigmcdpjlkgocaa.Ddc
