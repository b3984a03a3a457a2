import Derived.Test.YtoopljlbiifmfaaGreatDoorRlb
/-! Groups of bytes: packing. -/
namespace Go.Proofs.YtoopljlbiifmfaaGreatDoor.Rlp
open Go.Proofs.YtoopljlbiifmfaaGreatDoor.Rlb Go.Proofs.YtoopljlbiifmfaaGreatDoor.Buf Go.Proofs.YtoopljlbiifmfaaGreatDoor.Fit Go.Proofs.YtoopljlbiifmfaaGreatDoor.Bit Go.Proofs.YtoopljlbiifmfaaGreatDoor.Wrd Go.Proofs.YtoopljlbiifmfaaGreatDoor.Spl Go.Proofs.YtoopljlbiifmfaaGreatDoor.Str Go.Proofs.YtoopljlbiifmfaaGreatDoor.Flt Go.Proofs.YtoopljlbiifmfaaGreatDoor.Owe Go.Proofs.YtoopljlbiifmfaaGreatDoor.Num Go.Proofs.YtoopljlbiifmfaaGreatDoor.Le Go.Proofs.YtoopljlbiifmfaaGreatDoor.Lst Go.Proofs.YtoopljlbiifmfaaGreatDoor.Aid Go.RowKit Go.Proofs.YtoopljlbiifmfaaGreatDoorW.PrintWords Go.Proofs.YtoopljlbiifmfaaGreatDoorW.PrintLast Go.Proofs.YtoopljlbiifmfaaGreatDoorW.PrintMore
set_option linter.unusedVariables false
set_option linter.unusedSimpArgs false
/-- eight bytes of a word, so many bits of each, side by side -/
def pk (w X : Nat) : Nat := bitsN (fun p => X.testBit (8 * (p / w) + p % w)) (8 * w)
def packW (w : Nat) (ws : List Int) : List Int := ws.flatMap fun X => (lowL 8 ((pk w X.toNat : Nat) : Int)).take w
theorem packW_take (w : Nat) (ws : List Int) (j : Nat) (hj : j < ws.length) : packW w (ws.take (j + 1)) = packW w (ws.take j) ++ (lowL 8 ((pk w (rd ws (j : Nat)).toNat : Nat) : Int)).take w := by
  have e : ws.take (j + 1) = ws.take j ++ [rd ws (j : Nat)] := by
    rw [List.take_succ_eq_append_getElem hj, rd_nat _ _ hj]
  rw [e]; simp [packW]
theorem packW_length (w : Nat) (hw : w ≤ 8) (ws : List Int) : (packW w ws).length = ws.length * w := by
  induction ws with
  | nil => simp [packW]
  | cons x xs ih =>
    have : packW w (x :: xs) = (lowL 8 ((pk w x.toNat : Nat) : Int)).take w ++ packW w xs := by simp [packW]
    rw [this, List.length_append, ih, List.length_take, lowL_length, List.length_cons, Nat.succ_mul]; omega
/-- step by step, as the program does it -/
def pkTo (w X : Nat) : Nat → Nat
  | 0 => X % 2 ^ w
  | c + 1 => pkTo w X c ||| (X / 2 ^ (8 * (c + 1)) % 2 ^ w) * 2 ^ ((c + 1) * w)
theorem pkTo_bit (w X : Nat) (hw : 0 < w) (c : Nat) : ∀ p, (pkTo w X c).testBit p = (decide (p < (c + 1) * w) && X.testBit (8 * (p / w) + p % w)) := by
  induction c with
  | zero =>
    intro p
    simp only [pkTo, Nat.testBit_mod_two_pow, Nat.zero_add, Nat.one_mul]
    by_cases h : p < w
    · simp [h, Nat.div_eq_of_lt h, Nat.mod_eq_of_lt h]
    · simp [h]
  | succ c ih =>
    intro p
    simp only [pkTo, Nat.testBit_or, ih, Nat.testBit_mul_two_pow, Nat.testBit_mod_two_pow, Nat.testBit_div_two_pow]
    by_cases h1 : p < (c + 1) * w
    · have h2 : p < (c + 1 + 1) * w := by rw [Nat.succ_mul (c + 1)]; omega
      simp [h1, h2, show ¬ (c + 1) * w ≤ p by omega]
    · by_cases h2 : p < (c + 1 + 1) * w
      · rw [Nat.succ_mul (c + 1)] at h2
        have hd : p / w = c + 1 := by
          rw [Nat.div_eq_iff hw]
          constructor
          · omega
          · rw [Nat.mul_comm] at *; omega
        have hm : p % w = p - (c + 1) * w := by
          have := Nat.div_add_mod p w
          rw [hd, Nat.mul_comm] at this
          omega
        rw [hd, hm]
        rw [decide_eq_false h1, decide_eq_true (show p < (c + 1 + 1) * w by rw [Nat.succ_mul (c + 1)]; omega), decide_eq_true (show (c + 1) * w ≤ p by omega), decide_eq_true (show p - (c + 1) * w < w by omega), Nat.add_comm (8 * (c + 1))]
        simp
      · simp [h1, h2, show ¬ p - (c + 1) * w < w by rw [Nat.succ_mul (c + 1)] at h2; omega]
theorem pkTo_lt (w X : Nat) (hw : 0 < w) (c : Nat) : pkTo w X c < 2 ^ ((c + 1) * w) := by
  apply Nat.lt_pow_two_of_testBit
  intro i hi
  rw [pkTo_bit w X hw, decide_eq_false (by omega)]; rfl
theorem pkTo_pk (w X : Nat) (hw : 0 < w) : pkTo w X 7 = pk w X := by
  apply Nat.eq_of_testBit_eq
  intro q
  rw [pkTo_bit w X hw]
  unfold pk
  rw [bitsN_testBit]
theorem two_pow_le {a b : Nat} (h : a ≤ b) : 2 ^ a ≤ 2 ^ b := Nat.pow_le_pow_right (by omega) h
theorem mask64 (w : Nat) (hw : w ≤ 8) : IntKind.u64.wrap (IntKind.u64.wrap ((2 : Int) ^ w) - 1) = ((2 ^ w - 1 : Nat) : Int) := by
  have h1 : 2 ^ w ≤ 2 ^ 8 := two_pow_le hw
  have h0 : 0 < 2 ^ w := Nat.two_pow_pos w
  have e : (2 : Int) ^ w = ((2 ^ w : Nat) : Int) := by push_cast; rfl
  have a : IntKind.u64.wrap ((2 ^ w : Nat) : Int) = ((2 ^ w : Nat) : Int) := IntWalk.u64_in _ (by omega)
  rw [e, a, IntWalk.u64_in _ (by omega)]
  omega
theorem and64 (x w : Nat) (hx : x < 18446744073709551616) (hw : w ≤ 8) : bits .and .u64 (x : Int) ((2 ^ w - 1 : Nat) : Int) = ((x % 2 ^ w : Nat) : Int) := by
  have h1 : 2 ^ w ≤ 2 ^ 8 := two_pow_le hw
  rw [u64_and_nat x (2 ^ w - 1) hx (by omega), Nat.and_two_pow_sub_one_eq_mod]
theorem pkStep (w X c e : Nat) (K : Int) (hX : X < 18446744073709551616) (hw1 : 1 ≤ w) (hw : w ≤ 8) (hc : c < 7) (hK : K = ((2 ^ (8 * (c + 1)) : Nat) : Int)) (he : e = (c + 1) * w) :
    bits .or .u64 ((pkTo w X c : Nat) : Int) (IntKind.u64.wrap (bits .and .u64 ((X : Int) / K) ((2 ^ w - 1 : Nat) : Int) * 2 ^ e)) = ((pkTo w X (c + 1) : Nat) : Int) := by
  have hcw : (c + 1) * w + w ≤ 64 := by
    have h1 : (c + 1) * w ≤ 7 * w := Nat.mul_le_mul_right w (by omega)
    omega
  have hd : (X : Int) / K = ((X / 2 ^ (8 * (c + 1)) : Nat) : Int) := by rw [hK]; push_cast; rfl
  rw [hd, and64 _ w (Nat.lt_of_le_of_lt (Nat.div_le_self _ _) hX) hw]
  have ht : X / 2 ^ (8 * (c + 1)) % 2 ^ w < 2 ^ w := Nat.mod_lt _ (Nat.two_pow_pos w)
  have h2 : X / 2 ^ (8 * (c + 1)) % 2 ^ w * 2 ^ ((c + 1) * w) < 2 ^ w * 2 ^ ((c + 1) * w) := Nat.mul_lt_mul_of_pos_right ht (Nat.two_pow_pos _)
  rw [← Nat.pow_add] at h2
  have h3 : 2 ^ (w + (c + 1) * w) ≤ 2 ^ 64 := two_pow_le (by omega)
  have h4 : (2 : Nat) ^ 64 = 18446744073709551616 := by decide
  have e2 : ((X / 2 ^ (8 * (c + 1)) % 2 ^ w : Nat) : Int) * 2 ^ e = ((X / 2 ^ (8 * (c + 1)) % 2 ^ w * 2 ^ ((c + 1) * w) : Nat) : Int) := by rw [he]; push_cast; rfl
  rw [e2, IntWalk.u64_in _ (by omega)]
  have h5 := pkTo_lt w X (by omega) c
  have h6 : 2 ^ ((c + 1) * w) ≤ 2 ^ 64 := two_pow_le (by omega)
  rw [u64_or_nat _ _ (by omega) (by omega)]
  rfl
theorem pkAll (w X : Nat) (hX : X < 18446744073709551616) (hw1 : 1 ≤ w) (hw : w ≤ 8) :
    bits BinOp.or IntKind.u64 (bits BinOp.or IntKind.u64 (bits BinOp.or IntKind.u64 (bits BinOp.or IntKind.u64 (bits BinOp.or IntKind.u64 (bits BinOp.or IntKind.u64 (bits BinOp.or IntKind.u64
      (bits BinOp.and IntKind.u64 (X : Int) ((2 ^ w - 1 : Nat) : Int))
      (IntKind.u64.wrap (bits BinOp.and IntKind.u64 ((X : Int) / 256) ((2 ^ w - 1 : Nat) : Int) * 2 ^ w)))
      (IntKind.u64.wrap (bits BinOp.and IntKind.u64 ((X : Int) / 65536) ((2 ^ w - 1 : Nat) : Int) * 2 ^ (2 * w))))
      (IntKind.u64.wrap (bits BinOp.and IntKind.u64 ((X : Int) / 16777216) ((2 ^ w - 1 : Nat) : Int) * 2 ^ (3 * w))))
      (IntKind.u64.wrap (bits BinOp.and IntKind.u64 ((X : Int) / 4294967296) ((2 ^ w - 1 : Nat) : Int) * 2 ^ (4 * w))))
      (IntKind.u64.wrap (bits BinOp.and IntKind.u64 ((X : Int) / 1099511627776) ((2 ^ w - 1 : Nat) : Int) * 2 ^ (5 * w))))
      (IntKind.u64.wrap (bits BinOp.and IntKind.u64 ((X : Int) / 281474976710656) ((2 ^ w - 1 : Nat) : Int) * 2 ^ (6 * w))))
      (IntKind.u64.wrap (bits BinOp.and IntKind.u64 ((X : Int) / 72057594037927936) ((2 ^ w - 1 : Nat) : Int) * 2 ^ (7 * w))) = ((pk w X : Nat) : Int) := by
  rw [and64 X w hX hw, show ((X % 2 ^ w : Nat) : Int) = ((pkTo w X 0 : Nat) : Int) from rfl,
    pkStep w X 0 w 256 hX hw1 hw (by omega) (by decide) (by omega),
    pkStep w X 1 (2 * w) 65536 hX hw1 hw (by omega) (by decide) (by omega),
    pkStep w X 2 (3 * w) 16777216 hX hw1 hw (by omega) (by decide) (by omega),
    pkStep w X 3 (4 * w) 4294967296 hX hw1 hw (by omega) (by decide) (by omega),
    pkStep w X 4 (5 * w) 1099511627776 hX hw1 hw (by omega) (by decide) (by omega),
    pkStep w X 5 (6 * w) 281474976710656 hX hw1 hw (by omega) (by decide) (by omega),
    pkStep w X 6 (7 * w) 72057594037927936 hX hw1 hw (by omega) (by decide) (by omega), pkTo_pk w X hw1]
end Go.Proofs.YtoopljlbiifmfaaGreatDoor.Rlp
