import Derived.Test.YtoopljlbiifmfaaDoorRlp
/-! Runs: their bytes and their values. -/
namespace Go.Proofs.YtoopljlbiifmfaaDoor.Run
open Go.Proofs.YtoopljlbiifmfaaDoor.Rlp Go.Proofs.YtoopljlbiifmfaaDoor.Rlb Go.Proofs.YtoopljlbiifmfaaDoor.Buf Go.Proofs.YtoopljlbiifmfaaDoor.Fit Go.Proofs.YtoopljlbiifmfaaDoor.Bit Go.Proofs.YtoopljlbiifmfaaDoor.Wrd Go.Proofs.YtoopljlbiifmfaaDoor.Spl Go.Proofs.YtoopljlbiifmfaaDoor.Str Go.Proofs.YtoopljlbiifmfaaDoor.Flt Go.Proofs.YtoopljlbiifmfaaDoor.Owe Go.Proofs.YtoopljlbiifmfaaDoor.Num Go.Proofs.YtoopljlbiifmfaaDoor.Le Go.Proofs.YtoopljlbiifmfaaDoor.Lst Go.Proofs.YtoopljlbiifmfaaDoor.Aid Go.RowKit Go.Proofs.YtoopljlbiifmfaaDoorW.PrintWords Go.Proofs.YtoopljlbiifmfaaDoorW.PrintLast Go.Proofs.YtoopljlbiifmfaaDoorW.PrintMore
set_option linter.unusedVariables false
set_option linter.unusedSimpArgs false
/-- bytes whose bits, the low ones first, are told -/
def byteLo (f : Nat → Bool) (i : Nat) : Nat := bitsN (fun q => f (8 * i + q)) 8
def bytesLo (f : Nat → Bool) (n : Nat) : List Int := (List.range n).map fun i => (byteLo f i : Int)
theorem bytesLo_length (f : Nat → Bool) (n : Nat) : (bytesLo f n).length = n := by simp [bytesLo]
theorem byteLo_lt (f : Nat → Bool) (i : Nat) : byteLo f i < 256 := bitsN_lt 8 _
theorem byteLo_bit (f : Nat → Bool) (i q : Nat) (hq : q < 8) : (byteLo f i).testBit q = f (8 * i + q) := by
  unfold byteLo; rw [bitsN_testBit]; simp [hq]
theorem rd_bytesLo (f : Nat → Bool) (n i : Nat) (hi : i < n) : rd (bytesLo f n) (i : Nat) = (byteLo f i : Nat) := by
  rw [rd_nat _ _ (by rw [bytesLo_length]; exact hi)]
  simp [bytesLo]
/-- the bits of numbers of so many bits, the low ones first -/
def bitsLo (w : Nat) (l : List Int) (p : Nat) : Bool := (rd l (p / w : Nat)).toNat.testBit (p % w)
def packLo (w : Nat) (l : List Int) : List Int := bytesLo (bitsLo w l) (l.length * w / 8)
/-- a bit of bytes, the low ones first -/
def bitLo (bs : List Int) (p : Nat) : Bool := (rd bs (p / 8 : Nat)).toNat.testBit (p % 8)
theorem bitLo_bytesLo (f : Nat → Bool) (n p : Nat) (hp : p < 8 * n) : bitLo (bytesLo f n) p = f p := by
  unfold bitLo
  rw [rd_bytesLo _ _ _ (by omega), Int.toNat_natCast, byteLo_bit _ _ _ (by omega)]
  congr 1; omega
/-- a number of so many bits at a place -/
def valLo (bs : List Int) (w o : Nat) : Nat := bitsN (fun r => bitLo bs (o + r)) w
theorem valLo_pack (w : Nat) (l : List Int) (k : Nat) (hw : 0 < w) (hk : k < l.length) (h8 : 8 * (l.length * w / 8) = l.length * w) (hf : fitL w l) : (valLo (packLo w l) w (k * w) : Int) = rd l (k : Nat) := by
  have hx := hf _ (rd_mem (l := l) (i := k) hk)
  obtain ⟨y, hy⟩ : ∃ y : Nat, rd l (k : Nat) = (y : Int) := ⟨(rd l (k : Nat)).toNat, by omega⟩
  rw [hy] at hx ⊢
  have hyw : y < 2 ^ w := by have := hx.2; exact_mod_cast this
  have hkw : k * w + w ≤ l.length * w := by rw [← Nat.succ_mul]; exact Nat.mul_le_mul_right w hk
  congr 1
  symm
  refine eq_bitsN hyw fun r hr => ?_
  unfold packLo
  rw [bitLo_bytesLo _ _ _ (by omega)]
  unfold bitsLo
  rw [Nat.mul_comm k w, Nat.mul_add_div hw, Nat.div_eq_of_lt hr, Nat.mul_add_mod, Nat.mod_eq_of_lt hr, Nat.add_zero, hy, Int.toNat_natCast]
/-- a run: a value so often, or groups of eight -/
inductive R | rep (v k : Nat) | grp (l : List Int)
namespace R
def bytes (w : Nat) : R → List Int
  | rep v k => varL (2 * k) ++ lowL ((w + 7) / 8) (v : Int)
  | grp l => varL (2 * (l.length / 8) + 1) ++ packLo w l
def vals : R → List Int
  | rep v k => List.replicate k (v : Int)
  | grp l => l
def ok (w : Nat) : R → Prop
  | rep v k => 0 < k ∧ v < 2 ^ w
  | grp l => 0 < l.length ∧ l.length % 8 = 0 ∧ fitL w l
end R
def hyb (w : Nat) (rs : List R) : List Int := rs.flatMap (R.bytes w)
def hybV (rs : List R) : List Int := rs.flatMap R.vals
def hybOk (w : Nat) (rs : List R) : Prop := ∀ r ∈ rs, r.ok w
theorem hyb_snoc (w : Nat) (rs : List R) (r : R) : hyb w (rs ++ [r]) = hyb w rs ++ r.bytes w := by simp [hyb]
theorem hybV_snoc (rs : List R) (r : R) : hybV (rs ++ [r]) = hybV rs ++ r.vals := by simp [hybV]
theorem hybOk_snoc {w : Nat} {rs : List R} {r : R} (h : hybOk w rs) (hr : r.ok w) : hybOk w (rs ++ [r]) := by
  intro x hx
  rcases List.mem_append.1 hx with hx | hx
  · exact h x hx
  · rw [List.mem_singleton] at hx; subst hx; exact hr
/-! ### words of eight bytes -/
theorem hstep (a r p : Nat) (ha : a < 256) : (a + 256 * r).testBit p = if p < 8 then a.testBit p else r.testBit (p - 8) := by
  have := Nat.testBit_two_pow_mul_add (i := 8) r (b := a) ha p
  rw [show 2 ^ 8 * r + a = a + 256 * r by omega] at this
  exact this
theorem le8_bit (a0 a1 a2 a3 a4 a5 a6 a7 p : Nat) (h0 : a0 < 256) (h1 : a1 < 256) (h2 : a2 < 256) (h3 : a3 < 256) (h4 : a4 < 256) (h5 : a5 < 256) (h6 : a6 < 256) (h7 : a7 < 256) (hp : p < 64) :
    (le8 (a0 : Int) a1 a2 a3 a4 a5 a6 a7).toNat.testBit p = ([a0, a1, a2, a3, a4, a5, a6, a7].getD (p / 8) 0).testBit (p % 8) := by
  have e : (le8 (a0 : Int) a1 a2 a3 a4 a5 a6 a7).toNat = a0 + 256 * (a1 + 256 * (a2 + 256 * (a3 + 256 * (a4 + 256 * (a5 + 256 * (a6 + 256 * (a7 + 256 * 0))))))) := by
    unfold le8 le4; omega
  rw [e, hstep _ _ _ h0, hstep _ _ _ h1, hstep _ _ _ h2, hstep _ _ _ h3, hstep _ _ _ h4, hstep _ _ _ h5, hstep _ _ _ h6, hstep _ _ _ h7]
  rcases (show p / 8 = 0 ∨ p / 8 = 1 ∨ p / 8 = 2 ∨ p / 8 = 3 ∨ p / 8 = 4 ∨ p / 8 = 5 ∨ p / 8 = 6 ∨ p / 8 = 7 by omega) with h | h | h | h | h | h | h | h
  · rw [h, if_pos (by omega), show p % 8 = p by omega]; rfl
  · rw [h, if_neg (by omega), if_pos (by omega), show p % 8 = p - 8 by omega]; rfl
  · rw [h, if_neg (by omega), if_neg (by omega), if_pos (by omega), show p % 8 = p - 8 - 8 by omega]; rfl
  · rw [h, if_neg (by omega), if_neg (by omega), if_neg (by omega), if_pos (by omega), show p % 8 = p - 8 - 8 - 8 by omega]; rfl
  · rw [h, if_neg (by omega), if_neg (by omega), if_neg (by omega), if_neg (by omega), if_pos (by omega), show p % 8 = p - 8 - 8 - 8 - 8 by omega]; rfl
  · rw [h, if_neg (by omega), if_neg (by omega), if_neg (by omega), if_neg (by omega), if_neg (by omega), if_pos (by omega), show p % 8 = p - 8 - 8 - 8 - 8 - 8 by omega]; rfl
  · rw [h, if_neg (by omega), if_neg (by omega), if_neg (by omega), if_neg (by omega), if_neg (by omega), if_neg (by omega), if_pos (by omega), show p % 8 = p - 8 - 8 - 8 - 8 - 8 - 8 by omega]; rfl
  · rw [h, if_neg (by omega), if_neg (by omega), if_neg (by omega), if_neg (by omega), if_neg (by omega), if_neg (by omega), if_neg (by omega), if_pos (by omega), show p % 8 = p - 8 - 8 - 8 - 8 - 8 - 8 - 8 by omega]; rfl
theorem byteN (bs : List Int) (hb : bytesB bs = true) (i : Nat) : ∃ a : Nat, rd bs (i : Nat) = (a : Int) ∧ a < 256 := by
  by_cases h : i < bs.length
  · have := bytesB_mem hb _ (rd_mem (l := bs) (i := i) h)
    unfold byt at this
    exact ⟨(rd bs (i : Nat)).toNat, by omega, by omega⟩
  · refine ⟨0, ?_, by omega⟩
    unfold rd
    rw [Int.toNat_natCast, List.getD_eq_getElem?_getD, List.getElem?_eq_none (by omega)]; rfl
theorem wd8_bit (bs : List Int) (hb : bytesB bs = true) (j p : Nat) (hp : p < 64) : (wd8 bs j).toNat.testBit p = (rd bs (8 * j + p / 8 : Nat)).toNat.testBit (p % 8) := by
  obtain ⟨a0, e0, l0⟩ := byteN bs hb (8 * j)
  obtain ⟨a1, e1, l1⟩ := byteN bs hb (8 * j + 1)
  obtain ⟨a2, e2, l2⟩ := byteN bs hb (8 * j + 2)
  obtain ⟨a3, e3, l3⟩ := byteN bs hb (8 * j + 3)
  obtain ⟨a4, e4, l4⟩ := byteN bs hb (8 * j + 4)
  obtain ⟨a5, e5, l5⟩ := byteN bs hb (8 * j + 5)
  obtain ⟨a6, e6, l6⟩ := byteN bs hb (8 * j + 6)
  obtain ⟨a7, e7, l7⟩ := byteN bs hb (8 * j + 7)
  rw [wd8_rd, e0, e1, e2, e3, e4, e5, e6, e7, le8_bit a0 a1 a2 a3 a4 a5 a6 a7 p l0 l1 l2 l3 l4 l5 l6 l7 hp]
  rcases (show p / 8 = 0 ∨ p / 8 = 1 ∨ p / 8 = 2 ∨ p / 8 = 3 ∨ p / 8 = 4 ∨ p / 8 = 5 ∨ p / 8 = 6 ∨ p / 8 = 7 by omega) with h | h | h | h | h | h | h | h <;> rw [h]
  · rw [Nat.add_zero, e0]; rfl
  · rw [e1]; rfl
  · rw [e2]; rfl
  · rw [e3]; rfl
  · rw [e4]; rfl
  · rw [e5]; rfl
  · rw [e6]; rfl
  · rw [e7]; rfl
theorem pk_lt (w X : Nat) : pk w X < 2 ^ (8 * w) := bitsN_lt _ _
theorem word_bytes (w : Nat) (hw : 0 < w) (hw8 : w ≤ 8) (bs : List Int) (hb : bytesB bs = true) (j i : Nat) (hi : i < w) : rd (lowL 8 ((pk w (wd8 bs j).toNat : Nat) : Int)) (i : Nat) = (byteLo (bitsLo w bs) (j * w + i) : Nat) := by
  have e : rd (lowL 8 ((pk w (wd8 bs j).toNat : Nat) : Int)) (i : Nat) = ((pk w (wd8 bs j).toNat / 256 ^ i % 256 : Nat) : Int) := by
    rw [rd_nat _ _ (by rw [lowL_length]; omega)]
    simp [lowL]
  rw [e]
  congr 1
  refine eq_bitsN (Nat.mod_lt _ (by omega)) fun q hq => ?_
  rw [show (256 : Nat) ^ i = 2 ^ (8 * i) by rw [Nat.pow_mul], show (256 : Nat) = 2 ^ 8 from rfl, Nat.testBit_mod_two_pow, Nat.testBit_div_two_pow, decide_eq_true hq, Bool.true_and]
  unfold pk
  rw [bitsN_testBit, decide_eq_true (by omega), Bool.true_and]
  have hc : (q + 8 * i) / w < 8 := by rw [Nat.div_lt_iff_lt_mul hw]; omega
  have hr : (q + 8 * i) % w < w := Nat.mod_lt _ hw
  rw [wd8_bit bs hb j _ (by omega), show (8 * ((q + 8 * i) / w) + (q + 8 * i) % w) / 8 = (q + 8 * i) / w by omega, show (8 * ((q + 8 * i) / w) + (q + 8 * i) % w) % 8 = (q + 8 * i) % w by omega]
  unfold bitsLo
  have e2 : 8 * (j * w + i) + q = w * (8 * j) + (q + 8 * i) := by
    rw [Nat.mul_add, Nat.mul_left_comm w 8 j, Nat.mul_comm w j]; omega
  rw [e2, Nat.mul_add_div hw, Nat.mul_add_mod]
theorem packW_words (w : Nat) (hw : 0 < w) (hw8 : w ≤ 8) (bs : List Int) (hb : bytesB bs = true) (m : Nat) : packW w ((List.range m).map (wd8 bs)) = bytesLo (bitsLo w bs) (m * w) := by
  induction m with
  | zero => simp [packW, bytesLo]
  | succ m ih =>
    rw [List.range_succ, List.map_append]
    have e : packW w ((List.range m).map (wd8 bs) ++ [wd8 bs m]) = packW w ((List.range m).map (wd8 bs)) ++ (lowL 8 ((pk w (wd8 bs m).toNat : Nat) : Int)).take w := by simp [packW]
    rw [List.map_singleton, e, ih]
    apply List.ext_getElem
    · simp [bytesLo, lowL_length, Nat.succ_mul]; omega
    · intro i h1 h2
      rw [bytesLo_length, Nat.succ_mul] at h2
      by_cases hi : i < m * w
      · rw [List.getElem_append_left (by rw [bytesLo_length]; exact hi)]
        simp [bytesLo]
      · rw [List.getElem_append_right (by rw [bytesLo_length]; omega)]
        have h3 : i - m * w < w := by omega
        have hwb := word_bytes w hw hw8 bs hb m (i - m * w) h3
        rw [rd_nat _ _ (by rw [lowL_length]; omega), show m * w + (i - m * w) = i by omega] at hwb
        simp only [List.getElem_take, bytesLo_length]
        rw [hwb]
        simp [bytesLo]
end Go.Proofs.YtoopljlbiifmfaaDoor.Run
