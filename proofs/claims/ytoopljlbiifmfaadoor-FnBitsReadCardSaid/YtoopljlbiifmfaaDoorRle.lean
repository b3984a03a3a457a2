import Derived.Test.YtoopljlbiifmfaaDoorRun
/-! Runs of bytes: the encoder. -/
namespace Go.Proofs.YtoopljlbiifmfaaDoor.Rle
open Go.Proofs.YtoopljlbiifmfaaDoor.Run Go.Proofs.YtoopljlbiifmfaaDoor.Rlp Go.Proofs.YtoopljlbiifmfaaDoor.Rlb Go.Proofs.YtoopljlbiifmfaaDoor.Buf Go.Proofs.YtoopljlbiifmfaaDoor.Fit Go.Proofs.YtoopljlbiifmfaaDoor.Bit Go.Proofs.YtoopljlbiifmfaaDoor.Wrd Go.Proofs.YtoopljlbiifmfaaDoor.Spl Go.Proofs.YtoopljlbiifmfaaDoor.Str Go.Proofs.YtoopljlbiifmfaaDoor.Flt Go.Proofs.YtoopljlbiifmfaaDoor.Owe Go.Proofs.YtoopljlbiifmfaaDoor.Num Go.Proofs.YtoopljlbiifmfaaDoor.Le Go.Proofs.YtoopljlbiifmfaaDoor.Lst Go.Proofs.YtoopljlbiifmfaaDoor.Aid Go.RowKit Go.Proofs.YtoopljlbiifmfaaDoorW.PrintWords Go.Proofs.YtoopljlbiifmfaaDoorW.PrintLast Go.Proofs.YtoopljlbiifmfaaDoorW.PrintMore
set_option linter.unusedVariables false
set_option linter.unusedSimpArgs false
/-- a byte eight times -/
def bc (x : Int) : Int := x % 256 * 72340172838076673
theorem wd8_mod (bs : List Int) (hb : bytesB bs = true) (j : Nat) : wd8 bs j % 256 = rd bs (8 * j : Nat) := by
  obtain ⟨a0, e0, l0⟩ := byteN bs hb (8 * j)
  rw [wd8_rd, e0]
  unfold le8 le4
  omega
theorem dig (a y r s : Int) (h0 : 0 ≤ a) (h1 : a < 256) (h2 : 0 ≤ y) (h3 : y < 256) (h : a + 256 * r = y + 256 * s) : a = y ∧ r = s := by omega
theorem wd8_bc (bs : List Int) (hb : bytesB bs = true) (j : Nat) (y : Int) (hy0 : 0 ≤ y) (hy : y < 256) (h : wd8 bs j = y * 72340172838076673) (i : Nat) (hi : i < 8) : rd bs (8 * j + i : Nat) = y := by
  obtain ⟨a0, e0, l0⟩ := byteN bs hb (8 * j)
  obtain ⟨a1, e1, l1⟩ := byteN bs hb (8 * j + 1)
  obtain ⟨a2, e2, l2⟩ := byteN bs hb (8 * j + 2)
  obtain ⟨a3, e3, l3⟩ := byteN bs hb (8 * j + 3)
  obtain ⟨a4, e4, l4⟩ := byteN bs hb (8 * j + 4)
  obtain ⟨a5, e5, l5⟩ := byteN bs hb (8 * j + 5)
  obtain ⟨a6, e6, l6⟩ := byteN bs hb (8 * j + 6)
  obtain ⟨a7, e7, l7⟩ := byteN bs hb (8 * j + 7)
  rw [wd8_rd, e0, e1, e2, e3, e4, e5, e6, e7] at h
  have h' : (a0 : Int) + 256 * ((a1 : Int) + 256 * ((a2 : Int) + 256 * ((a3 : Int) + 256 * ((a4 : Int) + 256 * ((a5 : Int) + 256 * ((a6 : Int) + 256 * ((a7 : Int) + 256 * 0))))))) = y + 256 * (y + 256 * (y + 256 * (y + 256 * (y + 256 * (y + 256 * (y + 256 * (y + 256 * 0))))))) := by
    unfold le8 le4 at h; omega
  obtain ⟨q0, h'⟩ := dig _ _ _ _ (by omega) (by omega) hy0 hy h'
  obtain ⟨q1, h'⟩ := dig _ _ _ _ (by omega) (by omega) hy0 hy h'
  obtain ⟨q2, h'⟩ := dig _ _ _ _ (by omega) (by omega) hy0 hy h'
  obtain ⟨q3, h'⟩ := dig _ _ _ _ (by omega) (by omega) hy0 hy h'
  obtain ⟨q4, h'⟩ := dig _ _ _ _ (by omega) (by omega) hy0 hy h'
  obtain ⟨q5, h'⟩ := dig _ _ _ _ (by omega) (by omega) hy0 hy h'
  obtain ⟨q6, h'⟩ := dig _ _ _ _ (by omega) (by omega) hy0 hy h'
  obtain ⟨q7, h'⟩ := dig _ _ _ _ (by omega) (by omega) hy0 hy h'
  rcases (show i = 0 ∨ i = 1 ∨ i = 2 ∨ i = 3 ∨ i = 4 ∨ i = 5 ∨ i = 6 ∨ i = 7 by omega) with hh | hh | hh | hh | hh | hh | hh | hh <;> subst hh
  · rw [Nat.add_zero, e0, q0]
  · rw [e1, q1]
  · rw [e2, q2]
  · rw [e3, q3]
  · rw [e4, q4]
  · rw [e5, q5]
  · rw [e6, q6]
  · rw [e7, q7]
theorem wd8_u64 (bs : List Int) (hb : bytesB bs = true) (j : Nat) : 0 ≤ wd8 bs j ∧ wd8 bs j < 18446744073709551616 := by
  obtain ⟨a0, e0, l0⟩ := byteN bs hb (8 * j)
  obtain ⟨a1, e1, l1⟩ := byteN bs hb (8 * j + 1)
  obtain ⟨a2, e2, l2⟩ := byteN bs hb (8 * j + 2)
  obtain ⟨a3, e3, l3⟩ := byteN bs hb (8 * j + 3)
  obtain ⟨a4, e4, l4⟩ := byteN bs hb (8 * j + 4)
  obtain ⟨a5, e5, l5⟩ := byteN bs hb (8 * j + 5)
  obtain ⟨a6, e6, l6⟩ := byteN bs hb (8 * j + 6)
  obtain ⟨a7, e7, l7⟩ := byteN bs hb (8 * j + 7)
  rw [wd8_rd, e0, e1, e2, e3, e4, e5, e6, e7]
  unfold le8 le4
  omega
theorem bitsLo_congr {w : Nat} {l l' : List Int} {p : Nat} (h : rd l (p / w : Nat) = rd l' (p / w : Nat)) : bitsLo w l p = bitsLo w l' p := by unfold bitsLo; rw [h]
theorem packLo_take (w : Nat) (hw : 0 < w) (bs : List Int) (m : Nat) (hm : 8 * m ≤ bs.length) : packLo w (bs.take (8 * m)) = bytesLo (bitsLo w bs) (m * w) := by
  have hl : (bs.take (8 * m)).length * w / 8 = m * w := by
    rw [List.length_take, Nat.min_eq_left hm, Nat.mul_assoc, Nat.mul_div_cancel_left _ (by omega)]
  unfold packLo
  rw [hl]
  unfold bytesLo
  apply List.map_congr_left
  intro i hi
  rw [List.mem_range] at hi
  congr 1
  unfold byteLo
  refine bitsN_congr fun q hq => bitsLo_congr ?_
  have hp : (8 * i + q) / w < 8 * m := by
    rw [Nat.div_lt_iff_lt_mul hw, Nat.mul_assoc]
    have := Nat.mul_le_mul_left 8 (show i + 1 ≤ m * w by omega)
    omega
  unfold rd
  rw [Int.toNat_natCast, List.getD_eq_getElem?_getD, List.getD_eq_getElem?_getD, List.getElem?_take, if_pos hp]
theorem R.bytes_le (w : Nat) (hw : w ≤ 32) (r : R) (h : r.ok w) (hk : r.vals.length ≤ 134217728) : (r.bytes w).length ≤ 9 * r.vals.length := by
  cases r with
  | rep v k =>
    simp only [R.ok, R.vals, List.length_replicate] at h hk
    simp only [R.bytes, R.vals, List.length_append, lowL_length, List.length_replicate]
    have := varL_len5 (2 * k) (by omega)
    omega
  | grp l =>
    simp only [R.ok, R.vals] at h hk
    simp only [R.bytes, R.vals, List.length_append, packLo, bytesLo_length]
    have h1 := varL_len5 (2 * (l.length / 8) + 1) (by omega)
    have h2 : l.length * w ≤ l.length * 32 := Nat.mul_le_mul_left _ hw
    have h3 : l.length * w / 8 ≤ l.length * 32 / 8 := Nat.div_le_div_right h2
    omega
theorem hyb_le (w : Nat) (hw : w ≤ 32) (rs : List R) (h : hybOk w rs) (hk : (hybV rs).length ≤ 134217728) : (hyb w rs).length ≤ 9 * (hybV rs).length := by
  induction rs with
  | nil => simp [hyb]
  | cons r rs ih =>
    have e1 : hyb w (r :: rs) = r.bytes w ++ hyb w rs := by simp [hyb]
    have e2 : hybV (r :: rs) = r.vals ++ hybV rs := by simp [hybV]
    rw [e2, List.length_append] at hk
    have h1 := R.bytes_le w hw r (h r (by simp)) (by omega)
    have h2 := ih (fun x hx => h x (by simp [hx])) (by omega)
    rw [e1, e2, List.length_append, List.length_append]
    omega
set_option maxHeartbeats 4000000 in
theorem broadcast_calls (x : Int) (w : World) (h0 : 0 ≤ x) (h1 : x < 18446744073709551616) :
    Calls Tryd.prog 91 #[.int .u64 x] w fun e w' => e = .returned (.int .u64 (bc x)) ∧ w = w' := by
  have hand : bits .and .u64 x 255 = x % 256 := by
    have := bits_mask .u64 64 (by decide) (fun n h0 h1 => by rw [IntKind.wrap_u64]; omega) 8 (by decide) x (by omega) (by omega)
    rw [show ((2 : Int) ^ 8 - 1) = 255 by decide] at this
    rw [this]; rfl
  go_enter Tryd.func91, Tryd.ntmps91
  go_wp2_with (fail)
  go_ret
  exact ⟨by unfold bc; rfl, rfl⟩
end Go.Proofs.YtoopljlbiifmfaaDoor.Rle
