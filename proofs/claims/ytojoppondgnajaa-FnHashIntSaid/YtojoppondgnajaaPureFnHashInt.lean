/-
  What is proved: the hash of one number of 1, 2, 4 or 8 bytes, as the package's four functions make it, is that of its bytes, the low ones first, by the reference's XXH64.
  Conditions: none; for every size (cut to two bits) and every number of 64 bits.
-/
import Derived.Test.YtojoppondgnajaaPFnHashIntx2
namespace Go.Proofs.Ytojoppondgnajaa.Pure
open Go.RowKit Go.Proofs.Ytojoppondgnajaa.PFnHashInt Go.Proofs.YtojoppondgnajaaW.PrintWords Go.Proofs.YtojoppondgnajaaW.PrintLast Go.Proofs.Ytojoppondgnajaa.Aid Go.Proofs.Ytojoppondgnajaa.Xx

theorem rot_eq (a : Int) (k : Int) (j : Nat) (hk : k = j) (hj : j < 64) (hb : Go.bits .and .u64 (IntKind.u64.wrap k) 63 = k) : bits_RotateLeft64.f a k = some (rolI a j) := by
  unfold bits_RotateLeft64.f rolI
  rw [hb]
  subst hk
  have h64 : (64 : Int) - (j : Int) = ((64 - j : Nat) : Int) := by omega
  rw [if_pos (by omega), IntWalk.u64_in _ (by omega), if_pos (by omega), h64]
  unfold shl shr
  simp only [Int.toNat_natCast]
  rw [Nat.min_eq_left (show j ≤ IntKind.u64.bits from by show j ≤ 64; omega), Nat.min_eq_left (show 64 - j ≤ IntKind.u64.bits from by show 64 - j ≤ 64; omega)]
theorem rol11_eq (a : Int) : pqxxhash_rol11.f a = some (rolI a 11) := by unfold pqxxhash_rol11.f; rw [rot_eq a 11 11 rfl (by omega) (by decide +kernel)]; rfl
theorem rol23_eq (a : Int) : pqxxhash_rol23.f a = some (rolI a 23) := by unfold pqxxhash_rol23.f; rw [rot_eq a 23 23 rfl (by omega) (by decide +kernel)]; rfl
theorem rol27_eq (a : Int) : pqxxhash_rol27.f a = some (rolI a 27) := by unfold pqxxhash_rol27.f; rw [rot_eq a 27 27 rfl (by omega) (by decide +kernel)]; rfl
theorem rol31_eq (a : Int) : pqxxhash_rol31.f a = some (rolI a 31) := by unfold pqxxhash_rol31.f; rw [rot_eq a 31 31 rfl (by omega) (by decide +kernel)]; rfl
theorem pround_eq (s v : Int) : pqxxhash_round.f s v = some (rndI s v) := by unfold pqxxhash_round.f; rw [rol31_eq]; rfl
theorem ava_eq (a : Int) : pqxxhash_avalanche.f a = some (avaI a) := rfl
theorem low_l : ∀ (m k : Nat) (n : Int) (out : List Int) (i c : Int), c - i = m → m < k → 0 ≤ i → c ≤ 100 → out.length ≤ 1000 - m → m ≤ 100 → spec_Low.l0 k n out c i = some (out ++ lowI m n) := by
  intro m
  induction m with
  | zero =>
    intro k n out i c hm hk hi hc ho h1
    obtain ⟨k, rfl⟩ : ∃ q, k = q + 1 := ⟨k - 1, by omega⟩
    simp only [spec_Low.l0]
    rw [if_neg (by omega)]; simp [lowI]
  | succ m ih =>
    intro k n out i c hm hk hi hc ho h1
    obtain ⟨k, rfl⟩ : ∃ q, k = q + 1 := ⟨k - 1, by omega⟩
    simp only [spec_Low.l0]
    rw [if_pos (by omega), if_pos (by omega), IntWalk.wrap64_in _ (by omega), ih k _ _ _ _ (by omega) (by omega) (by omega) hc (by simp; omega) (by omega)]
    simp [lowI]
theorem low_eq (m k : Nat) (n : Int) (hm : m ≤ 100) (hk : m < k) : spec_Low.f k m n = some (lowI m n) := by
  unfold spec_Low.f
  rw [low_l m k n [] 0 m (by omega) hk (by omega) (by omega) (by simp) hm]; rfl
theorem fromLowK (xs : List Int) (k : Nat) (hk : xs.length < k) (hl : xs.length ≤ 9223372036854775807) : spec_FromLow.f k xs = some (fromLowI xs) := by
  unfold spec_FromLow.f
  rw [IntWalk.wrap64_in _ (by omega)]
  have := fromLow_l xs hl xs.length k (Nat.le_refl _) hk
  rwa [List.drop_length] at this
theorem tail4_4 {h : Int} {l : List Int} (hl : l.length = 4) : tail4 h l = avaI (fourI h (fromLowI l)) := by
  unfold tail4 tail1
  rw [if_pos (by omega), List.drop_of_length_le (by omega), List.take_of_length_le (by omega)]; rfl
theorem tail4_lt {h : Int} {l : List Int} (hl : l.length < 4) : tail4 h l = avaI (l.foldl onesI h) := by
  unfold tail4 tail1
  rw [if_neg (by omega)]
theorem xx_short {l : List Int} (hl : l.length < 8) : xxI l = tail4 (IntKind.u64.wrap (2870177450012600261 + l.length)) l := by
  unfold xxI
  rw [if_neg (by omega), tail8_lt (by omega)]
theorem xx_8 {l : List Int} (hl : l.length = 8) : xxI l = avaI (eightI (IntKind.u64.wrap (2870177450012600261 + 8)) (fromLowI l)) := by
  unfold xxI
  rw [if_neg (by omega), tail8_ge (by omega), tail8_lt (by rw [List.length_drop]; omega), tail4_lt (by rw [List.length_drop]; omega), List.drop_of_length_le (by omega), List.take_of_length_le (by omega), hl]
  rfl
/-- a number of 1 to 8 bytes hashes as its bytes -/
theorem hash_eq (m : Nat) (n : Int) (hm : m = 1 ∨ m = 2 ∨ m = 4 ∨ m = 8) : impl_HashInt.f m (fromLowI (lowI m n)) = some (xxI (lowI m n)) := by
  have hb := lowI_bytes m n
  have hl := lowI_length m n
  obtain ⟨v0, v1⟩ := fromLowI_bd (lowI m n) hb (by omega)
  rw [hl] at v1
  unfold impl_HashInt.f
  rcases hm with rfl | rfl | rfl | rfl
  · rw [if_pos (show ((1 : Nat) : Int) = 1 from rfl)]
    have e : fromLowI (lowI 1 n) = n % 256 := by
      show fromLowI [n % 256] = _
      rw [fromLowI_cons (by unfold byt; omega) (bytesB_of (by simp)) (by simp)]
      show n % 256 + 256 * 0 = _
      omega
    rw [xx_short (by omega), tail4_lt (by omega), e]
    unfold pqxxhash_Sum64Uint8.f
    rw [rol11_eq]
    simp only [Option.bind_some, ava_eq]
    rw [show n % 256 % 256 = n % 256 by omega]
    rfl
  · rw [if_neg (show ¬ ((2 : Nat) : Int) = 1 by decide), if_pos (show ((2 : Nat) : Int) = 2 from rfl)]
    have e : fromLowI (lowI 2 n) = n % 256 + 256 * (n / 256 % 256) := by
      show fromLowI [n % 256, n / 256 % 256] = _
      rw [fromLowI_cons (by unfold byt; omega) (bytesB_of (by simp [byt]; omega)) (by simp), fromLowI_cons (by unfold byt; omega) (bytesB_of (by simp)) (by simp)]
      show n % 256 + 256 * (n / 256 % 256 + 256 * 0) = _
      omega
    rw [xx_short (by omega), tail4_lt (by omega), e]
    rw [IntWalk.u16_in _ (by omega)]
    unfold pqxxhash_Sum64Uint16.f
    simp only [rol11_eq, Option.bind_some, ava_eq]
    rw [show Go.bits .and .u16 (n % 256 + 256 * (n / 256 % 256)) 255 = n % 256 by
      have := bits_mask .u16 16 (by decide) (fun n h0 h1 => IntWalk.u16_in n (by omega)) 8 (by decide) (n % 256 + 256 * (n / 256 % 256)) (by omega) (by omega)
      rw [show ((255 : Int)) = 2 ^ 8 - 1 by decide, this]; omega,
      show (n % 256 + 256 * (n / 256 % 256)) / 256 = n / 256 % 256 by omega]
    rfl
  · rw [if_neg (show ¬ ((4 : Nat) : Int) = 1 by decide), if_neg (show ¬ ((4 : Nat) : Int) = 2 by decide), if_pos (show ((4 : Nat) : Int) = 4 from rfl)]
    rw [xx_short (by omega), tail4_4 (by omega), hl]
    generalize fromLowI (lowI 4 n) = v at *
    rw [Int.emod_eq_of_lt v0 (by omega)]
    unfold pqxxhash_Sum64Uint32.f
    simp only [rol23_eq, Option.bind_some, ava_eq]
    rw [IntWalk.u64_in v (by omega)]
    rfl
  · rw [if_neg (show ¬ ((8 : Nat) : Int) = 1 by decide), if_neg (show ¬ ((8 : Nat) : Int) = 2 by decide), if_neg (show ¬ ((8 : Nat) : Int) = 4 by decide)]
    rw [xx_8 (by omega)]
    unfold pqxxhash_Sum64Uint64.f
    simp only [pround_eq, rol27_eq, Option.bind_some, ava_eq]
    rfl
theorem and3 (a : Int) : ∃ j : Nat, j ≤ 3 ∧ Go.bits .and .i64 a 3 = j := by
  have h : 0 ≤ Go.bits .and .i64 a 3 ∧ Go.bits .and .i64 a 3 < 4 := by
    unfold Go.bits
    have h1 : (BitVec.ofInt IntKind.i64.bits a &&& BitVec.ofInt IntKind.i64.bits 3).toNat < 4 := by
      rw [BitVec.toNat_and]
      exact Nat.and_lt_two_pow (n := 2) _ (by decide)
    generalize hn : (BitVec.ofInt IntKind.i64.bits a &&& BitVec.ofInt IntKind.i64.bits 3).toNat = n at h1
    show 0 ≤ IntKind.i64.wrap ((BitVec.ofInt IntKind.i64.bits a &&& BitVec.ofInt IntKind.i64.bits 3).toNat : Int) ∧ IntKind.i64.wrap ((BitVec.ofInt IntKind.i64.bits a &&& BitVec.ofInt IntKind.i64.bits 3).toNat : Int) < 4
    rw [hn, IntWalk.i64_in _ (by omega)]
    omega
  exact ⟨(Go.bits .and .i64 a 3).toNat, by omega, by omega⟩
theorem shl1 (j : Nat) (hj : j ≤ 3) : shl .i64 1 j = ((2 ^ j : Nat) : Int) := by
  rcases (show j = 0 ∨ j = 1 ∨ j = 2 ∨ j = 3 by omega) with rfl | rfl | rfl | rfl <;> decide +kernel
theorem FnHashInt : laws_FnHashInt.Pure := by
  intro a0 a1 w0 w1
  refine ⟨10, ?_⟩
  unfold laws_FnHashInt.f
  obtain ⟨j, hj, e⟩ := and3 a0
  rw [e, if_pos (by omega), shl1 j hj]
  have hm : 2 ^ j = 1 ∨ 2 ^ j = 2 ∨ 2 ^ j = 4 ∨ 2 ^ j = 8 := by
    rcases (show j = 0 ∨ j = 1 ∨ j = 2 ∨ j = 3 by omega) with rfl | rfl | rfl | rfl <;> decide
  generalize 2 ^ j = m at *
  rw [low_eq m 10 a1 (by omega) (by omega)]
  simp only [Option.bind_some]
  rw [fromLowK _ 10 (by rw [lowI_length]; omega) (by rw [lowI_length]; omega)]
  simp only [Option.bind_some]
  rw [hash_eq m a1 hm]
  simp [spec_XX.f]

end Go.Proofs.Ytojoppondgnajaa.Pure
