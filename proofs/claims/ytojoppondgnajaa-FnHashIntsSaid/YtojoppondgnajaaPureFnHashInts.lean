/-
  What is proved: the hashes of numbers of 1, 2, 4 or 8 bytes that the package's four functions for lists make are those of the numbers' bytes, the low ones first, by the reference's XXH64.
  Conditions: none beside the statement's own guards (lists of at most 100000 numbers).
-/
import Derived.Test.YtojoppondgnajaaPFnHashIntsx2
namespace Go.Proofs.Ytojoppondgnajaa.Pure
open Go.RowKit Go.Proofs.Ytojoppondgnajaa.PFnHashInts Go.Proofs.YtojoppondgnajaaW.PrintWords Go.Proofs.YtojoppondgnajaaW.PrintLast Go.Proofs.Ytojoppondgnajaa.Aid Go.Proofs.Ytojoppondgnajaa.Xx
namespace HashInts
theorem low_l : ∀ (m k : Nat) (n : Int) (out : List Int) (i c : Int), c - i = m → m < k → 0 ≤ i → c ≤ 100 → out.length ≤ 1000 - m → m ≤ 100 → spec_Low.l0 k n out c i = some (out ++ lowI m n) := by
  intro m
  induction m with
  | zero =>
    intro k n out i c hm hk hi hc ho h1
    obtain ⟨k, rfl⟩ : ∃ q, k = q + 1 := ⟨k - 1, by omega⟩
    simp only [spec_Low.l0]
    rw [if_neg (by omega)]; simp [lowI]
  | succ m ih =>
    intro k n out i c hm hk hi hc ho h1
    obtain ⟨k, rfl⟩ : ∃ q, k = q + 1 := ⟨k - 1, by omega⟩
    simp only [spec_Low.l0]
    rw [if_pos (by omega), if_pos (by omega), IntWalk.wrap64_in _ (by omega), ih k _ _ _ _ (by omega) (by omega) (by omega) hc (by simp; omega) (by omega)]
    simp [lowI]
theorem low_eq (m k : Nat) (n : Int) (hm : m ≤ 100) (hk : m < k) : spec_Low.f k m n = some (lowI m n) := by
  unfold spec_Low.f
  rw [low_l m k n [] 0 m (by omega) hk (by omega) (by omega) (by simp) hm]; rfl
theorem fromLowK (xs : List Int) (k : Nat) (hk : xs.length < k) (hl : xs.length ≤ 9223372036854775807) : spec_FromLow.f k xs = some (fromLowI xs) := by
  unfold spec_FromLow.f
  rw [IntWalk.wrap64_in _ (by omega)]
  have := fromLow_l xs hl xs.length k (Nat.le_refl _) hk
  rwa [List.drop_length] at this
theorem tail4_4 {h : Int} {l : List Int} (hl : l.length = 4) : tail4 h l = avaI (fourI h (fromLowI l)) := by
  unfold tail4 tail1
  rw [if_pos (by omega), List.drop_of_length_le (by omega), List.take_of_length_le (by omega)]; rfl
theorem tail4_lt {h : Int} {l : List Int} (hl : l.length < 4) : tail4 h l = avaI (l.foldl onesI h) := by
  unfold tail4 tail1
  rw [if_neg (by omega)]
theorem xx_short {l : List Int} (hl : l.length < 8) : xxI l = tail4 (IntKind.u64.wrap (2870177450012600261 + l.length)) l := by
  unfold xxI
  rw [if_neg (by omega), tail8_lt (by omega)]
theorem xx_8 {l : List Int} (hl : l.length = 8) : xxI l = avaI (eightI (IntKind.u64.wrap (2870177450012600261 + 8)) (fromLowI l)) := by
  unfold xxI
  rw [if_neg (by omega), tail8_ge (by omega), tail8_lt (by rw [List.length_drop]; omega), tail4_lt (by rw [List.length_drop]; omega), List.drop_of_length_le (by omega), List.take_of_length_le (by omega), hl]
  rfl
theorem hash_eq (m : Nat) (n : Int) (hm : m = 1 ∨ m = 2 ∨ m = 4 ∨ m = 8) :
    (if (m : Int) = 1 then sum8 (fromLowI (lowI m n) % 256) else if (m : Int) = 2 then sum16 (IntKind.u16.wrap (fromLowI (lowI m n))) else if (m : Int) = 4 then sum32 (fromLowI (lowI m n) % 4294967296) else sum64 (fromLowI (lowI m n))) = xxI (lowI m n) := by
  have hb := lowI_bytes m n
  have hl := lowI_length m n
  obtain ⟨v0, v1⟩ := fromLowI_bd (lowI m n) hb (by omega)
  rw [hl] at v1
  rcases hm with rfl | rfl | rfl | rfl
  · rw [if_pos (show ((1 : Nat) : Int) = 1 from rfl)]
    have e : fromLowI (lowI 1 n) = n % 256 := by
      show fromLowI [n % 256] = _
      rw [fromLowI_cons (by unfold byt; omega) (bytesB_of (by simp)) (by simp)]
      show n % 256 + 256 * 0 = _
      omega
    rw [xx_short (by omega), tail4_lt (by omega), e]
    unfold sum8 pqxxhash_Sum64Uint8.f
    rw [rol11_eq]
    simp only [Option.bind_some, ava_eq, Option.getD_some]
    rw [show n % 256 % 256 = n % 256 by omega]
    rfl
  · rw [if_neg (show ¬ ((2 : Nat) : Int) = 1 by decide), if_pos (show ((2 : Nat) : Int) = 2 from rfl)]
    have e : fromLowI (lowI 2 n) = n % 256 + 256 * (n / 256 % 256) := by
      show fromLowI [n % 256, n / 256 % 256] = _
      rw [fromLowI_cons (by unfold byt; omega) (bytesB_of (by simp [byt]; omega)) (by simp), fromLowI_cons (by unfold byt; omega) (bytesB_of (by simp)) (by simp)]
      show n % 256 + 256 * (n / 256 % 256 + 256 * 0) = _
      omega
    rw [xx_short (by omega), tail4_lt (by omega), e]
    rw [IntWalk.u16_in _ (by omega)]
    unfold sum16 pqxxhash_Sum64Uint16.f
    simp only [rol11_eq, Option.bind_some, ava_eq, Option.getD_some]
    rw [show Go.bits .and .u16 (n % 256 + 256 * (n / 256 % 256)) 255 = n % 256 by
      have := bits_mask .u16 16 (by decide) (fun n h0 h1 => IntWalk.u16_in n (by omega)) 8 (by decide) (n % 256 + 256 * (n / 256 % 256)) (by omega) (by omega)
      rw [show ((255 : Int)) = 2 ^ 8 - 1 by decide, this]; omega,
      show (n % 256 + 256 * (n / 256 % 256)) / 256 = n / 256 % 256 by omega]
    rfl
  · rw [if_neg (show ¬ ((4 : Nat) : Int) = 1 by decide), if_neg (show ¬ ((4 : Nat) : Int) = 2 by decide), if_pos (show ((4 : Nat) : Int) = 4 from rfl)]
    rw [xx_short (by omega), tail4_4 (by omega), hl]
    generalize fromLowI (lowI 4 n) = v at *
    rw [Int.emod_eq_of_lt v0 (by omega)]
    unfold sum32 pqxxhash_Sum64Uint32.f
    simp only [rol23_eq, Option.bind_some, ava_eq, Option.getD_some]
    rw [IntWalk.u64_in v (by omega)]
    rfl
  · rw [if_neg (show ¬ ((8 : Nat) : Int) = 1 by decide), if_neg (show ¬ ((8 : Nat) : Int) = 2 by decide), if_neg (show ¬ ((8 : Nat) : Int) = 4 by decide)]
    rw [xx_8 (by omega)]
    unfold sum64 pqxxhash_Sum64Uint64.f
    simp only [pround_eq, rol27_eq, Option.bind_some, ava_eq, Option.getD_some]
    rfl
theorem hints_eq (m : Nat) (hm : m = 1 ∨ m = 2 ∨ m = 4 ∨ m = 8) (l : List Int) : hintsI m (l.map fun n => fromLowI (lowI m n)) = l.map fun n => xxI (lowI m n) := by
  have h := fun n => hash_eq m n hm
  unfold hintsI
  rcases hm with rfl | rfl | rfl | rfl
  · rw [if_pos (show ((1 : Nat) : Int) = 1 from rfl), List.map_map]; exact List.map_congr_left fun n _ => by simpa using h n
  · rw [if_neg (show ¬ ((2 : Nat) : Int) = 1 by decide), if_pos (show ((2 : Nat) : Int) = 2 from rfl), List.map_map]; exact List.map_congr_left fun n _ => by simpa using h n
  · rw [if_neg (show ¬ ((4 : Nat) : Int) = 1 by decide), if_neg (show ¬ ((4 : Nat) : Int) = 2 by decide), if_pos (show ((4 : Nat) : Int) = 4 from rfl), List.map_map]; exact List.map_congr_left fun n _ => by simpa using h n
  · rw [if_neg (show ¬ ((8 : Nat) : Int) = 1 by decide), if_neg (show ¬ ((8 : Nat) : Int) = 2 by decide), if_neg (show ¬ ((8 : Nat) : Int) = 4 by decide), List.map_map]; exact List.map_congr_left fun n _ => by simpa using h n
theorem same_l (l : List Int) (hl : l.length ≤ 1000000000) : ∀ (d k i : Nat), l.length = i + d → d < k → spec_SameNumbers_uint64.l0 k l l l.length i = some true := by
  intro d
  induction d with
  | zero =>
    intro k i h hk
    obtain ⟨k, rfl⟩ : ∃ q, k = q + 1 := ⟨k - 1, by omega⟩
    simp only [spec_SameNumbers_uint64.l0]
    rw [if_neg (by omega)]
  | succ d ih =>
    intro k i h hk
    obtain ⟨k, rfl⟩ : ∃ q, k = q + 1 := ⟨k - 1, by omega⟩
    simp only [spec_SameNumbers_uint64.l0]
    rw [if_pos (by omega), if_pos (by omega), if_pos (by omega), if_pos (by omega), if_pos (by first | rfl | trivial), IntWalk.wrap64_in _ (by omega)]
    exact ih k (i + 1) (by omega) (by omega)
theorem same_eq (l : List Int) (hl : l.length ≤ 1000000000) (k : Nat) (hk : l.length < k) : spec_SameNumbers_uint64.f k l l = some true := by
  unfold spec_SameNumbers_uint64.f
  rw [if_pos rfl]
  exact same_l l hl l.length k 0 (by omega) hk
theorem law_l (m : Nat) (hm : m = 1 ∨ m = 2 ∨ m = 4 ∨ m = 8) (l : List Int) (hl : l.length ≤ 100000) : ∀ (d k i : Nat), l.length = i + d → d + l.length + 12 < k →
    laws_FnHashInts.l0 k m ((l.take i).map fun n => fromLowI (lowI m n)) ((l.take i).map fun n => xxI (lowI m n)) l l.length i = some true := by
  intro d
  induction d with
  | zero =>
    intro k i h hk
    obtain ⟨k, rfl⟩ : ∃ q, k = q + 1 := ⟨k - 1, by omega⟩
    simp only [laws_FnHashInts.l0]
    rw [if_neg (by omega), List.take_of_length_le (by omega)]
    have e : impl_HashInts.f m (l.map fun n => fromLowI (lowI m n)) = some (l.map fun n => xxI (lowI m n)) := by
      unfold impl_HashInts.f
      rw [if_pos (by simp; omega), hints_eq m hm]
    rw [e]
    simp only [Option.bind_some]
    rw [same_eq _ (by simp; omega) k (by simp; omega)]
    rfl
  | succ d ih =>
    intro k i h hk
    obtain ⟨k, rfl⟩ : ∃ q, k = q + 1 := ⟨k - 1, by omega⟩
    simp only [laws_FnHashInts.l0]
    rw [if_pos (by omega), if_pos (by omega), if_pos (by omega), low_eq m k _ (by omega) (by omega)]
    simp only [Option.bind_some]
    rw [fromLowK _ k (by rw [lowI_length]; omega) (by rw [lowI_length]; omega)]
    simp only [Option.bind_some]
    rw [if_pos (by simp; omega)]
    simp only [spec_XX.f, Option.bind_some]
    rw [if_pos (by simp; omega), IntWalk.wrap64_in _ (by omega)]
    have e : rd l i = l[i]'(by omega) := by simp [rd, List.getD_eq_getElem?_getD, List.getElem?_eq_getElem (show i < l.length by omega)]
    have := ih k (i + 1) (by omega) (by omega)
    rw [List.take_succ_eq_append_getElem (show i < l.length by omega), List.map_append, List.map_append] at this
    rw [e]
    exact this
theorem and3 (a : Int) : ∃ j : Nat, j ≤ 3 ∧ Go.bits .and .i64 a 3 = j := by
  have h : 0 ≤ Go.bits .and .i64 a 3 ∧ Go.bits .and .i64 a 3 < 4 := by
    unfold Go.bits
    have h1 : (BitVec.ofInt IntKind.i64.bits a &&& BitVec.ofInt IntKind.i64.bits 3).toNat < 4 := by
      rw [BitVec.toNat_and]
      exact Nat.and_lt_two_pow (n := 2) _ (by decide)
    generalize hn : (BitVec.ofInt IntKind.i64.bits a &&& BitVec.ofInt IntKind.i64.bits 3).toNat = n at h1
    show 0 ≤ IntKind.i64.wrap ((BitVec.ofInt IntKind.i64.bits a &&& BitVec.ofInt IntKind.i64.bits 3).toNat : Int) ∧ IntKind.i64.wrap ((BitVec.ofInt IntKind.i64.bits a &&& BitVec.ofInt IntKind.i64.bits 3).toNat : Int) < 4
    rw [hn, IntWalk.i64_in _ (by omega)]
    omega
  exact ⟨(Go.bits .and .i64 a 3).toNat, by omega, by omega⟩
theorem shl1 (j : Nat) (hj : j ≤ 3) : shl .i64 1 j = ((2 ^ j : Nat) : Int) := by
  rcases (show j = 0 ∨ j = 1 ∨ j = 2 ∨ j = 3 by omega) with rfl | rfl | rfl | rfl <;> decide +kernel
end HashInts
open HashInts
theorem FnHashInts : laws_FnHashInts.Pure := by
  intro a0 l1 w0 _ _ _
  refine ⟨l1.length + l1.length + 20, ?_⟩
  unfold laws_FnHashInts.f
  by_cases h1 : (l1.length : Int) > 2147483647
  · rw [if_pos h1]
  · rw [if_neg h1]
    by_cases h2 : (l1.length : Int) > 100000
    · rw [if_pos h2]
    · rw [if_neg h2]
      obtain ⟨j, hj, e⟩ := and3 a0
      rw [e, if_pos (by omega), shl1 j hj]
      have hm : 2 ^ j = 1 ∨ 2 ^ j = 2 ∨ 2 ^ j = 4 ∨ 2 ^ j = 8 := by
        rcases (show j = 0 ∨ j = 1 ∨ j = 2 ∨ j = 3 by omega) with rfl | rfl | rfl | rfl <;> decide
      generalize 2 ^ j = m at *
      exact law_l m hm l1 (by omega) l1.length _ 0 (by omega) (by omega)

end Go.Proofs.Ytojoppondgnajaa.Pure
