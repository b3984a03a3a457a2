import Derived.Test.YtojoppondgnajaaDoorBl7
namespace Go.Proofs.YtojoppondgnajaaDoor.Bl
open Go.Proofs.YtojoppondgnajaaDoor.Aid Go.RowKit Go.Proofs.YtojoppondgnajaaDoorW.PrintWords Go.Proofs.YtojoppondgnajaaDoorW.PrintLast Go.Proofs.YtojoppondgnajaaDoorW.PrintMore
set_option linter.unusedVariables false
set_option linter.unusedSimpArgs false

theorem rd_set (l : List Int) (i j : Nat) (v : Int) (hi : i < l.length) : rd (l.set i v) (j : Nat) = if j = i then v else rd l (j : Nat) := by
  unfold rd
  rw [Int.toNat_natCast, List.getD_eq_getElem?_getD, List.getD_eq_getElem?_getD, List.getElem?_set]
  by_cases h : i = j
  · subst h; simp [hi]
  · rw [if_neg h, if_neg (fun e => h e.symm)]
theorem wAt_eq (l : List Int) (j : Nat) : wAt l j = le4 (rd l (4 * j + 0 : Nat)) (rd l (4 * j + 1 : Nat)) (rd l (4 * j + 2 : Nat)) (rd l (4 * j + 3 : Nat)) := by
  unfold wAt le4L
  rw [← rd_drop, ← rd_drop, ← rd_drop, ← rd_drop]; rfl
theorem u32_ext {x y : Int} (hx : u32B x) (hy : u32B y) (h : ∀ t, t < 32 → bitN x t = bitN y t) : x = y := by
  unfold u32B at hx hy
  have : x.toNat = y.toNat := by
    apply Nat.eq_of_testBit_eq
    intro t
    by_cases ht : t < 32
    · exact h t ht
    · have hp : 2 ^ 32 ≤ 2 ^ t := Nat.pow_le_pow_right (by decide) (by omega)
      rw [Nat.testBit_lt_two_pow (show x.toNat < 2 ^ t by omega), Nat.testBit_lt_two_pow (show y.toNat < 2 ^ t by omega)]
  omega
theorem wAt_u32 {l : List Int} (hb : bytesB l = true) (j : Nat) (hj : 4 * j + 4 ≤ l.length) : u32B (wAt l j) :=
  le4L_bd (bytesB_drop hb (4 * j)) (by rw [List.length_drop]; omega)
theorem wAt_setBit (l : List Int) (hb : bytesB l = true) (J p : Nat) (hp : p < 32) (hJ : 4 * J + 4 ≤ l.length) (q : Int) (hq : q = ((32 * J + p : Nat) : Int)) (j : Nat) (hj : 4 * j + 4 ≤ l.length) :
    wAt (setBit l q) j = if j = J then orBit (wAt l J) p else wAt l j := by
  have h8 : (32 * J + p) / 8 = 4 * J + p / 8 := by omega
  have h9 : (32 * J + p) % 8 = p % 8 := by omega
  have hs : setBit l q = l.set (4 * J + p / 8) (orBit (rd l (4 * J + p / 8 : Nat)) (p % 8)) := by
    unfold setBit; rw [hq, Int.toNat_natCast, h8, h9]
  have hbs : bytesB (setBit l q) = true := setBit_bytes hb q (by rw [hq, Int.toNat_natCast, h8]; omega)
  have hls : (setBit l q).length = l.length := setBit_length _ _
  by_cases h : j = J
  · subst h
    rw [if_pos rfl]
    refine u32_ext (wAt_u32 hbs j (by rw [hls]; exact hj)) (orBit_u32 _ _ (wAt_u32 hb j hj) hp) fun t ht => ?_
    rw [bit_wAt _ hbs j (by rw [hls]; exact hj) t ht, bit_orBit, bit_wAt l hb j hj t ht, hs, rd_set _ _ _ _ (by omega)]
    by_cases e : 4 * j + t / 8 = 4 * j + p / 8
    · rw [if_pos e, bit_orBit, e]
      congr 1
      rw [decide_eq_decide]; omega
    · rw [if_neg e]
      rw [decide_eq_false (show ¬ t = p by omega), Bool.or_false]
  · rw [if_neg h, wAt_eq, wAt_eq, hs, rd_set _ _ _ _ (by omega), rd_set _ _ _ _ (by omega), rd_set _ _ _ _ (by omega), rd_set _ _ _ _ (by omega),
      if_neg (by omega), if_neg (by omega), if_neg (by omega), if_neg (by omega)]
theorem words_setBit (l : List Int) (hb : bytesB l = true) (J p n : Nat) (hp : p < 32) (hJ : J < n) (hn : 4 * n ≤ l.length) (q : Int) (hq : q = ((32 * J + p : Nat) : Int)) :
    wordsOf (setBit l q) n = (wordsOf l n).set J (orBit (rd (wordsOf l n) (J : Nat)) p) := by
  rw [rd_wordsOf _ _ _ hJ]
  apply List.ext_getElem
  · simp [wordsOf]
  · intro i h1 h2
    have hi : i < n := by simpa [wordsOf] using h1
    simp only [wordsOf, List.getElem_map, List.getElem_range, List.getElem_set]
    rw [wAt_setBit l hb J p hp (by omega) q hq i (by omega)]
    by_cases h : i = J
    · subst h; simp
    · rw [if_neg h, if_neg (fun e => h e.symm)]
theorem words_setBits (l : List Int) (hb : bytesB l = true) (x : Int) (hx : u64B x) (B : Nat) (hB : 0 < B) (hl : l.length = 32 * B) (k : Nat) (hk : k ≤ 8) :
    wordsOf (setBits x B l k) (B * 8) = insW (wordsOf l (B * 8)) (blk x B * 8) (x % 4294967296) k := by
  induction k with
  | zero => rfl
  | succ k ih =>
    have hbl := blk_lt x B hx hB
    have hp := place_lt (x % 4294967296) k
    show wordsOf (setBit (setBits x B l k) (placeI x B k)) (B * 8) = _
    rw [words_setBit (setBits x B l k) (setBits_bytes hb x B hx hB hl k (by omega)) (blk x B * 8 + k) (place (x % 4294967296) k) (B * 8) hp (by omega) (by rw [setBits_length]; omega) _ (by unfold placeI; omega), ih (by omega)]
    rfl
theorem words_insertS (l : List Int) (hb : bytesB l = true) (B : Nat) (hB : 0 < B) (hl : l.length = 32 * B) (hs : List Int) (hh : u64L hs) :
    wordsOf (insertS l B hs) (B * 8) = insAll (wordsOf l (B * 8)) B hs := by
  unfold insertS insAll
  induction hs generalizing l with
  | nil => rfl
  | cons x hs ih =>
    have hx := hh x (by simp)
    rw [List.foldl_cons, List.foldl_cons, ih (insS B l x) (setBits_bytes hb x B hx hB hl 8 (Nat.le_refl _)) (by rw [← hl]; exact setBits_length _ _ _ _) (fun y hy => hh y (by simp [hy]))]
    congr 1
    exact words_setBits l hb x hx B hB hl 8 (Nat.le_refl _)
/-! ### the bytes of the words are the bytes -/
theorem rd_put4 (xs : List Int) (o i : Nat) (v : Int) (ho : o + 4 ≤ xs.length) : rd (put4 xs o v) (i : Nat) = if i = o + 3 then v / 16777216 % 256 else if i = o + 2 then v / 65536 % 256 else if i = o + 1 then v / 256 % 256 else if i = o then v % 256 else rd xs (i : Nat) := by
  unfold put4
  rw [rd_set _ _ _ _ (by simp; omega), rd_set _ _ _ _ (by simp; omega), rd_set _ _ _ _ (by simp; omega), rd_set _ _ _ _ (by omega)]
theorem rd_bB (l : List Int) (hb : bytesB l = true) (n o k i : Nat) (hk : k ≤ 8) (ho : o + 8 ≤ n) (hn : 4 * n ≤ l.length) :
    rd (bB (wordsOf l n) o k) (i : Nat) = if i < 4 * k then rd l (4 * o + i : Nat) else 0 := by
  induction k with
  | zero =>
    rw [if_neg (by omega)]
    show rd (List.replicate 32 0) (i : Nat) = 0
    unfold rd
    rw [Int.toNat_natCast, List.getD_eq_getElem?_getD, List.getElem?_replicate]
    split <;> rfl
  | succ k ih =>
    show rd (put4 (bB (wordsOf l n) o k) (4 * k) (rd (wordsOf l n) (o + k : Nat))) (i : Nat) = _
    rw [rd_put4 _ _ _ _ (by rw [bB_length]; omega), ih (by omega), rd_wordsOf _ _ _ (by omega), wAt_eq]
    have hbb : ∀ j : Nat, j < l.length → byt (rd l (j : Nat)) := fun j hj => bytesB_rd hb (k := j) rfl hj
    have b0 := hbb (4 * (o + k) + 0) (by omega)
    have b1 := hbb (4 * (o + k) + 1) (by omega)
    have b2 := hbb (4 * (o + k) + 2) (by omega)
    have b3 := hbb (4 * (o + k) + 3) (by omega)
    unfold byt at b0 b1 b2 b3
    by_cases h3 : i = 4 * k + 3
    · rw [if_pos h3, if_pos (by omega), show 4 * o + i = 4 * (o + k) + 3 by omega]; unfold le4; omega
    rw [if_neg h3]
    by_cases h2 : i = 4 * k + 2
    · rw [if_pos h2, if_pos (by omega), show 4 * o + i = 4 * (o + k) + 2 by omega]; unfold le4; omega
    rw [if_neg h2]
    by_cases h1 : i = 4 * k + 1
    · rw [if_pos h1, if_pos (by omega), show 4 * o + i = 4 * (o + k) + 1 by omega]; unfold le4; omega
    rw [if_neg h1]
    by_cases h0 : i = 4 * k
    · rw [if_pos h0, if_pos (by omega), show 4 * o + i = 4 * (o + k) + 0 by omega]; unfold le4; omega
    rw [if_neg h0]
    by_cases h : i < 4 * k
    · rw [if_pos h, if_pos (by omega)]
    · rw [if_neg h, if_neg (by omega)]
theorem rd_ext {a b : List Int} (hl : a.length = b.length) (h : ∀ i : Nat, i < a.length → rd a (i : Nat) = rd b (i : Nat)) : a = b := by
  apply List.ext_getElem hl
  intro i h1 h2
  have := h i h1
  simpa [rd, List.getD_eq_getElem?_getD, List.getElem?_eq_getElem h1, List.getElem?_eq_getElem h2] using this
theorem rd_append (a b : List Int) (i : Nat) : rd (a ++ b) (i : Nat) = if i < a.length then rd a (i : Nat) else rd b (i - a.length : Nat) := by
  unfold rd
  rw [Int.toNat_natCast, Int.toNat_natCast, List.getD_eq_getElem?_getD, List.getD_eq_getElem?_getD, List.getD_eq_getElem?_getD, List.getElem?_append]
  split <;> rfl
theorem bbs_words (l : List Int) (hb : bytesB l = true) (n k i : Nat) (hk : 8 * k ≤ n) (hn : 4 * n ≤ l.length) (hi : i < 32 * k) : rd (bbs (wordsOf l n) k) (i : Nat) = rd l (i : Nat) := by
  induction k with
  | zero => omega
  | succ k ih =>
    show rd (bbs (wordsOf l n) k ++ bB (wordsOf l n) (k * 8) 8) (i : Nat) = _
    rw [rd_append, bbs_length]
    by_cases h : i < 32 * k
    · rw [if_pos h]; exact ih (by omega) h
    · rw [if_neg h, rd_bB l hb n (k * 8) 8 _ (Nat.le_refl _) (by omega) hn, if_pos (by omega)]
      congr 2; omega
theorem bbs_all (l : List Int) (hb : bytesB l = true) (B : Nat) (hl : l.length = 32 * B) : bbs (wordsOf l (B * 8)) B = l :=
  rd_ext (by rw [bbs_length, hl]) fun i hi => bbs_words l hb (B * 8) B i (by omega) (by omega) (by rw [bbs_length] at hi; exact hi)
/-- Insert makes the bytes that the specification says. -/
theorem insertB_eq (l : List Int) (hf : Fil l) (hs : List Int) (hh : u64L hs) : insertB l hs = insertS l (l.length / 32) hs := by
  obtain ⟨B, hB⟩ : ∃ B, l.length = 32 * B := ⟨l.length / 32, by have := hf.n32; omega⟩
  have hB0 : 0 < B := by have := hf.n0; omega
  unfold insertB
  rw [show l.length / 4 = B * 8 by omega, show l.length / 32 = B by omega, ← words_insertS l hf.b B hB0 hB hs hh]
  exact bbs_all _ (insertS_bytes hf.b hB0 hB hh) B (by rw [insertS_length]; exact hB)
end Go.Proofs.YtojoppondgnajaaDoor.Bl
