import Derived.Test.YtcboegodjlfmnaaMtk
import Derived.Laws.BitsAllLaws
import Derived.Laws.CopyOwn
import Derived.ArgAppend
/-! Bits of numbers and of bytes (no program). -/
namespace Go.Proofs.Ytcboegodjlfmnaa.Bit
open Go.RowKit Go.Proofs.YtcboegodjlfmnaaW.PrintWords Go.Proofs.YtcboegodjlfmnaaW.PrintLast Go.Proofs.YtcboegodjlfmnaaW.PrintMore Go.Proofs.Ytcboegodjlfmnaa.Wrd Go.Proofs.Ytcboegodjlfmnaa.Num Go.Proofs.Ytcboegodjlfmnaa.Le Go.Proofs.Ytcboegodjlfmnaa.Lst Go.Proofs.Ytcboegodjlfmnaa.Aid
set_option linter.unusedVariables false
set_option linter.unusedSimpArgs false
/-- the number of so many bits -/
def bitsN (g : Nat → Bool) : Nat → Nat
  | 0 => 0
  | n + 1 => (g 0).toNat + 2 * bitsN (fun i => g (i + 1)) n
theorem bitsN_testBit (n : Nat) : ∀ (g : Nat → Bool) (q : Nat), (bitsN g n).testBit q = (decide (q < n) && g q) := by
  induction n with
  | zero => intro g q; simp [bitsN]
  | succ n ih =>
    intro g q
    cases q with
    | zero =>
      rw [show bitsN g (n + 1) = (g 0).toNat + 2 * bitsN (fun i => g (i + 1)) n from rfl, Nat.testBit_zero]
      have e : ∀ (b : Bool) (m : Nat), decide ((b.toNat + 2 * m) % 2 = 1) = b := fun b m => by
        cases b
        · simp
        · simp
      rw [e]
      simp
    | succ q =>
      rw [Nat.testBit_succ]
      simp only [bitsN]
      have e : ((g 0).toNat + 2 * bitsN (fun i => g (i + 1)) n) / 2 = bitsN (fun i => g (i + 1)) n := by
        cases g 0 <;> simp <;> omega
      rw [e, ih]
      simp
theorem bitsN_lt (n : Nat) : ∀ (g : Nat → Bool), bitsN g n < 2 ^ n := by
  induction n with
  | zero => intro g; simp [bitsN]
  | succ n ih =>
    intro g
    have := ih (fun i => g (i + 1))
    simp only [bitsN, Nat.pow_succ]
    cases g 0 <;> simp <;> omega
theorem eq_bitsN {x n : Nat} {g : Nat → Bool} (hx : x < 2 ^ n) (h : ∀ q, q < n → x.testBit q = g q) : x = bitsN g n := by
  apply Nat.eq_of_testBit_eq
  intro q
  rw [bitsN_testBit]
  by_cases hq : q < n
  · rw [h q hq]; simp [hq]
  · rw [Nat.testBit_lt_two_pow (Nat.lt_of_lt_of_le hx (Nat.pow_le_pow_right (by omega) (by omega)))]; simp [hq]
theorem bitsN_congr {n : Nat} {g g' : Nat → Bool} (h : ∀ q, q < n → g q = g' q) : bitsN g n = bitsN g' n :=
  eq_bitsN (bitsN_lt n g) fun q hq => by rw [bitsN_testBit]; simp [hq, h q hq]
theorem bit_high {x w q : Nat} (hx : x < 2 ^ w) (hq : w ≤ q) : x.testBit q = false := Nat.testBit_lt_two_pow (Nat.lt_of_lt_of_le hx (Nat.pow_le_pow_right (by omega) hq))
/-- bytes whose bits, the high ones first, are told -/
def byteH (f : Nat → Bool) (i : Nat) : Nat := bitsN (fun q => f (8 * i + 7 - q)) 8
theorem byteH_lt (f : Nat → Bool) (i : Nat) : byteH f i < 256 := bitsN_lt 8 _
theorem byteH_bit (f : Nat → Bool) (i q : Nat) (hq : q < 8) : (byteH f i).testBit q = f (8 * i + 7 - q) := by
  unfold byteH; rw [bitsN_testBit]; simp [hq]
theorem byteH_congr {f f' : Nat → Bool} {i : Nat} (h : ∀ p, 8 * i ≤ p → p < 8 * i + 8 → f p = f' p) : byteH f i = byteH f' i :=
  bitsN_congr fun q hq => h _ (by omega) (by omega)
/-- so far -/
def upTo (h : Nat → Bool) (o p : Nat) : Bool := decide (p < o) && h p
theorem enc_fit (h : Nat → Bool) (o w v s : Nat) (hw : o % 8 + w + s = 8) (hv : v < 2 ^ w) (hh : ∀ r, r < w → h (o + r) = v.testBit (w - 1 - r)) :
    byteH (upTo h o) (o / 8) ||| (v * 2 ^ s % 256) = byteH (upTo h (o + w)) (o / 8) := by
  refine eq_bitsN (Nat.or_lt_two_pow (n := 8) (byteH_lt _ _) (Nat.mod_lt _ (by omega))) fun q hq => ?_
  rw [Nat.testBit_or, byteH_bit _ _ _ hq, show (256 : Nat) = 2 ^ 8 from rfl, Nat.testBit_mod_two_pow, Nat.testBit_mul_two_pow]
  have hp : 8 * (o / 8) + 7 - q + q = 8 * (o / 8) + 7 := by omega
  obtain ⟨p, hpe⟩ : ∃ p, 8 * (o / 8) + 7 - q = p := ⟨_, rfl⟩
  rw [hpe] at hp ⊢
  unfold upTo
  by_cases c1 : p < o
  · have : v.testBit (q - s) = false := bit_high hv (by omega)
    simp [c1, this, show p < o + w by omega]
  · by_cases c2 : p < o + w
    · have := hh (p - o) (by omega)
      rw [show o + (p - o) = p by omega, show w - 1 - (p - o) = q - s by omega] at this
      simp [c1, c2, this, hq, show s ≤ q by omega]
    · simp [c1, c2, show ¬ s ≤ q by omega]
theorem enc_split1 (h : Nat → Bool) (o w v s : Nat) (hw : o % 8 + w = 8 + s) (h8 : s < w) (hv : v < 2 ^ w) (hv8 : v < 256) (hh : ∀ r, r < w → h (o + r) = v.testBit (w - 1 - r)) :
    byteH (upTo h o) (o / 8) ||| (v / 2 ^ s) = byteH (upTo h (o + w)) (o / 8) := by
  refine eq_bitsN (Nat.or_lt_two_pow (n := 8) (byteH_lt _ _) (Nat.lt_of_le_of_lt (Nat.div_le_self _ _) hv8)) fun q hq => ?_
  rw [Nat.testBit_or, byteH_bit _ _ _ hq, Nat.testBit_div_two_pow]
  obtain ⟨p, hpe⟩ : ∃ p, 8 * (o / 8) + 7 - q = p := ⟨_, rfl⟩
  have hp : p + q = 8 * (o / 8) + 7 := by omega
  rw [hpe]
  unfold upTo
  by_cases c1 : p < o
  · have : v.testBit (q + s) = false := bit_high hv (by omega)
    simp [c1, this, show p < o + w by omega, Nat.add_comm s q]
  · have := hh (p - o) (by omega)
    rw [show o + (p - o) = p by omega, show w - 1 - (p - o) = q + s by omega] at this
    simp [c1, this, show p < o + w by omega, Nat.add_comm s q]
theorem enc_split2 (h : Nat → Bool) (o w v s : Nat) (hw : o % 8 + w = 8 + s) (h8 : s < w) (hs : 0 < s) (hs8 : s < 8) (hv : v < 2 ^ w) (hh : ∀ r, r < w → h (o + r) = v.testBit (w - 1 - r)) :
    byteH (upTo h o) (o / 8 + 1) ||| (v * 2 ^ (8 - s) % 256) = byteH (upTo h (o + w)) (o / 8 + 1) := by
  refine eq_bitsN (Nat.or_lt_two_pow (n := 8) (byteH_lt _ _) (Nat.mod_lt _ (by omega))) fun q hq => ?_
  rw [Nat.testBit_or, byteH_bit _ _ _ hq, show (256 : Nat) = 2 ^ 8 from rfl, Nat.testBit_mod_two_pow, Nat.testBit_mul_two_pow]
  obtain ⟨p, hpe⟩ : ∃ p, 8 * (o / 8 + 1) + 7 - q = p := ⟨_, rfl⟩
  have hp : p + q = 8 * (o / 8) + 15 := by omega
  rw [hpe]
  unfold upTo
  have c1 : ¬ p < o := by omega
  by_cases c2 : p < o + w
  · have := hh (p - o) (by omega)
    rw [show o + (p - o) = p by omega, show w - 1 - (p - o) = q - (8 - s) by omega] at this
    simp [c1, c2, this, hq, show 8 - s ≤ q by omega]
  · simp [c1, c2, show ¬ 8 - s ≤ q by omega]
theorem enc_other (h : Nat → Bool) (o w i : Nat) (hi : 8 * i + 8 ≤ o ∨ o + w ≤ 8 * i) : byteH (upTo h o) i = byteH (upTo h (o + w)) i :=
  byteH_congr fun p h1 h2 => by
    unfold upTo
    rcases hi with hi | hi
    · simp [show p < o by omega, show p < o + w by omega]
    · simp [show ¬ p < o by omega, show ¬ p < o + w by omega]
/-- the bytes -/
def bytesH (f : Nat → Bool) (n : Nat) : List Int := (List.range n).map fun i => (byteH f i : Int)
theorem bytesH_length (f : Nat → Bool) (n : Nat) : (bytesH f n).length = n := by simp [bytesH]
theorem rd_bytesH (f : Nat → Bool) (n i : Nat) (hi : i < n) : rd (bytesH f n) (i : Nat) = (byteH f i : Nat) := by
  rw [rd_nat _ _ (by rw [bytesH_length]; exact hi)]
  simp [bytesH]
theorem bytesH_zero (h : Nat → Bool) (n : Nat) : bytesH (upTo h 0) n = List.replicate n 0 := by
  apply List.ext_getElem
  · simp [bytesH]
  · intro i h1 h2
    have : byteH (upTo h 0) i = 0 := by
      have := eq_bitsN (x := 0) (n := 8) (g := fun q => upTo h 0 (8 * i + 7 - q)) (by omega) (fun q hq => by simp [upTo])
      exact this.symm
    simp [bytesH, this]
theorem bytesH_take (f : Nat → Bool) (n m : Nat) (hm : m ≤ n) : (bytesH f n).take m = bytesH f m := by
  simp [bytesH, ← List.map_take, List.take_range, Nat.min_eq_left hm]
theorem bytesH_fit (h : Nat → Bool) (n o w v s : Nat) (hn : o / 8 < n) (hw : o % 8 + w + s = 8) (hv : v < 2 ^ w) (hh : ∀ r, r < w → h (o + r) = v.testBit (w - 1 - r)) :
    (bytesH (upTo h o) n).set (o / 8) ((byteH (upTo h o) (o / 8) ||| (v * 2 ^ s % 256) : Nat) : Int) = bytesH (upTo h (o + w)) n := by
  apply List.ext_getElem
  · simp [bytesH]
  · intro i h1 h2
    rw [List.getElem_set]
    split
    · rename_i e; subst e
      rw [enc_fit h o w v s hw hv hh]; simp [bytesH]
    · rename_i e
      simp only [bytesH, List.getElem_map, List.getElem_range]
      rw [enc_other h o w i (by omega)]
theorem bytesH_split (h : Nat → Bool) (n o w v s : Nat) (hn : o / 8 + 1 < n) (hw : o % 8 + w = 8 + s) (h8 : s < w) (hs : 0 < s) (hs8 : s < 8) (hv : v < 2 ^ w) (hv8 : v < 256) (hh : ∀ r, r < w → h (o + r) = v.testBit (w - 1 - r)) :
    ((bytesH (upTo h o) n).set (o / 8) ((byteH (upTo h o) (o / 8) ||| (v / 2 ^ s) : Nat) : Int)).set (o / 8 + 1) ((byteH (upTo h o) (o / 8 + 1) ||| (v * 2 ^ (8 - s) % 256) : Nat) : Int) = bytesH (upTo h (o + w)) n := by
  apply List.ext_getElem
  · simp [bytesH]
  · intro i h1 h2
    rw [List.getElem_set]
    split
    · rename_i e; subst e
      rw [enc_split2 h o w v s hw h8 hs hs8 hv hh]; simp [bytesH]
    · rw [List.getElem_set]
      split
      · rename_i e; subst e
        rw [enc_split1 h o w v s hw h8 hv hv8 hh]; simp [bytesH]
      · simp only [bytesH, List.getElem_map, List.getElem_range]
        rw [enc_other h o w i (by omega)]
/-- a bit of bytes, the high ones first -/
def bitH (bs : List Int) (p : Nat) : Bool := (rd bs (p / 8 : Nat)).toNat.testBit (7 - p % 8)
/-- a number of so many bits at a place -/
def valH (bs : List Int) (w o : Nat) : Nat := bitsN (fun r => bitH bs (o + w - 1 - r)) w
theorem dec_fit (bs : List Int) (o w s b : Nat) (hb : rd bs (o / 8 : Nat) = (b : Int)) (hw : o % 8 + w + s = 8) : b / 2 ^ s % 2 ^ w = valH bs w o := by
  refine eq_bitsN (Nat.mod_lt _ (Nat.two_pow_pos w)) fun q hq => ?_
  rw [Nat.testBit_mod_two_pow, Nat.testBit_div_two_pow]
  unfold bitH
  rw [show (o + w - 1 - q) / 8 = o / 8 by omega, hb, Int.toNat_natCast, show 7 - (o + w - 1 - q) % 8 = q + s by omega]
  simp [hq]
theorem dec_split (bs : List Int) (o w s b b1 : Nat) (hb : rd bs (o / 8 : Nat) = (b : Int)) (hb1 : rd bs (o / 8 + 1 : Nat) = (b1 : Int)) (hw : o % 8 + w = 8 + s) (h8 : s < w) (hs : 0 < s) (hs8 : s < 8) (hw8 : w ≤ 8) (hbb : b1 < 256) :
    ((b % 2 ^ (w - s)) * 2 ^ s % 256) ||| (b1 / 2 ^ (8 - s)) = valH bs w o := by
  refine eq_bitsN (Nat.or_lt_two_pow ?_ ?_) fun q hq => ?_
  · have h1 : b % 2 ^ (w - s) < 2 ^ (w - s) := Nat.mod_lt _ (Nat.two_pow_pos _)
    have h2 : b % 2 ^ (w - s) * 2 ^ s < 2 ^ (w - s) * 2 ^ s := Nat.mul_lt_mul_of_pos_right h1 (Nat.two_pow_pos _)
    rw [← Nat.pow_add, show w - s + s = w by omega] at h2
    exact Nat.lt_of_le_of_lt (Nat.mod_le _ _) h2
  · have h1 : b1 / 2 ^ (8 - s) < 2 ^ s := by
      rw [Nat.div_lt_iff_lt_mul (Nat.two_pow_pos _), ← Nat.pow_add, show s + (8 - s) = 8 by omega]; exact hbb
    exact Nat.lt_of_lt_of_le h1 (Nat.pow_le_pow_right (by omega) (by omega))
  · rw [Nat.testBit_or, show (256 : Nat) = 2 ^ 8 from rfl, Nat.testBit_mod_two_pow, Nat.testBit_mul_two_pow, Nat.testBit_mod_two_pow, Nat.testBit_div_two_pow]
    unfold bitH
    by_cases c : s ≤ q
    · have h0 : b1.testBit (q + (8 - s)) = false := bit_high (w := 8) hbb (by omega)
      rw [show (o + w - 1 - q) / 8 = o / 8 by omega, hb, Int.toNat_natCast, show 7 - (o + w - 1 - q) % 8 = q - s by omega, h0]
      simp [c, show q < 8 by omega, show q - s < w - s by omega]
    · rw [show (o + w - 1 - q) / 8 = o / 8 + 1 by omega, hb1, Int.toNat_natCast, show 7 - (o + w - 1 - q) % 8 = q + (8 - s) by omega]
      simp [c]
theorem bitH_bytesH (f : Nat → Bool) (n p : Nat) (hp : p < 8 * n) : bitH (bytesH f n) p = f p := by
  unfold bitH
  rw [rd_bytesH _ _ _ (by omega), Int.toNat_natCast, byteH_bit _ _ _ (by omega)]
  congr 1; omega
end Go.Proofs.Ytcboegodjlfmnaa.Bit

/-! Walks: widths, numbers of so many bits. -/
namespace Go.Proofs.Ytcboegodjlfmnaa.Fit
open Go.Proofs.Ytcboegodjlfmnaa.Bit Go.Proofs.Ytcboegodjlfmnaa.Wrd Go.Proofs.Ytcboegodjlfmnaa.Spl Go.Proofs.Ytcboegodjlfmnaa.Str Go.Proofs.Ytcboegodjlfmnaa.Flt Go.Proofs.Ytcboegodjlfmnaa.Owe Go.Proofs.Ytcboegodjlfmnaa.Num Go.Proofs.Ytcboegodjlfmnaa.Le Go.Proofs.Ytcboegodjlfmnaa.Lst Go.Proofs.Ytcboegodjlfmnaa.Aid Go.RowKit Go.Proofs.YtcboegodjlfmnaaW.PrintWords Go.Proofs.YtcboegodjlfmnaaW.PrintLast Go.Proofs.YtcboegodjlfmnaaW.PrintMore
set_option linter.unusedVariables false
set_option linter.unusedSimpArgs false
theorem Own.lower {w : World} {base base' t : Nat} {k : IntKind} {v : Value} {xs : List Int} (h : Own w base t k v xs) (hb : base' ≤ base) : Own w base' t k v xs := by
  obtain ⟨h1, h2 | ⟨g, c, cur, e, hg, r⟩⟩ := h.out
  · exact ⟨⟨h1, .inl h2⟩⟩
  · exact ⟨⟨h1, .inr ⟨g, c, cur, e, Nat.le_trans hb hg, r⟩⟩⟩
def fitL (w : Nat) (l : List Int) : Prop := ∀ x ∈ l, 0 ≤ x ∧ x < 2 ^ w
instance (w : Nat) (l : List Int) : Decidable (fitL w l) := by unfold fitL; infer_instance
def fitB (w : Nat) (l : List Int) : Bool := decide (fitL w l ∧ l.length ≤ 100000)
theorem wide64_bytes {l : List Int} (h : ∀ x ∈ l, (Lit.int .u8 x).wf = true) : wideL 64 l = l := by
  unfold wideL
  conv => rhs; rw [← List.map_id l]
  apply List.map_congr_left
  intro x hx
  have := h x hx
  simp [Lit.wf, IntKind.min, IntKind.max, IntKind.signed, IntKind.bits] at this
  simp only [wideI, id]; omega
end Go.Proofs.Ytcboegodjlfmnaa.Fit

/-! Buffers that are filled from the front; numbers in groups of 7 bits. -/
namespace Go.Proofs.Ytcboegodjlfmnaa.Buf
open Go.Proofs.Ytcboegodjlfmnaa.Fit Go.Proofs.Ytcboegodjlfmnaa.Bit Go.Proofs.Ytcboegodjlfmnaa.Wrd Go.Proofs.Ytcboegodjlfmnaa.Spl Go.Proofs.Ytcboegodjlfmnaa.Str Go.Proofs.Ytcboegodjlfmnaa.Flt Go.Proofs.Ytcboegodjlfmnaa.Owe Go.Proofs.Ytcboegodjlfmnaa.Num Go.Proofs.Ytcboegodjlfmnaa.Le Go.Proofs.Ytcboegodjlfmnaa.Lst Go.Proofs.Ytcboegodjlfmnaa.Aid Go.RowKit Go.Proofs.YtcboegodjlfmnaaW.PrintWords Go.Proofs.YtcboegodjlfmnaaW.PrintLast Go.Proofs.YtcboegodjlfmnaaW.PrintMore
set_option linter.unusedVariables false
set_option linter.unusedSimpArgs false
/-- a block of C cells that begins with some numbers; what stands behind them is anything -/
structure Front (w : World) (g C t : Nat) (k : IntKind) (xs : List Int) : Prop where
  mk :: (out : ∃ cs : Array Value, Blk w g cs t ∧ cs.size = C ∧ xs.length ≤ C ∧ ∀ j : Nat, j < xs.length → cs[j]? = some (.int k (rd xs (j : Nat))))
namespace Front
variable {w : World} {g C t : Nat} {k : IntKind} {xs : List Int}
theorem le (h : Front w g C t k xs) : xs.length ≤ C := by obtain ⟨cs, _, _, h, _⟩ := h.out; exact h
theorem cell (h : Front w g C t k xs) (j : Nat) (hj : j < C) : ∃ v, w.cell? ⟨g, j, none⟩ = some v := by
  obtain ⟨cs, hb, hc, _, _⟩ := h.out
  exact ⟨cs[j], hb.cell (Array.getElem?_eq_getElem (by rw [hc]; exact hj))⟩
theorem at' (h : Front w g C t k xs) (j : Nat) (hj : j < xs.length) : w.cell? ⟨g, j, none⟩ = some (.int k (rd xs (j : Nat))) := by
  obtain ⟨cs, hb, hc, _, hx⟩ := h.out
  exact hb.cell (hx j hj)
theorem free (h : Front w g C t k xs) (j : Nat) : w.frozen? ⟨g, j, none⟩ = false := by obtain ⟨cs, hb, _⟩ := h.out; exact hb.free j
theorem lt (h : Front w g C t k xs) : g < w.heap.size := by obtain ⟨cs, hb, _⟩ := h.out; exact hb.lt
theorem push (h : Front w g C t k xs) (hl : xs.length < C) (y : Int) (o : Nat) (ho : o = xs.length) : Front (w.setCell ⟨g, o, none⟩ (.int k y)) g C t k (xs ++ [y]) := by
  subst ho
  obtain ⟨cs, hb, hc, hle, hx⟩ := h.out
  refine ⟨_, hb.set xs.length (.int k y), by simp [hc], by simp; omega, fun j hj => ?_⟩
  rw [List.length_append, List.length_singleton] at hj
  rw [Array.getElem?_setIfInBounds]
  by_cases e : xs.length = j
  · subst e
    rw [if_pos rfl, if_pos (by omega)]
    unfold rd
    simp
  · rw [if_neg e, hx j (by omega)]
    unfold rd
    rw [Int.toNat_natCast, List.getD_eq_getElem?_getD, List.getD_eq_getElem?_getD, List.getElem?_append_left (by omega)]
theorem take (h : Front w g C t k xs) (n : Nat) : Front w g C t k (xs.take n) := by
  obtain ⟨cs, hb, hc, hle, hx⟩ := h.out
  refine ⟨cs, hb, hc, by rw [List.length_take]; omega, fun j hj => ?_⟩
  rw [List.length_take] at hj
  rw [hx j (by omega)]
  unfold rd
  rw [Int.toNat_natCast, List.getD_eq_getElem?_getD, List.getD_eq_getElem?_getD, List.getElem?_take, if_pos (by omega)]
theorem drewN (h : Front w g C t k xs) (n : Nat) : Front (w.drewN n) g C t k xs := by
  obtain ⟨cs, hb, hr⟩ := h.out
  exact ⟨cs, hb.drewN n, hr⟩
theorem below {w1 : World} (h : Front w g C t k xs) {B : Nat} (hb : Below B w w1) (hg : g < B) : Front w1 g C t k xs := by
  obtain ⟨cs, hb', hr⟩ := h.out
  exact ⟨cs, hb'.below hb hg, hr⟩
theorem toOwn (h : Front w g C t k xs) {base : Nat} (hb : base ≤ g) (hm : C ≤ 9223372036854775807) : Own w base t k (.slice (some ⟨g, 0, none⟩) xs.length C) xs := by
  obtain ⟨cs, hbk, hc, hle, hx⟩ := h.out
  refine ⟨⟨by simp [nums], .inr ⟨g, C, cs, rfl, hb, hbk.out, hle, by simpa [maxLen] using hm, by simp [hc], ?_⟩⟩⟩
  apply List.ext_getElem?
  intro j
  rw [Nat.mul_one, List.getElem?_take]
  by_cases hj : j < xs.length
  · rw [if_pos hj, Array.getElem?_toList, hx j hj]
    simp [nums, rd, List.getD_eq_getElem?_getD, List.getElem?_eq_getElem hj]
  · rw [if_neg hj, List.getElem?_eq_none (by simp [nums]; omega)]
theorem ofRow {ys : List Int} (h : Row w g t k ys) (n : Nat) (hn : n ≤ ys.length) : Front w g ys.length t k (ys.take n) := by
  refine ⟨_, h.out, by simp [nums], by rw [List.length_take]; omega, fun j hj => ?_⟩
  rw [List.length_take] at hj
  simp [nums, rd, List.getD_eq_getElem?_getD, List.getElem?_take, (show j < n by omega), (show j < ys.length by omega)]
end Front
theorem own_front {w : World} {base t : Nat} {k : IntKind} {v : Value} {xs : List Int} (h : Own w base t k v xs) :
    (v = .slice none 0 0 ∧ xs = []) ∨ ∃ g C, v = .slice (some ⟨g, 0, none⟩) xs.length C ∧ base ≤ g ∧ C ≤ 9223372036854775807 ∧ Front w g C t k xs := by
  obtain ⟨h1, h2 | ⟨g, c, cur, e, hg, hb, hn, hm, hs, ht⟩⟩ := h.out
  · left
    refine ⟨h2.1, ?_⟩
    have := h2.2
    exact List.eq_nil_of_length_eq_zero this
  · right
    refine ⟨g, c, e, hg, by simpa [maxLen] using hm, ⟨cur, ⟨hb⟩, by simpa using hs, hn, fun j hj => ?_⟩⟩
    have : (cur.toList.take (xs.length * 1))[j]? = (nums k xs)[j]? := by rw [ht]
    rw [List.getElem?_take, if_pos (by omega), Array.getElem?_toList] at this
    rw [this]
    simp [nums, rd, List.getD_eq_getElem?_getD, List.getElem?_eq_getElem hj]
/-- v[:size], past v's length -/
theorem cutAtMid0 {P : Program} (t e : TypeId) {i : TypeInfo} (ht : P.underlying t = some (.slice e)) (hi : P.info? e = some i) (hsz : i.size = 1) (g n C size : Nat) (h : size ≤ C) :
    ∀ W : World, (Instr.slice t (.slice (some ⟨g, 0, none⟩) n C) none (some (.int .i64 (size : Int))) none).run P W = .ok (.slice (some ⟨g, 0, none⟩) size C) W := by
  intro W
  have hel : P.elem t = e := by simp [Program.elem, ht]
  have hu : P.underlying t = some (.slice (P.elem t)) := by rw [hel]; exact ht
  rw [run_slice_h W t (some ⟨g, 0, none⟩) n C hu .i64 size (by omega) (by omega), hel]
  simp [sizeOf, typeInfo, hi, hsz, sliced, Result.andThen, Addr.add]
/-- a number in groups of 7 bits -/
def varL (n : Nat) : List Int := if n < 128 then [(n : Int)] else ((n % 128 + 128 : Nat) : Int) :: varL (n / 128)
termination_by n
decreasing_by omega
theorem varL_lo {n : Nat} (h : n < 128) : varL n = [(n : Int)] := by rw [varL, if_pos h]
theorem varL_hi {n : Nat} (h : ¬ n < 128) : varL n = ((n % 128 + 128 : Nat) : Int) :: varL (n / 128) := by rw [varL, if_neg h]
theorem varL_pos (n : Nat) : 0 < (varL n).length := by
  rw [varL]; split <;> simp
theorem varL_len5 (n : Nat) (h : n < 34359738368) : (varL n).length ≤ 5 := by
  by_cases h1 : n < 128
  · rw [varL_lo h1]; simp
  rw [varL_hi h1]
  by_cases h2 : n / 128 < 128
  · rw [varL_lo h2]; simp
  rw [varL_hi h2]
  by_cases h3 : n / 128 / 128 < 128
  · rw [varL_lo h3]; simp
  rw [varL_hi h3]
  by_cases h4 : n / 128 / 128 / 128 < 128
  · rw [varL_lo h4]; simp
  rw [varL_hi h4, varL_lo (by omega)]; simp
theorem or128 (y : Nat) : y % 256 ||| 128 = y % 128 + 128 := by
  apply Nat.eq_of_testBit_eq
  intro q
  rw [Nat.testBit_or, show (256 : Nat) = 2 ^ 8 from rfl, Nat.testBit_mod_two_pow, show (128 : Nat) = 2 ^ 7 from rfl, Nat.testBit_two_pow, show y % 2 ^ 7 + 2 ^ 7 = 2 ^ 7 * 1 + y % 2 ^ 7 by omega, Nat.testBit_two_pow_mul_add 1 (Nat.mod_lt _ (by omega)), Nat.testBit_mod_two_pow]
  by_cases c : q < 7
  · simp [c, show q < 8 by omega, show ¬ 7 = q by omega]
  · by_cases c2 : q = 7
    · subst c2; simp
    · simp [c, show ¬ q < 8 by omega, show ¬ 7 = q by omega]
      exact bit_high (w := 1) (by omega) (by omega)
set_option maxHeartbeats 4000000 in
theorem putUvarint_calls (g C t n c : Nat) (xs : List Int) (x : Nat) (w : World) (hF : Front w g C t .u8 xs) (hx : x < 34359738368) (hn : (varL x).length ≤ n) (hC : xs.length + n ≤ C) :
    Calls Try.prog 115 #[.slice (some ⟨g, xs.length, none⟩) n c, .int .u64 x] w fun e w' => e = .returned (.int .i64 ((varL x).length : Int)) ∧ Front w' g C t .u8 (xs ++ varL x) ∧ w.grownBy w' (some g) := by
  have HF := Aside0.mk hF
  have HL5 := varL_len5 x hx
  obtain ⟨o, ho⟩ : ∃ o, xs.length = o := ⟨_, rfl⟩
  have HO := Aside0.mk ho
  rw [ho] at hC ⊢
  clear hF ho
  go_enter Try.func115, Try.ntmps115
  go_wp2_with (fail)
  have HB0 : Aside0 (w.grownBy w (some g)) := ⟨grownRefl _ _⟩
  go_loopg [1, 5] 5 (fun kq v1 v5 w' => ∃ (y i : Nat) (pre : List Int), v1 = .int .u64 y ∧ v5 = .int .i64 i ∧ y ≤ x ∧ i ≤ 5 ∧ Aside0 (pre.length = i) ∧ Aside0 (pre ++ varL y = varL x) ∧ Aside0 (Front w' g C t .u8 (xs ++ pre)) ∧ Aside0 (w.grownBy w' (some g)) ∧ Aside0 (5 - i ≤ kq))
  case atStart => exact ⟨x, 0, [], rfl, rfl, Nat.le_refl _, by omega, ⟨rfl⟩, ⟨rfl⟩, ⟨by rw [List.append_nil]; exact HF.out⟩, HB0, ⟨by omega⟩⟩
  case round =>
    obtain ⟨y, i, pre, rfl, rfl, hyx, hi5, HP, HV, HR, HG, HK⟩ := hrel
    have hlen : i + (varL y).length = (varL x).length := by rw [← HV.out, List.length_append, HP.out]
    have hpos := varL_pos y
    have hin : i < n := by omega
    obtain ⟨z, rc⟩ := HR.out.cell (o + i) (by omega)
    have rf := HR.out.free (o + i)
    have qin : ((i : Int) < (n : Int)) = True := eq_true (by omega)
    by_cases c : 128 ≤ y
    · have qc : decide (128 ≤ (y : Int)) = true := decide_eq_true (by omega)
      have qc2 : decide (128 ≤ y) = true := decide_eq_true c
      have e := varL_hi (n := y) (by omega)
      have hl2 : (varL y).length = (varL (y / 128)).length + 1 := by rw [e]; simp
      have hp2 := varL_pos (y / 128)
      have hor : bits BinOp.or IntKind.u8 ((y : Int) % 256) 128 = ((y % 128 + 128 : Nat) : Int) := by
        rw [show ((y : Int) % 256) = ((y % 256 : Nat) : Int) by omega, show (128 : Int) = ((128 : Nat) : Int) from rfl, u8_or_nat (y % 256) 128 (Nat.mod_lt _ (by omega)) (by omega), or128]
      have HE := Aside0.mk e
      clear e
      go_wp2_with (fail)
      go_roundg (gk - 1)
      case measure => have := HK.out; omega
      case rel =>
        refine ⟨y / 128, i + 1, pre ++ [((y % 128 + 128 : Nat) : Int)], by push_cast; rfl, by go_num, by omega, by omega, ⟨by rw [List.length_append, HP.out]; rfl⟩, ⟨by rw [List.append_assoc, List.singleton_append, ← HE.out]; exact HV.out⟩, ⟨?_⟩, ⟨grownSet HG.out _ _⟩, ⟨by have := HK.out; omega⟩⟩
        have := HR.out.push (by rw [List.length_append, HP.out, HO.out]; omega) ((y % 128 + 128 : Nat) : Int) (o + i) (by rw [List.length_append, HP.out, HO.out])
        rw [List.append_assoc] at this
        exact this
    · have qc : decide (128 ≤ (y : Int)) = false := decide_eq_false (by omega)
      have qc2 : decide (128 ≤ y) = false := decide_eq_false c
      have e := varL_lo (n := y) (by omega)
      have hl2 : (varL y).length = 1 := by rw [e]; rfl
      have hi1 : i + 1 = (varL x).length := by omega
      have HE := Aside0.mk e
      have HI := Aside0.mk hi1
      clear e
      go_wp2_with (fail)
      go_ret
      refine ⟨by rw [← HI.out]; push_cast; rfl, ?_, grownSet HG.out _ _⟩
      have := HR.out.push (by rw [List.length_append, HP.out, HO.out]; omega) (y : Int) (o + i) (by rw [List.length_append, HP.out, HO.out])
      rw [List.append_assoc, ← HE.out, HV.out] at this
      exact this
theorem copySrc {w : World} {A : Option Addr} {n : Nat} {k : IntKind} {xs : List Int} (h : (Kd.int k).C w A n xs) (hpos : 0 < xs.length) : ∃ ad, A = some ad ∧ ∀ j v, (nums k xs)[j]? = some v → w.cell? (ad.add j) = some v := by
  have hn : xs.length = n := h.1
  obtain ⟨ad, e, _⟩ := Kd.at_int h 0 (by omega) (by omega)
  refine ⟨ad, e, fun j v hj => ?_⟩
  have hjl : j < xs.length := by
    have := (List.getElem?_eq_some_iff.1 hj).1
    simpa [nums] using this
  obtain ⟨ad', e', hc⟩ := Kd.at_int h (j : Int) (by omega) (by omega)
  rw [e] at e'
  injection e' with e'
  subst e'
  rw [Int.toNat_natCast] at hc
  rw [hc]
  simp [nums, hjl] at hj
  rw [← hj, rd_nat _ _ hjl]
theorem nums_one (k : IntKind) (xs : List Int) : ∀ v ∈ nums k xs, v.oneCell' = true := by
  intro v hv
  simp only [nums, List.mem_map] at hv
  obtain ⟨x, _, rfl⟩ := hv
  rfl
theorem frontSplice {w : World} {g M t : Nat} {k : IntKind} {xs : List Int} (h : Hid (w.heap[g]? = some (.cells (splice (nums k (List.replicate M 0)) 0 (nums k xs)).toArray t (0, 0)))) (hl : xs.length ≤ M) : Front w g M t k xs := by
  refine ⟨_, ⟨h⟩, by simp [splice, nums]; omega, hl, fun j hj => ?_⟩
  simp [splice, nums, rd, List.getElem?_append, hj]
end Go.Proofs.Ytcboegodjlfmnaa.Buf

/-! Numbers packed, low bits first: what needs no program (for packages that have no runs). -/
namespace Go.Proofs.Ytcboegodjlfmnaa.Pak
open Go.Proofs.Ytcboegodjlfmnaa.Buf Go.Proofs.Ytcboegodjlfmnaa.Fit Go.Proofs.Ytcboegodjlfmnaa.Bit Go.Proofs.Ytcboegodjlfmnaa.Wrd Go.Proofs.Ytcboegodjlfmnaa.Spl Go.Proofs.Ytcboegodjlfmnaa.Str Go.Proofs.Ytcboegodjlfmnaa.Flt Go.Proofs.Ytcboegodjlfmnaa.Owe Go.Proofs.Ytcboegodjlfmnaa.Num Go.Proofs.Ytcboegodjlfmnaa.Le Go.Proofs.Ytcboegodjlfmnaa.Lst Go.Proofs.Ytcboegodjlfmnaa.Aid Go.RowKit Go.Proofs.YtcboegodjlfmnaaW.PrintWords Go.Proofs.YtcboegodjlfmnaaW.PrintLast Go.Proofs.YtcboegodjlfmnaaW.PrintMore
set_option linter.unusedVariables false
set_option linter.unusedSimpArgs false
theorem two_pow_le {a b : Nat} (h : a ≤ b) : 2 ^ a ≤ 2 ^ b := Nat.pow_le_pow_right (by omega) h
def byteLo (f : Nat → Bool) (i : Nat) : Nat := bitsN (fun q => f (8 * i + q)) 8
def bytesLo (f : Nat → Bool) (n : Nat) : List Int := (List.range n).map fun i => (byteLo f i : Int)
theorem bytesLo_length (f : Nat → Bool) (n : Nat) : (bytesLo f n).length = n := by simp [bytesLo]
theorem byteLo_lt (f : Nat → Bool) (i : Nat) : byteLo f i < 256 := bitsN_lt 8 _
theorem byteLo_bit (f : Nat → Bool) (i q : Nat) (hq : q < 8) : (byteLo f i).testBit q = f (8 * i + q) := by
  unfold byteLo; rw [bitsN_testBit]; simp [hq]
theorem rd_bytesLo (f : Nat → Bool) (n i : Nat) (hi : i < n) : rd (bytesLo f n) (i : Nat) = (byteLo f i : Nat) := by
  rw [rd_nat _ _ (by rw [bytesLo_length]; exact hi)]
  simp [bytesLo]
/-- the bits of numbers of so many bits, the low ones first -/
def bitsLo (w : Nat) (l : List Int) (p : Nat) : Bool := (rd l (p / w : Nat)).toNat.testBit (p % w)
def packLo (w : Nat) (l : List Int) : List Int := bytesLo (bitsLo w l) (l.length * w / 8)
/-- a bit of bytes, the low ones first -/
def bitLo (bs : List Int) (p : Nat) : Bool := (rd bs (p / 8 : Nat)).toNat.testBit (p % 8)
theorem bitLo_bytesLo (f : Nat → Bool) (n p : Nat) (hp : p < 8 * n) : bitLo (bytesLo f n) p = f p := by
  unfold bitLo
  rw [rd_bytesLo _ _ _ (by omega), Int.toNat_natCast, byteLo_bit _ _ _ (by omega)]
  congr 1; omega
/-- a number of so many bits at a place -/
def valLo (bs : List Int) (w o : Nat) : Nat := bitsN (fun r => bitLo bs (o + r)) w
theorem valLo_pack (w : Nat) (l : List Int) (k : Nat) (hw : 0 < w) (hk : k < l.length) (h8 : 8 * (l.length * w / 8) = l.length * w) (hf : fitL w l) : (valLo (packLo w l) w (k * w) : Int) = rd l (k : Nat) := by
  have hx := hf _ (rd_mem (l := l) (i := k) hk)
  obtain ⟨y, hy⟩ : ∃ y : Nat, rd l (k : Nat) = (y : Int) := ⟨(rd l (k : Nat)).toNat, by omega⟩
  rw [hy] at hx ⊢
  have hyw : y < 2 ^ w := by have := hx.2; exact_mod_cast this
  have hkw : k * w + w ≤ l.length * w := by rw [← Nat.succ_mul]; exact Nat.mul_le_mul_right w hk
  congr 1
  symm
  refine eq_bitsN hyw fun r hr => ?_
  unfold packLo
  rw [bitLo_bytesLo _ _ _ (by omega)]
  unfold bitsLo
  rw [Nat.mul_comm k w, Nat.mul_add_div hw, Nat.div_eq_of_lt hr, Nat.mul_add_mod, Nat.mod_eq_of_lt hr, Nat.add_zero, hy, Int.toNat_natCast]
theorem byteLo_congr {f f' : Nat → Bool} {i : Nat} (h : ∀ p, 8 * i ≤ p → p < 8 * i + 8 → f p = f' p) : byteLo f i = byteLo f' i :=
  bitsN_congr fun q hq => h _ (by omega) (by omega)
theorem upTo_succ_false (f : Nat → Bool) (o : Nat) (h : f o = false) : upTo f (o + 1) = upTo f o := by
  funext p
  unfold upTo
  by_cases c : p < o
  · simp [c, show p < o + 1 by omega]
  · by_cases c2 : p = o
    · subst c2; simp [h]
    · simp [c, show ¬ p < o + 1 by omega]
theorem byteLo_set (f : Nat → Bool) (o : Nat) (h : f o = true) : byteLo (upTo f (o + 1)) (o / 8) = byteLo (upTo f o) (o / 8) ||| 2 ^ (o % 8) := by
  symm
  refine eq_bitsN ?_ fun q hq => ?_
  · refine Nat.or_lt_two_pow (byteLo_lt _ _) ?_
    have := two_pow_le (show o % 8 ≤ 7 by omega)
    have e : (2 : Nat) ^ 7 = 128 := by decide
    have e8 : (2 : Nat) ^ 8 = 256 := by decide
    omega
  · rw [Nat.testBit_or, byteLo_bit _ _ _ hq, Nat.testBit_two_pow]
    unfold upTo
    by_cases c : 8 * (o / 8) + q = o
    · rw [c, h]; simp [show o % 8 = q by omega]
    · by_cases c2 : 8 * (o / 8) + q < o
      · simp [c2, show 8 * (o / 8) + q < o + 1 by omega, show ¬ o % 8 = q by omega]
      · simp [c2, show ¬ 8 * (o / 8) + q < o + 1 by omega, show ¬ o % 8 = q by omega]
theorem bytesLo_set (f : Nat → Bool) (o M : Nat) (h : f o = true) (ho : o / 8 < M) : (bytesLo (upTo f o) M).set (o / 8) ((byteLo (upTo f o) (o / 8) ||| 2 ^ (o % 8) : Nat) : Int) = bytesLo (upTo f (o + 1)) M := by
  apply rd_ext
  · simp [bytesLo]
  · intro i hi
    rw [List.length_set, bytesLo_length] at hi
    rw [rd_set _ _ _ _ (by rw [bytesLo_length]; exact ho)]
    by_cases c : i = o / 8
    · subst c; rw [if_pos rfl, rd_bytesLo _ _ _ hi, byteLo_set f o h]
    · rw [if_neg c, rd_bytesLo _ _ _ hi, rd_bytesLo _ _ _ hi]
      congr 1
      refine byteLo_congr fun p h1 h2 => ?_
      unfold upTo
      simp [show (p < o) = (p < o + 1) from by apply propext; omega]
theorem bytesLo_zero (f : Nat → Bool) (M : Nat) : bytesLo (upTo f 0) M = List.replicate M 0 := by
  apply rd_ext
  · simp [bytesLo]
  · intro i hi
    rw [bytesLo_length] at hi
    rw [rd_bytesLo _ _ _ hi, rd_nat _ _ (by simpa using hi)]
    have : byteLo (upTo f 0) i = 0 := by
      symm
      refine eq_bitsN (by decide) fun q hq => ?_
      unfold upTo; simp
    rw [this]; simp
theorem packLo_upTo (w : Nat) (l : List Int) (h8 : 8 * (l.length * w / 8) = l.length * w) : bytesLo (upTo (bitsLo w l) (l.length * w)) ((l.length * w + 7) / 8) = packLo w l := by
  unfold packLo
  rw [show (l.length * w + 7) / 8 = l.length * w / 8 by omega]
  unfold bytesLo
  apply List.map_congr_left
  intro i hi
  rw [List.mem_range] at hi
  congr 1
  refine byteLo_congr fun p h1 h2 => ?_
  unfold upTo
  rw [decide_eq_true (by omega), Bool.true_and]
theorem bitsLo_at (w : Nat) (l : List Int) (j k o y : Nat) (hk : k < w) (ho : o = j * w + k) (hy : rd l (j : Nat) = (y : Int)) : bitsLo w l o = y.testBit k := by
  unfold bitsLo
  rw [ho, Nat.mul_comm j w, Nat.mul_add_div (by omega), Nat.div_eq_of_lt hk, Nat.mul_add_mod, Nat.mod_eq_of_lt hk, Nat.add_zero, hy, Int.toNat_natCast]
theorem setF {w : World} {g C t : Nat} {k : IntKind} {xs : List Int} (h : Front w g C t k xs) (j : Nat) (hj : j < xs.length) (y : Int) : Front (w.setCell ⟨g, j, none⟩ (.int k y)) g C t k (xs.set j y) := by
  obtain ⟨cs, hb, hc, hle, hx⟩ := h.out
  refine ⟨_, hb.set j (.int k y), by simp [hc], by simpa using hle, fun i hi => ?_⟩
  rw [List.length_set] at hi
  rw [Array.getElem?_setIfInBounds, rd_set _ _ _ _ hj]
  by_cases e : j = i
  · subst e; rw [if_pos rfl, if_pos (by omega), if_pos rfl]
  · rw [if_neg e, hx i hi, if_neg (fun h => e h.symm)]
theorem set_right (xs B : List Int) (o q : Nat) (y : Int) (ho : xs.length = o) : (xs ++ B).set (o + q) y = xs ++ B.set q y := by
  rw [List.set_append_right _ _ (by omega), show o + q - xs.length = q by omega]
end Go.Proofs.Ytcboegodjlfmnaa.Pak

/-! Numbers in groups of 7 bits, written into a buffer whose rest stays. -/
namespace Go.Proofs.Ytcboegodjlfmnaa.Dpu
open Go.Proofs.Ytcboegodjlfmnaa.Pak Go.Proofs.Ytcboegodjlfmnaa.Buf Go.Proofs.Ytcboegodjlfmnaa.Fit Go.Proofs.Ytcboegodjlfmnaa.Bit Go.Proofs.Ytcboegodjlfmnaa.Wrd Go.Proofs.Ytcboegodjlfmnaa.Spl Go.Proofs.Ytcboegodjlfmnaa.Str Go.Proofs.Ytcboegodjlfmnaa.Flt Go.Proofs.Ytcboegodjlfmnaa.Owe Go.Proofs.Ytcboegodjlfmnaa.Num Go.Proofs.Ytcboegodjlfmnaa.Le Go.Proofs.Ytcboegodjlfmnaa.Lst Go.Proofs.Ytcboegodjlfmnaa.Aid Go.RowKit Go.Proofs.YtcboegodjlfmnaaW.PrintWords Go.Proofs.YtcboegodjlfmnaaW.PrintLast Go.Proofs.YtcboegodjlfmnaaW.PrintMore
set_option linter.unusedVariables false
set_option linter.unusedSimpArgs false
theorem varL_lenk : ∀ k n : Nat, n < 128 ^ (k + 1) → (varL n).length ≤ k + 1
  | 0, n, h => by rw [varL_lo (by simpa using h)]; simp
  | k + 1, n, h => by
    by_cases c : n < 128
    · rw [varL_lo c]; simp
    · rw [varL_hi c, List.length_cons]
      have := varL_lenk k (n / 128) (by rw [Nat.pow_succ] at h; exact Nat.div_lt_of_lt_mul (by rw [Nat.mul_comm]; exact h))
      omega
theorem varL_len10 (n : Nat) (h : n < 18446744073709551616) : (varL n).length ≤ 10 := by
  have := varL_lenk 9 n (by have e : (128 : Nat) ^ (9 + 1) = 1180591620717411303424 := (by decide); omega)
  omega
theorem setMid (xs pre zs : List Int) (y : Int) (o i : Nat) (ho : xs.length = o) (hp : pre.length = i) (hi : i < zs.length) : (xs ++ pre ++ zs.drop i).set (o + i) y = xs ++ (pre ++ [y]) ++ zs.drop (i + 1) := by
  have hl : (xs ++ pre).length = o + i := by rw [List.length_append, ho, hp]
  rw [List.set_append_right _ _ (by omega), hl, Nat.sub_self, List.drop_eq_getElem_cons hi, List.set_cons_zero]
  simp
theorem xor_ones (s : Nat) (h : s < 2 ^ 64) : (2 ^ 64 - 1) ^^^ s = 2 ^ 64 - (s + 1) := by
  apply Nat.eq_of_testBit_eq
  intro q
  rw [Nat.testBit_xor, Nat.testBit_two_pow_sub_one, Nat.testBit_two_pow_sub_succ h]
  by_cases c : q < 64
  · simp [c]
  · simp [c, bit_high h (by omega : 64 ≤ q)]
theorem not64 (s : Int) (h0 : 0 ≤ s) (h1 : s < 18446744073709551616) : bits .xor .u64 IntKind.u64.max s = 18446744073709551615 - s := by
  obtain ⟨n, rfl⟩ := Int.eq_ofNat_of_zero_le h0
  have e : IntKind.u64.max = ((2 ^ 64 - 1 : Nat) : Int) := by decide
  rw [e, bits_xor_u64_nat _ _ (by decide) (by omega), xor_ones n (by omega)]
  omega
/-- a whole number as one of at least 0 -/
def zz (x : Int) : Nat := if 0 ≤ x then (2 * x).toNat else (-2 * x - 1).toNat
theorem zz_lt (x : Int) (h0 : -9223372036854775808 ≤ x) (h1 : x ≤ 9223372036854775807) : zz x < 18446744073709551616 := by
  unfold zz; split <;> omega
set_option maxHeartbeats 4000000 in
theorem putUvarintR_calls (g C t n c : Nat) (xs zs : List Int) (x : Nat) (w : World) (hF : Front w g C t .u8 (xs ++ zs)) (hx : x < 18446744073709551616) (hn : (varL x).length ≤ n) (hz : (varL x).length ≤ zs.length) :
    Calls Try.prog 115 #[.slice (some ⟨g, xs.length, none⟩) n c, .int .u64 x] w fun e w' => e = .returned (.int .i64 ((varL x).length : Int)) ∧ Front w' g C t .u8 (xs ++ varL x ++ zs.drop (varL x).length) ∧ w.grownBy w' (some g) := by
  have HF := Aside0.mk hF
  have HL10 := varL_len10 x hx
  have hle := hF.le
  rw [List.length_append] at hle
  obtain ⟨o, ho⟩ : ∃ o, xs.length = o := ⟨_, rfl⟩
  have HO := Aside0.mk ho
  rw [ho] at hle ⊢
  clear hF ho
  go_enter Try.func115, Try.ntmps115
  go_wp2_with (fail)
  have HB0 : Aside0 (w.grownBy w (some g)) := ⟨grownRefl _ _⟩
  go_loopg [1, 5] 10 (fun kq v1 v5 w' => ∃ (y i : Nat) (pre : List Int), v1 = .int .u64 y ∧ v5 = .int .i64 i ∧ y ≤ x ∧ i ≤ 10 ∧ Aside0 (pre.length = i) ∧ Aside0 (pre ++ varL y = varL x) ∧ Aside0 (Front w' g C t .u8 (xs ++ pre ++ zs.drop i)) ∧ Aside0 (w.grownBy w' (some g)) ∧ Aside0 (10 - i ≤ kq))
  case atStart => exact ⟨x, 0, [], rfl, rfl, Nat.le_refl _, by omega, ⟨rfl⟩, ⟨rfl⟩, ⟨by rw [List.append_nil]; exact HF.out⟩, HB0, ⟨by omega⟩⟩
  case round =>
    obtain ⟨y, i, pre, rfl, rfl, hyx, hi5, HP, HV, HR, HG, HK⟩ := hrel
    have hlen : i + (varL y).length = (varL x).length := by rw [← HV.out, List.length_append, HP.out]
    have hpos := varL_pos y
    have hin : i < n := by omega
    have hiz : i < zs.length := by omega
    obtain ⟨z, rc⟩ := HR.out.cell (o + i) (by omega)
    have rf := HR.out.free (o + i)
    have qin : ((i : Int) < (n : Int)) = True := eq_true (by omega)
    by_cases c : 128 ≤ y
    · have qc : decide (128 ≤ (y : Int)) = true := decide_eq_true (by omega)
      have qc2 : decide (128 ≤ y) = true := decide_eq_true c
      have e := varL_hi (n := y) (by omega)
      have hl2 : (varL y).length = (varL (y / 128)).length + 1 := by rw [e]; simp
      have hp2 := varL_pos (y / 128)
      have hor : bits BinOp.or IntKind.u8 ((y : Int) % 256) 128 = ((y % 128 + 128 : Nat) : Int) := by
        rw [show ((y : Int) % 256) = ((y % 256 : Nat) : Int) by omega, show (128 : Int) = ((128 : Nat) : Int) from rfl, u8_or_nat (y % 256) 128 (Nat.mod_lt _ (by omega)) (by omega), or128]
      have HE := Aside0.mk e
      clear e
      go_wp2_with (fail)
      go_roundg (gk - 1)
      case measure => have := HK.out; omega
      case rel =>
        refine ⟨y / 128, i + 1, pre ++ [((y % 128 + 128 : Nat) : Int)], by push_cast; rfl, by go_num, by omega, by omega, ⟨by rw [List.length_append, HP.out]; rfl⟩, ⟨by rw [List.append_assoc, List.singleton_append, ← HE.out]; exact HV.out⟩, ⟨?_⟩, ⟨grownSet HG.out _ _⟩, ⟨by have := HK.out; omega⟩⟩
        have := setF HR.out (o + i) (by rw [List.length_append, List.length_append, List.length_drop, HP.out, HO.out]; omega) ((y % 128 + 128 : Nat) : Int)
        rw [setMid xs pre zs _ o i HO.out HP.out hiz] at this
        exact this
    · have qc : decide (128 ≤ (y : Int)) = false := decide_eq_false (by omega)
      have qc2 : decide (128 ≤ y) = false := decide_eq_false c
      have e := varL_lo (n := y) (by omega)
      have hl2 : (varL y).length = 1 := by rw [e]; rfl
      have hi1 : i + 1 = (varL x).length := by omega
      have HE := Aside0.mk e
      have HI := Aside0.mk hi1
      clear e
      go_wp2_with (fail)
      go_ret
      refine ⟨by rw [← HI.out]; push_cast; rfl, ?_, grownSet HG.out _ _⟩
      have := setF HR.out (o + i) (by rw [List.length_append, List.length_append, List.length_drop, HP.out, HO.out]; omega) (y : Int)
      rw [setMid xs pre zs _ o i HO.out HP.out hiz, ← HE.out, HV.out] at this
      rw [← HI.out]
      exact this
set_option maxHeartbeats 4000000 in
theorem putVarintR_calls (g C t n c : Nat) (xs zs : List Int) (x : Int) (w : World) (hF : Front w g C t .u8 (xs ++ zs)) (hx0 : -9223372036854775808 ≤ x) (hx1 : x ≤ 9223372036854775807) (hn : (varL (zz x)).length ≤ n) (hz : (varL (zz x)).length ≤ zs.length) :
    Calls Try.prog 114 #[.slice (some ⟨g, xs.length, none⟩) n c, .int .i64 x] w fun e w' => e = .returned (.int .i64 ((varL (zz x)).length : Int)) ∧ Front w' g C t .u8 (xs ++ varL (zz x) ++ zs.drop (varL (zz x)).length) ∧ w.grownBy w' (some g) := by
  have HPU := Aside0.mk (putUvarintR_calls g C t n c xs zs (zz x) w hF (zz_lt x hx0 hx1) hn hz)
  obtain ⟨o, ho⟩ : ∃ o, xs.length = o := ⟨_, rfl⟩
  rw [ho] at HPU ⊢
  obtain ⟨Z, hZ⟩ : ∃ Z, zz x = Z := ⟨_, rfl⟩
  rw [hZ] at HPU ⊢
  clear hF hn hz ho
  by_cases c : x < 0
  · have qc : decide (x < 0) = true := decide_eq_true c
    have hzI : (Z : Int) = -2 * x - 1 := by rw [← hZ]; unfold zz; rw [if_neg (by omega)]; omega
    obtain ⟨u, hu⟩ : ∃ u, IntKind.u64.wrap x = u := ⟨_, rfl⟩
    have hu2 : u = x + 18446744073709551616 := by rw [← hu, IntKind.wrap_u64]; omega
    obtain ⟨s, hs⟩ : ∃ s, IntKind.u64.wrap (u * 2) = s := ⟨_, rfl⟩
    have hs3 : s = 2 * x + 18446744073709551616 := by rw [← hs, IntKind.wrap_u64]; omega
    have hx := not64 s (by omega) (by omega)
    rw [show 18446744073709551615 - s = (Z : Int) by omega] at hx
    clear hu2 hs3 hzI
    clear hZ
    go_enter Try.func114, Try.ntmps114
    go_wp2_with (first
      | (go_at_call 115; go_loud (with_reducible refine HPU.out.mono ?_); rintro e w2 ⟨rfl, hf, hg⟩))
    go_ret
    exact ⟨rfl, hf, hg⟩
  · have qc : decide (x < 0) = false := decide_eq_false c
    have hzI : x * 2 = (Z : Int) := by rw [← hZ]; unfold zz; rw [if_pos (by omega)]; omega
    have hu : IntKind.u64.wrap x = x := IntWalk.u64_in _ (by omega)
    clear hZ
    go_enter Try.func114, Try.ntmps114
    go_wp2_with (first
      | (go_at_call 115; go_loud (with_reducible refine HPU.out.mono ?_); rintro e w2 ⟨rfl, hf, hg⟩))
    go_ret
    exact ⟨rfl, hf, hg⟩
end Go.Proofs.Ytcboegodjlfmnaa.Dpu

/-! Reading numbers in groups of 7 bits, up to 64 bits. -/
namespace Go.Proofs.Ytcboegodjlfmnaa.Duv
open Go.Proofs.Ytcboegodjlfmnaa.Dpu Go.Proofs.Ytcboegodjlfmnaa.Pak Go.Proofs.Ytcboegodjlfmnaa.Buf Go.Proofs.Ytcboegodjlfmnaa.Fit Go.Proofs.Ytcboegodjlfmnaa.Bit Go.Proofs.Ytcboegodjlfmnaa.Wrd Go.Proofs.Ytcboegodjlfmnaa.Spl Go.Proofs.Ytcboegodjlfmnaa.Str Go.Proofs.Ytcboegodjlfmnaa.Flt Go.Proofs.Ytcboegodjlfmnaa.Owe Go.Proofs.Ytcboegodjlfmnaa.Num Go.Proofs.Ytcboegodjlfmnaa.Le Go.Proofs.Ytcboegodjlfmnaa.Lst Go.Proofs.Ytcboegodjlfmnaa.Aid Go.RowKit Go.Proofs.YtcboegodjlfmnaaW.PrintWords Go.Proofs.YtcboegodjlfmnaaW.PrintLast Go.Proofs.YtcboegodjlfmnaaW.PrintMore
set_option linter.unusedVariables false
set_option linter.unusedSimpArgs false
theorem or_high (acc b s : Nat) (h : acc < 2 ^ s) (h1 : acc < 18446744073709551616) (h2 : b * 2 ^ s < 18446744073709551616) : bits .or .u64 (acc : Int) ((b * 2 ^ s : Nat) : Int) = ((acc + b * 2 ^ s : Nat) : Int) := by
  rw [u64_or_nat _ _ h1 h2]
  congr 1
  rw [Nat.or_comm, Nat.mul_comm, ← Nat.two_pow_add_eq_or_of_lt h]
  omega
theorem or_high' (acc b s : Nat) (h : acc < 2 ^ s) (h1 : acc < 18446744073709551616) (h2 : b * 2 ^ s < 18446744073709551616) : bits .or .u64 (acc : Int) (IntKind.u64.wrap ((b : Int) * 2 ^ s)) = ((acc + b * 2 ^ s : Nat) : Int) := by
  have e : (b : Int) * 2 ^ s = ((b * 2 ^ s : Nat) : Int) := by push_cast; rfl
  rw [e, IntWalk.u64_in _ (by omega), or_high acc b s h h1 h2]
theorem and127 (y : Nat) : bits .and .u8 ((y % 128 + 128 : Nat) : Int) 127 = ((y % 128 : Nat) : Int) := by
  rw [show (127 : Int) = ((2 ^ 7 - 1 : Nat) : Int) by decide, u8_and_nat _ _ (by omega) (by decide), Nat.and_two_pow_sub_one_eq_mod]
  congr 1; omega
theorem varL_head (bs rest : List Int) (i y : Nat) (h : bs.drop i = varL y ++ rest) : rd bs (i : Nat) = if y < 128 then (y : Int) else ((y % 128 + 128 : Nat) : Int) := by
  have e := rd_drop bs i 0
  rw [Nat.add_zero, h] at e
  rw [← e]
  by_cases c : y < 128
  · rw [if_pos c, varL_lo c]; rfl
  · rw [if_neg c, varL_hi c]; rfl
theorem varL_tail (bs rest : List Int) (i y : Nat) (h : bs.drop i = varL y ++ rest) (c : ¬ y < 128) : bs.drop (i + 1) = varL (y / 128) ++ rest := by
  rw [varL_hi c] at h
  rw [← List.drop_drop, h]; rfl
theorem small10 (acc y i x : Nat) (hx : x < 18446744073709551616) (h : acc + y * 2 ^ (7 * i) = x) (hi : i ≤ 9) (hy : ¬ y < 128) : i < 9 := by
  rcases Nat.lt_or_ge i 9 with h4 | h4
  · exact h4
  · obtain rfl : i = 9 := by omega
    rw [show (2 : Nat) ^ (7 * 9) = 9223372036854775808 by decide] at h
    omega
theorem last10 (acc y i x : Nat) (hx : x < 18446744073709551616) (h : acc + y * 2 ^ (7 * i) = x) (hi : i = 9) : y ≤ 1 := by
  subst hi
  rw [show (2 : Nat) ^ (7 * 9) = 9223372036854775808 by decide] at h
  omega
/-- all groups but the last one have the bit set -/
theorem varL_high : ∀ (k x : Nat), x < 2 ^ k → ∀ j : Nat, j + 1 < (varL x).length → 128 ≤ rd (varL x) (j : Nat) ∧ rd (varL x) (j : Nat) < 256
  | 0, x, hx, j, hj => by
    obtain rfl : x = 0 := by simpa using hx
    rw [varL_lo (by omega)] at hj; simp at hj
  | k + 1, x, hx, j, hj => by
    by_cases c : x < 128
    · rw [varL_lo c] at hj; simp at hj
    · rw [varL_hi c] at hj ⊢
      cases j with
      | zero =>
        have e : rd (((x % 128 + 128 : Nat) : Int) :: varL (x / 128)) ((0 : Nat) : Int) = ((x % 128 + 128 : Nat) : Int) := rfl
        rw [e]; omega
      | succ j =>
        have e : rd (((x % 128 + 128 : Nat) : Int) :: varL (x / 128)) ((j + 1 : Nat) : Int) = rd (varL (x / 128)) (j : Nat) := by simp [rd]
        rw [e]
        exact varL_high k (x / 128) (by rw [Nat.pow_succ] at hx; omega) j (by simpa using hj)
theorem zz_half_neg (x : Int) (h : x < 0) : ((zz x : Nat) : Int) = -2 * x - 1 := by unfold zz; rw [if_neg (by omega)]; omega
theorem zz_half_pos (x : Int) (h : 0 ≤ x) : ((zz x : Nat) : Int) = 2 * x := by unfold zz; rw [if_pos h]; omega
theorem xor_m1_i64 (a : Nat) (ha : a < 9223372036854775808) : bits .xor .i64 (-1) (a : Int) = -1 - (a : Int) := by
  have h1 : (BitVec.ofInt 64 (a : Int)).toNat = a := by
    rw [BitVec.ofInt_natCast, BitVec.toNat_ofNat]; exact Nat.mod_eq_of_lt (by omega)
  have h2 : (BitVec.ofInt 64 (-1)).toNat = 2 ^ 64 - 1 := by decide
  show IntKind.i64.wrap ((BitVec.ofInt 64 (-1) ^^^ BitVec.ofInt 64 (a : Int)).toNat : Int) = _
  rw [BitVec.toNat_xor, h1, h2, xor_ones a (by omega), IntKind.wrap_i64]
  omega
set_option maxHeartbeats 4000000 in
theorem uvarint_calls (A : Option Addr) (n c : Nat) (bs rest : List Int) (x : Nat) (w : World) (hC : (Kd.int .u8).C w A n bs) (hc : n ≤ c) (hn : n ≤ 2147483647) (hb : bs = varL x ++ rest) (hx : x < 18446744073709551616) :
    Calls Try.prog 88 #[.slice A n c] w fun e w' => e = .returned (.tuple #[.int .u64 x, .int .i64 ((varL x).length : Int)]) ∧ w = w' := by
  have HLN : Aside0 (bs.length = n) := ⟨hC.1⟩
  have HLB : Aside0 ((varL x).length ≤ bs.length) := ⟨by rw [hb, List.length_append]; omega⟩
  have HC := Aside0.mk hC
  have HBB := Aside0.mk hb
  clear hC hb
  go_enter Try.func88, Try.ntmps88
  go_wp2_with (fail)
  go_loopg [4, 5, 6, 7, 10] n (fun kq v4 v5 v6 v7 v10 w' => ∃ (y i acc : Nat), v4 = .int .u64 acc ∧ v5 = .int .u64 ((7 * i : Nat) : Int) ∧ v10 = .int .i64 i ∧ i ≤ 9 ∧ Aside0 (acc + y * 2 ^ (7 * i) = x) ∧ Aside0 (acc < 2 ^ (7 * i)) ∧ Aside0 (bs.drop i = varL y ++ rest) ∧ Aside0 (i + (varL y).length = (varL x).length) ∧ w = w' ∧ Aside0 (n - i ≤ kq))
  case atStart => exact ⟨x, 0, 0, rfl, rfl, rfl, by omega, ⟨by simp⟩, ⟨by simp⟩, ⟨by rw [List.drop_zero]; exact HBB.out⟩, ⟨by omega⟩, rfl, ⟨by omega⟩⟩
  case round =>
    obtain ⟨y, i, acc, rfl, rfl, rfl, hi4, HX, HAC, HD, HL, rfl, HK⟩ := hrel
    have hpos := varL_pos y
    have hin : i < n := by have h1 := HL.out; have h2 := HLB.out; have h3 := HLN.out; omega
    have qin : decide ((i : Int) < n) = true := decide_eq_true (by omega)
    obtain ⟨ad, ead, hcell⟩ := Kd.at_int HC.out (i : Int) (by omega) (by omega)
    rw [Int.toNat_natCast, varL_head bs rest i y HD.out] at hcell
    have qi10 : ((i : Int) == 10) = false := by rw [beq_eq_false_iff_ne]; omega
    subst ead
    have hacc := HAC.out
    have hacc9 : acc < 18446744073709551616 := by have := HX.out; have := Nat.le_add_right acc (y * 2 ^ (7 * i)); omega
    have hy9 : y * 2 ^ (7 * i) < 18446744073709551616 := by have := HX.out; omega
    by_cases cy : y < 128
    · rw [if_pos cy] at hcell
      have qy : decide ((y : Int) < 128) = true := decide_eq_true (by omega)
      have qy2 : decide (y < 128) = true := decide_eq_true cy
      have HOR := or_high' acc y (7 * i) hacc hacc9 hy9
      have HLY : Aside0 ((varL x).length = i + 1) := ⟨by rw [← HL.out, varL_lo cy]; rfl⟩
      have h10 := last10 acc y i x hx HX.out
      by_cases c9 : i = 9
      · have qi9 : ((i : Int) == 9) = true := by rw [beq_iff_eq]; omega
        have qy1 : decide (1 < (y : Int)) = false := decide_eq_false (by have := h10 c9; omega)
        have qy3 : decide (1 < y) = false := decide_eq_false (by have := h10 c9; omega)
        clear h10 c9
        go_wp2_with (fail)
        go_ret2
        refine ⟨?_, rfl⟩
        show Ending.returned (Value.tuple #[Value.int IntKind.u64 ((acc : Int) + (y : Int) * 2 ^ (7 * i)), Value.int IntKind.i64 ((i : Int) + 1)]) = _
        rw [HLY.out, ← HX.out]; push_cast; rfl
      · have qi9 : ((i : Int) == 9) = false := by rw [beq_eq_false_iff_ne]; omega
        clear h10 c9
        go_wp2_with (fail)
        go_ret2
        refine ⟨?_, rfl⟩
        show Ending.returned (Value.tuple #[Value.int IntKind.u64 ((acc : Int) + (y : Int) * 2 ^ (7 * i)), Value.int IntKind.i64 ((i : Int) + 1)]) = _
        rw [HLY.out, ← HX.out]; push_cast; rfl
    · rw [if_neg cy] at hcell
      have qy : decide (((y % 128 + 128 : Nat) : Int) < 128) = false := decide_eq_false (by omega)
      have qy2 : decide (y % 128 + 128 < 128) = false := decide_eq_false (by omega)
      have hand := and127 y
      have ht := varL_tail bs rest i y HD.out cy
      have hs5 := small10 acc y i x hx HX.out hi4 cy
      have qi9 : ((i : Int) == 9) = false := by rw [beq_eq_false_iff_ne]; omega
      have hlz : (varL y).length = (varL (y / 128)).length + 1 := by rw [varL_hi cy]; rfl
      obtain ⟨z, hz⟩ : ∃ z, y % 128 = z := ⟨_, rfl⟩
      have hzy : y = 128 * (y / 128) + z := by omega
      have hz9 : z < 128 := by omega
      rw [hz] at hcell qy qy2 hand
      obtain ⟨t, ht2⟩ : ∃ t, z + 128 = t := ⟨_, rfl⟩
      rw [ht2] at hcell qy qy2 hand
      have hzx : z * 2 ^ (7 * i) ≤ y * 2 ^ (7 * i) := Nat.mul_le_mul_right _ (by omega)
      have HOR := Aside0.mk (or_high' acc z (7 * i) hacc hacc9 (Nat.lt_of_le_of_lt hzx hy9))
      have HT := Aside0.mk ht
      have HLZ := Aside0.mk hlz
      have HZY := Aside0.mk hzy
      clear ht hlz hzy hzx hz hy9
      go_wp2_with (fail)
      rw [HOR.out]
      go_roundg (gk - 1)
      case measure => have := HK.out; omega
      case rel =>
        have e1 : 2 ^ (7 * (i + 1)) = 128 * 2 ^ (7 * i) := by rw [Nat.mul_add, Nat.pow_add]; omega
        have e2 : z * 2 ^ (7 * i) + 2 ^ (7 * i) ≤ 128 * 2 ^ (7 * i) := by rw [← Nat.succ_mul]; exact Nat.mul_le_mul_right _ hz9
        refine ⟨y / 128, i + 1, acc + z * 2 ^ (7 * i), rfl, by go_num, by go_num, by omega, ⟨?_⟩, ⟨by rw [e1]; omega⟩, HT, ⟨by have := HL.out; have := HLZ.out; omega⟩, rfl, ⟨by have := HK.out; omega⟩⟩
        have h := HX.out
        conv at h => lhs; rw [HZY.out]
        rw [e1, ← h, Nat.add_mul, ← Nat.mul_assoc, Nat.mul_comm (y / 128) 128]
        omega
set_option maxHeartbeats 4000000 in
/-- groups that break off -/
theorem uvarintCut_calls (A : Option Addr) (n c : Nat) (bs : List Int) (w : World) (hC : (Kd.int .u8).C w A n bs) (hc : n ≤ c) (hn : n ≤ 9) (hb : ∀ j : Nat, j < n → 128 ≤ rd bs (j : Nat) ∧ rd bs (j : Nat) < 256) :
    Calls Try.prog 88 #[.slice A n c] w fun e w' => e = .returned (.tuple #[.int .u64 0, .int .i64 0]) ∧ w = w' := by
  have HC := Aside0.mk hC
  have HBB := Aside0.mk hb
  clear hC hb
  go_enter Try.func88, Try.ntmps88
  go_wp2_with (fail)
  go_loopg [4, 5, 6, 7, 10] n (fun kq v4 v5 v6 v7 v10 w' => ∃ (i : Nat) (acc : Int), v4 = .int .u64 acc ∧ v5 = .int .u64 ((7 * i : Nat) : Int) ∧ v10 = .int .i64 i ∧ i ≤ n ∧ w = w' ∧ Aside0 (n - i ≤ kq))
  case atStart => exact ⟨0, 0, rfl, rfl, rfl, by omega, rfl, ⟨by omega⟩⟩
  case round =>
    obtain ⟨i, acc, rfl, rfl, rfl, hi4, rfl, HK⟩ := hrel
    by_cases ci : i < n
    · have qin : decide ((i : Int) < n) = true := decide_eq_true (by omega)
      obtain ⟨ad, ead, hcell⟩ := Kd.at_int HC.out (i : Int) (by omega) (by omega)
      rw [Int.toNat_natCast] at hcell
      have hy := HBB.out i ci
      obtain ⟨y, hy2⟩ : ∃ y, rd bs (i : Nat) = y := ⟨_, rfl⟩
      rw [hy2] at hy hcell
      have qi10 : ((i : Int) == 10) = false := by rw [beq_eq_false_iff_ne]; omega
      have qy : decide (y < 128) = false := decide_eq_false (by omega)
      subst ead
      clear hy2
      go_wp2_with (fail)
      go_roundg (gk - 1)
      case measure => have := HK.out; omega
      case rel => exact ⟨i + 1, _, rfl, by go_num, by go_num, by omega, rfl, ⟨by have := HK.out; omega⟩⟩
    · obtain rfl : i = n := by omega
      have qin : decide ((i : Int) < i) = false := decide_eq_false (by omega)
      go_wp2_with (fail)
      go_ret2
      exact ⟨rfl, rfl⟩
set_option maxHeartbeats 4000000 in
theorem varint_calls' (A : Option Addr) (n c : Nat) (bs rest : List Int) (x : Int) (w : World) (hC : (Kd.int .u8).C w A n bs) (hc : n ≤ c) (hn : n ≤ 2147483647) (hb : bs = varL (zz x) ++ rest) (hx0 : -9223372036854775808 ≤ x) (hx1 : x ≤ 9223372036854775807) :
    Calls Try.prog 87 #[.slice A n c] w fun e w' => e = .returned (.tuple #[.int .i64 x, .int .i64 ((varL (zz x)).length : Int)]) ∧ w = w' := by
  have HPU := Aside0.mk (uvarint_calls A n c bs rest (zz x) w hC hc hn hb (zz_lt x hx0 hx1))
  obtain ⟨L, hL⟩ : ∃ L, (varL (zz x)).length = L := ⟨_, rfl⟩
  rw [hL] at HPU ⊢
  clear hC hb hL
  by_cases c0 : x < 0
  · have hz := zz_half_neg x c0
    obtain ⟨Z, hZ⟩ : ∃ Z, zz x = Z := ⟨_, rfl⟩
    rw [hZ] at HPU hz
    have qand : bits .and .u64 (Z : Int) 1 = 1 := by
      rw [show (1 : Int) = ((2 ^ 1 - 1 : Nat) : Int) by decide, u64_and_nat _ _ (by omega) (by decide), Nat.and_two_pow_sub_one_eq_mod]; omega
    have qh : (Z : Int) / 2 = -x - 1 := by omega
    have qw : IntKind.i64.wrap (-x - 1) = -x - 1 := IntWalk.i64_in _ (by omega)
    have qn : bits .xor .i64 (-1) (-x - 1) = x := by
      obtain ⟨a, ha⟩ : ∃ a : Nat, -x - 1 = (a : Int) := ⟨(-x - 1).toNat, by omega⟩
      rw [ha, xor_m1_i64 a (by omega)]; omega
    clear hz hZ
    go_enter Try.func87, Try.ntmps87
    go_wp2_with (first
      | (go_at_call 88; go_loud (with_reducible refine HPU.out.mono ?_); rintro e w2 ⟨rfl, rfl⟩))
    go_ret2
    exact ⟨rfl, rfl⟩
  · have hz := zz_half_pos x (by omega)
    obtain ⟨Z, hZ⟩ : ∃ Z, zz x = Z := ⟨_, rfl⟩
    rw [hZ] at HPU hz
    have qand : bits .and .u64 (Z : Int) 1 = 0 := by
      rw [show (1 : Int) = ((2 ^ 1 - 1 : Nat) : Int) by decide, u64_and_nat _ _ (by omega) (by decide), Nat.and_two_pow_sub_one_eq_mod]; omega
    have qh : (Z : Int) / 2 = x := by omega
    have qw : IntKind.i64.wrap x = x := IntWalk.i64_in _ (by omega)
    clear hz hZ
    go_enter Try.func87, Try.ntmps87
    go_wp2_with (first
      | (go_at_call 88; go_loud (with_reducible refine HPU.out.mono ?_); rintro e w2 ⟨rfl, rfl⟩))
    go_ret2
    exact ⟨rfl, rfl⟩
set_option maxHeartbeats 4000000 in
theorem varintCut_calls (A : Option Addr) (n c : Nat) (bs : List Int) (w : World) (hC : (Kd.int .u8).C w A n bs) (hc : n ≤ c) (hn : n ≤ 9) (hb : ∀ j : Nat, j < n → 128 ≤ rd bs (j : Nat) ∧ rd bs (j : Nat) < 256) :
    Calls Try.prog 87 #[.slice A n c] w fun e w' => e = .returned (.tuple #[.int .i64 0, .int .i64 0]) ∧ w = w' := by
  have HPU := Aside0.mk (uvarintCut_calls A n c bs w hC hc hn hb)
  clear hC hb
  go_enter Try.func87, Try.ntmps87
  go_wp2_with (first
    | (go_at_call 88; go_loud (with_reducible refine HPU.out.mono ?_); rintro e w2 ⟨rfl, rfl⟩))
  go_ret2
  exact ⟨rfl, rfl⟩
end Go.Proofs.Ytcboegodjlfmnaa.Duv
