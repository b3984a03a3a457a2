import Derived.Test.YtigmcdpjlkgocaaWrd
import Derived.Laws.BitsAllLaws
/-! Bits of numbers and of bytes (no program). -/
namespace Go.Proofs.Ytigmcdpjlkgocaa.Bit
open Go.RowKit Go.Proofs.YtigmcdpjlkgocaaW.PrintWords Go.Proofs.YtigmcdpjlkgocaaW.PrintLast Go.Proofs.YtigmcdpjlkgocaaW.PrintMore Go.Proofs.Ytigmcdpjlkgocaa.Wrd Go.Proofs.Ytigmcdpjlkgocaa.Num Go.Proofs.Ytigmcdpjlkgocaa.Le Go.Proofs.Ytigmcdpjlkgocaa.Lst Go.Proofs.Ytigmcdpjlkgocaa.Aid
set_option linter.unusedVariables false
set_option linter.unusedSimpArgs false
/-- the number of so many bits -/
def bitsN (g : Nat → Bool) : Nat → Nat
  | 0 => 0
  | n + 1 => (g 0).toNat + 2 * bitsN (fun i => g (i + 1)) n
theorem bitsN_testBit (n : Nat) : ∀ (g : Nat → Bool) (q : Nat), (bitsN g n).testBit q = (decide (q < n) && g q) := by
  induction n with
  | zero => intro g q; simp [bitsN]
  | succ n ih =>
    intro g q
    cases q with
    | zero =>
      rw [show bitsN g (n + 1) = (g 0).toNat + 2 * bitsN (fun i => g (i + 1)) n from rfl, Nat.testBit_zero]
      have e : ∀ (b : Bool) (m : Nat), decide ((b.toNat + 2 * m) % 2 = 1) = b := fun b m => by
        cases b
        · simp
        · simp
      rw [e]
      simp
    | succ q =>
      rw [Nat.testBit_succ]
      simp only [bitsN]
      have e : ((g 0).toNat + 2 * bitsN (fun i => g (i + 1)) n) / 2 = bitsN (fun i => g (i + 1)) n := by
        cases g 0 <;> simp <;> omega
      rw [e, ih]
      simp
theorem bitsN_lt (n : Nat) : ∀ (g : Nat → Bool), bitsN g n < 2 ^ n := by
  induction n with
  | zero => intro g; simp [bitsN]
  | succ n ih =>
    intro g
    have := ih (fun i => g (i + 1))
    simp only [bitsN, Nat.pow_succ]
    cases g 0 <;> simp <;> omega
theorem eq_bitsN {x n : Nat} {g : Nat → Bool} (hx : x < 2 ^ n) (h : ∀ q, q < n → x.testBit q = g q) : x = bitsN g n := by
  apply Nat.eq_of_testBit_eq
  intro q
  rw [bitsN_testBit]
  by_cases hq : q < n
  · rw [h q hq]; simp [hq]
  · rw [Nat.testBit_lt_two_pow (Nat.lt_of_lt_of_le hx (Nat.pow_le_pow_right (by omega) (by omega)))]; simp [hq]
theorem bitsN_congr {n : Nat} {g g' : Nat → Bool} (h : ∀ q, q < n → g q = g' q) : bitsN g n = bitsN g' n :=
  eq_bitsN (bitsN_lt n g) fun q hq => by rw [bitsN_testBit]; simp [hq, h q hq]
theorem bit_high {x w q : Nat} (hx : x < 2 ^ w) (hq : w ≤ q) : x.testBit q = false := Nat.testBit_lt_two_pow (Nat.lt_of_lt_of_le hx (Nat.pow_le_pow_right (by omega) hq))
/-- bytes whose bits, the high ones first, are told -/
def byteH (f : Nat → Bool) (i : Nat) : Nat := bitsN (fun q => f (8 * i + 7 - q)) 8
theorem byteH_lt (f : Nat → Bool) (i : Nat) : byteH f i < 256 := bitsN_lt 8 _
theorem byteH_bit (f : Nat → Bool) (i q : Nat) (hq : q < 8) : (byteH f i).testBit q = f (8 * i + 7 - q) := by
  unfold byteH; rw [bitsN_testBit]; simp [hq]
theorem byteH_congr {f f' : Nat → Bool} {i : Nat} (h : ∀ p, 8 * i ≤ p → p < 8 * i + 8 → f p = f' p) : byteH f i = byteH f' i :=
  bitsN_congr fun q hq => h _ (by omega) (by omega)
/-- so far -/
def upTo (h : Nat → Bool) (o p : Nat) : Bool := decide (p < o) && h p
theorem enc_fit (h : Nat → Bool) (o w v s : Nat) (hw : o % 8 + w + s = 8) (hv : v < 2 ^ w) (hh : ∀ r, r < w → h (o + r) = v.testBit (w - 1 - r)) :
    byteH (upTo h o) (o / 8) ||| (v * 2 ^ s % 256) = byteH (upTo h (o + w)) (o / 8) := by
  refine eq_bitsN (Nat.or_lt_two_pow (n := 8) (byteH_lt _ _) (Nat.mod_lt _ (by omega))) fun q hq => ?_
  rw [Nat.testBit_or, byteH_bit _ _ _ hq, show (256 : Nat) = 2 ^ 8 from rfl, Nat.testBit_mod_two_pow, Nat.testBit_mul_two_pow]
  have hp : 8 * (o / 8) + 7 - q + q = 8 * (o / 8) + 7 := by omega
  obtain ⟨p, hpe⟩ : ∃ p, 8 * (o / 8) + 7 - q = p := ⟨_, rfl⟩
  rw [hpe] at hp ⊢
  unfold upTo
  by_cases c1 : p < o
  · have : v.testBit (q - s) = false := bit_high hv (by omega)
    simp [c1, this, show p < o + w by omega]
  · by_cases c2 : p < o + w
    · have := hh (p - o) (by omega)
      rw [show o + (p - o) = p by omega, show w - 1 - (p - o) = q - s by omega] at this
      simp [c1, c2, this, hq, show s ≤ q by omega]
    · simp [c1, c2, show ¬ s ≤ q by omega]
theorem enc_split1 (h : Nat → Bool) (o w v s : Nat) (hw : o % 8 + w = 8 + s) (h8 : s < w) (hv : v < 2 ^ w) (hv8 : v < 256) (hh : ∀ r, r < w → h (o + r) = v.testBit (w - 1 - r)) :
    byteH (upTo h o) (o / 8) ||| (v / 2 ^ s) = byteH (upTo h (o + w)) (o / 8) := by
  refine eq_bitsN (Nat.or_lt_two_pow (n := 8) (byteH_lt _ _) (Nat.lt_of_le_of_lt (Nat.div_le_self _ _) hv8)) fun q hq => ?_
  rw [Nat.testBit_or, byteH_bit _ _ _ hq, Nat.testBit_div_two_pow]
  obtain ⟨p, hpe⟩ : ∃ p, 8 * (o / 8) + 7 - q = p := ⟨_, rfl⟩
  have hp : p + q = 8 * (o / 8) + 7 := by omega
  rw [hpe]
  unfold upTo
  by_cases c1 : p < o
  · have : v.testBit (q + s) = false := bit_high hv (by omega)
    simp [c1, this, show p < o + w by omega, Nat.add_comm s q]
  · have := hh (p - o) (by omega)
    rw [show o + (p - o) = p by omega, show w - 1 - (p - o) = q + s by omega] at this
    simp [c1, this, show p < o + w by omega, Nat.add_comm s q]
theorem enc_split2 (h : Nat → Bool) (o w v s : Nat) (hw : o % 8 + w = 8 + s) (h8 : s < w) (hs : 0 < s) (hs8 : s < 8) (hv : v < 2 ^ w) (hh : ∀ r, r < w → h (o + r) = v.testBit (w - 1 - r)) :
    byteH (upTo h o) (o / 8 + 1) ||| (v * 2 ^ (8 - s) % 256) = byteH (upTo h (o + w)) (o / 8 + 1) := by
  refine eq_bitsN (Nat.or_lt_two_pow (n := 8) (byteH_lt _ _) (Nat.mod_lt _ (by omega))) fun q hq => ?_
  rw [Nat.testBit_or, byteH_bit _ _ _ hq, show (256 : Nat) = 2 ^ 8 from rfl, Nat.testBit_mod_two_pow, Nat.testBit_mul_two_pow]
  obtain ⟨p, hpe⟩ : ∃ p, 8 * (o / 8 + 1) + 7 - q = p := ⟨_, rfl⟩
  have hp : p + q = 8 * (o / 8) + 15 := by omega
  rw [hpe]
  unfold upTo
  have c1 : ¬ p < o := by omega
  by_cases c2 : p < o + w
  · have := hh (p - o) (by omega)
    rw [show o + (p - o) = p by omega, show w - 1 - (p - o) = q - (8 - s) by omega] at this
    simp [c1, c2, this, hq, show 8 - s ≤ q by omega]
  · simp [c1, c2, show ¬ 8 - s ≤ q by omega]
theorem enc_other (h : Nat → Bool) (o w i : Nat) (hi : 8 * i + 8 ≤ o ∨ o + w ≤ 8 * i) : byteH (upTo h o) i = byteH (upTo h (o + w)) i :=
  byteH_congr fun p h1 h2 => by
    unfold upTo
    rcases hi with hi | hi
    · simp [show p < o by omega, show p < o + w by omega]
    · simp [show ¬ p < o by omega, show ¬ p < o + w by omega]
/-- the bytes -/
def bytesH (f : Nat → Bool) (n : Nat) : List Int := (List.range n).map fun i => (byteH f i : Int)
theorem bytesH_length (f : Nat → Bool) (n : Nat) : (bytesH f n).length = n := by simp [bytesH]
theorem rd_bytesH (f : Nat → Bool) (n i : Nat) (hi : i < n) : rd (bytesH f n) (i : Nat) = (byteH f i : Nat) := by
  rw [rd_nat _ _ (by rw [bytesH_length]; exact hi)]
  simp [bytesH]
theorem bytesH_zero (h : Nat → Bool) (n : Nat) : bytesH (upTo h 0) n = List.replicate n 0 := by
  apply List.ext_getElem
  · simp [bytesH]
  · intro i h1 h2
    have : byteH (upTo h 0) i = 0 := by
      have := eq_bitsN (x := 0) (n := 8) (g := fun q => upTo h 0 (8 * i + 7 - q)) (by omega) (fun q hq => by simp [upTo])
      exact this.symm
    simp [bytesH, this]
theorem bytesH_take (f : Nat → Bool) (n m : Nat) (hm : m ≤ n) : (bytesH f n).take m = bytesH f m := by
  simp [bytesH, ← List.map_take, List.take_range, Nat.min_eq_left hm]
theorem bytesH_fit (h : Nat → Bool) (n o w v s : Nat) (hn : o / 8 < n) (hw : o % 8 + w + s = 8) (hv : v < 2 ^ w) (hh : ∀ r, r < w → h (o + r) = v.testBit (w - 1 - r)) :
    (bytesH (upTo h o) n).set (o / 8) ((byteH (upTo h o) (o / 8) ||| (v * 2 ^ s % 256) : Nat) : Int) = bytesH (upTo h (o + w)) n := by
  apply List.ext_getElem
  · simp [bytesH]
  · intro i h1 h2
    rw [List.getElem_set]
    split
    · rename_i e; subst e
      rw [enc_fit h o w v s hw hv hh]; simp [bytesH]
    · rename_i e
      simp only [bytesH, List.getElem_map, List.getElem_range]
      rw [enc_other h o w i (by omega)]
theorem bytesH_split (h : Nat → Bool) (n o w v s : Nat) (hn : o / 8 + 1 < n) (hw : o % 8 + w = 8 + s) (h8 : s < w) (hs : 0 < s) (hs8 : s < 8) (hv : v < 2 ^ w) (hv8 : v < 256) (hh : ∀ r, r < w → h (o + r) = v.testBit (w - 1 - r)) :
    ((bytesH (upTo h o) n).set (o / 8) ((byteH (upTo h o) (o / 8) ||| (v / 2 ^ s) : Nat) : Int)).set (o / 8 + 1) ((byteH (upTo h o) (o / 8 + 1) ||| (v * 2 ^ (8 - s) % 256) : Nat) : Int) = bytesH (upTo h (o + w)) n := by
  apply List.ext_getElem
  · simp [bytesH]
  · intro i h1 h2
    rw [List.getElem_set]
    split
    · rename_i e; subst e
      rw [enc_split2 h o w v s hw h8 hs hs8 hv hh]; simp [bytesH]
    · rw [List.getElem_set]
      split
      · rename_i e; subst e
        rw [enc_split1 h o w v s hw h8 hv hv8 hh]; simp [bytesH]
      · simp only [bytesH, List.getElem_map, List.getElem_range]
        rw [enc_other h o w i (by omega)]
/-- a bit of bytes, the high ones first -/
def bitH (bs : List Int) (p : Nat) : Bool := (rd bs (p / 8 : Nat)).toNat.testBit (7 - p % 8)
/-- a number of so many bits at a place -/
def valH (bs : List Int) (w o : Nat) : Nat := bitsN (fun r => bitH bs (o + w - 1 - r)) w
theorem dec_fit (bs : List Int) (o w s b : Nat) (hb : rd bs (o / 8 : Nat) = (b : Int)) (hw : o % 8 + w + s = 8) : b / 2 ^ s % 2 ^ w = valH bs w o := by
  refine eq_bitsN (Nat.mod_lt _ (Nat.two_pow_pos w)) fun q hq => ?_
  rw [Nat.testBit_mod_two_pow, Nat.testBit_div_two_pow]
  unfold bitH
  rw [show (o + w - 1 - q) / 8 = o / 8 by omega, hb, Int.toNat_natCast, show 7 - (o + w - 1 - q) % 8 = q + s by omega]
  simp [hq]
theorem dec_split (bs : List Int) (o w s b b1 : Nat) (hb : rd bs (o / 8 : Nat) = (b : Int)) (hb1 : rd bs (o / 8 + 1 : Nat) = (b1 : Int)) (hw : o % 8 + w = 8 + s) (h8 : s < w) (hs : 0 < s) (hs8 : s < 8) (hw8 : w ≤ 8) (hbb : b1 < 256) :
    ((b % 2 ^ (w - s)) * 2 ^ s % 256) ||| (b1 / 2 ^ (8 - s)) = valH bs w o := by
  refine eq_bitsN (Nat.or_lt_two_pow ?_ ?_) fun q hq => ?_
  · have h1 : b % 2 ^ (w - s) < 2 ^ (w - s) := Nat.mod_lt _ (Nat.two_pow_pos _)
    have h2 : b % 2 ^ (w - s) * 2 ^ s < 2 ^ (w - s) * 2 ^ s := Nat.mul_lt_mul_of_pos_right h1 (Nat.two_pow_pos _)
    rw [← Nat.pow_add, show w - s + s = w by omega] at h2
    exact Nat.lt_of_le_of_lt (Nat.mod_le _ _) h2
  · have h1 : b1 / 2 ^ (8 - s) < 2 ^ s := by
      rw [Nat.div_lt_iff_lt_mul (Nat.two_pow_pos _), ← Nat.pow_add, show s + (8 - s) = 8 by omega]; exact hbb
    exact Nat.lt_of_lt_of_le h1 (Nat.pow_le_pow_right (by omega) (by omega))
  · rw [Nat.testBit_or, show (256 : Nat) = 2 ^ 8 from rfl, Nat.testBit_mod_two_pow, Nat.testBit_mul_two_pow, Nat.testBit_mod_two_pow, Nat.testBit_div_two_pow]
    unfold bitH
    by_cases c : s ≤ q
    · have h0 : b1.testBit (q + (8 - s)) = false := bit_high (w := 8) hbb (by omega)
      rw [show (o + w - 1 - q) / 8 = o / 8 by omega, hb, Int.toNat_natCast, show 7 - (o + w - 1 - q) % 8 = q - s by omega, h0]
      simp [c, show q < 8 by omega, show q - s < w - s by omega]
    · rw [show (o + w - 1 - q) / 8 = o / 8 + 1 by omega, hb1, Int.toNat_natCast, show 7 - (o + w - 1 - q) % 8 = q + (8 - s) by omega]
      simp [c]
theorem bitH_bytesH (f : Nat → Bool) (n p : Nat) (hp : p < 8 * n) : bitH (bytesH f n) p = f p := by
  unfold bitH
  rw [rd_bytesH _ _ _ (by omega), Int.toNat_natCast, byteH_bit _ _ _ (by omega)]
  congr 1; omega
end Go.Proofs.Ytigmcdpjlkgocaa.Bit
