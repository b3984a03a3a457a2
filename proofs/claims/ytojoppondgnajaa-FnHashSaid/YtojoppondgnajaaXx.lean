import Derived.Test.YtojoppondgnajaaAid
/-! XXH64 as a plain function over lists of whole numbers: what both programs compute. -/
namespace Go.Proofs.Ytojoppondgnajaa.Xx
open Go.RowKit Go.Proofs.Ytojoppondgnajaa.Aid Go.Proofs.YtojoppondgnajaaW.PrintWords Go.Proofs.YtojoppondgnajaaW.PrintLast Go.Proofs.YtojoppondgnajaaW.PrintMore
def rolI (n : Int) (k : Nat) : Int := Go.bits .or .u64 (IntKind.u64.wrap (n * 2 ^ k)) (n / 2 ^ (64 - k))
def lowStep (c n : Int) : Int := Go.bits .or .u64 (IntKind.u64.wrap (n * 256)) (IntKind.u64.wrap c)
def fromLowI (xs : List Int) : Int := xs.foldr lowStep 0
def rndI (s w : Int) : Int := IntKind.u64.wrap (rolI (IntKind.u64.wrap (s + IntKind.u64.wrap (w * 14029467366897019727))) 31 * 11400714785074694791)
def xorI (a b : Int) : Int := Go.bits .xor .u64 a b
def mulI (a b : Int) : Int := IntKind.u64.wrap (a * b)
def onesI (h c : Int) : Int := IntKind.u64.wrap (rolI (Go.bits .xor .u64 h (IntKind.u64.wrap (IntKind.u64.wrap c * 2870177450012600261))) 11 * 11400714785074694791)
def eightI (h c : Int) : Int := IntKind.u64.wrap (IntKind.u64.wrap (rolI (Go.bits .xor .u64 h (rndI 0 c)) 27 * 11400714785074694791) + 9650029242287828579)
def fourI (h c : Int) : Int := IntKind.u64.wrap (IntKind.u64.wrap (rolI (Go.bits .xor .u64 h (IntKind.u64.wrap (c * 11400714785074694791))) 23 * 14029467366897019727) + 1609587929392839161)
def mergeI (h s : Int) : Int := IntKind.u64.wrap (IntKind.u64.wrap (Go.bits .xor .u64 h (rndI 0 s) * 11400714785074694791) + 9650029242287828579)
def avaI (a0 : Int) : Int := (Go.bits .xor .u64 (IntKind.u64.wrap ((Go.bits .xor .u64 (IntKind.u64.wrap ((Go.bits .xor .u64 a0 (a0 / 8589934592)) * 14029467366897019727)) ((IntKind.u64.wrap ((Go.bits .xor .u64 a0 (a0 / 8589934592)) * 14029467366897019727)) / 536870912)) * 1609587929392839161)) ((IntKind.u64.wrap ((Go.bits .xor .u64 (IntKind.u64.wrap ((Go.bits .xor .u64 a0 (a0 / 8589934592)) * 14029467366897019727)) ((IntKind.u64.wrap ((Go.bits .xor .u64 a0 (a0 / 8589934592)) * 14029467366897019727)) / 536870912)) * 1609587929392839161)) / 4294967296))
/-- what is behind the eights and the four -/
def tail1 (h : Int) (l : List Int) : Int := avaI (l.foldl onesI h)
def tail4 (h : Int) (l : List Int) : Int := if 4 ≤ l.length then tail1 (fourI h (fromLowI (l.take 4))) (l.drop 4) else tail1 h l
def tail8 (h : Int) (l : List Int) : Int := if 8 ≤ l.length then tail8 (eightI h (fromLowI (l.take 8))) (l.drop 8) else tail4 h l
termination_by l.length
decreasing_by simp; omega
def str32 (a b c d : Int) (l : List Int) (K : Int → Int → Int → Int → List Int → Int) : Int :=
  if 32 ≤ l.length then str32 (rndI a (fromLowI (l.take 8))) (rndI b (fromLowI ((l.drop 8).take 8))) (rndI c (fromLowI ((l.drop 16).take 8))) (rndI d (fromLowI ((l.drop 24).take 8))) (l.drop 32) K else K a b c d l
termination_by l.length
decreasing_by simp; omega
def sumsI (a b c d : Int) : Int := IntKind.u64.wrap (IntKind.u64.wrap (IntKind.u64.wrap (rolI a 1 + rolI b 7) + rolI c 12) + rolI d 18)
def xxI (l : List Int) : Int :=
  if 32 ≤ l.length then str32 6983438078262162902 14029467366897019727 0 7046029288634856825 l (fun a b c d r => tail8 (IntKind.u64.wrap (mergeI (mergeI (mergeI (mergeI (sumsI a b c d) a) b) c) d + l.length)) r)
  else tail8 (IntKind.u64.wrap (2870177450012600261 + l.length)) l



def finK (n : Int) (a b c d : Int) (r : List Int) : Int := tail8 (IntKind.u64.wrap (mergeI (mergeI (mergeI (mergeI (sumsI a b c d) a) b) c) d + n)) r
theorem str32_ge {a b c d : Int} {l : List Int} {K : Int → Int → Int → Int → List Int → Int} (hl : 32 ≤ l.length) : str32 a b c d l K = str32 (rndI a (fromLowI (l.take 8))) (rndI b (fromLowI ((l.take 16).drop 8))) (rndI c (fromLowI ((l.take 24).drop 16))) (rndI d (fromLowI ((l.take 32).drop 24))) (l.drop 32) K := by
  rw [str32, if_pos hl]
  simp only [List.take_drop]
theorem str32_lt {a b c d : Int} {l : List Int} {K : Int → Int → Int → Int → List Int → Int} (hl : ¬ 32 ≤ l.length) : str32 a b c d l K = K a b c d l := by rw [str32, if_neg hl]
/-- the part of a round that is still to come -/
def upd (k : Nat) (x : Nat → Int) (i : Nat) (s : Int) : Int := if k ≤ i then rndI s (x i) else s
def lows (l : List Int) (i : Nat) : Int := fromLowI ((l.take (8 * i + 8)).drop (8 * i))
def quad (a b c d : Int) : Array Value := #[.int .u64 a, .int .u64 b, .int .u64 c, .int .u64 d]
theorem i64w0 : IntKind.i64.wrap 0 = 0 := by decide +kernel
theorem i64w8 : IntKind.i64.wrap 8 = 8 := by decide +kernel
theorem i64w16 : IntKind.i64.wrap 16 = 16 := by decide +kernel
theorem i64w24 : IntKind.i64.wrap 24 = 24 := by decide +kernel
theorem i64w32 : IntKind.i64.wrap 32 = 32 := by decide +kernel
def mrg (a b c d : Int) : Nat → Int → Int
  | 0, h => mergeI (mergeI (mergeI (mergeI h a) b) c) d
  | 1, h => mergeI (mergeI (mergeI h b) c) d
  | 2, h => mergeI (mergeI h c) d
  | 3, h => mergeI h d
  | _, h => h
theorem wrap_p12 : IntKind.u64.wrap 25430182151971714518 = 6983438078262162902 := by decide +kernel
theorem wrap_np1 : IntKind.u64.wrap (-11400714785074694791) = 7046029288634856825 := by decide +kernel
def restI (h : Int) (n : Int) (l : List Int) : Int := tail8 (IntKind.u64.wrap (h + n)) l
theorem tail8_ge {h : Int} {l : List Int} (hl : 8 ≤ l.length) : tail8 h l = tail8 (eightI h (fromLowI (l.take 8))) (l.drop 8) := by rw [tail8, if_pos hl]
theorem tail8_lt {h : Int} {l : List Int} (hl : ¬ 8 ≤ l.length) : tail8 h l = tail4 h l := by rw [tail8, if_neg hl]



/-! ### bytes, the low ones first -/
theorem lowStep_eq {c n : Int} {j : Nat} (hj : j ≤ 7) (hc : byt c) (h0 : 0 ≤ n) (h1 : n < 256 ^ j) : lowStep c n = c + 256 * n := by
  unfold byt at hc
  have hp : (256 : Int) ^ j ≤ 72057594037927936 := by
    rcases (show j = 0 ∨ j = 1 ∨ j = 2 ∨ j = 3 ∨ j = 4 ∨ j = 5 ∨ j = 6 ∨ j = 7 by omega) with rfl | rfl | rfl | rfl | rfl | rfl | rfl | rfl <;> decide
  unfold lowStep
  rw [IntWalk.u64_in (n * 256) (by omega), IntWalk.u64_in c (by omega), or_comm', or_u64 8 c (n * 256) (by omega) (by omega) (by omega) (by omega) (by omega) (by omega)]
  omega
theorem fromLowI_bd : ∀ (l : List Int), bytesB l = true → l.length ≤ 8 → 0 ≤ fromLowI l ∧ fromLowI l < 256 ^ l.length
  | [], _, _ => ⟨Int.le_refl 0, (by decide : (0 : Int) < 1)⟩
  | c :: l, h, hl => by
    have hc := bytesB_mem h c (by simp)
    have hl' : bytesB l = true := bytesB_of fun x hx => bytesB_mem h x (by simp [hx])
    simp only [List.length_cons] at hl ⊢
    obtain ⟨h0, h1⟩ := fromLowI_bd l hl' (by omega)
    have e : fromLowI (c :: l) = lowStep c (fromLowI l) := rfl
    rw [e, lowStep_eq (by omega) hc h0 h1, Int.pow_succ]
    unfold byt at hc
    omega
theorem fromLowI_cons {c : Int} {l : List Int} (hc : byt c) (h : bytesB l = true) (hl : l.length ≤ 7) : fromLowI (c :: l) = c + 256 * fromLowI l := by
  obtain ⟨h0, h1⟩ := fromLowI_bd l h (by omega)
  exact lowStep_eq hl hc h0 h1
theorem fromLowI_four {l : List Int} (h : bytesB l = true) (hl : 4 ≤ l.length) : fromLowI (l.take 4) = le4L l := by
  match l, hl with
  | a :: b :: c :: d :: r, _ =>
    have ha := bytesB_mem h a (by simp); have hb := bytesB_mem h b (by simp); have hc := bytesB_mem h c (by simp); have hd := bytesB_mem h d (by simp)
    show fromLowI [a, b, c, d] = _
    rw [fromLowI_cons ha (bytesB_of (by simp [hb, hc, hd])) (by simp), fromLowI_cons hb (bytesB_of (by simp [hc, hd])) (by simp), fromLowI_cons hc (bytesB_of (by simp [hd])) (by simp), fromLowI_cons hd (bytesB_of (by simp)) (by simp)]
    have e : fromLowI [] = 0 := rfl
    rw [e]
    show _ = a + b * 256 + c * 65536 + d * 16777216
    omega
theorem fromLowI_eight {l : List Int} (h : bytesB l = true) (hl : 8 ≤ l.length) : fromLowI (l.take 8) = le8L l := by
  match l, hl with
  | a :: b :: c :: d :: a' :: b' :: c' :: d' :: r, _ =>
    have ha := bytesB_mem h a (by simp); have hb := bytesB_mem h b (by simp); have hc := bytesB_mem h c (by simp); have hd := bytesB_mem h d (by simp)
    have ha' := bytesB_mem h a' (by simp); have hb' := bytesB_mem h b' (by simp); have hc' := bytesB_mem h c' (by simp); have hd' := bytesB_mem h d' (by simp)
    show fromLowI [a, b, c, d, a', b', c', d'] = _
    rw [fromLowI_cons ha (bytesB_of (by simp [hb, hc, hd, ha', hb', hc', hd'])) (by simp), fromLowI_cons hb (bytesB_of (by simp [hc, hd, ha', hb', hc', hd'])) (by simp), fromLowI_cons hc (bytesB_of (by simp [hd, ha', hb', hc', hd'])) (by simp), fromLowI_cons hd (bytesB_of (by simp [ha', hb', hc', hd'])) (by simp),
      fromLowI_cons ha' (bytesB_of (by simp [hb', hc', hd'])) (by simp), fromLowI_cons hb' (bytesB_of (by simp [hc', hd'])) (by simp), fromLowI_cons hc' (bytesB_of (by simp [hd'])) (by simp), fromLowI_cons hd' (bytesB_of (by simp)) (by simp)]
    have e : fromLowI [] = 0 := rfl
    rw [e]
    show _ = (a + b * 256 + c * 65536 + d * 16777216) + (a' + b' * 256 + c' * 65536 + d' * 16777216) * 4294967296
    omega
/-! ### the number's bytes -/
def lowI : Nat → Int → List Int
  | 0, _ => []
  | k + 1, n => n % 256 :: lowI k (n / 256)
theorem lowI_length : ∀ (k : Nat) (n : Int), (lowI k n).length = k
  | 0, _ => rfl
  | k + 1, n => by simp [lowI, lowI_length k]
theorem lowI_bytes : ∀ (k : Nat) (n : Int), bytesB (lowI k n) = true
  | 0, _ => rfl
  | k + 1, n => bytesB_of fun x hx => by
    simp only [lowI, List.mem_cons] at hx
    rcases hx with rfl | hx
    · unfold byt; omega
    · exact bytesB_mem (lowI_bytes k _) x hx
end Go.Proofs.Ytojoppondgnajaa.Xx
