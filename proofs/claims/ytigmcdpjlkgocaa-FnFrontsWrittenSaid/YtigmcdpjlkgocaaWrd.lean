import Derived.Test.YtigmcdpjlkgocaaSpl
/-! Words of eight bytes, plain lemmas; rows of floats of 64 bits; append of a list that is read. -/
namespace Go.Proofs.Ytigmcdpjlkgocaa.Wrd
open Go.Proofs.Ytigmcdpjlkgocaa.Spl Go.Proofs.Ytigmcdpjlkgocaa.Str Go.Proofs.Ytigmcdpjlkgocaa.Flt Go.Proofs.Ytigmcdpjlkgocaa.Owe Go.Proofs.Ytigmcdpjlkgocaa.Num Go.Proofs.Ytigmcdpjlkgocaa.Le Go.Proofs.Ytigmcdpjlkgocaa.Lst Go.Proofs.Ytigmcdpjlkgocaa.Aid Go.RowKit Go.Proofs.YtigmcdpjlkgocaaW.PrintWords Go.Proofs.YtigmcdpjlkgocaaW.PrintLast Go.Proofs.YtigmcdpjlkgocaaW.PrintMore
set_option linter.unusedVariables false
set_option linter.unusedSimpArgs false
theorem at_f64 {w : World} {A : Option Addr} {n : Nat} {xs : List Int} (h : (Kd.scalar f64 f64_one).C w A n xs) (i : Int) (h0 : 0 ≤ i) (h1 : i < n) : ∃ ad, A = some ad ∧ w.cell? (ad.add i.toNat) = some (f64 (rd xs i)) :=
  ReadsOf.at_ (Kd.reads_of_C (enc := f64) (d := (0 : Int)) (h1 := f64_one) h) i h0 h1
theorem p4_enLow (ws : List Int) (n : Nat) (hn : ws.length = n) : p4 ws n n = enLowL 4 ws := by
  refine rd_ext (by rw [p4_length, enLowL_length, hn, Nat.mul_comm]) fun i hi => ?_
  rw [p4_length] at hi
  rw [rd_p4 _ _ _ _ (Nat.le_refl _), if_pos hi, rd_enLowL 4 (by omega) ws i (by omega)]
/-! ### eight bytes -/
theorem p256 : (256 : Int) ^ 0 = 1 ∧ (256 : Int) ^ 1 = 256 ∧ (256 : Int) ^ 2 = 65536 ∧ (256 : Int) ^ 3 = 16777216 ∧ (256 : Int) ^ 4 = 4294967296 ∧ (256 : Int) ^ 5 = 1099511627776 ∧ (256 : Int) ^ 6 = 281474976710656 ∧ (256 : Int) ^ 7 = 72057594037927936 := by decide
theorem rd_put8 (xs : List Int) (o i : Nat) (v : Int) (ho : o + 8 ≤ xs.length) : rd (put8 xs o v) (i : Nat) = if o ≤ i ∧ i < o + 8 then v / 256 ^ (i - o) % 256 else rd xs (i : Nat) := by
  obtain ⟨e0, e1, e2, e3, e4, e5, e6, e7⟩ := p256
  unfold put8
  rw [rd_put4 _ _ _ _ (by rw [put4_length]; omega), rd_put4 _ _ _ _ (by omega)]
  by_cases h : o ≤ i ∧ i < o + 8
  · rw [if_pos h]
    obtain ⟨j, hj, rfl⟩ : ∃ j, j < 8 ∧ i = o + j := ⟨i - o, by omega, by omega⟩
    rw [Nat.add_sub_cancel_left]
    rcases (show j = 0 ∨ j = 1 ∨ j = 2 ∨ j = 3 ∨ j = 4 ∨ j = 5 ∨ j = 6 ∨ j = 7 by omega) with rfl | rfl | rfl | rfl | rfl | rfl | rfl | rfl
    · rw [if_neg (by omega), if_neg (by omega), if_neg (by omega), if_neg (by omega), if_neg (by omega), if_neg (by omega), if_neg (by omega), if_pos (by omega), e0]; omega
    · rw [if_neg (by omega), if_neg (by omega), if_neg (by omega), if_neg (by omega), if_neg (by omega), if_neg (by omega), if_pos (by omega), e1]; omega
    · rw [if_neg (by omega), if_neg (by omega), if_neg (by omega), if_neg (by omega), if_neg (by omega), if_pos (by omega), e2]; omega
    · rw [if_neg (by omega), if_neg (by omega), if_neg (by omega), if_neg (by omega), if_pos (by omega), e3]; omega
    · rw [if_neg (by omega), if_neg (by omega), if_neg (by omega), if_pos (by omega), e4]
    · rw [if_neg (by omega), if_neg (by omega), if_pos (by omega), e5]; omega
    · rw [if_neg (by omega), if_pos (by omega), e6]; omega
    · rw [if_pos (by omega), e7]; omega
  · rw [if_neg h, if_neg (by omega), if_neg (by omega), if_neg (by omega), if_neg (by omega), if_neg (by omega), if_neg (by omega), if_neg (by omega), if_neg (by omega)]
def p8 (xs : List Int) (n : Nat) : Nat → List Int
  | 0 => List.replicate (8 * n) 0
  | k + 1 => put8 (p8 xs n k) (8 * k) (rd xs (k : Nat))
theorem p8_length (xs : List Int) (n k : Nat) : (p8 xs n k).length = 8 * n := by
  induction k with
  | zero => simp [p8]
  | succ k ih => simp [p8, put8_length, ih]
theorem rd_p8 (xs : List Int) (n k i : Nat) (hk : k ≤ n) : rd (p8 xs n k) (i : Nat) = if i < 8 * k then rd xs (i / 8 : Nat) / 256 ^ (i % 8) % 256 else 0 := by
  induction k with
  | zero =>
    rw [if_neg (by omega)]
    show rd (List.replicate (8 * n) 0) (i : Nat) = 0
    unfold rd
    rw [Int.toNat_natCast, List.getD_eq_getElem?_getD, List.getElem?_replicate]
    split <;> rfl
  | succ k ih =>
    show rd (put8 (p8 xs n k) (8 * k) (rd xs (k : Nat))) (i : Nat) = _
    rw [rd_put8 _ _ _ _ (by rw [p8_length]; omega), ih (by omega)]
    by_cases h : 8 * k ≤ i ∧ i < 8 * k + 8
    · rw [if_pos h, if_pos (by omega), show i / 8 = k by omega, show i % 8 = i - 8 * k by omega]
    · rw [if_neg h]
      by_cases h2 : i < 8 * k
      · rw [if_pos h2, if_pos (by omega)]
      · rw [if_neg h2, if_neg (by omega)]
theorem p8_bytes (l : List Int) (n k : Nat) (hk : k ≤ n) : bytesB (p8 l n k) = true := by
  apply bytesB_of
  intro x hx
  obtain ⟨i, hi, rfl⟩ := List.getElem_of_mem hx
  rw [← rd_nat _ _ hi, rd_p8 _ _ _ _ hk]
  split
  · exact ⟨Int.emod_nonneg _ (by decide), Int.emod_lt_of_pos _ (by decide)⟩
  · exact ⟨by omega, by omega⟩
theorem p8_enLow (ws : List Int) (n : Nat) (hn : ws.length = n) : p8 ws n n = enLowL 8 ws := by
  refine rd_ext (by rw [p8_length, enLowL_length, hn, Nat.mul_comm]) fun i hi => ?_
  rw [p8_length] at hi
  rw [rd_p8 _ _ _ _ (Nat.le_refl _), if_pos hi, rd_enLowL 8 (by omega) ws i (by omega)]
def le8 (a b c d e f g h : Int) : Int := le4 a b c d + le4 e f g h * 4294967296
theorem le8_bd (a b c d e f g h : Int) (ha : byt a) (hb : byt b) (hc : byt c) (hd : byt d) (he : byt e) (hf : byt f) (hg : byt g) (hh : byt h) : 0 ≤ le8 a b c d e f g h ∧ le8 a b c d e f g h < 18446744073709551616 := by
  have h1 := le4_bd a b c d ha hb hc hd
  have h2 := le4_bd e f g h he hf hg hh
  unfold le8; omega
theorem le8_bytes (x : Int) (h0 : 0 ≤ x) (h1 : x < 18446744073709551616) : le8 (x % 256) (x / 256 % 256) (x / 65536 % 256) (x / 16777216 % 256) (x / 4294967296 % 256) (x / 1099511627776 % 256) (x / 281474976710656 % 256) (x / 72057594037927936 % 256) = x := by
  have a := le4_bytes (x % 4294967296) (by omega) (by omega)
  have b := le4_bytes (x / 4294967296) (by omega) (by omega)
  rw [show x % 4294967296 % 256 = x % 256 by omega, show x % 4294967296 / 256 % 256 = x / 256 % 256 by omega, show x % 4294967296 / 65536 % 256 = x / 65536 % 256 by omega, show x % 4294967296 / 16777216 % 256 = x / 16777216 % 256 by omega] at a
  rw [show x / 4294967296 / 256 % 256 = x / 1099511627776 % 256 by omega, show x / 4294967296 / 65536 % 256 = x / 281474976710656 % 256 by omega, show x / 4294967296 / 16777216 % 256 = x / 72057594037927936 % 256 by omega] at b
  unfold le8
  rw [a, b]; omega
def wd8 (bs : List Int) (j : Nat) : Int := le8L (bs.drop (8 * j))
theorem wd8_rd (bs : List Int) (j : Nat) : wd8 bs j = le8 (rd bs (8 * j : Nat)) (rd bs (8 * j + 1 : Nat)) (rd bs (8 * j + 2 : Nat)) (rd bs (8 * j + 3 : Nat)) (rd bs (8 * j + 4 : Nat)) (rd bs (8 * j + 5 : Nat)) (rd bs (8 * j + 6 : Nat)) (rd bs (8 * j + 7 : Nat)) := by
  unfold wd8 le8L le4L le8
  rw [List.drop_drop]
  have h0 := rd_drop bs (8 * j) 0
  have h1 := rd_drop bs (8 * j) 1
  have h2 := rd_drop bs (8 * j) 2
  have h3 := rd_drop bs (8 * j) 3
  have h4 := rd_drop bs (8 * j + 4) 0
  have h5 := rd_drop bs (8 * j + 4) 1
  have h6 := rd_drop bs (8 * j + 4) 2
  have h7 := rd_drop bs (8 * j + 4) 3
  rw [Nat.add_zero] at h0 h4
  rw [show 8 * j + 4 + 1 = 8 * j + 5 by omega] at h5
  rw [show 8 * j + 4 + 2 = 8 * j + 6 by omega] at h6
  rw [show 8 * j + 4 + 3 = 8 * j + 7 by omega] at h7
  rw [← h0, ← h1, ← h2, ← h3, ← h4, ← h5, ← h6, ← h7]; rfl
theorem wd8_bd {bs : List Int} (hb : bytesB bs = true) {j : Nat} (hj : 8 * j + 8 ≤ bs.length) : 0 ≤ wd8 bs j ∧ wd8 bs j < 18446744073709551616 := by
  rw [wd8_rd]
  exact le8_bd _ _ _ _ _ _ _ _ (bytesB_rd hb rfl (by omega)) (bytesB_rd hb rfl (by omega)) (bytesB_rd hb rfl (by omega)) (bytesB_rd hb rfl (by omega)) (bytesB_rd hb rfl (by omega)) (bytesB_rd hb rfl (by omega)) (bytesB_rd hb rfl (by omega)) (bytesB_rd hb rfl (by omega))
theorem wd8_p8 (l : List Int) (n j : Nat) (hu : u64L l) (hn : l.length = n) (hj : j < n) : wd8 (p8 l n n) j = rd l (j : Nat) := by
  have hb : u64B (rd l (j : Nat)) := hu _ (rd_mem (by omega))
  have r : ∀ s, s < 8 → rd (p8 l n n) (8 * j + s : Nat) = rd l (j : Nat) / 256 ^ s % 256 := fun s hs => by
    rw [rd_p8 _ _ _ _ (Nat.le_refl _), if_pos (by omega), show (8 * j + s) / 8 = j by omega, show (8 * j + s) % 8 = s by omega]
  have r0 := r 0 (by omega)
  rw [Nat.add_zero] at r0
  rw [wd8_rd, r0, r 1 (by omega), r 2 (by omega), r 3 (by omega), r 4 (by omega), r 5 (by omega), r 6 (by omega), r 7 (by omega)]
  have := le8_bytes _ hb.1 hb.2
  obtain ⟨e0, e1, e2, e3, e4, e5, e6, e7⟩ := p256
  rw [e0, e1, e2, e3, e4, e5, e6, e7, Int.ediv_one]
  exact this
/-! ### what stands in low bytes is read back -/
theorem wd4_enLow (l : List Int) (j : Nat) (hu : u32L l) (hj : j < l.length) : wd4 (enLowL 4 l) j = rd l (j : Nat) := by
  rw [← p4_enLow l _ rfl]; exact wd4_p4 l _ j hu rfl hj
theorem wd8_enLow (l : List Int) (j : Nat) (hu : u64L l) (hj : j < l.length) : wd8 (enLowL 8 l) j = rd l (j : Nat) := by
  rw [← p8_enLow l _ rfl]; exact wd8_p8 l _ j hu rfl hj
theorem enLow_bytes (k : Nat) (l : List Int) : bytesB (enLowL k l) = true := by
  apply bytesB_of
  intro x hx
  simp only [enLowL, List.mem_flatMap, lowL, List.mem_map] at hx
  obtain ⟨_, _, _, _, rfl⟩ := hx
  exact ⟨Int.emod_nonneg _ (by decide), Int.emod_lt_of_pos _ (by decide)⟩
/-! ### appending a list that is read, whatever the spelling of its elements -/
section
variable {α : Type} {P : Program} {ops : Array Oper} {rest : List Oper} {o : Oper} {a : Act} {Q : Exit → Act → World → Prop}
theorem C_cellsE {W : World} {enc : α → Value} {h1 : ∀ x, (enc x).oneCell' = true} {ad : Addr} {m : Nat} {ys : List α} (h : (Kd.scalar enc h1).C W (some ad) m ys) : ∀ j u, (encs enc ys)[j]? = some u → W.cell? (ad.add j) = some u := by
  intro j u hj
  have hjl : j < ys.length := by
    have := (List.getElem?_eq_some_iff.1 hj).1
    simpa [encs] using this
  obtain ⟨ad', e, hc⟩ := h.2.2 (by have := h.1; omega)
  injection e with e
  subst e
  obtain ⟨cs, hcs, h2, h3⟩ := hc j ys[j] (by simp [hjl])
  have e2 : u = enc ys[j] := by
    have : (encs enc ys)[j]? = some (enc ys[j]) := by simp [encs, hjl]
    rw [this] at hj
    exact (Option.some.inj hj).symm
  subst e2
  have h2' : cs = [enc ys[j]] := h2
  have := h3 0 (enc ys[j]) (by rw [h2']; rfl)
  have e3 : j * (Kd.scalar enc h1).sz + 0 = j := Nat.mul_one j
  rw [e3] at this
  exact this
/-- append(v, ys...): behind 'at_builtin' -/
theorem appendReadE {w0 W : World} (enc : α → Value) (h1 : ∀ x, (enc x).oneCell' = true) (base : Nat) (hgd : o.guard = none) (s x : Operand) (t e : TypeId) (z : Value) (bytes : Nat)
    (ho : o.op = .call { callee := .builtin .append, args := #[s, x], argTypes := #[t, t] })
    (ht : P.underlying t = some (.slice e)) (hinfo : (P.info? e).map (fun i => (i.zero, i.size, i.bytes)) = some (some z, 1, bytes)) (hz : z.cells.size = 1) (hb0 : 0 < bytes)
    (v : Value) (xs : List α) (A : Option Addr) (m c : Nat) (ys : List α) (hs : a.eval s = v) (hx : a.eval x = .slice A m c)
    (HO : OwnE enc W base e v xs) (HB : Below base w0 W) (hbase : base ≤ W.heap.size) (hC : (Kd.scalar enc h1).C W A m ys) (hl : (xs.length + m) * bytes ≤ 140737488355328)
    (h : ∀ v1 w1, OwnE enc w1 base e v1 (xs ++ ys) → Below base w0 w1 → W.grownBy w1 v.ownBlock → wpList P ops Q rest (a.put o.dst v1) w1) :
    wpList P ops Q (o :: rest) a W := by
  obtain ⟨i0, hi, hzz⟩ := Option.map_eq_some_iff.1 hinfo
  simp only [Prod.mk.injEq] at hzz
  obtain ⟨hz0, hz1, hz2⟩ := hzz
  have hm : ys.length = m := hC.1
  have hlen : xs.length + m ≤ 140737488355328 := Nat.le_trans (Nat.le_mul_of_pos_right _ hb0) hl
  have key : ∀ v1 w1, w1.ownsRow base e 1 v1 (xs.length + m) (encs enc xs ++ encs enc ys) → W.grownBy w1 v.ownBlock → wpList P ops Q rest (a.put o.dst v1) w1 := by
    intro v1 w1 h1 hg
    refine h v1 w1 ⟨?_⟩ (HB.grown hg hbase (own_base HO.out)) hg
    have e : encs enc (xs ++ ys) = encs enc xs ++ encs enc ys := by simp [encs]
    rw [List.length_append, hm, e]; exact h1
  rcases A with _ | ad
  · have h0 : m = 0 := by
      rcases Nat.eq_zero_or_pos m with h0 | h0
      · exact h0
      · obtain ⟨ad, h', _⟩ := hC.2.2 h0
        cases h'
    subst h0
    obtain rfl : ys = [] := List.eq_nil_of_length_eq_zero hm
    have hk := key v W (by simpa [encs] using HO.out) (grownRefl W _)
    refine wpList_plain hgd fun K hK => ?_
    have hrun : (Builtin.append_ #[t, t] o.type #[v, .slice none 0 c]).run P W = .ok v W := by
      rcases HO.out.2 with ⟨rfl, _⟩ | ⟨g, cap, cur, rfl, _, _, hnc, _⟩
      · simp [Builtin.append_, run_underlying ht, sizeOf, typeInfo, hi, Builtin.lenOf, Builtin.firstCells]
      · simp [Builtin.append_, run_underlying ht, sizeOf, typeInfo, hi, Builtin.lenOf, Builtin.firstCells, hnc, storeCells]
    unfold Oper.wp
    simp [execOp, ho, resolve, invoke, builtin, hs, hx, hrun, Result.andThen]
    exact hK _ _ hk
  · exact wpList_append_own W hgd s x t ho base e i0 z 1 bytes ht hi hz0 hz1 hz2 hz (by omega) v xs.length (encs enc xs) hs HO.out ad m c (encs enc ys) hx (by simp [encs, hm]) (C_cellsE hC) (by intro u hu; simp [encs] at hu; obtain ⟨q, _, rfl⟩ := hu; exact h1 q) (by simp only [maxLen]; omega) hl hbase
      (fun v1 w1 h1 hg _ => key v1 w1 h1 hg)
end
end Go.Proofs.Ytigmcdpjlkgocaa.Wrd
