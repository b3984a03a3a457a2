import Derived.Test.YtcboegodjlfmnaaAid
/-! Lemmas of this session's own: rows, own slices, reading and writing lists of whole numbers. -/
namespace Go.Proofs.Ytcboegodjlfmnaa.Lst
open Go.Proofs.Ytcboegodjlfmnaa.Aid Go.RowKit Go.Proofs.YtcboegodjlfmnaaW.PrintWords Go.Proofs.YtcboegodjlfmnaaW.PrintLast Go.Proofs.YtcboegodjlfmnaaW.PrintMore
set_option linter.unusedVariables false
set_option linter.unusedSimpArgs false
theorem cutAt {P : Program} (t e : TypeId) {i : TypeInfo} (ht : P.underlying t = some (.slice e)) (hi : P.info? e = some i) (hsz : i.size = 1) (g n c : Nat) (kl : IntKind) (lo : Int) (l : Nat) (hlo : lo = l) (h1 : l ≤ n) (hc : n ≤ c) (hl : l < c) :
    ∀ W : World, (Instr.slice t (.slice (some ⟨g, 0, none⟩) n c) (some (.int kl lo)) none none).run P W = .ok (.slice (some ⟨g, l, none⟩) (n - l) (c - l)) W := by
  intro W
  subst hlo
  have := cut_from t e kl ht hi 1 hsz (some ⟨g, 0, none⟩) n c l (by omega) (by omega) W
  have hne : ¬ c = l := by omega
  by_cases h0 : l = 0
  · subst h0; simpa [hne, Addr.add] using this
  · simpa [hne, Addr.add, h0] using this
theorem rowC {w : World} {g n : Nat} {t : TypeId} {k : IntKind} {xs : List Int} (h : Row w g t k xs) (hn : xs.length = n) (hm : n ≤ 9223372036854775807) : (Kd.int k).C w (some ⟨g, 0, none⟩) n xs := by
  subst hn
  refine ⟨rfl, hm, fun _ => ⟨_, rfl, fun j p hj => ⟨[.int k p], rfl, rfl, fun i u hu => ?_⟩⟩⟩
  have hjl : j < xs.length := (List.getElem?_eq_some_iff.1 hj).1
  have hi : i = 0 := by
    have := (List.getElem?_eq_some_iff.1 hu).1
    simp at this; exact this
  subst hi
  have hu' : Value.int k p = u := by simpa using hu
  subst hu'
  have := h.cell hjl
  have e : rd xs j = p := by simp [rd, List.getD_eq_getElem?_getD, hj]
  rw [e] at this
  show w.cell? ((⟨g, 0, none⟩ : Addr).add (j * 1 + 0)) = _
  by_cases h0 : j = 0
  · subst h0; simpa [Addr.add] using this
  · simpa [Addr.add, h0] using this
theorem grownTrans {a b c : World} {row : Option Nat} (h : a.grownBy b row) (k : b.grownBy c row) : a.grownBy c row :=
  ⟨k.os.trans h.os, k.tape.trans h.tape, k.output.trans h.output, Nat.le_trans h.size k.size, fun j hj hne => (k.block j (Nat.lt_of_lt_of_le hj h.size) hne).trans (h.block j hj hne)⟩
theorem makeRows {P : Program} (t e : TypeId) (z : Value) (k : IntKind) (sz bytes : Nat) (ht : P.underlying t = some (.slice e)) (hinfo : (P.info? e).map (fun i => (i.zero, i.size, i.bytes)) = some (some z, sz, bytes)) (hz : z.cells = (nums k (List.replicate sz 0)).toArray) (hsz : 0 < sz)
    (m : Nat) (hn : m * bytes ≤ 281474976710656) (hm : m ≤ 281474976710656) :
    ∀ W : World, (Instr.makeSlice t (.int .i64 (m : Int)) (.int .i64 (m : Int))).run P W = .ok (.slice (some ⟨W.heap.size, 0, none⟩) m m) (W.alloc (.cells (nums k (List.replicate (m * sz) 0)).toArray e)) := by
  intro W
  obtain ⟨i, hi, hzz⟩ := Option.map_eq_some_iff.1 hinfo
  simp only [Prod.mk.injEq] at hzz
  obtain ⟨h1, h2, h3⟩ := hzz
  have h4 : (i.bytes : Int) * (m : Int) ≤ 281474976710656 := by
    rw [h3]
    have : ((m * bytes : Nat) : Int) ≤ 281474976710656 := by omega
    rwa [Int.natCast_mul, Int.mul_comm] at this
  have hr := run_make (P := P) W t e i z ht hi h1 .i64 .i64 m m (by omega) (Int.le_refl _) h4 (by omega)
  simp only [Int.toNat_natCast, h2, hz] at hr
  have e : madeCells (nums k (List.replicate sz 0)).toArray (m * sz) = (nums k (List.replicate (m * sz) 0)).toArray := by
    apply Array.ext
    · simp [size_madeCells, nums]
    · intro i h1 h2
      have : i % sz < sz := Nat.mod_lt _ hsz
      simp [madeCells, nums, this]
  rw [e] at hr
  exact hr
def partI (f : Nat → Int) (n k : Nat) : List Int := (List.range n).map fun i => if i < k then f i else 0
theorem partI_length (f : Nat → Int) (n k : Nat) : (partI f n k).length = n := by simp [partI]
theorem rd_partI (f : Nat → Int) (n k i : Nat) (hi : i < n) : rd (partI f n k) i = if i < k then f i else 0 := by
  simp [rd, partI, List.getD_eq_getElem?_getD, hi]
theorem partI_set (f : Nat → Int) (n k : Nat) : (partI f n k).set k (f k) = partI f n (k + 1) := by
  apply List.ext_getElem
  · simp [partI]
  · intro i h1 h2
    simp only [partI, List.getElem_set, List.getElem_map, List.getElem_range]
    by_cases h : k = i
    · subst h; simp
    · rw [if_neg h]
      by_cases h3 : i < k
      · rw [if_pos h3, if_pos (by omega)]
      · rw [if_neg h3, if_neg (by omega)]
theorem partI_zero (f : Nat → Int) (n : Nat) : partI f n 0 = List.replicate n 0 := by
  apply List.ext_getElem
  · simp [partI]
  · intro i h1 h2; simp [partI]
theorem partI_full (f : Nat → Int) (n : Nat) : partI f n n = (List.range n).map f := by
  apply List.ext_getElem
  · simp [partI]
  · intro i h1 h2
    have : i < n := by simpa [partI] using h1
    simp [partI, this]
theorem rd_drop (l : List Int) (o i : Nat) : rd (l.drop o) i = rd l (o + i : Nat) := by
  unfold rd; rw [Int.toNat_natCast, Int.toNat_natCast, List.getD_eq_getElem?_getD, List.getD_eq_getElem?_getD, List.getElem?_drop]
theorem Own.block {w : World} {base t : Nat} {k : IntKind} {v : Value} {xs : List Int} (h : Own w base t k v xs) (hne : 0 < xs.length) :
    ∃ g c, v = .slice (some ⟨g, 0, none⟩) xs.length c ∧ base ≤ g ∧ g < w.heap.size ∧ xs.length ≤ c ∧ (∀ j : Nat, j < xs.length → w.cell? ⟨g, j, none⟩ = some (.int k (rd xs j))) ∧ ∀ j, w.frozen? ⟨g, j, none⟩ = false := by
  rcases h.out.2 with ⟨_, h0⟩ | ⟨g, c, cur, rfl, hb, hh, hn, hm, hs, ht⟩
  · omega
  · refine ⟨g, c, rfl, hb, (Array.getElem?_eq_some_iff.1 hh).1, hn, fun j hj => ?_, fun j => by simp [World.frozen?, hh]⟩
    have h1 : cur[j]? = some (.int k (rd xs j)) := by
      have h2 : (cur.toList.take (xs.length * 1))[j]? = (nums k xs)[j]? := by rw [ht]
      rw [List.getElem?_take, if_pos (by omega)] at h2
      rw [← Array.getElem?_toList, h2]
      simp [nums, rd, List.getD_eq_getElem?_getD, List.getElem?_eq_getElem hj]
    simp [World.cell?, hh, h1]
theorem Own.put {w : World} {base t g c : Nat} {k : IntKind} {xs : List Int} (h : Own w base t k (.slice (some ⟨g, 0, none⟩) xs.length c) xs) (j : Nat) (y : Int) :
    Own (w.setCell ⟨g, j, none⟩ (.int k y)) base t k (.slice (some ⟨g, 0, none⟩) (xs.set j y).length c) (xs.set j y) := by
  have := own_put h.out (j : Int) y
  rw [Int.toNat_natCast] at this
  rw [List.length_set]
  exact ⟨by rw [List.length_set] at this ⊢; exact this⟩
theorem rd_set (l : List Int) (i j : Nat) (v : Int) (hi : i < l.length) : rd (l.set i v) (j : Nat) = if j = i then v else rd l (j : Nat) := by
  unfold rd
  rw [Int.toNat_natCast, List.getD_eq_getElem?_getD, List.getD_eq_getElem?_getD, List.getElem?_set]
  by_cases h : i = j
  · subst h; simp [hi]
  · rw [if_neg h, if_neg (fun e => h e.symm)]
theorem rd_ext {a b : List Int} (hl : a.length = b.length) (h : ∀ i : Nat, i < a.length → rd a (i : Nat) = rd b (i : Nat)) : a = b := by
  apply List.ext_getElem hl
  intro i h1 h2
  have := h i h1
  simpa [rd, List.getD_eq_getElem?_getD, List.getElem?_eq_getElem h1, List.getElem?_eq_getElem h2] using this
theorem rd_append (a b : List Int) (i : Nat) : rd (a ++ b) (i : Nat) = if i < a.length then rd a (i : Nat) else rd b (i - a.length : Nat) := by
  unfold rd
  rw [Int.toNat_natCast, Int.toNat_natCast, List.getD_eq_getElem?_getD, List.getD_eq_getElem?_getD, List.getD_eq_getElem?_getD, List.getElem?_append]
  split <;> rfl
theorem rd_put4 (xs : List Int) (o i : Nat) (v : Int) (ho : o + 4 ≤ xs.length) : rd (put4 xs o v) (i : Nat) = if i = o + 3 then v / 16777216 % 256 else if i = o + 2 then v / 65536 % 256 else if i = o + 1 then v / 256 % 256 else if i = o then v % 256 else rd xs (i : Nat) := by
  unfold put4
  rw [rd_set _ _ _ _ (by simp; omega), rd_set _ _ _ _ (by simp; omega), rd_set _ _ _ _ (by simp; omega), rd_set _ _ _ _ (by omega)]
def IsRow (k : IntKind) (w : World) (a : Option Addr) (len cap : Nat) (zs : List Int) : Prop :=
  (a = none ∧ len = 0 ∧ cap = 0 ∧ zs = []) ∨
  ∃ x, a = some x ∧ len ≤ cap ∧ cap ≤ maxLen ∧ zs.length = cap ∧ (∀ i, i < zs.length → w.cell? (x.add i) = some (.int k (zs.getD i 0))) ∧ ∀ n ∈ zs, (Lit.int k n).wf = true
theorem rd_nat (l : List Int) (i : Nat) (h : i < l.length) : rd l (i : Nat) = l[i] := by
  unfold rd; rw [Int.toNat_natCast, List.getD_eq_getElem?_getD, List.getElem?_eq_getElem h]; rfl
theorem rd_map (f : Int → Int) (l : List Int) (i : Nat) (h : i < l.length) : rd (l.map f) (i : Nat) = f (rd l (i : Nat)) := by
  rw [rd_nat _ _ (by simpa using h), rd_nat _ _ h, List.getElem_map]
/-- a row that came in, opened -/
theorem isRow_open {k : IntKind} {W : World} {a : Option Addr} {len cap : Nat} {zs : List Int} (h : IsRow k W a len cap zs) :
    ∃ l : List Int, l.length = len ∧ len ≤ cap ∧ (Kd.int k).C W a len l ∧ ∀ x ∈ l, (Lit.int k x).wf = true := by
  obtain ⟨l, hl, hr, hm, hw, hc⟩ := ReadsInt.ofRowC h
  have hC := Kd.C_of_reads (d := (0 : Int)) (h1 := fun _ => rfl) hr
  exact ⟨l, hl.symm, by omega, by rw [hl]; exact hC, hw⟩
theorem map_range_rd (f : Int → Int) (l : List Int) (n : Nat) (hn : l.length = n) : (List.range n).map (fun i => f (rd l (i : Nat))) = l.map f := by
  apply List.ext_getElem
  · simp [hn]
  · intro i h1 h2
    have hi : i < l.length := by simpa using h2
    simp [rd_nat _ _ hi]
theorem cutOff {P : Program} (t e : TypeId) {i : TypeInfo} (ht : P.underlying t = some (.slice e)) (hi : P.info? e = some i) (hsz : i.size = 1) (g o n c : Nat) (kl : IntKind) (lo : Int) (l : Nat) (hlo : lo = l) (h1 : l ≤ n) (hc : n ≤ c) (hl : l < c) :
    ∀ W : World, (Instr.slice t (.slice (some ⟨g, o, none⟩) n c) (some (.int kl lo)) none none).run P W = .ok (.slice (some ⟨g, o + l, none⟩) (n - l) (c - l)) W := by
  intro W
  subst hlo
  have := cut_from t e kl ht hi 1 hsz (some ⟨g, o, none⟩) n c l (by omega) (by omega) W
  have hne : ¬ c = l := by omega
  by_cases h0 : l = 0
  · subst h0; simpa [hne, Addr.add] using this
  · simpa [hne, Addr.add, h0] using this
end Go.Proofs.Ytcboegodjlfmnaa.Lst
