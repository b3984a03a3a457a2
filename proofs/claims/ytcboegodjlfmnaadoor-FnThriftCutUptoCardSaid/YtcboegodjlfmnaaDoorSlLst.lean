import Derived.Test.YtcboegodjlfmnaaDoorSlAid
namespace Go.Proofs.YtcboegodjlfmnaaDoor.Lst
open Go.Proofs.YtcboegodjlfmnaaDoor.Aid Go.RowKit Go.Proofs.YtcboegodjlfmnaaDoorW.PrintWords Go.Proofs.YtcboegodjlfmnaaDoorW.PrintLast Go.Proofs.YtcboegodjlfmnaaDoorW.PrintMore
set_option linter.unusedVariables false
set_option linter.unusedSimpArgs false
theorem rowC {w : World} {g n : Nat} {t : TypeId} {k : IntKind} {xs : List Int} (h : Row w g t k xs) (hn : xs.length = n) (hm : n ≤ 9223372036854775807) : (Kd.int k).C w (some ⟨g, 0, none⟩) n xs := by
  subst hn
  refine ⟨rfl, hm, fun _ => ⟨_, rfl, fun j p hj => ⟨[.int k p], rfl, rfl, fun i u hu => ?_⟩⟩⟩
  have hjl : j < xs.length := (List.getElem?_eq_some_iff.1 hj).1
  have hi : i = 0 := by
    have := (List.getElem?_eq_some_iff.1 hu).1
    simp at this; exact this
  subst hi
  have hu' : Value.int k p = u := by simpa using hu
  subst hu'
  have := h.cell hjl
  have e : rd xs j = p := by simp [rd, List.getD_eq_getElem?_getD, hj]
  rw [e] at this
  show w.cell? ((⟨g, 0, none⟩ : Addr).add (j * 1 + 0)) = _
  by_cases h0 : j = 0
  · subst h0; simpa [Addr.add] using this
  · simpa [Addr.add, h0] using this
theorem grownTrans {a b c : World} {row : Option Nat} (h : a.grownBy b row) (k : b.grownBy c row) : a.grownBy c row :=
  ⟨k.os.trans h.os, k.tape.trans h.tape, k.output.trans h.output, Nat.le_trans h.size k.size, fun j hj hne => (k.block j (Nat.lt_of_lt_of_le hj h.size) hne).trans (h.block j hj hne)⟩
theorem Own.block {w : World} {base t : Nat} {k : IntKind} {v : Value} {xs : List Int} (h : Own w base t k v xs) (hne : 0 < xs.length) :
    ∃ g c, v = .slice (some ⟨g, 0, none⟩) xs.length c ∧ base ≤ g ∧ g < w.heap.size ∧ xs.length ≤ c ∧ (∀ j : Nat, j < xs.length → w.cell? ⟨g, j, none⟩ = some (.int k (rd xs j))) ∧ ∀ j, w.frozen? ⟨g, j, none⟩ = false := by
  rcases h.out.2 with ⟨_, h0⟩ | ⟨g, c, cur, rfl, hb, hh, hn, hm, hs, ht⟩
  · omega
  · refine ⟨g, c, rfl, hb, (Array.getElem?_eq_some_iff.1 hh).1, hn, fun j hj => ?_, fun j => by simp [World.frozen?, hh]⟩
    have h1 : cur[j]? = some (.int k (rd xs j)) := by
      have h2 : (cur.toList.take (xs.length * 1))[j]? = (nums k xs)[j]? := by rw [ht]
      rw [List.getElem?_take, if_pos (by omega)] at h2
      rw [← Array.getElem?_toList, h2]
      simp [nums, rd, List.getD_eq_getElem?_getD, List.getElem?_eq_getElem hj]
    simp [World.cell?, hh, h1]
theorem Own.put {w : World} {base t g c : Nat} {k : IntKind} {xs : List Int} (h : Own w base t k (.slice (some ⟨g, 0, none⟩) xs.length c) xs) (j : Nat) (y : Int) :
    Own (w.setCell ⟨g, j, none⟩ (.int k y)) base t k (.slice (some ⟨g, 0, none⟩) (xs.set j y).length c) (xs.set j y) := by
  have := own_put h.out (j : Int) y
  rw [Int.toNat_natCast] at this
  rw [List.length_set]
  exact ⟨by rw [List.length_set] at this ⊢; exact this⟩
def IsRow (k : IntKind) (w : World) (a : Option Addr) (len cap : Nat) (zs : List Int) : Prop :=
  (a = none ∧ len = 0 ∧ cap = 0 ∧ zs = []) ∨
  ∃ x, a = some x ∧ len ≤ cap ∧ cap ≤ maxLen ∧ zs.length = cap ∧ (∀ i, i < zs.length → w.cell? (x.add i) = some (.int k (zs.getD i 0))) ∧ ∀ n ∈ zs, (Lit.int k n).wf = true
theorem rd_nat (l : List Int) (i : Nat) (h : i < l.length) : rd l (i : Nat) = l[i] := by
  unfold rd; rw [Int.toNat_natCast, List.getD_eq_getElem?_getD, List.getElem?_eq_getElem h]; rfl
theorem isRow_open {k : IntKind} {W : World} {a : Option Addr} {len cap : Nat} {zs : List Int} (h : IsRow k W a len cap zs) :
    ∃ l : List Int, l.length = len ∧ len ≤ cap ∧ (Kd.int k).C W a len l ∧ ∀ x ∈ l, (Lit.int k x).wf = true := by
  obtain ⟨l, hl, hr, hm, hw, hc⟩ := ReadsInt.ofRowC h
  have hC := Kd.C_of_reads (d := (0 : Int)) (h1 := fun _ => rfl) hr
  exact ⟨l, hl.symm, by omega, by rw [hl]; exact hC, hw⟩
theorem cutOff {P : Program} (t e : TypeId) {i : TypeInfo} (ht : P.underlying t = some (.slice e)) (hi : P.info? e = some i) (hsz : i.size = 1) (g o n c : Nat) (kl : IntKind) (lo : Int) (l : Nat) (hlo : lo = l) (h1 : l ≤ n) (hc : n ≤ c) (hl : l < c) :
    ∀ W : World, (Instr.slice t (.slice (some ⟨g, o, none⟩) n c) (some (.int kl lo)) none none).run P W = .ok (.slice (some ⟨g, o + l, none⟩) (n - l) (c - l)) W := by
  intro W
  subst hlo
  have := cut_from t e kl ht hi 1 hsz (some ⟨g, o, none⟩) n c l (by omega) (by omega) W
  have hne : ¬ c = l := by omega
  by_cases h0 : l = 0
  · subst h0; simpa [hne, Addr.add] using this
  · simpa [hne, Addr.add, h0] using this
end Go.Proofs.YtcboegodjlfmnaaDoor.Lst
