import Derived.Test.YtigmcdpjlkgocaaDct
import Derived.Deep.Matrix
import Derived.Deep.RegionHeld3
import Derived.Test.YtigmcdpjlkgocaaMdt
import Derived.Defers
import Derived.Test.YtigmcdpjlkgocaaMde
/-! Texts: opening them, their sizes, the thin package on them. -/
namespace Go.Proofs.Ytigmcdpjlkgocaa.Dtx
open Go.Proofs.Ytigmcdpjlkgocaa.Dct Go.Proofs.Ytigmcdpjlkgocaa.Dst Go.Proofs.Ytigmcdpjlkgocaa.Pak Go.Proofs.Ytigmcdpjlkgocaa.Buf Go.Proofs.Ytigmcdpjlkgocaa.Fit Go.Proofs.Ytigmcdpjlkgocaa.Bit Go.Proofs.Ytigmcdpjlkgocaa.Wrd Go.Proofs.Ytigmcdpjlkgocaa.Spl Go.Proofs.Ytigmcdpjlkgocaa.Str Go.Proofs.Ytigmcdpjlkgocaa.Flt Go.Proofs.Ytigmcdpjlkgocaa.Owe Go.Proofs.Ytigmcdpjlkgocaa.Num Go.Proofs.Ytigmcdpjlkgocaa.Le Go.Proofs.Ytigmcdpjlkgocaa.Lst Go.Proofs.Ytigmcdpjlkgocaa.Aid Go.RowKit Go.Proofs.YtigmcdpjlkgocaaW.PrintWords Go.Proofs.YtigmcdpjlkgocaaW.PrintLast Go.Proofs.YtigmcdpjlkgocaaW.PrintMore
set_option linter.unusedVariables false
set_option linter.unusedSimpArgs false
/-! ### lists of lists -/
theorem at_list {t : Nat} {k : IntKind} {w : World} {A : Option Addr} {n : Nat} {ls : List (List Int)} (h : (Kd.slice t (Kd.int k)).C w A n ls) (i : Nat) (h1 : i < n) :
    ∃ ad A' c', A = some ad ∧ w.cell? (ad.add i) = some (.slice A' (ls.getD i []).length c') ∧ (ls.getD i []).length ≤ c' ∧ (Kd.int k).C w A' (ls.getD i []).length (ls.getD i []) := by
  obtain ⟨ad, cs, e, hl, hK, hc⟩ := Kd.C_get h [] (i : Int) (by omega) (by omega)
  rw [Int.toNat_natCast] at hK hc
  obtain ⟨A', c', rfl, hle, hC⟩ := hK
  refine ⟨ad, A', c', e, ?_, hle, hC⟩
  have := hc 0 _ rfl
  have e3 : i * (Kd.slice t (Kd.int k)).sz + 0 = i := Nat.mul_one i
  rw [e3] at this
  exact this
/-- one slice in a new box, as a list of one list -/
theorem boxC {W : World} {A : Option Addr} {n c : Nat} {k : IntKind} {l : List Int} (hC : (Kd.int k).C W A n l) (hc : n ≤ c) (t t' : Nat) :
    (Kd.slice t' (Kd.int k)).C (W.alloc (.cells #[.slice A n c] t)) (some ⟨W.heap.size, 0, none⟩) 1 [l] := by
  have hl : l.length = n := hC.1
  subst hl
  refine ⟨rfl, by omega, fun _ => ⟨_, rfl, fun j p hj => ?_⟩⟩
  have hj0 : j = 0 := by
    have := (List.getElem?_eq_some_iff.1 hj).1
    simp at this; exact this
  subst hj0
  have hp : l = p := by simpa using hj
  subst hp
  refine ⟨[.slice A l.length c], rfl, ⟨A, c, rfl, hc, Kd.C_alloc hC _⟩, fun i u hu => ?_⟩
  have hi : i = 0 := by
    have := (List.getElem?_eq_some_iff.1 hu).1
    simp at this; exact this
  subst hi
  have hu' : Value.slice A l.length c = u := by simpa using hu
  subst hu'
  show (W.alloc (.cells #[.slice A l.length c] t)).cell? ⟨W.heap.size, 0, none⟩ = _
  exact (Blk.new W #[.slice A l.length c] t).cell rfl
def sumLen (ls : List (List Int)) : Nat := (ls.map List.length).sum
theorem sumLen_take (ls : List (List Int)) (j : Nat) (hj : j < ls.length) : sumLen (ls.take (j + 1)) = sumLen (ls.take j) + (ls.getD j []).length := by
  unfold sumLen
  rw [List.take_succ_eq_append_getElem hj, List.map_append, List.sum_append]
  simp [List.getD_eq_getElem?_getD, List.getElem?_eq_getElem hj]
theorem sumLen_le (ls : List (List Int)) (j : Nat) : sumLen (ls.take j) ≤ sumLen ls := by
  unfold sumLen
  conv => rhs; rw [← List.take_append_drop j ls, List.map_append, List.sum_append]
  omega
def shortB (ls : List (List Int)) : Bool := decide (ls.length + sumLen ls ≤ 100000)
set_option maxHeartbeats 4000000 in
theorem short_calls (t : Nat) (A : Option Addr) (n c : Nat) (ls : List (List Int)) (w : World) (hC : (Kd.slice t (Kd.int .u8)).C w A n ls) (hc : n ≤ c) (hn : n ≤ 2147483647) (hm : ∀ j, j < n → (ls.getD j []).length ≤ 2147483647) :
    Calls Try.prog 11 #[.slice A n c] w fun e w' => e = .returned (.bool (shortB ls)) ∧ w = w' := by
  have HLN : Aside0 (ls.length = n) := ⟨hC.1⟩
  have HC := Aside0.mk hC
  have HM := Aside0.mk hm
  have HB : Aside0 (∀ b, (n + sumLen ls ≤ 100000 ↔ b = true) → shortB ls = b) := ⟨fun b h => by
    unfold shortB; rw [HLN.out]; cases b with
    | true => exact decide_eq_true (h.2 rfl)
    | false => exact decide_eq_false fun h2 => by cases h.1 h2⟩
  have HS := Aside0.mk (sumLen_le ls)
  clear hC hm
  go_enter Try.func11, Try.ntmps11
  go_wp2_with (fail)
  go_loopg [3, 5, 10] n (fun kq v3 v5 v10 w' => ∃ (j s : Nat), j ≤ n ∧ v10 = .int .i64 j ∧ v3 = .int .i64 s ∧ s ≤ 4294967296 ∧ Aside0 (s = n + sumLen (ls.take j)) ∧ Aside0 (0 < j → s ≤ 100000) ∧ w = w' ∧ Aside0 (n - j ≤ kq))
  case atStart => exact ⟨0, n, by omega, rfl, rfl, by omega, ⟨by simp [sumLen]⟩, ⟨by omega⟩, rfl, ⟨by omega⟩⟩
  case round =>
    obtain ⟨j, s, hj, rfl, rfl, hs, HQ, HP, rfl, HK⟩ := hrel
    by_cases cj : j < n
    · have cjb : decide ((j : Int) < n) = true := decide_eq_true (by omega)
      have cjn : decide (j < n) = true := decide_eq_true (by omega)
      obtain ⟨ad, A', c', ead, hcell, hle, _⟩ := at_list HC.out j cj
      have hml := HM.out j cj
      have HT := Aside0.mk (sumLen_take ls j (by rw [HLN.out]; exact cj))
      obtain ⟨m, hmq⟩ : ∃ m, (ls.getD j []).length = m := ⟨_, rfl⟩
      rw [hmq] at hcell hle hml HT
      have hs2 : s ≤ 2147483647 + 100000 := by
        rcases Nat.eq_zero_or_pos j with h0 | h0
        · subst h0; have := HQ.out; simp [sumLen] at this; omega
        · have := HP.out h0; omega
      subst ead
      clear hmq
      by_cases c1 : 100000 < m
      · have c1b : decide (100000 < (m : Int)) = true := decide_eq_true (by omega)
        go_wp2_with (fail)
        go_ret
        refine ⟨?_, rfl⟩
        rw [HB.out false ⟨fun h => by have := HS.out (j + 1); have := HT.out; omega, fun h => by cases h⟩]; rfl
      · have c1b : decide (100000 < (m : Int)) = false := decide_eq_false (by omega)
        by_cases c2 : 100000 < s + m
        · have c2b : decide (100000 < ((s : Int) + m)) = true := decide_eq_true (by omega)
          go_wp2_with (fail)
          go_ret
          refine ⟨?_, rfl⟩
          rw [HB.out false ⟨fun h => by have := HS.out (j + 1); have := HT.out; have := HQ.out; omega, fun h => by cases h⟩]; rfl
        · have c2b : decide (100000 < ((s : Int) + m)) = false := decide_eq_false (by omega)
          go_wp2_with (fail)
          go_roundg (gk - 1)
          case measure => have := HK.out; omega
          case rel => exact ⟨j + 1, s + m, by omega, by go_num, by go_num, by omega, ⟨by have := HT.out; have := HQ.out; omega⟩, ⟨fun _ => by omega⟩, rfl, ⟨by have := HK.out; omega⟩⟩
    · obtain rfl : j = n := by omega
      have cjb : decide ((j : Int) < j) = false := decide_eq_false (by omega)
      have HE : Aside0 (shortB ls = decide ((s : Int) ≤ 100000)) := ⟨HB.out _ (by rw [decide_eq_true_eq]; have := HQ.out; rw [← HLN.out, List.take_length, HLN.out] at this; omega)⟩
      go_wp2_with (fail)
      go_ret
      exact ⟨by rw [HE.out]; rfl, rfl⟩
/-- texts that came in -/
structure IsTexts (t : Nat) (w : World) (a : Option Addr) (len cap : Nat) (ls : List (List Int)) : Prop where
  C : (Kd.slice t (Kd.int .u8)).C w a len ls
  le : len ≤ cap
  wf : ∀ l ∈ ls, ∀ x ∈ l, (Lit.int .u8 x).wf = true
theorem openTexts {H : Type} {enc : TypeId × Value → H} {P : Program} {w : World} {base : Nat} {held : Bool} {t e q : TypeId} {fuel : Nat} {a : Option Addr} {len cap : Nat} {x : DataW H × List MemPlace} (ht : P.underlying t = some (.slice e)) (he : P.underlying e = some (.slice q)) (hq : P.underlying q = some (.int .u8))
    (ce : P.cellsOf e = 1) (cq : P.cellsOf q = 1) (h : DataW.trod enc P w base (fun _ => true) held fuel t [.slice a len cap] = some x) (t' : Nat) : ∃ ls, IsTexts t' w a len cap ls := by
  rcases Go.Deep.open_int_rows ht he hq ce cq h with ⟨h0, _⟩ | ⟨a', len', cap', A, L, C, Z, h0, _, hlc, hcm, _, hr⟩
  · simp at h0
    obtain ⟨rfl, rfl, rfl⟩ := h0
    exact ⟨[], ⟨⟨rfl, by omega, fun h => absurd h (by omega)⟩, Nat.le_refl _, by simp⟩⟩
  · simp at h0
    obtain ⟨rfl, rfl, rfl⟩ := h0
    simp only [maxLen] at hcm
    refine ⟨(List.range len).map fun r => (Z r).take (L r), ⟨⟨by simp, by omega, fun _ => ⟨_, rfl, fun j p hj => ?_⟩⟩, hlc, ?_⟩⟩
    · have hjl : j < len := by
        have := (List.getElem?_eq_some_iff.1 hj).1
        simpa using this
      have hp : (Z j).take (L j) = p := by
        rw [List.getElem?_map, List.getElem?_range hjl] at hj
        simpa using hj
      subst hp
      obtain ⟨hc, hLC, hCm, hZ, hwf, hnone, hcells⟩ := hr j (by omega)
      have hl : ((Z j).take (L j)).length = L j := by rw [List.length_take]; omega
      simp only [maxLen] at hCm
      refine ⟨[.slice (A j) (L j) (C j)], rfl, ⟨A j, C j, by rw [hl], by omega, ?_⟩, fun i u hu => ?_⟩
      · rw [hl]
        refine ⟨hl, by omega, fun hp => ?_⟩
        cases hA : A j with
        | none => have := hnone hA; omega
        | some a' =>
          refine ⟨a', rfl, fun c p hc => ?_⟩
          have hcl : c < L j := by
            have := (List.getElem?_eq_some_iff.1 hc).1
            omega
          have := (hcells a' hA).2 c (by omega)
          refine ⟨[.int .u8 p], rfl, rfl, fun i u hu => ?_⟩
          have hi : i = 0 := by
            have := (List.getElem?_eq_some_iff.1 hu).1
            simp at this; exact this
          subst hi
          have hu' : Value.int .u8 p = u := by simpa using hu
          subst hu'
          have hz : (Z j).getD c 0 = p := by
            rw [List.getElem?_take, if_pos hcl] at hc
            rw [List.getD_eq_getElem?_getD, hc]; rfl
          rw [hz] at this
          have e3 : c * (Kd.int .u8).sz + 0 = c := Nat.mul_one c
          rw [e3]; exact this
      · have hi : i = 0 := by
          have := (List.getElem?_eq_some_iff.1 hu).1
          simp at this; exact this
        subst hi
        have hu' : Value.slice (A j) (L j) (C j) = u := by simpa using hu
        subst hu'
        have e3 : j * (Kd.slice t' (Kd.int .u8)).sz + 0 = j := Nat.mul_one j
        rw [e3]; exact hc
    · intro l hl x hx
      simp only [List.mem_map, List.mem_range] at hl
      obtain ⟨r, hrl, rfl⟩ := hl
      obtain ⟨_, _, _, _, hwf, _⟩ := hr r (by omega)
      exact hwf x (List.mem_of_mem_take hx)
/-! ### sizes -/
def fits2 (ls : List (List Int)) : Bool := decide (ls.length ≤ 2147483647 ∧ ∀ l ∈ ls, l.length ≤ 2147483647)
theorem getD_mem {ls : List (List Int)} {j : Nat} (h : j < ls.length) : ls.getD j [] ∈ ls := by
  rw [List.getD_eq_getElem?_getD, List.getElem?_eq_getElem h]; exact List.getElem_mem h
set_option maxHeartbeats 4000000 in
theorem zzFits2_calls (t : Nat) (A : Option Addr) (n c : Nat) (ls : List (List Int)) (w : World) (hC : (Kd.slice t (Kd.int .u8)).C w A n ls) (hc : n ≤ c) :
    Calls Try.prog 10 #[.slice A n c] w fun e w' => e = .returned (.bool (fits2 ls)) ∧ w = w' := by
  have HLN : Aside0 (ls.length = n) := ⟨hC.1⟩
  have hn9 : n ≤ 9223372036854775807 := hC.2.1
  have HC := Aside0.mk hC
  have HT : Aside0 ((ls.length ≤ 2147483647 ∧ ∀ l ∈ ls, l.length ≤ 2147483647) → fits2 ls = true) := ⟨fun h => decide_eq_true h⟩
  have HF : Aside0 (¬ (ls.length ≤ 2147483647 ∧ ∀ l ∈ ls, l.length ≤ 2147483647) → fits2 ls = false) := ⟨fun h => decide_eq_false h⟩
  have HCL := Aside0.mk fun j hj => (at_list hC j hj)
  clear hC
  by_cases h1 : 2147483647 < n
  · have q1 : decide (2147483647 < (n : Int)) = true := decide_eq_true (by omega)
    go_enter Try.func10, Try.ntmps10
    go_wp2_with (fail)
    go_ret
    refine ⟨?_, rfl⟩
    rw [HF.out fun h => by have := HLN.out; omega]; rfl
  have q1 : decide (2147483647 < (n : Int)) = false := decide_eq_false (by omega)
  go_enter Try.func10, Try.ntmps10
  go_wp2_with (fail)
  go_loopg [4, 10] n (fun kq v4 v10 w' => ∃ (j : Nat), j ≤ n ∧ v10 = .int .i64 j ∧ Aside0 (∀ i, i < j → (ls.getD i []).length ≤ 2147483647) ∧ w = w' ∧ Aside0 (n - j ≤ kq))
  case atStart => exact ⟨0, by omega, rfl, ⟨fun i hi => by omega⟩, rfl, ⟨by omega⟩⟩
  case round =>
    obtain ⟨j, hj, rfl, HP, rfl, HK⟩ := hrel
    by_cases cj : j < n
    · have cjb : decide ((j : Int) < n) = true := decide_eq_true (by omega)
      have cjn : decide (j < n) = true := decide_eq_true (by omega)
      obtain ⟨ad, A', c', ead, hcell, hle, hCl⟩ := HCL.out j cj
      have hm9 : (ls.getD j []).length ≤ 9223372036854775807 := hCl.2.1
      obtain ⟨m, hmq⟩ : ∃ m, (ls.getD j []).length = m := ⟨_, rfl⟩
      rw [hmq] at hcell hle hm9
      have HMQ := Aside0.mk hmq
      clear hmq hCl
      subst ead
      by_cases c1 : 2147483647 < m
      · have c1b : decide (2147483647 < (m : Int)) = true := decide_eq_true (by omega)
        go_wp2_with (fail)
        go_ret
        refine ⟨?_, rfl⟩
        rw [HF.out fun h => by have := h.2 _ (getD_mem (j := j) (by rw [HLN.out]; exact cj)); have := HMQ.out; omega]; rfl
      · have c1b : decide (2147483647 < (m : Int)) = false := decide_eq_false (by omega)
        go_wp2_with (fail)
        go_roundg (gk - 1)
        case measure => have := HK.out; omega
        case rel =>
          refine ⟨j + 1, by omega, by go_num, ⟨fun i hi => ?_⟩, rfl, ⟨by have := HK.out; omega⟩⟩
          by_cases h : i < j
          · exact HP.out i h
          · obtain rfl : i = j := by omega
            have := HMQ.out; omega
    · obtain rfl : j = n := by omega
      have cjb : decide ((j : Int) < j) = false := decide_eq_false (by omega)
      go_wp2_with (fail)
      go_ret
      refine ⟨?_, rfl⟩
      rw [HT.out ⟨by have := HLN.out; omega, fun l hl => ?_⟩]; rfl
      obtain ⟨i, hi, rfl⟩ := List.getElem_of_mem hl
      have := HP.out i (by rw [← HLN.out]; exact hi)
      simpa [List.getD_eq_getElem?_getD, hi] using this
/-! ### texts, one behind the other -/
def joinL (ls : List (List Int)) : List Int := ls.flatten
theorem joinL_length (ls : List (List Int)) : (joinL ls).length = sumLen ls := by simp [joinL, sumLen, List.length_flatten]
theorem joinL_take (ls : List (List Int)) (j : Nat) (hj : j < ls.length) : joinL (ls.take (j + 1)) = joinL (ls.take j) ++ ls.getD j [] := by
  unfold joinL
  rw [List.take_succ_eq_append_getElem hj, List.flatten_append]
  simp [List.getD_eq_getElem?_getD, hj]
theorem join_cut (ls : List (List Int)) (j : Nat) (hj : j < ls.length) : ((joinL ls).take (sumLen (ls.take (j + 1)))).drop (sumLen (ls.take j)) = ls.getD j [] := by
  have h1 : joinL ls = joinL (ls.take (j + 1)) ++ joinL (ls.drop (j + 1)) := by
    unfold joinL; rw [← List.flatten_append, List.take_append_drop]
  rw [h1, ← joinL_length (ls.take (j + 1)), List.take_left, joinL_take ls j hj, ← joinL_length (ls.take j), List.drop_left]
/-- the offsets of texts: n + 1 of them -/
def offsL (ls : List (List Int)) (n : Nat) : List Int := (List.range n).map fun j => (sumLen (ls.take j) : Int)
theorem offsL_length (ls : List (List Int)) (n : Nat) : (offsL ls n).length = n := by simp [offsL]
theorem rd_offsL (ls : List (List Int)) (n j : Nat) (hj : j < n) : rd (offsL ls n) (j : Nat) = (sumLen (ls.take j) : Nat) := by
  rw [rd_nat _ _ (by rw [offsL_length]; exact hj)]; simp [offsL]
theorem offsL_succ (ls : List (List Int)) (n : Nat) : offsL ls (n + 1) = offsL ls n ++ [(sumLen (ls.take n) : Int)] := by
  simp [offsL, List.range_succ]
theorem sumLen_all (ls : List (List Int)) : sumLen (ls.take ls.length) = sumLen ls := by rw [List.take_length]
theorem own_types {w : World} {b b' : Nat} {t t' : Nat} {k k' : IntKind} {v v' : Value} {xs xs' : List Int} (h : Own w b t k v xs) (h' : Own w b' t' k' v' xs') (hne : t ≠ t') : v.ownBlock = none ∨ v.ownBlock ≠ v'.ownBlock := own_type_ne h.out h'.out hne
theorem tne1 : (5 : Nat) ≠ 60 := by decide
theorem one32 (w : World) (base : Nat) (hb : base ≤ w.heap.size) : Own (w.alloc (.cells #[.int .u32 0] 60)) base 60 .u32 (.slice (some ⟨w.heap.size, 0, none⟩) 1 1) [0] := ⟨own_lit w base 60 .u32 [0] hb (by simp)⟩
set_option maxHeartbeats 4000000 in
theorem encodeTextsLengths_calls (t : Nat) (A : Option Addr) (n c : Nat) (ls : List (List Int)) (w : World) (hC : (Kd.slice t (Kd.int .u8)).C w A n ls) (hc : n ≤ c) (hs : n + sumLen ls ≤ 100000) (R : List Int → Prop)
    (hM : ∀ (p : Option Addr) (A1 : Option Addr) (N c1 : Nat) (B1 : Option Addr) (m1 : Nat) (w1 : World), (Kd.int .u8).C w1 A1 N (joinL ls) → N ≤ c1 → N ≤ 100000 → (Kd.int .u32).C w1 B1 (n + 1) (offsL ls (n + 1)) → n + 1 ≤ m1 → Calls Try.prog 26 #[.pointer p, .slice none 0 0, .slice A1 N c1, .slice B1 (n + 1) m1] w1 fun e w' => ∃ v X, e = .returned (.tuple #[v, .nilIface]) ∧ Own w' w1.heap.size 5 .u8 v X ∧ R X ∧ Below w1.heap.size w1 w') :
    Calls Try.prog 12 #[.string ⟨#[108, 101, 110, 103, 116, 104, 115]⟩, .slice A n c] w fun e w' => ∃ v X, e = .returned (.tuple #[v, .bool true]) ∧ Own w' w.heap.size 5 .u8 v X ∧ R X ∧ Below w.heap.size w w' := by
  have HLN : Aside0 (ls.length = n) := ⟨hC.1⟩
  have HC := Aside0.mk hC
  have HMM := Aside0.mk hM
  have HLE := Aside0.mk (sumLen_le ls)
  have hn : n ≤ 100000 := by omega
  have HS : Aside0 (sumLen ls ≤ 100000) := ⟨by omega⟩
  have HE0 : Aside0 (Own ((w.alloc (.cells #[] 5)).alloc (.cells #[.int .u32 0] 60)) w.heap.size 5 .u8 (.slice (some ⟨w.heap.size, 0, none⟩) 0 0) []) := ⟨(Own.empty w w.heap.size 5 .u8 (Nat.le_refl _)).alloc _⟩
  have HE1 : Aside0 (Own ((w.alloc (.cells #[] 5)).alloc (.cells #[.int .u32 0] 60)) w.heap.size 60 .u32 (.slice (some ⟨w.heap.size + 1, 0, none⟩) 1 1) (offsL ls 1)) := ⟨by
    have := one32 (w.alloc (.cells #[] 5)) w.heap.size (by simp)
    have e : (w.alloc (.cells #[] 5)).heap.size = w.heap.size + 1 := by simp
    rw [e] at this
    have e2 : offsL ls 1 = [0] := by simp [offsL, sumLen]
    rw [e2]; exact this⟩
  have HEB : Aside0 (Below w.heap.size w ((w.alloc (.cells #[] 5)).alloc (.cells #[.int .u32 0] 60))) := ⟨((Below.refl _ _).alloc (Nat.le_refl _) _).alloc (by simp) _⟩
  clear hC hM
  go_enter Try.func12, Try.ntmps12
  go_wp2_with (fail)
  go_loopg [6, 7, 9, 16] n (fun kq v6 v7 v9 v16 w' => ∃ (j : Nat), j ≤ n ∧ v16 = .int .i64 j ∧ Aside0 (Own w' w.heap.size 5 .u8 v6 (joinL (ls.take j))) ∧ Aside0 (Own w' w.heap.size 60 .u32 v7 (offsL ls (j + 1))) ∧ Aside0 (Below w.heap.size w w') ∧ Aside0 (n - j ≤ kq))
  case atStart => exact ⟨0, by omega, rfl, HE0, HE1, HEB, ⟨by omega⟩⟩
  case round =>
    clear HE0 HE1 HEB
    obtain ⟨j, hj, rfl, HO, HP, HB, HK⟩ := hrel
    by_cases cj : j < n
    · have cjb : decide ((j : Int) < n) = true := decide_eq_true (by omega)
      have cjn : decide (j < n) = true := decide_eq_true (by omega)
      obtain ⟨ad, A', c', ead, hcell, hle, hCl⟩ := at_list (Kd.C_below HC.out HB.out) j cj
      have HJ := Aside0.mk (joinL_take ls j (by rw [HLN.out]; exact cj))
      have hlen1 : (joinL (ls.take (j + 1))).length ≤ 100000 := by rw [joinL_length]; have := HLE.out (j + 1); have := HS.out; omega
      have HSQ : Aside0 (sumLen (ls.take (j + 1)) = (joinL (ls.take (j + 1))).length) := ⟨(joinL_length _).symm⟩
      obtain ⟨l, hl⟩ : ∃ l, ls.getD j [] = l := ⟨_, rfl⟩
      rw [hl] at hcell hle hCl HJ
      have hlen0 : (joinL (ls.take j)).length + l.length ≤ 100000 := by rw [HJ.out, List.length_append] at hlen1; exact hlen1
      have hlenq : (joinL (ls.take j) ++ l).length ≤ 100000 := by rw [List.length_append]; exact hlen0
      have HCL := Aside0.mk hCl
      obtain ⟨q, hq⟩ : ∃ q, (joinL (ls.take (j + 1))).length = q := ⟨_, rfl⟩
      rw [hq] at HSQ hlen1
      have HQ : Aside0 ((joinL (ls.take j) ++ l).length = q) := ⟨by rw [← HJ.out]; exact hq⟩
      have HOL : Aside0 ((offsL ls (j + 1)).length = j + 1) := ⟨offsL_length _ _⟩
      have qw : IntKind.u32.wrap (q : Int) = (q : Int) := by rw [IntKind.wrap_u32]; omega
      clear hl hCl hlen0 hlenq hq
      have hjl : (joinL (ls.take j)).length + l.length ≤ 100000 := by have := HQ.out; rw [List.length_append] at this; omega
      subst ead
      go_wp2_with (first
        | (at_builtin; refine appendRead (w0 := w) w.heap.size rfl (.tmp 20) (.tmp 21) 23 5 .u8 1 rfl Try.underlying23 infoU8 (by decide) u6 (joinL (ls.take j)) A' l.length c' l rfl rfl HO.out HB.out HB.out.size HCL.out ?hl ?_; (case hl => omega); intro v1 w1 ho hb hg; have HP1 := Aside0.mk (HP.out.grown hg (own_types HP.out HO.out (Ne.symm tne1))); obtain ⟨A1, c1, rfl, hc1, hr1⟩ := ho.read; rw [HQ.out] at ho hc1; rw [HQ.out]; have HO1 := Aside0.mk ho; have HB1 := Aside0.mk hb; clear ho hb hg hr1)
        | (at_builtin; refine appendOwn (w0 := w) w.heap.size rfl (.tmp 23) (.tmp 27) 61 60 .u32 4 rfl Try.underlying61 infoU32 (by decide) u7 (offsL ls (j + 1)) q rfl rfl HP1.out HB1.out ?hb ?hl ?_; (case hb => exact HB1.out.size); (case hl => rw [HOL.out]; omega); intro v2 w2 ho hb hg; have HO2 := Aside0.mk (HO1.out.grown hg (own_types HO1.out HP1.out tne1)); have HP2 := Aside0.mk ho; have HB2 := Aside0.mk hb; clear ho hb hg))
      go_roundg (gk - 1)
      case measure => have := HK.out; omega
      case rel =>
        refine ⟨j + 1, by omega, by go_num, ⟨?_⟩, ⟨?_⟩, HB2, ⟨by have := HK.out; omega⟩⟩
        · rw [HJ.out]; exact HO2.out
        · rw [offsL_succ, HSQ.out]; exact HP2.out
    · obtain rfl : j = n := by omega
      have cjb : decide ((j : Int) < j) = false := decide_eq_false (by omega)
      have HTA : Aside0 (ls.take j = ls) := ⟨by rw [← HLN.out, List.take_length]⟩
      rw [HTA.out] at HO
      obtain ⟨A1, c1, rfl, hc1, hr1⟩ := HO.out.read
      obtain ⟨B1, m1, rfl, hm1, hs1⟩ := HP.out.read
      have hsl : (joinL ls).length ≤ 100000 := by rw [joinL_length]; have := HS.out; omega
      obtain ⟨N, hN⟩ : ∃ N, (joinL ls).length = N := ⟨_, rfl⟩
      rw [hN] at hc1 hr1 hsl
      rw [offsL_length] at hm1 hs1
      have HR1 := Aside0.mk hr1
      have HS1 := Aside0.mk hs1
      have HNQ := Aside0.mk hN
      have HBA : Aside0 (Below w.heap.size w (wr.alloc (.cells #[] 64))) := ⟨HB.out.alloc HB.out.size _⟩
      have HOLQ : Aside0 ((offsL ls (j + 1)).length = j + 1) := ⟨offsL_length _ _⟩
      rw [HNQ.out, HOLQ.out]
      clear hr1 hs1 hN hj
      go_wp2_with (first
        | (go_at_call 26; go_loud (with_reducible refine (HMM.out _ A1 N c1 B1 m1 _ (Kd.C_alloc HR1.out _) hc1 hsl (Kd.C_alloc HS1.out _) hm1).mono ?_); rintro e w2 ⟨v2, X, rfl, ho, hx, hb⟩; have HX := Aside0.mk hx; have HB2 := Aside0.mk (HBA.out.trans (hb.mono HBA.out.size)); have HO2 := Aside0.mk (Own.lower ho HBA.out.size); clear ho hx hb)
        | go_quiet (fail))
      go_ret2
      exact ⟨v2, X, rfl, HO2.out.drewN _, HX.out, HB2.out.trans ((drewN_below _ _).mono HB2.out.size)⟩
set_option maxHeartbeats 4000000 in
theorem encodeTextsBytes_calls (t : Nat) (A : Option Addr) (n c : Nat) (ls : List (List Int)) (w : World) (hC : (Kd.slice t (Kd.int .u8)).C w A n ls) (hc : n ≤ c) (hs : n + sumLen ls ≤ 100000) (R : List Int → Prop)
    (hM : ∀ (p : Option Addr) (A1 : Option Addr) (N c1 : Nat) (B1 : Option Addr) (m1 : Nat) (w1 : World), (Kd.int .u8).C w1 A1 N (joinL ls) → N ≤ c1 → N ≤ 100000 → (Kd.int .u32).C w1 B1 (n + 1) (offsL ls (n + 1)) → n + 1 ≤ m1 → Calls Try.prog 27 #[.pointer p, .slice none 0 0, .slice A1 N c1, .slice B1 (n + 1) m1] w1 fun e w' => ∃ v X, e = .returned (.tuple #[v, .nilIface]) ∧ Own w' w1.heap.size 5 .u8 v X ∧ R X ∧ Below w1.heap.size w1 w') :
    Calls Try.prog 12 #[.string ⟨#[98, 121, 116, 101, 115]⟩, .slice A n c] w fun e w' => ∃ v X, e = .returned (.tuple #[v, .bool true]) ∧ Own w' w.heap.size 5 .u8 v X ∧ R X ∧ Below w.heap.size w w' := by
  have HLN : Aside0 (ls.length = n) := ⟨hC.1⟩
  have HC := Aside0.mk hC
  have HMM := Aside0.mk hM
  have HLE := Aside0.mk (sumLen_le ls)
  have hn : n ≤ 100000 := by omega
  have HS : Aside0 (sumLen ls ≤ 100000) := ⟨by omega⟩
  have HE0 : Aside0 (Own ((w.alloc (.cells #[] 5)).alloc (.cells #[.int .u32 0] 60)) w.heap.size 5 .u8 (.slice (some ⟨w.heap.size, 0, none⟩) 0 0) []) := ⟨(Own.empty w w.heap.size 5 .u8 (Nat.le_refl _)).alloc _⟩
  have HE1 : Aside0 (Own ((w.alloc (.cells #[] 5)).alloc (.cells #[.int .u32 0] 60)) w.heap.size 60 .u32 (.slice (some ⟨w.heap.size + 1, 0, none⟩) 1 1) (offsL ls 1)) := ⟨by
    have := one32 (w.alloc (.cells #[] 5)) w.heap.size (by simp)
    have e : (w.alloc (.cells #[] 5)).heap.size = w.heap.size + 1 := by simp
    rw [e] at this
    have e2 : offsL ls 1 = [0] := by simp [offsL, sumLen]
    rw [e2]; exact this⟩
  have HEB : Aside0 (Below w.heap.size w ((w.alloc (.cells #[] 5)).alloc (.cells #[.int .u32 0] 60))) := ⟨((Below.refl _ _).alloc (Nat.le_refl _) _).alloc (by simp) _⟩
  clear hC hM
  go_enter Try.func12, Try.ntmps12
  go_wp2_with (fail)
  go_loopg [6, 7, 9, 16] n (fun kq v6 v7 v9 v16 w' => ∃ (j : Nat), j ≤ n ∧ v16 = .int .i64 j ∧ Aside0 (Own w' w.heap.size 5 .u8 v6 (joinL (ls.take j))) ∧ Aside0 (Own w' w.heap.size 60 .u32 v7 (offsL ls (j + 1))) ∧ Aside0 (Below w.heap.size w w') ∧ Aside0 (n - j ≤ kq))
  case atStart => exact ⟨0, by omega, rfl, HE0, HE1, HEB, ⟨by omega⟩⟩
  case round =>
    clear HE0 HE1 HEB
    obtain ⟨j, hj, rfl, HO, HP, HB, HK⟩ := hrel
    by_cases cj : j < n
    · have cjb : decide ((j : Int) < n) = true := decide_eq_true (by omega)
      have cjn : decide (j < n) = true := decide_eq_true (by omega)
      obtain ⟨ad, A', c', ead, hcell, hle, hCl⟩ := at_list (Kd.C_below HC.out HB.out) j cj
      have HJ := Aside0.mk (joinL_take ls j (by rw [HLN.out]; exact cj))
      have hlen1 : (joinL (ls.take (j + 1))).length ≤ 100000 := by rw [joinL_length]; have := HLE.out (j + 1); have := HS.out; omega
      have HSQ : Aside0 (sumLen (ls.take (j + 1)) = (joinL (ls.take (j + 1))).length) := ⟨(joinL_length _).symm⟩
      obtain ⟨l, hl⟩ : ∃ l, ls.getD j [] = l := ⟨_, rfl⟩
      rw [hl] at hcell hle hCl HJ
      have hlen0 : (joinL (ls.take j)).length + l.length ≤ 100000 := by rw [HJ.out, List.length_append] at hlen1; exact hlen1
      have hlenq : (joinL (ls.take j) ++ l).length ≤ 100000 := by rw [List.length_append]; exact hlen0
      have HCL := Aside0.mk hCl
      obtain ⟨q, hq⟩ : ∃ q, (joinL (ls.take (j + 1))).length = q := ⟨_, rfl⟩
      rw [hq] at HSQ hlen1
      have HQ : Aside0 ((joinL (ls.take j) ++ l).length = q) := ⟨by rw [← HJ.out]; exact hq⟩
      have HOL : Aside0 ((offsL ls (j + 1)).length = j + 1) := ⟨offsL_length _ _⟩
      have qw : IntKind.u32.wrap (q : Int) = (q : Int) := by rw [IntKind.wrap_u32]; omega
      clear hl hCl hlen0 hlenq hq
      have hjl : (joinL (ls.take j)).length + l.length ≤ 100000 := by have := HQ.out; rw [List.length_append] at this; omega
      subst ead
      go_wp2_with (first
        | (at_builtin; refine appendRead (w0 := w) w.heap.size rfl (.tmp 20) (.tmp 21) 23 5 .u8 1 rfl Try.underlying23 infoU8 (by decide) u6 (joinL (ls.take j)) A' l.length c' l rfl rfl HO.out HB.out HB.out.size HCL.out ?hl ?_; (case hl => omega); intro v1 w1 ho hb hg; have HP1 := Aside0.mk (HP.out.grown hg (own_types HP.out HO.out (Ne.symm tne1))); obtain ⟨A1, c1, rfl, hc1, hr1⟩ := ho.read; rw [HQ.out] at ho hc1; rw [HQ.out]; have HO1 := Aside0.mk ho; have HB1 := Aside0.mk hb; clear ho hb hg hr1)
        | (at_builtin; refine appendOwn (w0 := w) w.heap.size rfl (.tmp 23) (.tmp 27) 61 60 .u32 4 rfl Try.underlying61 infoU32 (by decide) u7 (offsL ls (j + 1)) q rfl rfl HP1.out HB1.out ?hb ?hl ?_; (case hb => exact HB1.out.size); (case hl => rw [HOL.out]; omega); intro v2 w2 ho hb hg; have HO2 := Aside0.mk (HO1.out.grown hg (own_types HO1.out HP1.out tne1)); have HP2 := Aside0.mk ho; have HB2 := Aside0.mk hb; clear ho hb hg))
      go_roundg (gk - 1)
      case measure => have := HK.out; omega
      case rel =>
        refine ⟨j + 1, by omega, by go_num, ⟨?_⟩, ⟨?_⟩, HB2, ⟨by have := HK.out; omega⟩⟩
        · rw [HJ.out]; exact HO2.out
        · rw [offsL_succ, HSQ.out]; exact HP2.out
    · obtain rfl : j = n := by omega
      have cjb : decide ((j : Int) < j) = false := decide_eq_false (by omega)
      have HTA : Aside0 (ls.take j = ls) := ⟨by rw [← HLN.out, List.take_length]⟩
      rw [HTA.out] at HO
      obtain ⟨A1, c1, rfl, hc1, hr1⟩ := HO.out.read
      obtain ⟨B1, m1, rfl, hm1, hs1⟩ := HP.out.read
      have hsl : (joinL ls).length ≤ 100000 := by rw [joinL_length]; have := HS.out; omega
      obtain ⟨N, hN⟩ : ∃ N, (joinL ls).length = N := ⟨_, rfl⟩
      rw [hN] at hc1 hr1 hsl
      rw [offsL_length] at hm1 hs1
      have HR1 := Aside0.mk hr1
      have HS1 := Aside0.mk hs1
      have HNQ := Aside0.mk hN
      have HBA : Aside0 (Below w.heap.size w (wr.alloc (.cells #[] 66))) := ⟨HB.out.alloc HB.out.size _⟩
      have HOLQ : Aside0 ((offsL ls (j + 1)).length = j + 1) := ⟨offsL_length _ _⟩
      rw [HNQ.out, HOLQ.out]
      clear hr1 hs1 hN hj
      go_wp2_with (first
        | (go_at_call 27; go_loud (with_reducible refine (HMM.out _ A1 N c1 B1 m1 _ (Kd.C_alloc HR1.out _) hc1 hsl (Kd.C_alloc HS1.out _) hm1).mono ?_); rintro e w2 ⟨v2, X, rfl, ho, hx, hb⟩; have HX := Aside0.mk hx; have HB2 := Aside0.mk (HBA.out.trans (hb.mono HBA.out.size)); have HO2 := Aside0.mk (Own.lower ho HBA.out.size); clear ho hx hb)
        | go_quiet (fail))
      go_ret2
      exact ⟨v2, X, rfl, HO2.out.drewN _, HX.out, HB2.out.trans ((drewN_below _ _).mono HB2.out.size)⟩
set_option maxHeartbeats 4000000 in
theorem sameTexts_calls (t t' : Nat) (A0 A1 : Option Addr) (n c0 c1 : Nat) (ls : List (List Int)) (w : World) (h0 : (Kd.slice t (Kd.int .u8)).C w A0 n ls) (h1 : (Kd.slice t' (Kd.int .u8)).C w A1 n ls) (hn : n ≤ 2147483647) :
    Calls Try.prog 14 #[.slice A0 n c0, .slice A1 n c1] w fun e w' => e = .returned (.bool true) ∧ Drawn0 w w' := by
  have H0 := Aside0.mk h0
  have H1 := Aside0.mk h1
  clear h0 h1
  go_enter Try.func14, Try.ntmps14
  go_wp2_with (fail)
  go_loopg [5, 13] n (fun kq v5 v13 w' => ∃ (j : Nat), j ≤ n ∧ v13 = .int .i64 j ∧ Aside0 (Drawn0 w w') ∧ Aside0 (n - j ≤ kq))
  case atStart => exact ⟨0, by omega, rfl, ⟨Drawn0.refl _⟩, ⟨by omega⟩⟩
  case round =>
    obtain ⟨j, hj, rfl, HD, HK⟩ := hrel
    by_cases cj : j < n
    · have cjb : decide ((j : Int) < n) = true := decide_eq_true (by omega)
      obtain ⟨ad0, A0', d0, ead0, hcell0, hle0, hC0⟩ := at_list (Kd.C_below H0.out HD.out.below) j cj
      obtain ⟨ad1, A1', d1, ead1, hcell1, hle1, hC1⟩ := at_list (Kd.C_below H1.out HD.out.below) j cj
      obtain ⟨l, hl⟩ : ∃ l, ls.getD j [] = l := ⟨_, rfl⟩
      rw [hl] at hcell0 hle0 hC0 hcell1 hle1 hC1
      have HF := Aside0.mk fun m => same_calls A0' A1' l.length d0 d1 l (wr.drewN m) (Kd.C_drewN hC0 m) (Kd.C_drewN hC1 m)
      clear hl hC0 hC1
      subst ead0 ead1
      have qi1 : (j < n) = True := eq_true cj
      have qi2 : ((j : Int) < (n : Int)) = True := eq_true (by omega)
      have qi3 : (0 ≤ (j : Int)) = True := eq_true (by omega)
      go_wp2_with (first | go_quiet ((go_at_call 28; exact quietCall (HF.out _))))
      go_roundg (gk - 1)
      case measure => have := HK.out; omega
      case rel => exact ⟨j + 1, by omega, by go_num, ⟨drawnTrans HD.out ⟨⟨_, rfl⟩⟩⟩, ⟨by have := HK.out; omega⟩⟩
    · obtain rfl : j = n := by omega
      have cjb : decide ((j : Int) < j) = false := decide_eq_false (by omega)
      go_wp2_with (fail)
      go_ret
      exact ⟨rfl, HD.out⟩
end Go.Proofs.Ytigmcdpjlkgocaa.Dtx

/-! Buffers of numbers of 32 bits. -/
namespace Go.Proofs.Ytigmcdpjlkgocaa.Dib
open Go.Proofs.Ytigmcdpjlkgocaa.Den Go.Proofs.Ytigmcdpjlkgocaa.Deb Go.Proofs.Ytigmcdpjlkgocaa.Deo Go.Proofs.Ytigmcdpjlkgocaa.Dtx Go.Proofs.Ytigmcdpjlkgocaa.Ddc Go.Proofs.Ytigmcdpjlkgocaa.Dct Go.Proofs.Ytigmcdpjlkgocaa.Dst Go.Proofs.Ytigmcdpjlkgocaa.Dgr Go.Proofs.Ytigmcdpjlkgocaa.Dpu Go.Proofs.Ytigmcdpjlkgocaa.Dds Go.Proofs.Ytigmcdpjlkgocaa.Pak Go.Proofs.Ytigmcdpjlkgocaa.Buf Go.Proofs.Ytigmcdpjlkgocaa.Fit Go.Proofs.Ytigmcdpjlkgocaa.Bit Go.Proofs.Ytigmcdpjlkgocaa.Wrd Go.Proofs.Ytigmcdpjlkgocaa.Spl Go.Proofs.Ytigmcdpjlkgocaa.Str Go.Proofs.Ytigmcdpjlkgocaa.Flt Go.Proofs.Ytigmcdpjlkgocaa.Owe Go.Proofs.Ytigmcdpjlkgocaa.Num Go.Proofs.Ytigmcdpjlkgocaa.Le Go.Proofs.Ytigmcdpjlkgocaa.Lst Go.Proofs.Ytigmcdpjlkgocaa.Aid Go.RowKit Go.Proofs.YtigmcdpjlkgocaaW.PrintWords Go.Proofs.YtigmcdpjlkgocaaW.PrintLast Go.Proofs.YtigmcdpjlkgocaaW.PrintMore
set_option linter.unusedVariables false
set_option linter.unusedSimpArgs false
/-- numbers of 32 bits as differences, in front of bytes -/
structure NumStr (l X rest : List Int) (B P S : Nat) (bs : List DBlk) : Prop where
  eq : X = hdG B P l.length (fstI l) ++ (blksB bs ++ rest)
  hB : B = P * S
  hB1 : B % 128 = 0
  hS : S % 32 = 0
  hP : 0 < P
  hB0 : 0 < B
  hB9 : B ≤ 65536
  ok : strOk 32 P S (l.length - 1) bs
  vals : (fstI l :: blksV .i32 (fstI l) bs).take l.length = l
  bd : ∀ x ∈ l, -2147483648 ≤ x ∧ x ≤ 2147483647
theorem fstI_bd {l : List Int} (h : ∀ x ∈ l, -2147483648 ≤ x ∧ x ≤ 2147483647) : -2147483648 ≤ fstI l ∧ fstI l ≤ 2147483647 := by
  cases l with
  | nil => exact ⟨by decide, by decide⟩
  | cons x l => exact h x (List.mem_cons_self ..)
/-- a buffer just made -/
structure NewBuf (w : World) (base p a : Nat) : Prop where
  cell : Blk w p #[.slice (some ⟨a, 0, none⟩) 0 1024] 90
  row : Row w a 21 .i32 (List.replicate 1024 0)
  bp : base ≤ p
  ba : base ≤ a
  ne : a ≠ p
theorem infoI32b : (Try.prog.info? 21).map (fun i => (i.zero, i.size, i.bytes)) = some (some (.int .i32 0), 1, 4) := by kernel_rfl
/-- a row of numbers is no buffer: it stays where a buffer turns -/
theorem C_grown_buf {k : IntKind} {w w' : World} {A : Option Addr} {n : Nat} {xs : List Int} {p : Nat} {A0 : Option Addr} {n0 c0 T : Nat} (h : (Kd.int k).C w A n xs) (hp : Blk w p #[.slice A0 n0 c0] T) (hg : w.grownBy w' (some p)) : (Kd.int k).C w' A n xs := by
  have hn : xs.length = n := h.1
  refine ⟨h.1, h.2.1, fun hpos => ?_⟩
  obtain ⟨ad, e, hx⟩ := h.2.2 hpos
  refine ⟨ad, e, fun j y hj => ?_⟩
  obtain ⟨vs, e1, e2, hy⟩ := hx j y hj
  refine ⟨vs, e1, e2, fun i u hu => ?_⟩
  have hc := hy i u hu
  have hlt := World.block_lt_of_cell? w _ hc
  have hne : some (ad.add (j * (Kd.int k).sz + i)).block ≠ some p := by
    intro he
    injection he with he
    have hi : i = 0 := by
      have := (List.getElem?_eq_some_iff.1 hu).1
      have hl : vs.length = 1 := e1
      omega
    subst hi
    have hub : u = .int k y := by
      have e3 : vs = [.int k y] := e2
      rw [e3] at hu; simpa using hu.symm
    subst hub
    have h0 : w.heap[(ad.add (j * (Kd.int k).sz + 0)).block]? = some (.cells #[.slice A0 n0 c0] T (0, 0)) := by rw [he]; exact hp.out
    rw [World.cell?, h0] at hc
    revert hc
    cases hq : (ad.add (j * (Kd.int k).sz + 0)).off with
    | zero => simp [hq]
    | succ q => simp [hq]
  rw [← hc]
  exact World.cell?_of_block (hg.block _ hlt hne)
set_option maxHeartbeats 4000000 in
theorem getBuf_calls (w : World) :
    Calls Try.prog 41 #[] w fun e w' => ∃ p a, e = .returned (.pointer (some ⟨p, 0, none⟩)) ∧ NewBuf w' w.heap.size p a ∧ Below w.heap.size w w' := by
  have hmk : ∀ W : World, (Instr.makeSlice 37 (.int .i64 0) (.int .i64 1024)).run Try.prog W = .ok (.slice (some ⟨W.heap.size, 0, none⟩) 0 1024) (W.alloc (.cells (madeCells #[.int .i32 0] 1024) 21)) := make1 (P := Try.prog) 37 21 (.int .i32 0) 4 Try.underlying37 infoI32b rfl 0 1024 (by omega) (by omega) (by omega)
  have HR : Aside0 (Row ((w.alloc (.cells (madeCells #[.int .i32 0] 1024) 21)).alloc (.cells #[.slice (some ⟨w.heap.size, 0, none⟩) 0 1024] 90)) w.heap.size 21 .i32 (List.replicate 1024 0)) := ⟨(madeRow w 21 .i32 1024).alloc _⟩
  have HP : Aside0 (Blk ((w.alloc (.cells (madeCells #[.int .i32 0] 1024) 21)).alloc (.cells #[.slice (some ⟨w.heap.size, 0, none⟩) 0 1024] 90)) (w.heap.size + 1) #[.slice (some ⟨w.heap.size, 0, none⟩) 0 1024] 90) := ⟨by
    have := Blk.new (w.alloc (.cells (madeCells #[.int .i32 0] 1024) 21)) #[.slice (some ⟨w.heap.size, 0, none⟩) 0 1024] 90
    rw [show (w.alloc (.cells (madeCells #[.int .i32 0] 1024) 21)).heap.size = w.heap.size + 1 by simp] at this
    exact this⟩
  have HB : Aside0 (Below w.heap.size w ((w.alloc (.cells (madeCells #[.int .i32 0] 1024) 21)).alloc (.cells #[.slice (some ⟨w.heap.size, 0, none⟩) 0 1024] 90))) := ⟨((Below.refl _ _).alloc (Nat.le_refl _) _).alloc (by simp) _⟩
  go_enter Try.func41, Try.ntmps41
  go_wp2_with (fail)
  go_ret
  exact ⟨w.heap.size + 1, w.heap.size, rfl, ⟨HP.out, HR.out, by omega, Nat.le_refl _, by omega⟩, HB.out⟩
theorem putBuf_d (v : Value) (u : FrameMode) (w : World) : CallsD Try.prog 42 #[v] u w fun e u' w' => u' = u ∧ (e = .returned (.tuple #[]) ∧ w' = w) := by
  go_enter_d Try.func42, Try.ntmps42
  go_wp2
  go_end0
  exact ⟨rfl, rfl⟩
set_option maxHeartbeats 4000000 in
theorem bufResize_calls (p a n : Nat) (base : Nat) (w : World) (hN : NewBuf w base p a) (hbw : base ≤ w.heap.size) (hn : n ≤ 100000) :
    Calls Try.prog 43 #[.pointer (some ⟨p, 0, none⟩), .int .i64 n] w fun e w' => ∃ g C, e = .returned (.tuple #[]) ∧ Blk w' p #[.slice (some ⟨g, 0, none⟩) n C] 90 ∧ n ≤ C ∧ C ≤ 9223372036854775807 ∧ Front w' g C 21 .i32 (List.replicate n 0) ∧ base ≤ g ∧ g ≠ p ∧ w.grownBy w' (some p) := by
  have hp := hN.cell.cell (j := 0) (v := .slice (some ⟨a, 0, none⟩) 0 1024) rfl
  have hpf := hN.cell.free 0
  have hpl := hN.cell.lt
  have HNB := Aside0.mk hN
  by_cases c : 1024 < n
  · have qc : decide (1024 < (n : Int)) = true := decide_eq_true (by omega)
    have hmk : ∀ W : World, (Instr.makeSlice 37 (.int .i64 (n : Int)) (.int .i64 (2 * (n : Int)))).run Try.prog W = .ok (.slice (some ⟨W.heap.size, 0, none⟩) n (2 * n)) (W.alloc (.cells (madeCells #[.int .i32 0] (2 * n)) 21)) := by
      have := make1 (P := Try.prog) 37 21 (.int .i32 0) 4 Try.underlying37 infoI32b rfl n (2 * n) (by omega) (by omega) (by omega)
      intro W
      have h := this W
      push_cast at h
      exact h
    clear hN
    go_enter Try.func43, Try.ntmps43
    go_wp2_with (fail)
    go_end0
    obtain ⟨v, hv⟩ : ∃ v : Value, v = .slice (some ⟨w.heap.size, 0, none⟩) n (2 * n) := ⟨_, rfl⟩
    rw [← hv]
    have hsz : (w.setCell ⟨p, 0, none⟩ v).heap.size = w.heap.size := by simp
    have hF := Front.ofRow (madeRow (w.setCell ⟨p, 0, none⟩ v) 21 .i32 (2 * n)) n (by rw [List.length_replicate]; omega)
    rw [List.length_replicate, List.take_replicate, Nat.min_eq_left (by omega), hsz] at hF
    have hB1 := (HNB.out.cell.set 0 v).alloc (.cells (madeCells #[.int .i32 0] (2 * n)) 21)
    refine ⟨w.heap.size, 2 * n, rfl, by rw [← hv]; exact hB1, by omega, by omega, hF, hbw, by omega, ?_⟩
    exact grownTrans (grownSet (grownRefl w _) 0 v) (grownNew ((Below.refl _ _).alloc (Nat.le_refl _) _) _)
  · have qc : decide (1024 < (n : Int)) = false := decide_eq_false (by omega)
    obtain ⟨i32, h32⟩ : ∃ i, (Try.prog.info? 21) = some i ∧ i.size = 1 := Option.map_eq_some_iff.1 (show (Try.prog.info? 21).map (fun i => i.size) = some 1 by kernel_rfl)
    have cut1 := cutAtMid0 (P := Try.prog) 37 21 Try.underlying37 h32.1 h32.2 a 0 1024 n (by omega)
    clear hN
    go_enter Try.func43, Try.ntmps43
    go_wp2_with (fail)
    go_end0
    have hF := Front.ofRow HNB.out.row n (by rw [List.length_replicate]; omega)
    rw [List.length_replicate, List.take_replicate, Nat.min_eq_left (by omega)] at hF
    refine ⟨a, 1024, rfl, HNB.out.cell.set 0 _, by omega, by omega, ?_, HNB.out.ba, HNB.out.ne, grownSet (grownRefl _ _) _ _⟩
    obtain ⟨cs, hb, hr⟩ := hF.out
    exact ⟨cs, hb.far (by show a ≠ p; exact HNB.out.ne) _, hr⟩
end Go.Proofs.Ytigmcdpjlkgocaa.Dib

/-! Lengths of texts: the encoder. -/
namespace Go.Proofs.Ytigmcdpjlkgocaa.Dle
open Go.Proofs.Ytigmcdpjlkgocaa.Dib Go.Proofs.Ytigmcdpjlkgocaa.Dew Go.Proofs.Ytigmcdpjlkgocaa.Dtx Go.Proofs.Ytigmcdpjlkgocaa.Ddc Go.Proofs.Ytigmcdpjlkgocaa.Dct Go.Proofs.Ytigmcdpjlkgocaa.Dst Go.Proofs.Ytigmcdpjlkgocaa.Deo Go.Proofs.Ytigmcdpjlkgocaa.Den Go.Proofs.Ytigmcdpjlkgocaa.Deb Go.Proofs.Ytigmcdpjlkgocaa.Dml Go.Proofs.Ytigmcdpjlkgocaa.Dhd Go.Proofs.Ytigmcdpjlkgocaa.Dgr Go.Proofs.Ytigmcdpjlkgocaa.Dpu Go.Proofs.Ytigmcdpjlkgocaa.Dds Go.Proofs.Ytigmcdpjlkgocaa.Pak Go.Proofs.Ytigmcdpjlkgocaa.Buf Go.Proofs.Ytigmcdpjlkgocaa.Fit Go.Proofs.Ytigmcdpjlkgocaa.Bit Go.Proofs.Ytigmcdpjlkgocaa.Wrd Go.Proofs.Ytigmcdpjlkgocaa.Spl Go.Proofs.Ytigmcdpjlkgocaa.Str Go.Proofs.Ytigmcdpjlkgocaa.Flt Go.Proofs.Ytigmcdpjlkgocaa.Owe Go.Proofs.Ytigmcdpjlkgocaa.Num Go.Proofs.Ytigmcdpjlkgocaa.Le Go.Proofs.Ytigmcdpjlkgocaa.Lst Go.Proofs.Ytigmcdpjlkgocaa.Aid Go.RowKit Go.Proofs.YtigmcdpjlkgocaaW.PrintWords Go.Proofs.YtigmcdpjlkgocaaW.PrintLast Go.Proofs.YtigmcdpjlkgocaaW.PrintMore
set_option linter.unusedVariables false
set_option linter.unusedSimpArgs false
def lenL (ls : List (List Int)) : List Int := ls.map fun l => (l.length : Int)
theorem lenL_length (ls : List (List Int)) : (lenL ls).length = ls.length := by simp [lenL]
theorem rd_lenL (ls : List (List Int)) (j : Nat) (hj : j < ls.length) : rd (lenL ls) (j : Nat) = ((ls.getD j []).length : Int) := by
  rw [rd_nat _ _ (by rw [lenL_length]; exact hj)]
  simp [lenL, List.getD_eq_getElem?_getD, hj]
theorem lenL_bd (ls : List (List Int)) (hs : sumLen ls ≤ 100000) : ∀ x ∈ lenL ls, 0 ≤ x ∧ x ≤ 100000 := by
  intro x hx
  simp only [lenL, List.mem_map] at hx
  obtain ⟨l, hl, rfl⟩ := hx
  obtain ⟨i, hi, rfl⟩ := List.getElem_of_mem hl
  have h1 := sumLen_take ls i hi
  have h2 := sumLen_le ls (i + 1)
  have e : ls.getD i [] = ls[i] := by simp [List.getD_eq_getElem?_getD, hi]
  rw [e] at h1
  omega
theorem wf32_of {l : List Int} (h : ∀ x ∈ l, -2147483648 ≤ x ∧ x ≤ 2147483647) : ∀ x ∈ l, (Lit.int .i32 x).wf = true := by
  intro x hx
  have := h x hx
  simp [Lit.wf, IntKind.min, IntKind.max, IntKind.signed, IntKind.bits]
  omega
theorem numStr_of_enc {l X rest : List Int} {bs : List DBlk} (h : EncOf .i32 32 l bs) (hX : X = hdL l.length (fstI l) ++ blksB bs ++ rest) (hb : ∀ x ∈ l, -2147483648 ≤ x ∧ x ≤ 2147483647) : NumStr l X rest 128 4 32 bs :=
  ⟨by rw [hX, List.append_assoc]; rfl, by decide, by decide, by decide, by decide, by decide, by decide, h.ok, h.vals, hb⟩
theorem frontC0 {w : World} {g C t : Nat} {k : IntKind} {xs : List Int} (h : Front w g C t k xs) (hC : C ≤ 9223372036854775807) : (Kd.int k).C w (some ⟨g, 0, none⟩) xs.length xs := by
  obtain ⟨A, c, e, _, hr⟩ := (h.toOwn (Nat.zero_le _) hC).read
  injection e with e1 e2 e3
  rw [e1]; exact hr
theorem blkGrown {w w' : World} {p g : Nat} {cs : Array Value} {t : TypeId} (h : Blk w p cs t) (hg : w.grownBy w' (some g)) (hne : p ≠ g) : Blk w' p cs t := ⟨(hg.block p h.lt (by intro e; injection e with e; exact hne e)).trans h.out⟩
set_option maxHeartbeats 4000000 in
set_option maxRecDepth 100000 in
theorem encLens_calls (g C n : Nat) (B : Option Addr) (m mc : Nat) (ls : List (List Int)) (w : World) (hF : Front w g C 21 .i32 (List.replicate n 0)) (hnC : n ≤ C) (hC9 : C ≤ 9223372036854775807)
    (hO : ReadKeep w g .u32 B m (offsL ls m)) (hm : m = n + 1) (hmc : m ≤ mc) (hn : ls.length = n) (hn9 : n ≤ 100000) (hs : sumLen ls ≤ 100000) :
    Calls Try.prog 44 #[.slice (some ⟨g, 0, none⟩) n C, .slice B m mc] w fun e w' => e = .returned (.tuple #[]) ∧ Front w' g C 21 .i32 (lenL ls) ∧ w.grownBy w' (some g) := by
  have HLN := Aside0.mk hn
  have HSM := Aside0.mk (sumLen_le ls)
  have HS := Aside0.mk hs
  have HO := Aside0.mk hO
  have HM := Aside0.mk hm
  have HF0 : Aside0 (Front w g C 21 .i32 (partI (fun i => rd (lenL ls) (i : Nat)) n 0)) := ⟨by rw [partI_zero]; exact hF⟩
  have hm1 : n + 1 ≤ m := by omega
  clear hF hO hn hs hm
  go_enter Try.func44, Try.ntmps44
  go_wp2_with (fail)
  go_loopg [4, 7] n (fun kq v4 v7 w' => ∃ (j : Nat), j ≤ n ∧ v7 = .int .i64 j ∧ Aside0 (Front w' g C 21 .i32 (partI (fun i => rd (lenL ls) (i : Nat)) n j)) ∧ Aside0 (w.grownBy w' (some g)) ∧ Aside0 (n - j ≤ kq))
  case atStart => exact ⟨0, by omega, rfl, HF0, ⟨grownRefl _ _⟩, ⟨by omega⟩⟩
  case round =>
    clear HF0
    obtain ⟨j, hj, rfl, HF, HG, HK⟩ := hrel
    by_cases cj : j < n
    · have cjb : decide ((j : Int) < n) = true := decide_eq_true (by omega)
      have cjn : decide (j < n) = true := decide_eq_true cj
      have hOw := HO.out wr HG.out
      obtain ⟨ad, ead, x0⟩ := Kd.at_int hOw (j : Int) (by omega) (by omega)
      obtain ⟨ad', ead', x1⟩ := Kd.at_int hOw ((j + 1 : Nat) : Int) (by omega) (by omega)
      obtain rfl : ad = ad' := by rw [ead] at ead'; injection ead'
      rw [Int.toNat_natCast, rd_offsL ls m j (by omega)] at x0
      rw [Int.toNat_natCast, rd_offsL ls m (j + 1) (by omega)] at x1
      have hst := sumLen_take ls j (by rw [HLN.out]; exact cj)
      have hq9 := HSM.out (j + 1)
      obtain ⟨o, ho⟩ : ∃ o, sumLen (ls.take j) = o := ⟨_, rfl⟩
      obtain ⟨q, hq⟩ : ∃ q, sumLen (ls.take (j + 1)) = q := ⟨_, rfl⟩
      obtain ⟨d, hd⟩ : ∃ d, (ls.getD j []).length = d := ⟨_, rfl⟩
      have HD : Aside0 (rd (lenL ls) (j : Nat) = (d : Int)) := ⟨by rw [rd_lenL ls j (by rw [HLN.out]; exact cj), hd]⟩
      rw [ho] at x0 hst
      rw [hq] at x1 hst hq9
      rw [hd] at hst
      have hq99 : q ≤ 100000 := by have := HS.out; omega
      have eadd : ad.add (j + 1) = ⟨ad.block, ad.off + (j + 1), none⟩ := by simp [Addr.add]
      rw [eadd] at x1
      obtain ⟨z, rc⟩ := HF.out.cell j (by omega)
      have rf := HF.out.free j
      have b0 := World.block_lt_of_cell? wr _ x0
      have b1 := World.block_lt_of_cell? wr _ x1
      have b2 := World.block_lt_of_cell? wr _ rc
      have qw0 : IntKind.i64.wrap ((j : Int) + 1) = (j : Int) + 1 := IntWalk.i64_in _ (by omega)
      have qw1 : IntKind.u32.wrap ((q : Int) - (o : Int)) = (d : Int) := by rw [IntKind.wrap_u32]; omega
      have qw2 : IntKind.i32.wrap (d : Int) = (d : Int) := by rw [IntKind.wrap_i32]; omega
      have qi0 : (0 : Int) ≤ (j : Int) := by omega
      have qi1 : (j : Int) < (n : Int) := by omega
      have qi2 : (j : Int) < (m : Int) := by omega
      have qi3 : (j : Int) + 1 < (m : Int) := by omega
      have qi4 : (0 : Int) ≤ (j : Int) + 1 := by omega
      have qn : ((j : Int) + 1).toNat = j + 1 := by omega
      clear ho hq hd hst eadd hOw
      subst ead
      go_wp2_with (fail)
      refine region_tail 14 (by kernel_rfl) (by kernel_rfl) ?_
      simp only [List.take_succ_cons, List.take_zero, List.drop_succ_cons, List.drop_zero]
      repeat (quiet_step ((fail)))
      refine wpQuiet_nil ?_
      rintro _ ⟨nq, rfl⟩
      go_wp2_with (fail)
      go_roundg (gk - 1)
      case measure => have := HK.out; omega
      case rel =>
        refine ⟨j + 1, by omega, by go_num, ⟨?_⟩, ⟨grownSet (grownDrewN HG.out _) _ _⟩, ⟨by have := HK.out; omega⟩⟩
        have := setF (HF.out.drewN nq) j (by rw [partI_length]; exact cj) (rd (lenL ls) (j : Nat))
        rw [partI_set (fun i => rd (lenL ls) (i : Nat)) n j, HD.out] at this
        exact this
    · obtain rfl : j = n := by omega
      have cjb : decide ((j : Int) < j) = false := decide_eq_false (by omega)
      have HRF := HF.out
      rw [partI_full, map_range_rd (fun x => x) (lenL ls) j (by rw [lenL_length]; exact HLN.out), List.map_id'] at HRF
      go_wp2_with (fail)
      go_end0
      exact ⟨rfl, HRF, HG.out⟩
set_option maxHeartbeats 4000000 in
set_option maxRecDepth 100000 in
theorem leEncode_calls (p0 : Option Addr) (A : Option Addr) (N c : Nat) (B : Option Addr) (m mc k : Nat) (ls : List (List Int)) (w : World) (hC : (Kd.int .u8).C w A N (joinL ls)) (hc : N ≤ c) (hN : N ≤ 100000) (hO : (Kd.int .u32).C w B m (offsL ls m)) (hmc : m ≤ mc) (hm : m = k + 1) (hk : ls.length = k) (hk9 : k ≤ 100000) :
    Calls Try.prog 26 #[.pointer p0, .slice none 0 0, .slice A N c, .slice B m mc] w fun e w' => ∃ v X, e = .returned (.tuple #[v, .nilIface]) ∧ Own w' w.heap.size 5 .u8 v X ∧ ((∃ bs, NumStr (lenL ls) X (joinL ls) 128 4 32 bs) ∧ X.length ≤ 3000000) ∧ Below w.heap.size w w' := by
  have HLN : Aside0 ((joinL ls).length = N) := ⟨hC.1⟩
  have HC := Aside0.mk hC
  have HO := Aside0.mk hO
  have HKL := Aside0.mk hk
  have hS9 : sumLen ls ≤ 100000 := by rw [← joinL_length, hC.1]; exact hN
  have HS := Aside0.mk hS9
  have HBD : Aside0 (∀ x ∈ lenL ls, -2147483648 ≤ x ∧ x ≤ 2147483647) := ⟨fun x hx => by have := lenL_bd ls hS9 x hx; omega⟩
  have HLL : Aside0 ((lenL ls).length = k) := ⟨by rw [lenL_length]; exact hk⟩
  have HMK := Aside0.mk hm
  have hmi : (m : Int) - 1 = (k : Int) := by omega
  have hm0 : ((m : Int) == 0) = false := by simpa using (show (m : Int) ≠ 0 by omega)
  have hm00 : (m : Int) ≠ 0 := by omega
  obtain ⟨i8, h8⟩ := h8
  obtain ⟨cutz, _⟩ := cutHi (P := Try.prog) 23 5 Try.underlying23 h8.1 none 0 0 .i64 0 0 rfl (by omega) (by omega)
  clear hC hO hk hS9 hm
  go_enter_defers Try.func26, Try.ntmps26
  go_wp2_with (first
    | (go_at_call 41; go_loud (with_reducible refine (getBuf_calls _).mono ?_); rintro e w1 ⟨p, a, rfl, hn, hb⟩; have HN1 := Aside0.mk hn; have HB1 := Aside0.mk hb; clear hn hb)
    | (go_at_call 43; go_loud (with_reducible refine (bufResize_calls p a k w.heap.size _ HN1.out HB1.out.size hk9).mono ?_); rintro e w2 ⟨g, C, rfl, hblk, hkC, hC9, hF, hbg, hne, hg⟩; have HP2 := Aside0.mk hblk; have HF2 := Aside0.mk hF; have HB2 := Aside0.mk (belowGrown HB1.out hg HN1.out.bp); have xp2 := hblk.cell (j := 0) (v := .slice (some ⟨g, 0, none⟩) k C) rfl; have HNE := Aside0.mk hne; clear hblk hF hg hne)
    | (go_at_call 44; go_loud (with_reducible refine (encLens_calls g C k B m mc ls _ HF2.out hkC hC9 (readKeep_of HO.out HB2.out hbg) HMK.out hmc HKL.out hk9 HS.out).mono ?_); rintro e w3 ⟨rfl, hF, hg⟩; have HF3 := Aside0.mk hF; have HB3 := Aside0.mk (belowGrown HB2.out hg hbg); have HP3 := Aside0.mk (blkGrown HP2.out hg (Ne.symm HNE.out)); have xp3 := HP3.out.cell (j := 0) (v := .slice (some ⟨g, 0, none⟩) k C) rfl; clear hF hg)
    | (go_at_call 45; go_loud (with_reducible refine (encInt32_calls _ (some ⟨g, 0, none⟩) k C (lenL ls) (.slice none 0 0) [] _ (Own.nil _ _ _ _) (Below.refl _ _) (by have h := frontC0 HF3.out hC9; rw [HLL.out] at h; exact h) hkC hk9 (by simp) (wf32_of HBD.out)).mono ?_); rintro e w4 ⟨v1, bs, rfl, ho, hen, hb⟩; rw [List.nil_append] at ho; have HO4 := Aside0.mk ho; have HE4 := Aside0.mk hen; have HB4 := Aside0.mk hb; clear ho hen hb)
    | (at_builtin; go_loud (refine appendRead (w0 := w3) w3.heap.size rfl (.tmp 37) (.tmp 38) 23 5 .u8 1 rfl Try.underlying23 infoU8 (by decide) v1 _ A N c (joinL ls) rfl rfl HO4.out HB4.out ?hb (Kd.C_below HC.out (HB3.out.trans (HB4.out.mono HB3.out.size))) ?hl ?_); (case hb => exact HB4.out.size); (case hl => have h1 := hdL_le k (fstI (lenL ls)) (by omega) (by have := (fstI_bd HBD.out).1; omega) (by have := (fstI_bd HBD.out).2; omega); have h2 := HE4.out.len; rw [List.length_append]; omega); intro v5 w5 ho hb hg; have HO5 := Aside0.mk ho; have HB5 := Aside0.mk hb; clear ho hb hg))
  refine leaves_cons (f := 42) (args := #[.pointer (some ⟨p, 0, none⟩)]) (by simp) (by simp [go_sem]) ?_
  refine (putBuf_d _ _ _).mono ?_
  rintro e u' w'' ⟨rfl, rfl, rfl⟩
  refine ⟨_, results_tmp2 rfl _ _ _, _, _, rfl, Own.lower HO5.out HB3.out.size, ⟨⟨bs, numStr_of_enc HE4.out (by rw [HLL.out]) HBD.out⟩, by have h1 := hdL_le k (fstI (lenL ls)) (by omega) (by have := (fstI_bd HBD.out).1; omega) (by have := (fstI_bd HBD.out).2; omega); have h2 := HE4.out.len; rw [List.length_append, List.length_append, HLN.out]; omega⟩, HB3.out.trans (HB5.out.mono HB3.out.size)⟩
end Go.Proofs.Ytigmcdpjlkgocaa.Dle
