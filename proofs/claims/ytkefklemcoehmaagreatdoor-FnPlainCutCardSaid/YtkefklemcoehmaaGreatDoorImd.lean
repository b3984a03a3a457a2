import Derived.Test.YtkefklemcoehmaaGreatDoorPln
/-! Walks: whether texts are short enough; the thin package: plain whole numbers, bits, texts of one length (laid by a program of this session). -/
namespace Go.Proofs.YtkefklemcoehmaaGreatDoor.Imd
open Go.Proofs.YtkefklemcoehmaaGreatDoor.Pln Go.Proofs.YtkefklemcoehmaaGreatDoor.Wrd Go.Proofs.YtkefklemcoehmaaGreatDoor.Spl Go.Proofs.YtkefklemcoehmaaGreatDoor.Str Go.Proofs.YtkefklemcoehmaaGreatDoor.Flt Go.Proofs.YtkefklemcoehmaaGreatDoor.Owe Go.Proofs.YtkefklemcoehmaaGreatDoor.Num Go.Proofs.YtkefklemcoehmaaGreatDoor.Le Go.Proofs.YtkefklemcoehmaaGreatDoor.Lst Go.Proofs.YtkefklemcoehmaaGreatDoor.Aid Go.RowKit Go.Proofs.YtkefklemcoehmaaGreatDoorW.PrintWords Go.Proofs.YtkefklemcoehmaaGreatDoorW.PrintLast Go.Proofs.YtkefklemcoehmaaGreatDoorW.PrintMore
set_option linter.unusedVariables false
set_option linter.unusedSimpArgs false
theorem Own.lower {w : World} {base base' t : Nat} {k : IntKind} {v : Value} {xs : List Int} (h : Own w base t k v xs) (hb : base' ≤ base) : Own w base' t k v xs := by
  obtain ⟨h1, h2 | ⟨g, c, cur, e, hg, r⟩⟩ := h.out
  · exact ⟨⟨h1, .inl h2⟩⟩
  · exact ⟨⟨h1, .inr ⟨g, c, cur, e, Nat.le_trans hb hg, r⟩⟩⟩
/-! ### lists of lists -/
theorem at_list {t : Nat} {k : IntKind} {w : World} {A : Option Addr} {n : Nat} {ls : List (List Int)} (h : (Kd.slice t (Kd.int k)).C w A n ls) (i : Nat) (h1 : i < n) :
    ∃ ad A' c', A = some ad ∧ w.cell? (ad.add i) = some (.slice A' (ls.getD i []).length c') ∧ (ls.getD i []).length ≤ c' ∧ (Kd.int k).C w A' (ls.getD i []).length (ls.getD i []) := by
  obtain ⟨ad, cs, e, hl, hK, hc⟩ := Kd.C_get h [] (i : Int) (by omega) (by omega)
  rw [Int.toNat_natCast] at hK hc
  obtain ⟨A', c', rfl, hle, hC⟩ := hK
  refine ⟨ad, A', c', e, ?_, hle, hC⟩
  have := hc 0 _ rfl
  have e3 : i * (Kd.slice t (Kd.int k)).sz + 0 = i := Nat.mul_one i
  rw [e3] at this
  exact this
/-- one slice in a new box, as a list of one list -/
theorem boxC {W : World} {A : Option Addr} {n c : Nat} {k : IntKind} {l : List Int} (hC : (Kd.int k).C W A n l) (hc : n ≤ c) (t t' : Nat) :
    (Kd.slice t' (Kd.int k)).C (W.alloc (.cells #[.slice A n c] t)) (some ⟨W.heap.size, 0, none⟩) 1 [l] := by
  have hl : l.length = n := hC.1
  subst hl
  refine ⟨rfl, by omega, fun _ => ⟨_, rfl, fun j p hj => ?_⟩⟩
  have hj0 : j = 0 := by
    have := (List.getElem?_eq_some_iff.1 hj).1
    simp at this; exact this
  subst hj0
  have hp : l = p := by simpa using hj
  subst hp
  refine ⟨[.slice A l.length c], rfl, ⟨A, c, rfl, hc, Kd.C_alloc hC _⟩, fun i u hu => ?_⟩
  have hi : i = 0 := by
    have := (List.getElem?_eq_some_iff.1 hu).1
    simp at this; exact this
  subst hi
  have hu' : Value.slice A l.length c = u := by simpa using hu
  subst hu'
  show (W.alloc (.cells #[.slice A l.length c] t)).cell? ⟨W.heap.size, 0, none⟩ = _
  exact (Blk.new W #[.slice A l.length c] t).cell rfl
def sumLen (ls : List (List Int)) : Nat := (ls.map List.length).sum
theorem sumLen_take (ls : List (List Int)) (j : Nat) (hj : j < ls.length) : sumLen (ls.take (j + 1)) = sumLen (ls.take j) + (ls.getD j []).length := by
  unfold sumLen
  rw [List.take_succ_eq_append_getElem hj, List.map_append, List.sum_append]
  simp [List.getD_eq_getElem?_getD, List.getElem?_eq_getElem hj]
theorem sumLen_le (ls : List (List Int)) (j : Nat) : sumLen (ls.take j) ≤ sumLen ls := by
  unfold sumLen
  conv => rhs; rw [← List.take_append_drop j ls, List.map_append, List.sum_append]
  omega
def shortB (ls : List (List Int)) : Bool := decide (ls.length + sumLen ls ≤ 100000)
set_option maxHeartbeats 4000000 in
theorem short_calls (t : Nat) (A : Option Addr) (n c : Nat) (ls : List (List Int)) (w : World) (hC : (Kd.slice t (Kd.int .u8)).C w A n ls) (hc : n ≤ c) (hn : n ≤ 2147483647) (hm : ∀ j, j < n → (ls.getD j []).length ≤ 2147483647) :
    Calls Tryz.prog 5 #[.slice A n c] w fun e w' => e = .returned (.bool (shortB ls)) ∧ w = w' := by
  have HLN : Aside0 (ls.length = n) := ⟨hC.1⟩
  have HC := Aside0.mk hC
  have HM := Aside0.mk hm
  have HB : Aside0 (∀ b, (n + sumLen ls ≤ 100000 ↔ b = true) → shortB ls = b) := ⟨fun b h => by
    unfold shortB; rw [HLN.out]; cases b with
    | true => exact decide_eq_true (h.2 rfl)
    | false => exact decide_eq_false fun h2 => by cases h.1 h2⟩
  have HS := Aside0.mk (sumLen_le ls)
  clear hC hm
  go_enter Tryz.func5, Tryz.ntmps5
  go_wp2_with (fail)
  go_loopg [3, 5, 10] n (fun kq v3 v5 v10 w' => ∃ (j s : Nat), j ≤ n ∧ v10 = .int .i64 j ∧ v3 = .int .i64 s ∧ s ≤ 4294967296 ∧ Aside0 (s = n + sumLen (ls.take j)) ∧ Aside0 (0 < j → s ≤ 100000) ∧ w = w' ∧ Aside0 (n - j ≤ kq))
  case atStart => exact ⟨0, n, by omega, rfl, rfl, by omega, ⟨by simp [sumLen]⟩, ⟨by omega⟩, rfl, ⟨by omega⟩⟩
  case round =>
    obtain ⟨j, s, hj, rfl, rfl, hs, HQ, HP, rfl, HK⟩ := hrel
    by_cases cj : j < n
    · have cjb : decide ((j : Int) < n) = true := decide_eq_true (by omega)
      have cjn : decide (j < n) = true := decide_eq_true (by omega)
      obtain ⟨ad, A', c', ead, hcell, hle, _⟩ := at_list HC.out j cj
      have hml := HM.out j cj
      have HT := Aside0.mk (sumLen_take ls j (by rw [HLN.out]; exact cj))
      obtain ⟨m, hmq⟩ : ∃ m, (ls.getD j []).length = m := ⟨_, rfl⟩
      rw [hmq] at hcell hle hml HT
      have hs2 : s ≤ 2147483647 + 100000 := by
        rcases Nat.eq_zero_or_pos j with h0 | h0
        · subst h0; have := HQ.out; simp [sumLen] at this; omega
        · have := HP.out h0; omega
      subst ead
      clear hmq
      by_cases c1 : 100000 < m
      · have c1b : decide (100000 < (m : Int)) = true := decide_eq_true (by omega)
        go_wp2_with (fail)
        go_ret
        refine ⟨?_, rfl⟩
        rw [HB.out false ⟨fun h => by have := HS.out (j + 1); have := HT.out; omega, fun h => by cases h⟩]; rfl
      · have c1b : decide (100000 < (m : Int)) = false := decide_eq_false (by omega)
        by_cases c2 : 100000 < s + m
        · have c2b : decide (100000 < ((s : Int) + m)) = true := decide_eq_true (by omega)
          go_wp2_with (fail)
          go_ret
          refine ⟨?_, rfl⟩
          rw [HB.out false ⟨fun h => by have := HS.out (j + 1); have := HT.out; have := HQ.out; omega, fun h => by cases h⟩]; rfl
        · have c2b : decide (100000 < ((s : Int) + m)) = false := decide_eq_false (by omega)
          go_wp2_with (fail)
          go_roundg (gk - 1)
          case measure => have := HK.out; omega
          case rel => exact ⟨j + 1, s + m, by omega, by go_num, by go_num, by omega, ⟨by have := HT.out; have := HQ.out; omega⟩, ⟨fun _ => by omega⟩, rfl, ⟨by have := HK.out; omega⟩⟩
    · obtain rfl : j = n := by omega
      have cjb : decide ((j : Int) < j) = false := decide_eq_false (by omega)
      have HE : Aside0 (shortB ls = decide ((s : Int) ≤ 100000)) := ⟨HB.out _ (by rw [decide_eq_true_eq]; have := HQ.out; rw [← HLN.out, List.take_length, HLN.out] at this; omega)⟩
      go_wp2_with (fail)
      go_ret
      exact ⟨by rw [HE.out]; rfl, rfl⟩
end Go.Proofs.YtkefklemcoehmaaGreatDoor.Imd
