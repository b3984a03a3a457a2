import Derived.Test.YtkefklemcoehmaaDoorPln
/-! Walks: whether texts are short enough; the thin package: plain whole numbers, bits, texts of one length (laid by a program of this session). -/
namespace Go.Proofs.YtkefklemcoehmaaDoor.Imd
open Go.Proofs.YtkefklemcoehmaaDoor.Pln Go.Proofs.YtkefklemcoehmaaDoor.Wrd Go.Proofs.YtkefklemcoehmaaDoor.Spl Go.Proofs.YtkefklemcoehmaaDoor.Str Go.Proofs.YtkefklemcoehmaaDoor.Flt Go.Proofs.YtkefklemcoehmaaDoor.Owe Go.Proofs.YtkefklemcoehmaaDoor.Num Go.Proofs.YtkefklemcoehmaaDoor.Le Go.Proofs.YtkefklemcoehmaaDoor.Lst Go.Proofs.YtkefklemcoehmaaDoor.Aid Go.RowKit Go.Proofs.YtkefklemcoehmaaDoorW.PrintWords Go.Proofs.YtkefklemcoehmaaDoorW.PrintLast Go.Proofs.YtkefklemcoehmaaDoorW.PrintMore
set_option linter.unusedVariables false
set_option linter.unusedSimpArgs false
theorem Own.lower {w : World} {base base' t : Nat} {k : IntKind} {v : Value} {xs : List Int} (h : Own w base t k v xs) (hb : base' ≤ base) : Own w base' t k v xs := by
  obtain ⟨h1, h2 | ⟨g, c, cur, e, hg, r⟩⟩ := h.out
  · exact ⟨⟨h1, .inl h2⟩⟩
  · exact ⟨⟨h1, .inr ⟨g, c, cur, e, Nat.le_trans hb hg, r⟩⟩⟩
/-! ### lists of lists -/
theorem at_list {t : Nat} {k : IntKind} {w : World} {A : Option Addr} {n : Nat} {ls : List (List Int)} (h : (Kd.slice t (Kd.int k)).C w A n ls) (i : Nat) (h1 : i < n) :
    ∃ ad A' c', A = some ad ∧ w.cell? (ad.add i) = some (.slice A' (ls.getD i []).length c') ∧ (ls.getD i []).length ≤ c' ∧ (Kd.int k).C w A' (ls.getD i []).length (ls.getD i []) := by
  obtain ⟨ad, cs, e, hl, hK, hc⟩ := Kd.C_get h [] (i : Int) (by omega) (by omega)
  rw [Int.toNat_natCast] at hK hc
  obtain ⟨A', c', rfl, hle, hC⟩ := hK
  refine ⟨ad, A', c', e, ?_, hle, hC⟩
  have := hc 0 _ rfl
  have e3 : i * (Kd.slice t (Kd.int k)).sz + 0 = i := Nat.mul_one i
  rw [e3] at this
  exact this
/-- one slice in a new box, as a list of one list -/
theorem boxC {W : World} {A : Option Addr} {n c : Nat} {k : IntKind} {l : List Int} (hC : (Kd.int k).C W A n l) (hc : n ≤ c) (t t' : Nat) :
    (Kd.slice t' (Kd.int k)).C (W.alloc (.cells #[.slice A n c] t)) (some ⟨W.heap.size, 0, none⟩) 1 [l] := by
  have hl : l.length = n := hC.1
  subst hl
  refine ⟨rfl, by omega, fun _ => ⟨_, rfl, fun j p hj => ?_⟩⟩
  have hj0 : j = 0 := by
    have := (List.getElem?_eq_some_iff.1 hj).1
    simp at this; exact this
  subst hj0
  have hp : l = p := by simpa using hj
  subst hp
  refine ⟨[.slice A l.length c], rfl, ⟨A, c, rfl, hc, Kd.C_alloc hC _⟩, fun i u hu => ?_⟩
  have hi : i = 0 := by
    have := (List.getElem?_eq_some_iff.1 hu).1
    simp at this; exact this
  subst hi
  have hu' : Value.slice A l.length c = u := by simpa using hu
  subst hu'
  show (W.alloc (.cells #[.slice A l.length c] t)).cell? ⟨W.heap.size, 0, none⟩ = _
  exact (Blk.new W #[.slice A l.length c] t).cell rfl
def sumLen (ls : List (List Int)) : Nat := (ls.map List.length).sum
theorem sumLen_take (ls : List (List Int)) (j : Nat) (hj : j < ls.length) : sumLen (ls.take (j + 1)) = sumLen (ls.take j) + (ls.getD j []).length := by
  unfold sumLen
  rw [List.take_succ_eq_append_getElem hj, List.map_append, List.sum_append]
  simp [List.getD_eq_getElem?_getD, List.getElem?_eq_getElem hj]
theorem sumLen_le (ls : List (List Int)) (j : Nat) : sumLen (ls.take j) ≤ sumLen ls := by
  unfold sumLen
  conv => rhs; rw [← List.take_append_drop j ls, List.map_append, List.sum_append]
  omega
def shortB (ls : List (List Int)) : Bool := decide (ls.length + sumLen ls ≤ 100000)
set_option maxHeartbeats 4000000 in
theorem short_calls (t : Nat) (A : Option Addr) (n c : Nat) (ls : List (List Int)) (w : World) (hC : (Kd.slice t (Kd.int .u8)).C w A n ls) (hc : n ≤ c) (hn : n ≤ 2147483647) (hm : ∀ j, j < n → (ls.getD j []).length ≤ 2147483647) :
    Calls Tryd.prog 8 #[.slice A n c] w fun e w' => e = .returned (.bool (shortB ls)) ∧ w = w' := by
  have HLN : Aside0 (ls.length = n) := ⟨hC.1⟩
  have HC := Aside0.mk hC
  have HM := Aside0.mk hm
  have HB : Aside0 (∀ b, (n + sumLen ls ≤ 100000 ↔ b = true) → shortB ls = b) := ⟨fun b h => by
    unfold shortB; rw [HLN.out]; cases b with
    | true => exact decide_eq_true (h.2 rfl)
    | false => exact decide_eq_false fun h2 => by cases h.1 h2⟩
  have HS := Aside0.mk (sumLen_le ls)
  clear hC hm
  go_enter Tryd.func8, Tryd.ntmps8
  go_wp2_with (fail)
  go_loopg [3, 5, 10] n (fun kq v3 v5 v10 w' => ∃ (j s : Nat), j ≤ n ∧ v10 = .int .i64 j ∧ v3 = .int .i64 s ∧ s ≤ 4294967296 ∧ Aside0 (s = n + sumLen (ls.take j)) ∧ Aside0 (0 < j → s ≤ 100000) ∧ w = w' ∧ Aside0 (n - j ≤ kq))
  case atStart => exact ⟨0, n, by omega, rfl, rfl, by omega, ⟨by simp [sumLen]⟩, ⟨by omega⟩, rfl, ⟨by omega⟩⟩
  case round =>
    obtain ⟨j, s, hj, rfl, rfl, hs, HQ, HP, rfl, HK⟩ := hrel
    by_cases cj : j < n
    · have cjb : decide ((j : Int) < n) = true := decide_eq_true (by omega)
      have cjn : decide (j < n) = true := decide_eq_true (by omega)
      obtain ⟨ad, A', c', ead, hcell, hle, _⟩ := at_list HC.out j cj
      have hml := HM.out j cj
      have HT := Aside0.mk (sumLen_take ls j (by rw [HLN.out]; exact cj))
      obtain ⟨m, hmq⟩ : ∃ m, (ls.getD j []).length = m := ⟨_, rfl⟩
      rw [hmq] at hcell hle hml HT
      have hs2 : s ≤ 2147483647 + 100000 := by
        rcases Nat.eq_zero_or_pos j with h0 | h0
        · subst h0; have := HQ.out; simp [sumLen] at this; omega
        · have := HP.out h0; omega
      subst ead
      clear hmq
      by_cases c1 : 100000 < m
      · have c1b : decide (100000 < (m : Int)) = true := decide_eq_true (by omega)
        go_wp2_with (fail)
        go_ret
        refine ⟨?_, rfl⟩
        rw [HB.out false ⟨fun h => by have := HS.out (j + 1); have := HT.out; omega, fun h => by cases h⟩]; rfl
      · have c1b : decide (100000 < (m : Int)) = false := decide_eq_false (by omega)
        by_cases c2 : 100000 < s + m
        · have c2b : decide (100000 < ((s : Int) + m)) = true := decide_eq_true (by omega)
          go_wp2_with (fail)
          go_ret
          refine ⟨?_, rfl⟩
          rw [HB.out false ⟨fun h => by have := HS.out (j + 1); have := HT.out; have := HQ.out; omega, fun h => by cases h⟩]; rfl
        · have c2b : decide (100000 < ((s : Int) + m)) = false := decide_eq_false (by omega)
          go_wp2_with (fail)
          go_roundg (gk - 1)
          case measure => have := HK.out; omega
          case rel => exact ⟨j + 1, s + m, by omega, by go_num, by go_num, by omega, ⟨by have := HT.out; have := HQ.out; omega⟩, ⟨fun _ => by omega⟩, rfl, ⟨by have := HK.out; omega⟩⟩
    · obtain rfl : j = n := by omega
      have cjb : decide ((j : Int) < j) = false := decide_eq_false (by omega)
      have HE : Aside0 (shortB ls = decide ((s : Int) ≤ 100000)) := ⟨HB.out _ (by rw [decide_eq_true_eq]; have := HQ.out; rw [← HLN.out, List.take_length, HLN.out] at this; omega)⟩
      go_wp2_with (fail)
      go_ret
      exact ⟨by rw [HE.out]; rfl, rfl⟩
set_option maxHeartbeats 4000000 in
theorem plEncodeBoolean_calls (p : Option Addr) (A : Option Addr) (n c : Nat) (l : List Int) (w : World) (hC : (Kd.int .u8).C w A n l) (hc : n ≤ c) (hn : n ≤ 1000000) :
    Calls Tryd.prog 29 #[.pointer p, .slice none 0 0, .slice A n c] w fun e w' => ∃ v, e = .returned (.tuple #[v, .nilIface]) ∧ Own w' w.heap.size 5 .u8 v l ∧ Below w.heap.size w w' := by
  have HC := Aside0.mk hC
  obtain ⟨i8, h8⟩ := h8
  obtain ⟨cutz, _⟩ := cutHi (P := Tryd.prog) 22 5 Tryd.underlying22 h8.1 none 0 0 .i64 0 0 rfl (by omega) (by omega)
  have HE : Aside0 (Own w w.heap.size 5 .u8 (.slice none 0 0) []) := ⟨Own.nil _ _ _ _⟩
  clear hC
  go_enter Tryd.func29, Tryd.ntmps29
  go_wp2_with (first
    | (at_builtin; refine appendRead (w0 := w) w.heap.size rfl (.tmp 9) (.tmp 10) 22 5 .u8 1 rfl Tryd.underlying22 infoU8 (by decide) _ [] A n c l rfl rfl HE.out (Below.refl _ _) (Nat.le_refl _) HC.out ?hl ?_; (case hl => simp; omega); intro v1 w1 ho hb hg; rw [List.nil_append] at ho; have HO1 := Aside0.mk ho; have HB1 := Aside0.mk hb; clear ho hb hg))
  go_ret2
  exact ⟨v1, rfl, HO1.out, HB1.out⟩
set_option maxHeartbeats 4000000 in
theorem encodeBitsPlain_calls (A : Option Addr) (n c : Nat) (l : List Int) (w : World) (hC : (Kd.int .u8).C w A n l) (hc : n ≤ c) (hn : n ≤ 1000000) :
    Calls Tryd.prog 9 #[.string ⟨#[112, 108, 97, 105, 110]⟩, .slice A n c] w fun e w' => ∃ v, e = .returned (.tuple #[v, .bool true]) ∧ Own w' w.heap.size 5 .u8 v l ∧ Below w.heap.size w w' := by
  have HLN : Aside0 (l.length = n) := ⟨hC.1⟩
  have HC2 : Aside0 ((Kd.int .u8).C ((w.alloc (.cells #[] 60)).alloc (.cells #[] 5)) A n l) := ⟨Kd.C_alloc (Kd.C_alloc hC _) _⟩
  have HE : Aside0 (Own ((w.alloc (.cells #[] 60)).alloc (.cells #[] 5)) w.heap.size 5 .u8 (.slice (some ⟨(w.alloc (.cells #[] 60)).heap.size, 0, none⟩) 0 0) []) := ⟨Own.empty (w.alloc (.cells #[] 60)) w.heap.size 5 .u8 (by simp)⟩
  have HEB : Aside0 (Below w.heap.size w ((w.alloc (.cells #[] 60)).alloc (.cells #[] 5))) := ⟨((Below.refl _ _).alloc (Nat.le_refl _) _).alloc (by simp) _⟩
  have es : (w.alloc (.cells #[] 60)).heap.size = w.heap.size + 1 := by simp
  rw [es] at HE
  clear hC es
  go_enter Tryd.func9, Tryd.ntmps9
  go_wp2_with (first
    | (at_builtin; refine appendRead (w0 := w) w.heap.size rfl (.tmp 14) (.tmp 15) 22 5 .u8 1 rfl Tryd.underlying22 infoU8 (by decide) _ [] A n c l rfl rfl HE.out HEB.out ?hb HC2.out ?hl ?_; (case hb => exact HEB.out.size); (case hl => simp; omega); intro v1 w1 ho hb hg; rw [List.nil_append] at ho; obtain ⟨A1, c1, rfl, hc1, hr1⟩ := ho.read; rw [HLN.out] at hc1 hr1; rw [HLN.out]; have HR1 := Aside0.mk hr1; have HB1 := Aside0.mk hb; clear ho hb hg hr1)
    | (go_at_call 29; (with_reducible refine (plEncodeBoolean_calls _ A1 n c1 l w1 HR1.out hc1 hn).mono ?_); rintro e w2 ⟨v2, rfl, ho, hb⟩; have HB2 := Aside0.mk (HB1.out.trans (hb.mono HB1.out.size)); have HO2 := Aside0.mk (Own.lower ho HB1.out.size); clear ho hb)
    | go_quiet (fail))
  go_ret2
  exact ⟨v2, rfl, HO2.out.drewN _, HB2.out.trans ((drewN_below _ _).mono HB2.out.size)⟩
set_option maxHeartbeats 4000000 in
theorem plDecodeBoolean_calls (p : Option Addr) (A : Option Addr) (n c : Nat) (l : List Int) (w : World) (hC : (Kd.int .u8).C w A n l) (hc : n ≤ c) (hn : n ≤ 1000000) :
    Calls Tryd.prog 31 #[.pointer p, .slice none 0 0, .slice A n c] w fun e w' => ∃ v, e = .returned (.tuple #[v, .nilIface]) ∧ Own w' w.heap.size 5 .u8 v l ∧ Below w.heap.size w w' := by
  have HC := Aside0.mk hC
  obtain ⟨i8, h8⟩ := h8
  obtain ⟨cutz, _⟩ := cutHi (P := Tryd.prog) 22 5 Tryd.underlying22 h8.1 none 0 0 .i64 0 0 rfl (by omega) (by omega)
  have HE : Aside0 (Own w w.heap.size 5 .u8 (.slice none 0 0) []) := ⟨Own.nil _ _ _ _⟩
  clear hC
  go_enter Tryd.func31, Tryd.ntmps31
  go_wp2_with (first
    | (at_builtin; refine appendRead (w0 := w) w.heap.size rfl (.tmp 9) (.tmp 10) 22 5 .u8 1 rfl Tryd.underlying22 infoU8 (by decide) _ [] A n c l rfl rfl HE.out (Below.refl _ _) (Nat.le_refl _) HC.out ?hl ?_; (case hl => simp; omega); intro v1 w1 ho hb hg; rw [List.nil_append] at ho; have HO1 := Aside0.mk ho; have HB1 := Aside0.mk hb; clear ho hb hg))
  go_ret2
  exact ⟨v1, rfl, HO1.out, HB1.out⟩
set_option maxHeartbeats 4000000 in
theorem decodeBitsPlain_calls (A : Option Addr) (n c : Nat) (l : List Int) (w : World) (hC : (Kd.int .u8).C w A n l) (hc : n ≤ c) (hn : n ≤ 1000000) :
    Calls Tryd.prog 10 #[.string ⟨#[112, 108, 97, 105, 110]⟩, .slice A n c] w fun e w' => ∃ v, e = .returned (.tuple #[v, .bool true]) ∧ Own w' w.heap.size 5 .u8 v l ∧ Below w.heap.size w w' := by
  have HLN : Aside0 (l.length = n) := ⟨hC.1⟩
  have HC2 : Aside0 ((Kd.int .u8).C ((w.alloc (.cells #[] 60)).alloc (.cells #[] 5)) A n l) := ⟨Kd.C_alloc (Kd.C_alloc hC _) _⟩
  have HE : Aside0 (Own ((w.alloc (.cells #[] 60)).alloc (.cells #[] 5)) w.heap.size 5 .u8 (.slice (some ⟨(w.alloc (.cells #[] 60)).heap.size, 0, none⟩) 0 0) []) := ⟨Own.empty (w.alloc (.cells #[] 60)) w.heap.size 5 .u8 (by simp)⟩
  have HEB : Aside0 (Below w.heap.size w ((w.alloc (.cells #[] 60)).alloc (.cells #[] 5))) := ⟨((Below.refl _ _).alloc (Nat.le_refl _) _).alloc (by simp) _⟩
  have es : (w.alloc (.cells #[] 60)).heap.size = w.heap.size + 1 := by simp
  rw [es] at HE
  clear hC es
  go_enter Tryd.func10, Tryd.ntmps10
  go_wp2_with (first
    | (at_builtin; refine appendRead (w0 := w) w.heap.size rfl (.tmp 14) (.tmp 15) 22 5 .u8 1 rfl Tryd.underlying22 infoU8 (by decide) _ [] A n c l rfl rfl HE.out HEB.out ?hb HC2.out ?hl ?_; (case hb => exact HEB.out.size); (case hl => simp; omega); intro v1 w1 ho hb hg; rw [List.nil_append] at ho; obtain ⟨A1, c1, rfl, hc1, hr1⟩ := ho.read; rw [HLN.out] at hc1 hr1; rw [HLN.out]; have HR1 := Aside0.mk hr1; have HB1 := Aside0.mk hb; clear ho hb hg hr1)
    | (go_at_call 31; (with_reducible refine (plDecodeBoolean_calls _ A1 n c1 l w1 HR1.out hc1 hn).mono ?_); rintro e w2 ⟨v2, rfl, ho, hb⟩; have HB2 := Aside0.mk (HB1.out.trans (hb.mono HB1.out.size)); have HO2 := Aside0.mk (Own.lower ho HB1.out.size); clear ho hb)
    | go_quiet (fail))
  go_ret2
  exact ⟨v2, rfl, HO2.out.drewN _, HB2.out.trans ((drewN_below _ _).mono HB2.out.size)⟩
set_option maxHeartbeats 4000000 in
theorem plEncodeFixed_calls (p : Option Addr) (A : Option Addr) (n c : Nat) (l : List Int) (s : Int) (w : World) (hC : (Kd.int .u8).C w A n l) (hc : n ≤ c) (hn : n ≤ 1000000) (hs0 : 0 < s) (hs1 : s ≤ 100) (hr : (n : Int) % s = 0) :
    Calls Tryd.prog 40 #[.pointer p, .slice none 0 0, .slice A n c, .int .i64 s] w fun e w' => ∃ v, e = .returned (.tuple #[v, .nilIface]) ∧ Own w' w.heap.size 5 .u8 v l ∧ Below w.heap.size w w' := by
  have HC := Aside0.mk hC
  obtain ⟨i8, h8⟩ := h8
  obtain ⟨cutz, _⟩ := cutHi (P := Tryd.prog) 22 5 Tryd.underlying22 h8.1 none 0 0 .i64 0 0 rfl (by omega) (by omega)
  have HE : Aside0 (Own w w.heap.size 5 .u8 (.slice none 0 0) []) := ⟨Own.nil _ _ _ _⟩
  have q1 : decide (s < 0) = false := decide_eq_false (by omega)
  have q2 : decide (32767 < s) = false := decide_eq_false (by omega)
  have q3 : (s == 0) = false := by simpa using (show s ≠ 0 by omega)
  have q4 : ¬ s = 0 := by omega
  have hrt : (n : Int).tmod s = 0 := by rw [Int.tmod_eq_emod_of_nonneg (by omega)]; exact hr
  clear hC
  go_enter Tryd.func40, Tryd.ntmps40
  go_wp2_with (first
    | (at_builtin; refine appendRead (w0 := w) w.heap.size rfl (.tmp 20) (.tmp 21) 22 5 .u8 1 rfl Tryd.underlying22 infoU8 (by decide) _ [] A n c l rfl rfl HE.out (Below.refl _ _) (Nat.le_refl _) HC.out ?hl ?_; (case hl => simp; omega); intro v1 w1 ho hb hg; rw [List.nil_append] at ho; have HO1 := Aside0.mk ho; have HB1 := Aside0.mk hb; clear ho hb hg))
  go_ret2
  exact ⟨v1, rfl, HO1.out, HB1.out⟩
set_option maxHeartbeats 4000000 in
theorem encodeFixedPlain_calls (A : Option Addr) (n c : Nat) (l : List Int) (s : Int) (w : World) (hC : (Kd.int .u8).C w A n l) (hc : n ≤ c) (hn : n ≤ 1000000) (hs0 : 0 < s) (hs1 : s ≤ 100) (hr : (n : Int) % s = 0) :
    Calls Tryd.prog 18 #[.string ⟨#[112, 108, 97, 105, 110]⟩, .int .i64 s, .slice A n c] w fun e w' => ∃ v, e = .returned (.tuple #[v, .bool true]) ∧ Own w' w.heap.size 5 .u8 v l ∧ Below w.heap.size w w' := by
  have HLN : Aside0 (l.length = n) := ⟨hC.1⟩
  have HC2 : Aside0 ((Kd.int .u8).C (w.alloc (.cells #[] 5)) A n l) := ⟨Kd.C_alloc hC _⟩
  have HE := Aside0.mk (Own.empty w w.heap.size 5 .u8 (Nat.le_refl _))
  have HEB : Aside0 (Below w.heap.size w (w.alloc (.cells #[] 5))) := ⟨(Below.refl _ _).alloc (Nat.le_refl _) _⟩
  have HR := Aside0.mk hr
  clear hC hr
  go_enter Tryd.func18, Tryd.ntmps18
  go_wp2_with (first
    | (at_builtin; refine appendRead (w0 := w) w.heap.size rfl (.tmp 11) (.tmp 12) 22 5 .u8 1 rfl Tryd.underlying22 infoU8 (by decide) _ [] A n c l rfl rfl HE.out HEB.out ?hb HC2.out ?hl ?_; (case hb => exact HEB.out.size); (case hl => simp; omega); intro v1 w1 ho hb hg; rw [List.nil_append] at ho; obtain ⟨A1, c1, rfl, hc1, hr1⟩ := ho.read; rw [HLN.out] at hc1 hr1; rw [HLN.out]; have HR1 := Aside0.mk hr1; have HB1 := Aside0.mk hb; have HBA : Aside0 (Below w.heap.size w (w1.alloc (.cells #[] 60))) := ⟨hb.alloc hb.size _⟩; clear ho hb hg hr1)
    | (go_at_call 40; (with_reducible refine (plEncodeFixed_calls _ A1 n c1 l s _ (Kd.C_alloc HR1.out _) hc1 hn hs0 hs1 HR.out).mono ?_); rintro e w2 ⟨v2, rfl, ho, hb⟩; have HB2 := Aside0.mk (HBA.out.trans (hb.mono HBA.out.size)); have HO2 := Aside0.mk (Own.lower ho HBA.out.size); clear ho hb)
    | go_quiet (fail))
  go_ret2
  exact ⟨v2, rfl, HO2.out.drewN _, HB2.out.trans ((drewN_below _ _).mono HB2.out.size)⟩
set_option maxHeartbeats 4000000 in
theorem plDecodeFixed_calls (p : Option Addr) (A : Option Addr) (n c : Nat) (l : List Int) (s : Int) (w : World) (hC : (Kd.int .u8).C w A n l) (hc : n ≤ c) (hn : n ≤ 1000000) (hs0 : 0 < s) (hs1 : s ≤ 100) (hr : (n : Int) % s = 0) :
    Calls Tryd.prog 43 #[.pointer p, .slice none 0 0, .slice A n c, .int .i64 s] w fun e w' => ∃ v, e = .returned (.tuple #[v, .nilIface]) ∧ Own w' w.heap.size 5 .u8 v l ∧ Below w.heap.size w w' := by
  have HC := Aside0.mk hC
  obtain ⟨i8, h8⟩ := h8
  obtain ⟨cutz, _⟩ := cutHi (P := Tryd.prog) 22 5 Tryd.underlying22 h8.1 none 0 0 .i64 0 0 rfl (by omega) (by omega)
  have HE : Aside0 (Own w w.heap.size 5 .u8 (.slice none 0 0) []) := ⟨Own.nil _ _ _ _⟩
  have q1 : decide (s < 0) = false := decide_eq_false (by omega)
  have q2 : decide (32767 < s) = false := decide_eq_false (by omega)
  have q3 : (s == 0) = false := by simpa using (show s ≠ 0 by omega)
  have q4 : ¬ s = 0 := by omega
  have hrt : (n : Int).tmod s = 0 := by rw [Int.tmod_eq_emod_of_nonneg (by omega)]; exact hr
  clear hC
  go_enter Tryd.func43, Tryd.ntmps43
  go_wp2_with (first
    | (at_builtin; refine appendRead (w0 := w) w.heap.size rfl (.tmp 26) (.tmp 27) 22 5 .u8 1 rfl Tryd.underlying22 infoU8 (by decide) _ [] A n c l rfl rfl HE.out (Below.refl _ _) (Nat.le_refl _) HC.out ?hl ?_; (case hl => simp; omega); intro v1 w1 ho hb hg; rw [List.nil_append] at ho; have HO1 := Aside0.mk ho; have HB1 := Aside0.mk hb; clear ho hb hg))
  go_ret2
  exact ⟨v1, rfl, HO1.out, HB1.out⟩
set_option maxHeartbeats 4000000 in
theorem decodeFixedPlain_calls (A : Option Addr) (n c : Nat) (l : List Int) (s : Int) (w : World) (hC : (Kd.int .u8).C w A n l) (hc : n ≤ c) (hn : n ≤ 1000000) (hs0 : 0 < s) (hs1 : s ≤ 100) (hr : (n : Int) % s = 0) :
    Calls Tryd.prog 19 #[.string ⟨#[112, 108, 97, 105, 110]⟩, .int .i64 s, .slice A n c] w fun e w' => ∃ v, e = .returned (.tuple #[v, .bool true]) ∧ Own w' w.heap.size 5 .u8 v l ∧ Below w.heap.size w w' := by
  have HLN : Aside0 (l.length = n) := ⟨hC.1⟩
  have HC2 : Aside0 ((Kd.int .u8).C (w.alloc (.cells #[] 5)) A n l) := ⟨Kd.C_alloc hC _⟩
  have HE := Aside0.mk (Own.empty w w.heap.size 5 .u8 (Nat.le_refl _))
  have HEB : Aside0 (Below w.heap.size w (w.alloc (.cells #[] 5))) := ⟨(Below.refl _ _).alloc (Nat.le_refl _) _⟩
  have HR := Aside0.mk hr
  clear hC hr
  go_enter Tryd.func19, Tryd.ntmps19
  go_wp2_with (first
    | (at_builtin; refine appendRead (w0 := w) w.heap.size rfl (.tmp 11) (.tmp 12) 22 5 .u8 1 rfl Tryd.underlying22 infoU8 (by decide) _ [] A n c l rfl rfl HE.out HEB.out ?hb HC2.out ?hl ?_; (case hb => exact HEB.out.size); (case hl => simp; omega); intro v1 w1 ho hb hg; rw [List.nil_append] at ho; obtain ⟨A1, c1, rfl, hc1, hr1⟩ := ho.read; rw [HLN.out] at hc1 hr1; rw [HLN.out]; have HR1 := Aside0.mk hr1; have HB1 := Aside0.mk hb; have HBA : Aside0 (Below w.heap.size w (w1.alloc (.cells #[] 60))) := ⟨hb.alloc hb.size _⟩; clear ho hb hg hr1)
    | (go_at_call 43; (with_reducible refine (plDecodeFixed_calls _ A1 n c1 l s _ (Kd.C_alloc HR1.out _) hc1 hn hs0 hs1 HR.out).mono ?_); rintro e w2 ⟨v2, rfl, ho, hb⟩; have HB2 := Aside0.mk (HBA.out.trans (hb.mono HBA.out.size)); have HO2 := Aside0.mk (Own.lower ho HBA.out.size); clear ho hb)
    | go_quiet (fail))
  go_ret2
  exact ⟨v2, rfl, HO2.out.drewN _, HB2.out.trans ((drewN_below _ _).mono HB2.out.size)⟩
def dw32 (bs : List Int) (n : Nat) : List Int := (List.range n).map (fun i => IntKind.i32.wrap (wd4 bs i))
theorem dw32_length (bs : List Int) (n : Nat) : (dw32 bs n).length = n := by simp [dw32]
set_option maxHeartbeats 4000000 in
theorem encodeInt32sPlain_calls (A : Option Addr) (n c : Nat) (l : List Int) (w : World) (hC : (Kd.int .i32).C w A n l) (hc : n ≤ c) (hn : n ≤ 100000) (hwf : ∀ x ∈ l, (Lit.int .i32 x).wf = true) :
    Calls Tryd.prog 26 #[.string ⟨#[112, 108, 97, 105, 110]⟩, .int .i64 0, .slice A n c] w fun e w' => ∃ v, e = .returned (.tuple #[v, .bool true]) ∧ Own w' w.heap.size 5 .u8 v (enLowL 4 (wideL 32 l)) ∧ Below w.heap.size w w' := by
  have HLN : Aside0 (l.length = n) := ⟨hC.1⟩
  have HC2 : Aside0 ((Kd.int .i32).C (w.alloc (.cells #[] 21)) A n l) := ⟨Kd.C_alloc hC _⟩
  have HE := Aside0.mk (Own.empty w w.heap.size 21 .i32 (Nat.le_refl _))
  have HEB : Aside0 (Below w.heap.size w (w.alloc (.cells #[] 21))) := ⟨(Below.refl _ _).alloc (Nat.le_refl _) _⟩
  have HWF := Aside0.mk hwf
  clear hC hwf
  go_enter Tryd.func26, Tryd.ntmps26
  go_wp2_with (first
    | (at_builtin; refine appendRead (w0 := w) w.heap.size rfl (.tmp 11) (.tmp 12) 48 21 .i32 4 rfl Tryd.underlying48 infoI32' (by decide) _ [] A n c l rfl rfl HE.out HEB.out ?hb HC2.out ?hl ?_; (case hb => exact HEB.out.size); (case hl => simp; omega); intro v1 w1 ho hb hg; rw [List.nil_append] at ho; obtain ⟨A1, c1, rfl, hc1, hr1⟩ := ho.read; rw [HLN.out] at hc1 hr1; rw [HLN.out]; have HR1 := Aside0.mk hr1; have HB1 := Aside0.mk hb; have HBA : Aside0 (Below w.heap.size w (w1.alloc (.cells #[] 60))) := ⟨hb.alloc hb.size _⟩; clear ho hb hg hr1)
    | (go_at_call 52; (with_reducible refine (plEncodeInt32_calls _ A1 n c1 l _ (Kd.C_alloc HR1.out _) hc1 hn HWF.out).mono ?_); rintro e w2 ⟨v2, rfl, ho, hb⟩; have HB2 := Aside0.mk (HBA.out.trans (hb.mono HBA.out.size)); have HO2 := Aside0.mk (Own.lower ho HBA.out.size); clear ho hb)
    | go_quiet (fail))
  go_ret2
  exact ⟨v2, rfl, HO2.out.drewN _, HB2.out.trans ((drewN_below _ _).mono HB2.out.size)⟩
theorem plDecodeInt32_dw (p : Option Addr) (A : Option Addr) (N c n : Nat) (bs : List Int) (w : World) (hC : (Kd.int .u8).C w A N bs) (hc : N ≤ c) (hN : N = 4 * n) (hn : n ≤ 100000) (hb : bytesB bs = true) :
    Calls Tryd.prog 58 #[.pointer p, .slice none 0 0, .slice A N c] w fun e w' => ∃ v, e = .returned (.tuple #[v, .nilIface]) ∧ Own w' w.heap.size 21 .i32 v (dw32 bs n) ∧ Below w.heap.size w w' :=
  plDecodeInt32_calls p A N c n bs w hC hc hN hn hb
set_option maxHeartbeats 4000000 in
theorem decodeInt32sPlain_calls (A : Option Addr) (N c n : Nat) (bs : List Int) (w : World) (hC : (Kd.int .u8).C w A N bs) (hc : N ≤ c) (hN : N = 4 * n) (hn : n ≤ 100000) (hb : bytesB bs = true) :
    Calls Tryd.prog 27 #[.string ⟨#[112, 108, 97, 105, 110]⟩, .int .i64 0, .slice A N c] w fun e w' => ∃ v, e = .returned (.tuple #[v, .bool true]) ∧ Own w' w.heap.size 21 .i32 v (dw32 bs n) ∧ Below w.heap.size w w' := by
  have HLN : Aside0 (bs.length = N) := ⟨hC.1⟩
  have HC2 : Aside0 ((Kd.int .u8).C (w.alloc (.cells #[] 5)) A N bs) := ⟨Kd.C_alloc hC _⟩
  have HE := Aside0.mk (Own.empty w w.heap.size 5 .u8 (Nat.le_refl _))
  have HEB : Aside0 (Below w.heap.size w (w.alloc (.cells #[] 5))) := ⟨(Below.refl _ _).alloc (Nat.le_refl _) _⟩
  have HN := Aside0.mk hN
  have HBY := Aside0.mk hb
  have hN2 : N ≤ 800000 := by omega
  clear hC hb hN
  go_enter Tryd.func27, Tryd.ntmps27
  go_wp2_with (first
    | (at_builtin; refine appendRead (w0 := w) w.heap.size rfl (.tmp 11) (.tmp 12) 22 5 .u8 1 rfl Tryd.underlying22 infoU8 (by decide) _ [] A N c bs rfl rfl HE.out HEB.out ?hb HC2.out ?hl ?_; (case hb => exact HEB.out.size); (case hl => simp; omega); intro v1 w1 ho hb hg; rw [List.nil_append] at ho; obtain ⟨A1, c1, rfl, hc1, hr1⟩ := ho.read; rw [HLN.out] at hc1 hr1; rw [HLN.out]; have HR1 := Aside0.mk hr1; have HB1 := Aside0.mk hb; have HBA : Aside0 (Below w.heap.size w (w1.alloc (.cells #[] 60))) := ⟨hb.alloc hb.size _⟩; clear ho hb hg hr1)
    | (go_at_call 58; (with_reducible refine (plDecodeInt32_dw _ A1 N c1 n bs _ (Kd.C_alloc HR1.out _) hc1 HN.out hn HBY.out).mono ?_); rintro e w2 ⟨v2, rfl, ho, hb⟩; have HB2 := Aside0.mk (HBA.out.trans (hb.mono HBA.out.size)); have HO2 := Aside0.mk (Own.lower ho HBA.out.size); clear ho hb)
    | go_quiet (fail))
  go_ret2
  exact ⟨v2, rfl, HO2.out.drewN _, HB2.out.trans ((drewN_below _ _).mono HB2.out.size)⟩
theorem dw32_enLow (l : List Int) (n : Nat) (hn : l.length = n) (hwf : ∀ x ∈ l, (Lit.int .i32 x).wf = true) : dw32 (enLowL 4 (wideL 32 l)) n = l := by
  have hu : u32L (wideL 32 l) := by
    intro x hx; simp only [wideL, List.mem_map] at hx; obtain ⟨y, _, rfl⟩ := hx; simp only [wideI]; unfold u32B; omega
  have hl : (wideL 32 l).length = n := by rw [← hn]; exact List.length_map _
  apply List.ext_getElem
  · rw [dw32_length, hn]
  · intro i h1 h2
    have hw := hwf _ (List.getElem_mem h2)
    have hb := wf_bd hw
    have e1 : IntKind.i32.min = -2147483648 := by decide +kernel
    have e2 : IntKind.i32.max = 2147483647 := by decide +kernel
    rw [e1, e2] at hb
    simp only [dw32, List.getElem_map, List.getElem_range]
    rw [wd4_enLow _ i hu (by omega)]
    show IntKind.i32.wrap (rd (l.map (wideI 32)) (i : Nat)) = _
    rw [rd_map _ _ _ h2, rd_nat _ _ h2, IntKind.wrap_i32]
    simp only [wideI, wrap32]
    omega
def dw64 (bs : List Int) (n : Nat) : List Int := (List.range n).map (fun i => IntKind.i64.wrap (wd8 bs i))
theorem dw64_length (bs : List Int) (n : Nat) : (dw64 bs n).length = n := by simp [dw64]
set_option maxHeartbeats 4000000 in
theorem encodeInt64sPlain_calls (A : Option Addr) (n c : Nat) (l : List Int) (w : World) (hC : (Kd.int .i64).C w A n l) (hc : n ≤ c) (hn : n ≤ 100000) (hwf : ∀ x ∈ l, (Lit.int .i64 x).wf = true) :
    Calls Tryd.prog 14 #[.string ⟨#[112, 108, 97, 105, 110]⟩, .slice A n c] w fun e w' => ∃ v, e = .returned (.tuple #[v, .bool true]) ∧ Own w' w.heap.size 5 .u8 v (enLowL 8 (wideL 64 l)) ∧ Below w.heap.size w w' := by
  have HLN : Aside0 (l.length = n) := ⟨hC.1⟩
  have HC2 : Aside0 ((Kd.int .i64).C (w.alloc (.cells #[] 2)) A n l) := ⟨Kd.C_alloc hC _⟩
  have HE := Aside0.mk (Own.empty w w.heap.size 2 .i64 (Nat.le_refl _))
  have HEB : Aside0 (Below w.heap.size w (w.alloc (.cells #[] 2))) := ⟨(Below.refl _ _).alloc (Nat.le_refl _) _⟩
  have HWF := Aside0.mk hwf
  clear hC hwf
  go_enter Tryd.func14, Tryd.ntmps14
  go_wp2_with (first
    | (at_builtin; refine appendRead (w0 := w) w.heap.size rfl (.tmp 9) (.tmp 10) 28 2 .i64 8 rfl Tryd.underlying28 infoI64' (by decide) _ [] A n c l rfl rfl HE.out HEB.out ?hb HC2.out ?hl ?_; (case hb => exact HEB.out.size); (case hl => simp; omega); intro v1 w1 ho hb hg; rw [List.nil_append] at ho; obtain ⟨A1, c1, rfl, hc1, hr1⟩ := ho.read; rw [HLN.out] at hc1 hr1; rw [HLN.out]; have HR1 := Aside0.mk hr1; have HB1 := Aside0.mk hb; have HBA : Aside0 (Below w.heap.size w (w1.alloc (.cells #[] 60))) := ⟨hb.alloc hb.size _⟩; clear ho hb hg hr1)
    | (go_at_call 34; (with_reducible refine (plEncodeInt64_calls _ A1 n c1 l _ (Kd.C_alloc HR1.out _) hc1 hn HWF.out).mono ?_); rintro e w2 ⟨v2, rfl, ho, hb⟩; have HB2 := Aside0.mk (HBA.out.trans (hb.mono HBA.out.size)); have HO2 := Aside0.mk (Own.lower ho HBA.out.size); clear ho hb)
    | go_quiet (fail))
  go_ret2
  exact ⟨v2, rfl, HO2.out.drewN _, HB2.out.trans ((drewN_below _ _).mono HB2.out.size)⟩
theorem plDecodeInt64_dw (p : Option Addr) (A : Option Addr) (N c n : Nat) (bs : List Int) (w : World) (hC : (Kd.int .u8).C w A N bs) (hc : N ≤ c) (hN : N = 8 * n) (hn : n ≤ 100000) (hb : bytesB bs = true) :
    Calls Tryd.prog 37 #[.pointer p, .slice none 0 0, .slice A N c] w fun e w' => ∃ v, e = .returned (.tuple #[v, .nilIface]) ∧ Own w' w.heap.size 2 .i64 v (dw64 bs n) ∧ Below w.heap.size w w' :=
  plDecodeInt64_calls p A N c n bs w hC hc hN hn hb
set_option maxHeartbeats 4000000 in
theorem decodeInt64sPlain_calls (A : Option Addr) (N c n : Nat) (bs : List Int) (w : World) (hC : (Kd.int .u8).C w A N bs) (hc : N ≤ c) (hN : N = 8 * n) (hn : n ≤ 100000) (hb : bytesB bs = true) :
    Calls Tryd.prog 15 #[.string ⟨#[112, 108, 97, 105, 110]⟩, .slice A N c] w fun e w' => ∃ v, e = .returned (.tuple #[v, .bool true]) ∧ Own w' w.heap.size 2 .i64 v (dw64 bs n) ∧ Below w.heap.size w w' := by
  have HLN : Aside0 (bs.length = N) := ⟨hC.1⟩
  have HC2 : Aside0 ((Kd.int .u8).C (w.alloc (.cells #[] 5)) A N bs) := ⟨Kd.C_alloc hC _⟩
  have HE := Aside0.mk (Own.empty w w.heap.size 5 .u8 (Nat.le_refl _))
  have HEB : Aside0 (Below w.heap.size w (w.alloc (.cells #[] 5))) := ⟨(Below.refl _ _).alloc (Nat.le_refl _) _⟩
  have HN := Aside0.mk hN
  have HBY := Aside0.mk hb
  have hN2 : N ≤ 800000 := by omega
  clear hC hb hN
  go_enter Tryd.func15, Tryd.ntmps15
  go_wp2_with (first
    | (at_builtin; refine appendRead (w0 := w) w.heap.size rfl (.tmp 9) (.tmp 10) 22 5 .u8 1 rfl Tryd.underlying22 infoU8 (by decide) _ [] A N c bs rfl rfl HE.out HEB.out ?hb HC2.out ?hl ?_; (case hb => exact HEB.out.size); (case hl => simp; omega); intro v1 w1 ho hb hg; rw [List.nil_append] at ho; obtain ⟨A1, c1, rfl, hc1, hr1⟩ := ho.read; rw [HLN.out] at hc1 hr1; rw [HLN.out]; have HR1 := Aside0.mk hr1; have HB1 := Aside0.mk hb; have HBA : Aside0 (Below w.heap.size w (w1.alloc (.cells #[] 60))) := ⟨hb.alloc hb.size _⟩; clear ho hb hg hr1)
    | (go_at_call 37; (with_reducible refine (plDecodeInt64_dw _ A1 N c1 n bs _ (Kd.C_alloc HR1.out _) hc1 HN.out hn HBY.out).mono ?_); rintro e w2 ⟨v2, rfl, ho, hb⟩; have HB2 := Aside0.mk (HBA.out.trans (hb.mono HBA.out.size)); have HO2 := Aside0.mk (Own.lower ho HBA.out.size); clear ho hb)
    | go_quiet (fail))
  go_ret2
  exact ⟨v2, rfl, HO2.out.drewN _, HB2.out.trans ((drewN_below _ _).mono HB2.out.size)⟩
theorem dw64_enLow (l : List Int) (n : Nat) (hn : l.length = n) (hwf : ∀ x ∈ l, (Lit.int .i64 x).wf = true) : dw64 (enLowL 8 (wideL 64 l)) n = l := by
  have hu : u64L (wideL 64 l) := by
    intro x hx; simp only [wideL, List.mem_map] at hx; obtain ⟨y, _, rfl⟩ := hx; simp only [wideI]; unfold u64B; omega
  have hl : (wideL 64 l).length = n := by rw [← hn]; exact List.length_map _
  apply List.ext_getElem
  · rw [dw64_length, hn]
  · intro i h1 h2
    have hw := hwf _ (List.getElem_mem h2)
    have hb := wf_bd hw
    have e1 : IntKind.i64.min = -9223372036854775808 := by decide +kernel
    have e2 : IntKind.i64.max = 9223372036854775807 := by decide +kernel
    rw [e1, e2] at hb
    simp only [dw64, List.getElem_map, List.getElem_range]
    rw [wd8_enLow _ i hu (by omega)]
    show IntKind.i64.wrap (rd (l.map (wideI 64)) (i : Nat)) = _
    rw [rd_map _ _ _ h2, rd_nat _ _ h2, IntKind.wrap_i64]
    simp only [wideI, wrap64]
    omega
end Go.Proofs.YtkefklemcoehmaaDoor.Imd
