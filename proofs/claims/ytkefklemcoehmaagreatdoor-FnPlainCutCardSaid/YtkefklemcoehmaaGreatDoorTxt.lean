import Derived.Test.YtkefklemcoehmaaGreatDoorImd
import Derived.Deep.Matrix
import Derived.Deep.RegionHeld3
/-! Texts: opening them, the plain encoding of them. -/
namespace Go.Proofs.YtkefklemcoehmaaGreatDoor.Txt
open Go.Proofs.YtkefklemcoehmaaGreatDoor.Imd Go.Proofs.YtkefklemcoehmaaGreatDoor.Pln Go.Proofs.YtkefklemcoehmaaGreatDoor.Wrd Go.Proofs.YtkefklemcoehmaaGreatDoor.Spl Go.Proofs.YtkefklemcoehmaaGreatDoor.Str Go.Proofs.YtkefklemcoehmaaGreatDoor.Flt Go.Proofs.YtkefklemcoehmaaGreatDoor.Owe Go.Proofs.YtkefklemcoehmaaGreatDoor.Num Go.Proofs.YtkefklemcoehmaaGreatDoor.Le Go.Proofs.YtkefklemcoehmaaGreatDoor.Lst Go.Proofs.YtkefklemcoehmaaGreatDoor.Aid Go.RowKit Go.Proofs.YtkefklemcoehmaaGreatDoorW.PrintWords Go.Proofs.YtkefklemcoehmaaGreatDoorW.PrintLast Go.Proofs.YtkefklemcoehmaaGreatDoorW.PrintMore
set_option linter.unusedVariables false
set_option linter.unusedSimpArgs false
/-- texts that came in -/
structure IsTexts (t : Nat) (w : World) (a : Option Addr) (len cap : Nat) (ls : List (List Int)) : Prop where
  C : (Kd.slice t (Kd.int .u8)).C w a len ls
  le : len ≤ cap
  wf : ∀ l ∈ ls, ∀ x ∈ l, (Lit.int .u8 x).wf = true
theorem openTexts {H : Type} {enc : TypeId × Value → H} {P : Program} {w : World} {base : Nat} {held : Bool} {t e q : TypeId} {fuel : Nat} {a : Option Addr} {len cap : Nat} {x : DataW H × List MemPlace} (ht : P.underlying t = some (.slice e)) (he : P.underlying e = some (.slice q)) (hq : P.underlying q = some (.int .u8))
    (ce : P.cellsOf e = 1) (cq : P.cellsOf q = 1) (h : DataW.trod enc P w base (fun _ => true) held fuel t [.slice a len cap] = some x) (t' : Nat) : ∃ ls, IsTexts t' w a len cap ls := by
  rcases Go.Deep.open_int_rows ht he hq ce cq h with ⟨h0, _⟩ | ⟨a', len', cap', A, L, C, Z, h0, _, hlc, hcm, _, hr⟩
  · simp at h0
    obtain ⟨rfl, rfl, rfl⟩ := h0
    exact ⟨[], ⟨⟨rfl, by omega, fun h => absurd h (by omega)⟩, Nat.le_refl _, by simp⟩⟩
  · simp at h0
    obtain ⟨rfl, rfl, rfl⟩ := h0
    simp only [maxLen] at hcm
    refine ⟨(List.range len).map fun r => (Z r).take (L r), ⟨⟨by simp, by omega, fun _ => ⟨_, rfl, fun j p hj => ?_⟩⟩, hlc, ?_⟩⟩
    · have hjl : j < len := by
        have := (List.getElem?_eq_some_iff.1 hj).1
        simpa using this
      have hp : (Z j).take (L j) = p := by
        rw [List.getElem?_map, List.getElem?_range hjl] at hj
        simpa using hj
      subst hp
      obtain ⟨hc, hLC, hCm, hZ, hwf, hnone, hcells⟩ := hr j (by omega)
      have hl : ((Z j).take (L j)).length = L j := by rw [List.length_take]; omega
      simp only [maxLen] at hCm
      refine ⟨[.slice (A j) (L j) (C j)], rfl, ⟨A j, C j, by rw [hl], by omega, ?_⟩, fun i u hu => ?_⟩
      · rw [hl]
        refine ⟨hl, by omega, fun hp => ?_⟩
        cases hA : A j with
        | none => have := hnone hA; omega
        | some a' =>
          refine ⟨a', rfl, fun c p hc => ?_⟩
          have hcl : c < L j := by
            have := (List.getElem?_eq_some_iff.1 hc).1
            omega
          have := (hcells a' hA).2 c (by omega)
          refine ⟨[.int .u8 p], rfl, rfl, fun i u hu => ?_⟩
          have hi : i = 0 := by
            have := (List.getElem?_eq_some_iff.1 hu).1
            simp at this; exact this
          subst hi
          have hu' : Value.int .u8 p = u := by simpa using hu
          subst hu'
          have hz : (Z j).getD c 0 = p := by
            rw [List.getElem?_take, if_pos hcl] at hc
            rw [List.getD_eq_getElem?_getD, hc]; rfl
          rw [hz] at this
          have e3 : c * (Kd.int .u8).sz + 0 = c := Nat.mul_one c
          rw [e3]; exact this
      · have hi : i = 0 := by
          have := (List.getElem?_eq_some_iff.1 hu).1
          simp at this; exact this
        subst hi
        have hu' : Value.slice (A j) (L j) (C j) = u := by simpa using hu
        subst hu'
        have e3 : j * (Kd.slice t' (Kd.int .u8)).sz + 0 = j := Nat.mul_one j
        rw [e3]; exact hc
    · intro l hl x hx
      simp only [List.mem_map, List.mem_range] at hl
      obtain ⟨r, hrl, rfl⟩ := hl
      obtain ⟨_, _, _, _, hwf, _⟩ := hr r (by omega)
      exact hwf x (List.mem_of_mem_take hx)
/-! ### sizes -/
def fits2 (ls : List (List Int)) : Bool := decide (ls.length ≤ 2147483647 ∧ ∀ l ∈ ls, l.length ≤ 2147483647)
theorem getD_mem {ls : List (List Int)} {j : Nat} (h : j < ls.length) : ls.getD j [] ∈ ls := by
  rw [List.getD_eq_getElem?_getD, List.getElem?_eq_getElem h]; exact List.getElem_mem h
set_option maxHeartbeats 4000000 in
theorem zzFits2_calls (t : Nat) (A : Option Addr) (n c : Nat) (ls : List (List Int)) (w : World) (hC : (Kd.slice t (Kd.int .u8)).C w A n ls) (hc : n ≤ c) :
    Calls Tryz.prog 4 #[.slice A n c] w fun e w' => e = .returned (.bool (fits2 ls)) ∧ w = w' := by
  have HLN : Aside0 (ls.length = n) := ⟨hC.1⟩
  have hn9 : n ≤ 9223372036854775807 := hC.2.1
  have HC := Aside0.mk hC
  have HT : Aside0 ((ls.length ≤ 2147483647 ∧ ∀ l ∈ ls, l.length ≤ 2147483647) → fits2 ls = true) := ⟨fun h => decide_eq_true h⟩
  have HF : Aside0 (¬ (ls.length ≤ 2147483647 ∧ ∀ l ∈ ls, l.length ≤ 2147483647) → fits2 ls = false) := ⟨fun h => decide_eq_false h⟩
  have HCL := Aside0.mk fun j hj => (at_list hC j hj)
  clear hC
  by_cases h1 : 2147483647 < n
  · have q1 : decide (2147483647 < (n : Int)) = true := decide_eq_true (by omega)
    go_enter Tryz.func4, Tryz.ntmps4
    go_wp2_with (fail)
    go_ret
    refine ⟨?_, rfl⟩
    rw [HF.out fun h => by have := HLN.out; omega]; rfl
  have q1 : decide (2147483647 < (n : Int)) = false := decide_eq_false (by omega)
  go_enter Tryz.func4, Tryz.ntmps4
  go_wp2_with (fail)
  go_loopg [4, 10] n (fun kq v4 v10 w' => ∃ (j : Nat), j ≤ n ∧ v10 = .int .i64 j ∧ Aside0 (∀ i, i < j → (ls.getD i []).length ≤ 2147483647) ∧ w = w' ∧ Aside0 (n - j ≤ kq))
  case atStart => exact ⟨0, by omega, rfl, ⟨fun i hi => by omega⟩, rfl, ⟨by omega⟩⟩
  case round =>
    obtain ⟨j, hj, rfl, HP, rfl, HK⟩ := hrel
    by_cases cj : j < n
    · have cjb : decide ((j : Int) < n) = true := decide_eq_true (by omega)
      have cjn : decide (j < n) = true := decide_eq_true (by omega)
      obtain ⟨ad, A', c', ead, hcell, hle, hCl⟩ := HCL.out j cj
      have hm9 : (ls.getD j []).length ≤ 9223372036854775807 := hCl.2.1
      obtain ⟨m, hmq⟩ : ∃ m, (ls.getD j []).length = m := ⟨_, rfl⟩
      rw [hmq] at hcell hle hm9
      have HMQ := Aside0.mk hmq
      clear hmq hCl
      subst ead
      by_cases c1 : 2147483647 < m
      · have c1b : decide (2147483647 < (m : Int)) = true := decide_eq_true (by omega)
        go_wp2_with (fail)
        go_ret
        refine ⟨?_, rfl⟩
        rw [HF.out fun h => by have := h.2 _ (getD_mem (j := j) (by rw [HLN.out]; exact cj)); have := HMQ.out; omega]; rfl
      · have c1b : decide (2147483647 < (m : Int)) = false := decide_eq_false (by omega)
        go_wp2_with (fail)
        go_roundg (gk - 1)
        case measure => have := HK.out; omega
        case rel =>
          refine ⟨j + 1, by omega, by go_num, ⟨fun i hi => ?_⟩, rfl, ⟨by have := HK.out; omega⟩⟩
          by_cases h : i < j
          · exact HP.out i h
          · obtain rfl : i = j := by omega
            have := HMQ.out; omega
    · obtain rfl : j = n := by omega
      have cjb : decide ((j : Int) < j) = false := decide_eq_false (by omega)
      go_wp2_with (fail)
      go_ret
      refine ⟨?_, rfl⟩
      rw [HT.out ⟨by have := HLN.out; omega, fun l hl => ?_⟩]; rfl
      obtain ⟨i, hi, rfl⟩ := List.getElem_of_mem hl
      have := HP.out i (by rw [← HLN.out]; exact hi)
      simpa [List.getD_eq_getElem?_getD, hi] using this
/-! ### texts, one behind the other -/
def joinL (ls : List (List Int)) : List Int := ls.flatten
def textsB (ls : List (List Int)) : List Int := ls.flatMap fun l => lowL 4 l.length ++ l
theorem joinL_length (ls : List (List Int)) : (joinL ls).length = sumLen ls := by simp [joinL, sumLen, List.length_flatten]
theorem joinL_take (ls : List (List Int)) (j : Nat) (hj : j < ls.length) : joinL (ls.take (j + 1)) = joinL (ls.take j) ++ ls.getD j [] := by
  unfold joinL
  rw [List.take_succ_eq_append_getElem hj, List.flatten_append]
  simp [List.getD_eq_getElem?_getD, hj]
theorem textsB_take (ls : List (List Int)) (j : Nat) (hj : j < ls.length) : textsB (ls.take (j + 1)) = textsB (ls.take j) ++ (lowL 4 (ls.getD j []).length ++ ls.getD j []) := by
  unfold textsB
  rw [List.take_succ_eq_append_getElem hj, List.flatMap_append]
  simp [List.getD_eq_getElem?_getD, hj]
theorem textsB_length (ls : List (List Int)) : (textsB ls).length = 4 * ls.length + sumLen ls := by
  unfold textsB sumLen
  induction ls with
  | nil => rfl
  | cons l ls ih => rw [List.flatMap_cons, List.length_append, List.length_append, ih, lowL_length]; simp; omega
theorem join_cut (ls : List (List Int)) (j : Nat) (hj : j < ls.length) : ((joinL ls).take (sumLen (ls.take (j + 1)))).drop (sumLen (ls.take j)) = ls.getD j [] := by
  have h1 : joinL ls = joinL (ls.take (j + 1)) ++ joinL (ls.drop (j + 1)) := by
    unfold joinL; rw [← List.flatten_append, List.take_append_drop]
  rw [h1, ← joinL_length (ls.take (j + 1)), List.take_left, joinL_take ls j hj, ← joinL_length (ls.take j), List.drop_left]
/-- the offsets of texts: n + 1 of them -/
def offsL (ls : List (List Int)) (n : Nat) : List Int := (List.range n).map fun j => (sumLen (ls.take j) : Int)
theorem offsL_length (ls : List (List Int)) (n : Nat) : (offsL ls n).length = n := by simp [offsL]
theorem rd_offsL (ls : List (List Int)) (n j : Nat) (hj : j < n) : rd (offsL ls n) (j : Nat) = (sumLen (ls.take j) : Nat) := by
  rw [rd_nat _ _ (by rw [offsL_length]; exact hj)]; simp [offsL]
theorem offsL_succ (ls : List (List Int)) (n : Nat) : offsL ls (n + 1) = offsL ls n ++ [(sumLen (ls.take n) : Int)] := by
  simp [offsL, List.range_succ]
/-! ### appending -/
set_option maxHeartbeats 4000000 in
theorem putLength_calls (g o n c : Nat) (t : TypeId) (xs : List Int) (m : Nat) (w : World) (hrow : Row w g t .u8 xs) (hn : 4 ≤ n) (ho : o + 4 ≤ xs.length) (hm : m ≤ 2147483647) :
    Calls Tryz.prog 58 #[.slice (some ⟨g, o, none⟩) n c, .int .i64 m] w fun e w' => e = .returned (.tuple #[]) ∧ w.grownBy w' (some g) ∧ Row w' g t .u8 (put4 xs o m) := by
  have F := Aside0.mk (pqplain_lePutUint32.calls g o n c t xs m w hrow hn ho (by omega) (by omega))
  have qw : IntKind.u32.wrap (m : Int) = (m : Int) := by rw [IntKind.wrap_u32]; omega
  clear hrow
  go_enter Tryz.func58, Tryz.ntmps58
  go_wp2_with (first
    | (go_at_call 87; (with_reducible refine F.out.mono ?_); rintro e w2 ⟨rfl, hg, hr⟩; have HG := Aside0.mk hg; have HM := Aside0.mk hr; clear hg hr))
  go_end0
  exact ⟨rfl, HG.out, HM.out⟩
theorem put4_low (m : Int) (h0 : 0 ≤ m) : put4 [0, 0, 0, 0] 0 m = lowL 4 m := by
  simp [put4, lowL, List.range_succ]
set_option maxHeartbeats 4000000 in
theorem appendText_calls (w0 : World) (base : Nat) (v : Value) (xs : List Int) (A : Option Addr) (n c : Nat) (l : List Int) (w : World) (HO : Own w base 5 .u8 v xs) (HB : Below base w0 w) (hbase : base ≤ w.heap.size)
    (hC : ∀ W, Below base w0 W → (Kd.int .u8).C W A n l) (hc : n ≤ c) (hn : n ≤ 2147483647) (hx : xs.length ≤ 4294967296) :
    Calls Tryz.prog 25 #[v, .slice A n c] w fun e w' => ∃ v1, e = .returned v1 ∧ Own w' base 5 .u8 v1 (xs ++ (lowL 4 n ++ l)) ∧ Below base w0 w' := by
  have HLN : Aside0 (l.length = n) := ⟨(hC w HB).1⟩
  have HC := Aside0.mk hC
  have HO0 := Aside0.mk HO
  have HB0 := Aside0.mk HB
  obtain ⟨i8, h8⟩ := h8
  clear hC HO HB
  go_enter Tryz.func25, Tryz.ntmps25
  have HR : Aside0 (Row (w.alloc (.cells #[.int .u8 0, .int .u8 0, .int .u8 0, .int .u8 0] 100)) w.heap.size 100 .u8 [0, 0, 0, 0]) := ⟨⟨Blk.new w #[.int .u8 0, .int .u8 0, .int .u8 0, .int .u8 0] 100⟩⟩
  have HO1 : Aside0 (Own (w.alloc (.cells #[.int .u8 0, .int .u8 0, .int .u8 0, .int .u8 0] 100)) base 5 .u8 v xs) := ⟨HO0.out.alloc _⟩
  have HB1 : Aside0 (Below base w0 (w.alloc (.cells #[.int .u8 0, .int .u8 0, .int .u8 0, .int .u8 0] 100))) := ⟨HB0.out.alloc hbase _⟩
  go_wp2_with (first
    | (go_at_call 58; (with_reducible refine (putLength_calls w.heap.size 0 4 4 100 [0, 0, 0, 0] n _ HR.out (Nat.le_refl _) (by simp) hn).mono ?_); rintro e w2 ⟨rfl, hg, hr⟩; rw [put4_low _ (by omega)] at hr; have HG2 := Aside0.mk hg; have HR2 := Aside0.mk hr; have HO2 : Aside0 (Own w2 base 5 .u8 v xs) := ⟨HO1.out.grown hg (by right; intro he; have := own_lt HO0.out.out _ he; omega)⟩; have HB2 : Aside0 (Below base w0 w2) := ⟨HB1.out.grown hg (by simp; omega) (fun k hk => by injection hk with hk; omega)⟩; have HRC : Aside0 ((Kd.int .u8).C w2 (some ⟨w.heap.size, 0, none⟩) 4 (lowL 4 n)) := ⟨rowC hr (lowL_length _ _) (by omega)⟩; clear hg hr)
    | (at_builtin; refine appendRead (w0 := w0) base rfl (.tmp 11) (.tmp 12) 25 5 .u8 1 rfl Tryz.underlying25 infoU8 (by decide) _ xs (some ⟨w.heap.size, 0, none⟩) 4 4 (lowL 4 n) rfl rfl HO2.out HB2.out ?hb HRC.out ?hl ?_; (case hb => have := HG2.out.size; simp at this; omega); (case hl => omega); intro v3 w3 ho hb hg; have HO3 := Aside0.mk ho; have HB3 := Aside0.mk hb; have HS3 : Aside0 (base ≤ w3.heap.size) := ⟨by have h1 := hg.size; have h2 := HG2.out.size; simp at h2; omega⟩; clear ho hb hg)
    | (at_builtin; refine appendRead (w0 := w0) base rfl (.tmp 14) (.tmp 15) 25 5 .u8 1 rfl Tryz.underlying25 infoU8 (by decide) _ (xs ++ lowL 4 n) A n c l rfl rfl HO3.out HB3.out HS3.out (HC.out _ HB3.out) ?hl ?_; (case hl => rw [List.length_append, lowL_length]; omega); intro v4 w4 ho hb hg; rw [List.append_assoc] at ho; have HO4 := Aside0.mk ho; have HB4 := Aside0.mk hb; clear ho hb hg))
  go_ret
  exact ⟨_, rfl, HO4.out, HB4.out⟩
theorem sumLen_all (ls : List (List Int)) : sumLen (ls.take ls.length) = sumLen ls := by rw [List.take_length]
set_option maxHeartbeats 4000000 in
theorem plEncodeTexts_calls (p : Option Addr) (A : Option Addr) (n c : Nat) (B : Option Addr) (m mc : Nat) (k : Nat) (ls : List (List Int)) (w : World) (hC : (Kd.int .u8).C w A n (joinL ls)) (hc : n ≤ c) (hO : (Kd.int .u32).C w B m (offsL ls m)) (hmc : m ≤ mc) (hm : m = k + 1) (hk : ls.length = k) (hk9 : k ≤ 100000) (hn : n ≤ 100000) :
    Calls Tryz.prog 10 #[.pointer p, .slice none 0 0, .slice A n c, .slice B m mc] w fun e w' => ∃ v, e = .returned (.tuple #[v, .nilIface]) ∧ Own w' w.heap.size 5 .u8 v (textsB ls) ∧ Below w.heap.size w w' := by
  have HLN : Aside0 ((joinL ls).length = n) := ⟨hC.1⟩
  have HSN : Aside0 (sumLen ls = n) := ⟨by rw [← joinL_length]; exact hC.1⟩
  have HC := Aside0.mk hC
  have HO := Aside0.mk hO
  have HKL := Aside0.mk hk
  have HLE := Aside0.mk (sumLen_le ls)
  have hm1 : m ≤ k + 1 := by omega
  have hm2 : k + 1 ≤ m := by omega
  obtain ⟨i8, h8⟩ := h8
  obtain ⟨i32, h32⟩ : ∃ i, (Tryz.prog.info? 37) = some i ∧ i.size = 1 := Option.map_eq_some_iff.1 (show (Tryz.prog.info? 37).map (fun i => i.size) = some 1 by kernel_rfl)
  obtain ⟨cutz, _⟩ := cutHi (P := Tryz.prog) 25 5 Tryz.underlying25 h8.1 none 0 0 .i64 0 0 rfl (by omega) (by omega)
  obtain ⟨B1, cutO, hO1⟩ := cutLo (P := Tryz.prog) 38 37 Tryz.underlying38 h32.1 h32.2 B m mc .i64 1 1 rfl (by omega) hmc
  rw [show m - 1 = k by omega] at cutO hO1
  have q0 : decide (0 < (m : Int)) = true := decide_eq_true (by omega)
  have q1 : decide (0 < m) = true := decide_eq_true (by omega)
  obtain ⟨ad0, ead0, hc0⟩ := Kd.at_int hO 0 (by omega) (by omega)
  rw [show (0 : Int).toNat = 0 from rfl, Addr.add_zero'] at hc0
  have e0 : rd (offsL ls m) 0 = 0 := by have := rd_offsL ls m 0 (by omega); simpa [sumLen] using this
  rw [e0] at hc0
  have HO1 := Aside0.mk (hO1 (Kd.int .u32) w (offsL ls m) rfl hO)
  clear hC hO hk hm hO1 e0
  subst ead0
  go_enter Tryz.func10, Tryz.ntmps10
  go_wp2_with (fail)
  go_loopg [1, 10, 12, 24] k (fun kq v1 v10 v12 v24 w' => ∃ (j o : Nat), j ≤ k ∧ v24 = .int .i64 j ∧ v10 = .int .u32 o ∧ o ≤ 100000 ∧ Aside0 (o = sumLen (ls.take j)) ∧ Aside0 (Own w' w.heap.size 5 .u8 v1 (textsB (ls.take j))) ∧ Aside0 (Below w.heap.size w w') ∧ Aside0 (k - j ≤ kq))
  case atStart => exact ⟨0, 0, by omega, rfl, rfl, by omega, ⟨by simp [sumLen]⟩, ⟨Own.nil _ _ _ _⟩, ⟨Below.refl _ _⟩, ⟨by omega⟩⟩
  case round =>
    obtain ⟨j, o, hj, rfl, rfl, ho, HQ, HOW, HB, HK⟩ := hrel
    by_cases cj : j < k
    · have cjb : decide ((j : Int) < k) = true := decide_eq_true (by omega)
      have cjn : decide (j < k) = true := decide_eq_true (by omega)
      obtain ⟨ad, ead, hcell⟩ := Kd.at_int (Kd.C_below HO1.out HB.out) (j : Int) (by omega) (by omega)
      rw [Int.toNat_natCast, rd_drop, rd_offsL _ _ _ (by omega), Nat.add_comm 1 j] at hcell
      obtain ⟨q, hq⟩ : ∃ q, sumLen (ls.take (j + 1)) = q := ⟨_, rfl⟩
      rw [hq] at hcell
      have hqn : q ≤ n := by rw [← hq, ← HSN.out]; exact HLE.out _
      have hoq : o ≤ q := by rw [← hq, HQ.out, sumLen_take _ _ (by rw [HKL.out]; exact cj)]; omega
      obtain ⟨A1, cut1, hC1⟩ := cutMid3 (P := Tryz.prog) 25 5 Tryz.underlying25 h8.1 h8.2 A n c .u32 .u32 .u32 (o : Int) (q : Int) (q : Int) o q q rfl rfl rfl hoq hqn (Nat.le_refl _) (by omega) hc
      have hlj : (ls.getD j []).length = q - o := by rw [← hq, HQ.out, sumLen_take _ _ (by rw [HKL.out]; exact cj)]; omega
      have hcut : ((joinL ls).take q).drop o = ls.getD j [] := by rw [← hq, HQ.out]; exact join_cut ls j (by rw [HKL.out]; exact cj)
      rw [← hlj] at cut1 hC1
      obtain ⟨l, hl⟩ : ∃ l, ls.getD j [] = l := ⟨_, rfl⟩
      rw [hl] at cut1 hC1 hcut hlj
      have HT := Aside0.mk (textsB_take ls j (by rw [HKL.out]; exact cj))
      rw [hl] at HT
      have HTL : (textsB (ls.take j)).length ≤ 4 * j + 100000 := by
        rw [textsB_length, List.length_take]
        have := HLE.out j
        have := HSN.out
        omega
      have HCALL := Aside0.mk (appendText_calls w w.heap.size u1 _ A1 l.length l.length l wr HOW.out HB.out HB.out.size (fun W hW => by have := hC1 (Kd.int .u8) W (joinL ls) rfl (Kd.C_below HC.out hW); rw [hcut] at this; exact this) (Nat.le_refl _) (by omega) (by omega))
      have HQ2 := Aside0.mk hq
      clear hC1 hcut hq hl hlj HTL hj
      subst ead
      go_wp2_with (first
        | (go_at_call 25; (with_reducible refine HCALL.out.mono ?_); rintro e w2 ⟨v2, rfl, ho2, hb2⟩; have HOW2 := Aside0.mk ho2; have HB2 := Aside0.mk hb2; clear ho2 hb2))
      go_roundg (gk - 1)
      case measure => have := HK.out; omega
      case rel =>
        refine ⟨j + 1, q, by omega, by go_num, rfl, by omega, ⟨HQ2.out.symm⟩, ⟨?_⟩, HB2, ⟨by have := HK.out; omega⟩⟩
        rw [HT.out]; exact HOW2.out
    · obtain rfl : j = k := by omega
      have cjb : decide ((j : Int) < j) = false := decide_eq_false (by omega)
      have HTA : Aside0 (textsB (ls.take j) = textsB ls) := ⟨by rw [← HKL.out, List.take_length]⟩
      go_wp2_with (fail)
      go_ret2
      exact ⟨u1, rfl, by rw [← HTA.out]; exact HOW.out, HB.out⟩
theorem own_types {w : World} {b b' : Nat} {t t' : Nat} {k k' : IntKind} {v v' : Value} {xs xs' : List Int} (h : Own w b t k v xs) (h' : Own w b' t' k' v' xs') (hne : t ≠ t') : v.ownBlock = none ∨ v.ownBlock ≠ v'.ownBlock := own_type_ne h.out h'.out hne
theorem tne1 : (5 : Nat) ≠ 37 := by decide
theorem one32 (w : World) (base : Nat) (hb : base ≤ w.heap.size) : Own (w.alloc (.cells #[.int .u32 0] 37)) base 37 .u32 (.slice (some ⟨w.heap.size, 0, none⟩) 1 1) [0] := ⟨own_lit w base 37 .u32 [0] hb (by simp)⟩
set_option maxHeartbeats 4000000 in
theorem encodeTextsPlain_calls (t : Nat) (A : Option Addr) (n c : Nat) (ls : List (List Int)) (w : World) (hC : (Kd.slice t (Kd.int .u8)).C w A n ls) (hc : n ≤ c) (hs : n + sumLen ls ≤ 100000) :
    Calls Tryz.prog 6 #[.string ⟨#[112, 108, 97, 105, 110]⟩, .slice A n c] w fun e w' => ∃ v, e = .returned (.tuple #[v, .bool true]) ∧ Own w' w.heap.size 5 .u8 v (textsB ls) ∧ Below w.heap.size w w' := by
  have HLN : Aside0 (ls.length = n) := ⟨hC.1⟩
  have HC := Aside0.mk hC
  have HLE := Aside0.mk (sumLen_le ls)
  have hn : n ≤ 100000 := by omega
  have HS : Aside0 (sumLen ls ≤ 100000) := ⟨by omega⟩
  have HE0 : Aside0 (Own ((w.alloc (.cells #[] 5)).alloc (.cells #[.int .u32 0] 37)) w.heap.size 5 .u8 (.slice (some ⟨w.heap.size, 0, none⟩) 0 0) []) := ⟨(Own.empty w w.heap.size 5 .u8 (Nat.le_refl _)).alloc _⟩
  have HE1 : Aside0 (Own ((w.alloc (.cells #[] 5)).alloc (.cells #[.int .u32 0] 37)) w.heap.size 37 .u32 (.slice (some ⟨w.heap.size + 1, 0, none⟩) 1 1) (offsL ls 1)) := ⟨by
    have := one32 (w.alloc (.cells #[] 5)) w.heap.size (by simp)
    have e : (w.alloc (.cells #[] 5)).heap.size = w.heap.size + 1 := by simp
    rw [e] at this
    have e2 : offsL ls 1 = [0] := by simp [offsL, sumLen]
    rw [e2]; exact this⟩
  have HEB : Aside0 (Below w.heap.size w ((w.alloc (.cells #[] 5)).alloc (.cells #[.int .u32 0] 37))) := ⟨((Below.refl _ _).alloc (Nat.le_refl _) _).alloc (by simp) _⟩
  clear hC
  go_enter Tryz.func6, Tryz.ntmps6
  go_wp2_with (fail)
  go_loopg [6, 7, 9, 16] n (fun kq v6 v7 v9 v16 w' => ∃ (j : Nat), j ≤ n ∧ v16 = .int .i64 j ∧ Aside0 (Own w' w.heap.size 5 .u8 v6 (joinL (ls.take j))) ∧ Aside0 (Own w' w.heap.size 37 .u32 v7 (offsL ls (j + 1))) ∧ Aside0 (Below w.heap.size w w') ∧ Aside0 (n - j ≤ kq))
  case atStart => exact ⟨0, by omega, rfl, HE0, HE1, HEB, ⟨by omega⟩⟩
  case round =>
    clear HE0 HE1 HEB
    obtain ⟨j, hj, rfl, HO, HP, HB, HK⟩ := hrel
    by_cases cj : j < n
    · have cjb : decide ((j : Int) < n) = true := decide_eq_true (by omega)
      have cjn : decide (j < n) = true := decide_eq_true (by omega)
      obtain ⟨ad, A', c', ead, hcell, hle, hCl⟩ := at_list (Kd.C_below HC.out HB.out) j cj
      have HJ := Aside0.mk (joinL_take ls j (by rw [HLN.out]; exact cj))
      have hlen1 : (joinL (ls.take (j + 1))).length ≤ 100000 := by rw [joinL_length]; have := HLE.out (j + 1); have := HS.out; omega
      have HSQ : Aside0 (sumLen (ls.take (j + 1)) = (joinL (ls.take (j + 1))).length) := ⟨(joinL_length _).symm⟩
      obtain ⟨l, hl⟩ : ∃ l, ls.getD j [] = l := ⟨_, rfl⟩
      rw [hl] at hcell hle hCl HJ
      have hlen0 : (joinL (ls.take j)).length + l.length ≤ 100000 := by rw [HJ.out, List.length_append] at hlen1; exact hlen1
      have hlenq : (joinL (ls.take j) ++ l).length ≤ 100000 := by rw [List.length_append]; exact hlen0
      have HCL := Aside0.mk hCl
      obtain ⟨q, hq⟩ : ∃ q, (joinL (ls.take (j + 1))).length = q := ⟨_, rfl⟩
      rw [hq] at HSQ hlen1
      have HQ : Aside0 ((joinL (ls.take j) ++ l).length = q) := ⟨by rw [← HJ.out]; exact hq⟩
      have HOL : Aside0 ((offsL ls (j + 1)).length = j + 1) := ⟨offsL_length _ _⟩
      have qw : IntKind.u32.wrap (q : Int) = (q : Int) := by rw [IntKind.wrap_u32]; omega
      clear hl hCl hlen0 hlenq hq
      have hjl : (joinL (ls.take j)).length + l.length ≤ 100000 := by have := HQ.out; rw [List.length_append] at this; omega
      subst ead
      go_wp2_with (first
        | (at_builtin; refine appendRead (w0 := w) w.heap.size rfl (.tmp 20) (.tmp 21) 25 5 .u8 1 rfl Tryz.underlying25 infoU8 (by decide) u6 (joinL (ls.take j)) A' l.length c' l rfl rfl HO.out HB.out HB.out.size HCL.out ?hl ?_; (case hl => omega); intro v1 w1 ho hb hg; have HP1 := Aside0.mk (HP.out.grown hg (own_types HP.out HO.out (Ne.symm tne1))); obtain ⟨A1, c1, rfl, hc1, hr1⟩ := ho.read; rw [HQ.out] at ho hc1; rw [HQ.out]; have HO1 := Aside0.mk ho; have HB1 := Aside0.mk hb; clear ho hb hg hr1)
        | (at_builtin; refine appendOwn (w0 := w) w.heap.size rfl (.tmp 23) (.tmp 27) 38 37 .u32 4 rfl Tryz.underlying38 infoU32 (by decide) u7 (offsL ls (j + 1)) q rfl rfl HP1.out HB1.out ?hb ?hl ?_; (case hb => exact HB1.out.size); (case hl => rw [HOL.out]; omega); intro v2 w2 ho hb hg; have HO2 := Aside0.mk (HO1.out.grown hg (own_types HO1.out HP1.out tne1)); have HP2 := Aside0.mk ho; have HB2 := Aside0.mk hb; clear ho hb hg))
      go_roundg (gk - 1)
      case measure => have := HK.out; omega
      case rel =>
        refine ⟨j + 1, by omega, by go_num, ⟨?_⟩, ⟨?_⟩, HB2, ⟨by have := HK.out; omega⟩⟩
        · rw [HJ.out]; exact HO2.out
        · rw [offsL_succ, HSQ.out]; exact HP2.out
    · obtain rfl : j = n := by omega
      have cjb : decide ((j : Int) < j) = false := decide_eq_false (by omega)
      have HTA : Aside0 (ls.take j = ls) := ⟨by rw [← HLN.out, List.take_length]⟩
      rw [HTA.out] at HO
      obtain ⟨A1, c1, rfl, hc1, hr1⟩ := HO.out.read
      obtain ⟨B1, m1, rfl, hm1, hs1⟩ := HP.out.read
      have hsl : (joinL ls).length ≤ 100000 := by rw [joinL_length]; have := HS.out; omega
      obtain ⟨N, hN⟩ : ∃ N, (joinL ls).length = N := ⟨_, rfl⟩
      rw [hN] at hc1 hr1 hsl
      rw [offsL_length] at hm1 hs1
      have HR1 := Aside0.mk hr1
      have HS1 := Aside0.mk hs1
      have HNQ := Aside0.mk hN
      have HBA : Aside0 (Below w.heap.size w (wr.alloc (.cells #[] 44))) := ⟨HB.out.alloc HB.out.size _⟩
      have HOLQ : Aside0 ((offsL ls (j + 1)).length = j + 1) := ⟨offsL_length _ _⟩
      rw [HNQ.out, HOLQ.out]
      clear hr1 hs1 hN hj
      go_wp2_with (first
        | (go_at_call 10; (with_reducible refine (plEncodeTexts_calls _ A1 N c1 B1 (j + 1) m1 j ls _ (Kd.C_alloc HR1.out _) hc1 (Kd.C_alloc HS1.out _) hm1 rfl HLN.out hn hsl).mono ?_); rintro e w2 ⟨v2, rfl, ho, hb⟩; have HB2 := Aside0.mk (HBA.out.trans (hb.mono HBA.out.size)); have HO2 := Aside0.mk (Own.lower ho HBA.out.size); clear ho hb)
        | go_quiet (fail))
      go_ret2
      exact ⟨v2, rfl, HO2.out.drewN _, HB2.out.trans ((drewN_below _ _).mono HB2.out.size)⟩
/-! ### reading -/
theorem texts_drop (ls : List (List Int)) (j : Nat) (hj : j < ls.length) (tl : List Int) : (textsB ls ++ tl).drop (textsB (ls.take j)).length = lowL 4 (ls.getD j []).length ++ (ls.getD j [] ++ (textsB (ls.drop (j + 1)) ++ tl)) := by
  have h1 : textsB ls = textsB (ls.take j) ++ textsB (ls.drop j) := by
    unfold textsB; rw [← List.flatMap_append, List.take_append_drop]
  rw [h1, List.append_assoc, List.drop_left, List.drop_eq_getElem_cons hj]
  have e : ls.getD j [] = ls[j] := by simp [List.getD_eq_getElem?_getD, hj]
  rw [e]
  show (lowL 4 (ls[j]).length ++ ls[j]) ++ textsB (ls.drop (j + 1)) ++ tl = _
  simp [List.append_assoc]
theorem le4_low (m : Int) (ys : List Int) (h0 : 0 ≤ m) (h1 : m < 4294967296) : le4L (lowL 4 m ++ ys) = m := by
  have := le4_bytes m h0 h1
  unfold le4L
  have e : lowL 4 m ++ ys = m % 256 :: m / 256 % 256 :: m / 65536 % 256 :: m / 16777216 % 256 :: ys := by simp [lowL, List.range_succ]
  rw [e]
  exact this
theorem texts_cut (ls : List (List Int)) (j : Nat) (hj : j < ls.length) (tl : List Int) : ((textsB ls ++ tl).take ((textsB (ls.take j)).length + 4 + (ls.getD j []).length)).drop ((textsB (ls.take j)).length + 4) = ls.getD j [] := by
  rw [List.drop_take, ← List.drop_drop, texts_drop ls j hj tl]
  have hl : (lowL 4 (ls.getD j []).length).length = 4 := lowL_length _ _
  rw [List.drop_append_of_le_length (by omega), List.drop_of_length_le (by omega), List.nil_append, show (textsB (ls.take j)).length + 4 + (ls.getD j []).length - ((textsB (ls.take j)).length + 4) = (ls.getD j []).length by omega, List.take_left]
theorem textsB_bytes {ls : List (List Int)} (h : ∀ l ∈ ls, bytesB l = true) : bytesB (textsB ls) = true := by
  apply bytesB_of
  intro x hx
  simp only [textsB, List.mem_flatMap, List.mem_append] at hx
  obtain ⟨l, hl, hx | hx⟩ := hx
  · simp only [lowL, List.mem_map] at hx
    obtain ⟨_, _, rfl⟩ := hx
    exact ⟨Int.emod_nonneg _ (by decide), Int.emod_lt_of_pos _ (by decide)⟩
  · exact bytesB_mem (h l hl) x hx
theorem textsB_mono (ls : List (List Int)) (j : Nat) (hj : j < ls.length) : (textsB (ls.take j)).length + 4 + (ls.getD j []).length = (textsB (ls.take (j + 1))).length := by
  rw [textsB_take ls j hj, List.length_append, List.length_append, lowL_length]; omega
theorem textsB_le (ls : List (List Int)) (j : Nat) : (textsB (ls.take j)).length ≤ (textsB ls).length := by
  have h1 : textsB ls = textsB (ls.take j) ++ textsB (ls.drop j) := by
    unfold textsB; rw [← List.flatMap_append, List.take_append_drop]
  rw [h1, List.length_append]; omega
set_option maxHeartbeats 4000000 in
theorem byteLength_calls (A : Option Addr) (n c : Nat) (l : List Int) (w : World) (hC : (Kd.int .u8).C w A n l) (hc : n ≤ c) (hn : 4 ≤ n) (hb : bytesB l = true) :
    Calls Tryz.prog 35 #[.slice A n c] w fun e w' => e = .returned (.int .i64 (le4L l)) ∧ Drawn0 w w' := by
  have HF := Aside0.mk (pqplain_leUint32.calls' A n c l w hC hc hn hb)
  have hbd := le4L_bd hb (by have := hC.1; omega)
  obtain ⟨z, hz⟩ : ∃ z, le4L l = z := ⟨_, rfl⟩
  rw [hz] at HF hbd
  obtain ⟨h0, h1⟩ := hbd
  rw [hz]
  clear hC hb hz
  go_enter Tryz.func35, Tryz.ntmps35
  go_wp2_with (first | (go_at_call 45; (with_reducible refine HF.out.mono ?_); rintro e w' ⟨rfl, ⟨nd, rfl⟩⟩))
  go_ret
  exact ⟨rfl, ⟨nd, rfl⟩⟩
set_option maxHeartbeats 4000000 in
theorem plDecodeTexts_calls (p : Option Addr) (A : Option Addr) (N c k : Nat) (ls : List (List Int)) (w : World) (hC : (Kd.int .u8).C w A N (textsB ls)) (hc : N ≤ c) (hk : ls.length = k) (hs : k + sumLen ls ≤ 100000) (hb : ∀ l ∈ ls, bytesB l = true) :
    Calls Tryz.prog 13 #[.pointer p, .slice none 0 0, .slice A N c, .slice none 0 0] w fun e w' => ∃ v u, e = .returned (.tuple #[v, u, .nilIface]) ∧ Own w' w.heap.size 5 .u8 v (joinL ls) ∧ Own w' w.heap.size 37 .u32 u (offsL ls (k + 1)) ∧ Below w.heap.size w w' := by
  have HLN : Aside0 ((textsB ls).length = N) := ⟨hC.1⟩
  have HC := Aside0.mk hC
  have HKL := Aside0.mk hk
  have HSM := Aside0.mk (sumLen_le ls)
  have HLE := Aside0.mk (textsB_le ls)
  have HBY : Aside0 (bytesB (textsB ls) = true) := ⟨textsB_bytes hb⟩
  have hN : N ≤ 500000 := by have := hC.1; rw [textsB_length] at this; omega
  have HSS : Aside0 (k + sumLen ls ≤ 100000) := ⟨hs⟩
  have hk9 : k ≤ 100000 := by omega
  obtain ⟨i8, h8⟩ := h8
  obtain ⟨i32, h32⟩ : ∃ i, (Tryz.prog.info? 37) = some i ∧ i.size = 1 := Option.map_eq_some_iff.1 (show (Tryz.prog.info? 37).map (fun i => i.size) = some 1 by kernel_rfl)
  obtain ⟨cutz, _⟩ := cutHi (P := Tryz.prog) 25 5 Tryz.underlying25 h8.1 none 0 0 .i64 0 0 rfl (by omega) (by omega)
  obtain ⟨cuty, _⟩ := cutHi (P := Tryz.prog) 38 37 Tryz.underlying38 h32.1 none 0 0 .i64 0 0 rfl (by omega) (by omega)
  clear hC hk hb hs
  go_enter Tryz.func13, Tryz.ntmps13
  go_wp2_with (first | go_quiet (fail))
  have HB0 : Aside0 (Below w.heap.size w (w.drewN nq)) := ⟨drewN_below w nq⟩
  generalize w.drewN nq = wq at *
  go_loopg [1, 3, 11, 12] k (fun kq v1 v3 v11 v12 w' => ∃ (j o : Nat), j ≤ k ∧ v11 = .int .i64 o ∧ o ≤ N ∧ Aside0 (o = (textsB (ls.take j)).length) ∧ Aside0 (Own w' w.heap.size 5 .u8 v1 (joinL (ls.take j))) ∧ Aside0 (Own w' w.heap.size 37 .u32 v3 (offsL ls j)) ∧ Aside0 (Below w.heap.size w w') ∧ Aside0 (k - j ≤ kq))
  case atStart => exact ⟨0, 0, by omega, rfl, by omega, ⟨by simp [textsB]⟩, ⟨Own.nil _ _ _ _⟩, ⟨Own.nil _ _ _ _⟩, HB0, ⟨by omega⟩⟩
  case round =>
    clear HB0
    obtain ⟨j, o, hj, rfl, ho, HQ, HO, HP, HB, HK⟩ := hrel
    by_cases cj : j < k
    · obtain ⟨m, hm⟩ : ∃ m, (ls.getD j []).length = m := ⟨_, rfl⟩
      have h1 := textsB_mono ls j (by rw [HKL.out]; exact cj)
      have h2 := HLE.out (j + 1)
      rw [← h1, ← HQ.out, hm, HLN.out] at h2
      have hdrop := texts_drop ls j (by rw [HKL.out]; exact cj) []
      have hcut := texts_cut ls j (by rw [HKL.out]; exact cj) []
      rw [List.append_nil] at hdrop hcut
      rw [← HQ.out, hm] at hdrop
      rw [← HQ.out, hm] at hcut
      have hle : le4L ((textsB ls).drop o) = m := by rw [hdrop]; exact le4_low _ _ (by omega) (by omega)
      have c1 : decide ((o : Int) < N) = true := decide_eq_true (by omega)
      have c2 : decide ((N : Int) - o < 4) = false := decide_eq_false (by omega)
      have c3 : decide ((N : Int) - 4 < m) = false := decide_eq_false (by omega)
      obtain ⟨A1, cut1, hC1⟩ := cutLo (P := Tryz.prog) 25 5 Tryz.underlying25 h8.1 h8.2 A N c .i64 (o : Int) o rfl (by omega) hc
      have HBL := Aside0.mk (byteLength_calls A1 (N - o) (c - o) _ wr (hC1 _ _ _ rfl (Kd.C_below HC.out HB.out)) (by omega) (by omega) (bytesB_drop HBY.out o))
      rw [hle] at HBL
      obtain ⟨A2, cut2, hC2⟩ := cutMid (P := Tryz.prog) 25 5 Tryz.underlying25 h8.1 h8.2 A N c .i64 .i64 ((o : Int) + 4) ((o : Int) + 4 + m) (o + 4) (o + 4 + m) (by omega) (by omega) (by omega) h2 hc
      rw [show o + 4 + m - (o + 4) = m by omega] at cut2 hC2
      have HC2 : Aside0 (∀ W, Below w.heap.size w W → (Kd.int .u8).C W A2 m (ls.getD j [])) := ⟨fun W hW => by have := hC2 (Kd.int .u8) W _ rfl (Kd.C_below HC.out hW); rw [hcut] at this; exact this⟩
      have HJ := Aside0.mk (joinL_take ls j (by rw [HKL.out]; exact cj))
      obtain ⟨l, hl⟩ : ∃ l, ls.getD j [] = l := ⟨_, rfl⟩
      rw [hl] at HC2 HJ
      obtain ⟨q, hq⟩ : ∃ q, (joinL (ls.take j)).length = q := ⟨_, rfl⟩
      have hq9 : q + m ≤ 100000 := by
        have h3 := HSM.out (j + 1)
        have h4 := HSS.out
        rw [sumLen_take ls j (by rw [HKL.out]; exact cj), hm, ← joinL_length, hq] at h3
        omega
      have HQQ := Aside0.mk hq
      have HQS : Aside0 (sumLen (ls.take j) = q) := ⟨by rw [← joinL_length]; exact hq⟩
      have qw : IntKind.u32.wrap (q : Int) = (q : Int) := by rw [IntKind.wrap_u32]; omega
      have HOF : Aside0 ((offsL ls j).length = j) := ⟨offsL_length _ _⟩
      have HT1 : Aside0 (o + 4 + m = (textsB (ls.take (j + 1))).length) := ⟨by rw [HQ.out, ← hm]; exact h1⟩
      obtain ⟨Av, cv, rfl, hcv, _⟩ := HO.out.read
      rw [hq] at HO
      clear hj h1 hdrop hcut hle hC1 hC2 hl hq hm
      rw [HQQ.out]
      go_wp2_with (first
        | (go_at_call 35; (with_reducible refine HBL.out.mono ?_); rintro e w2 ⟨rfl, ⟨nd, rfl⟩⟩; have HO2 := Aside0.mk (HO.out.drewN nd); have HP2 := Aside0.mk (HP.out.drewN nd); have HB2 := Aside0.mk (HB.out.trans ((drewN_below wr nd).mono HB.out.size)))
        | (at_builtin; refine appendOwn (w0 := w) w.heap.size rfl (.tmp 47) (.tmp 51) 38 37 .u32 4 rfl Tryz.underlying38 infoU32 (by decide) u3 (offsL ls j) q rfl rfl HP2.out HB2.out ?hb ?hl ?_; (case hb => exact HB2.out.size); (case hl => rw [HOF.out]; omega); intro v3 w3 ho hb hg; have HO3 := Aside0.mk (HO2.out.grown hg (own_types HO2.out HP2.out tne1)); have HP3 := Aside0.mk ho; have HB3 := Aside0.mk hb; clear ho hb hg)
        | (at_builtin; refine appendRead (w0 := w) w.heap.size rfl (.tmp 53) (.tmp 59) 25 5 .u8 1 rfl Tryz.underlying25 infoU8 (by decide) _ (joinL (ls.take j)) A2 m (c - (o + 4)) l rfl rfl HO3.out HB3.out HB3.out.size (HC2.out _ HB3.out) ?hl ?_; (case hl => have := HQQ.out; omega); intro v4 w4 ho hb hg; have HP4 := Aside0.mk (HP3.out.grown hg (own_types HP3.out HO3.out (Ne.symm tne1))); have HO4 := Aside0.mk ho; have HB4 := Aside0.mk hb; clear ho hb hg))
      go_roundg (gk - 1)
      case measure => have := HK.out; omega
      case rel =>
        refine ⟨j + 1, o + 4 + m, by omega, by go_num, by omega, HT1, ⟨?_⟩, ⟨?_⟩, HB4, ⟨by have := HK.out; omega⟩⟩
        · rw [HJ.out]; exact HO4.out
        · rw [offsL_succ, HQS.out]; exact HP4.out
    · obtain rfl : j = k := by omega
      have HTA : Aside0 (ls.take j = ls) := ⟨by rw [← HKL.out, List.take_length]⟩
      rw [HTA.out] at HQ HO
      have hoN : o = N := by rw [HQ.out, HLN.out]
      have c1 : decide ((o : Int) < N) = false := decide_eq_false (by omega)
      have c1n : decide (o < N) = false := decide_eq_false (by omega)
      obtain ⟨q, hq⟩ : ∃ q, (joinL ls).length = q := ⟨_, rfl⟩
      have hq9 : q ≤ 100000 := by have h4 := HSS.out; rw [← joinL_length, hq] at h4; omega
      have HQQ := Aside0.mk hq
      have HQS : Aside0 (sumLen (ls.take j) = q) := ⟨by rw [HTA.out, ← joinL_length]; exact hq⟩
      have qw : IntKind.u32.wrap (q : Int) = (q : Int) := by rw [IntKind.wrap_u32]; omega
      have HOF : Aside0 ((offsL ls j).length = j) := ⟨offsL_length _ _⟩
      obtain ⟨Av, cv, rfl, hcv, _⟩ := HO.out.read
      rw [hq] at HO
      clear hj hoN hq
      rw [HQQ.out]
      go_wp2_with (first
        | (at_builtin; refine appendOwn (w0 := w) w.heap.size rfl (.tmp 65) (.tmp 69) 38 37 .u32 4 rfl Tryz.underlying38 infoU32 (by decide) u3 (offsL ls j) q rfl rfl HP.out HB.out ?hb ?hl ?_; (case hb => exact HB.out.size); (case hl => rw [HOF.out]; omega); intro v3 w3 ho hb hg; have HO3 := Aside0.mk (HO.out.grown hg (own_types HO.out HP.out tne1)); have HP3 := Aside0.mk ho; have HB3 := Aside0.mk hb; clear ho hb hg))
      go_ret3
      exact ⟨_, v3, rfl, HO3.out, by rw [offsL_succ, HQS.out]; exact HP3.out, HB3.out⟩
section
variable {P : Program} {ops : Array Oper} {o : Oper} {a : Act} {Q : Exit → Act → World → Prop} {K : Act → World → Prop} {E : Prop}
/-- append(v, ys...) as a step of a region that draws its order -/
theorem appendReadStep {w0 W : World} (base : Nat) (hgd : o.guard = none) (s x : Operand) (t e : TypeId) (k : IntKind) (bytes : Nat)
    (ho : o.op = .call { callee := .builtin .append, args := #[s, x], argTypes := #[t, t] })
    (ht : P.underlying t = some (.slice e)) (hinfo : (P.info? e).map (fun i => (i.zero, i.size, i.bytes)) = some (some (.int k 0), 1, bytes)) (hb0 : 0 < bytes)
    (v : Value) (xs : List Int) (A : Option Addr) (m c : Nat) (ys : List Int) (hs : a.eval s = v) (hx : a.eval x = .slice A m c)
    (HO : Own W base e k v xs) (HB : Below base w0 W) (hbase : base ≤ W.heap.size) (hC : (Kd.int k).C W A m ys) (hl : (xs.length + m) * bytes ≤ 140737488355328)
    (h : ∀ v1 w1, Own w1 base e k v1 (xs ++ ys) → Below base w0 w1 → W.grownBy w1 v.ownBlock → K (a.put o.dst v1) w1) :
    if Region.wanted o (yielded ops a.tmps) = true then Oper.wp P o a W K Q else E := by
  have hw : Region.wanted o (yielded ops a.tmps) = true := by simp [Region.wanted, hgd]
  rw [if_pos hw]
  obtain ⟨i0, hi, hzz⟩ := Option.map_eq_some_iff.1 hinfo
  simp only [Prod.mk.injEq] at hzz
  obtain ⟨hz0, hz1, hz2⟩ := hzz
  have hm : ys.length = m := hC.1
  have hlen : xs.length + m ≤ 140737488355328 := Nat.le_trans (Nat.le_mul_of_pos_right _ hb0) hl
  have key : ∀ v1 w1, w1.ownsRow base e 1 v1 (xs.length + m) (nums k xs ++ nums k ys) → W.grownBy w1 v.ownBlock → K (a.put o.dst v1) w1 := by
    intro v1 w1 h1 hg
    refine h v1 w1 ⟨?_⟩ (HB.grown hg hbase (own_base HO.out)) hg
    rw [List.length_append, hm, nums_append]; exact h1
  rcases A with _ | ad
  · have h0 : m = 0 := by
      rcases Nat.eq_zero_or_pos m with h0 | h0
      · exact h0
      · obtain ⟨ad, h', _⟩ := hC.2.2 h0
        cases h'
    subst h0
    obtain rfl : ys = [] := List.eq_nil_of_length_eq_zero hm
    have hk := key v W (by simpa [nums] using HO.out) (grownRefl W _)
    have hrun : (Builtin.append_ #[t, t] o.type #[v, .slice none 0 c]).run P W = .ok v W := by
      rcases HO.out.2 with ⟨rfl, _⟩ | ⟨g, cap, cur, rfl, _, _, hnc, _⟩
      · simp [Builtin.append_, run_underlying ht, sizeOf, typeInfo, hi, Builtin.lenOf, Builtin.firstCells]
      · simp [Builtin.append_, run_underlying ht, sizeOf, typeInfo, hi, Builtin.lenOf, Builtin.firstCells, hnc, storeCells]
    unfold Oper.wp
    simp [execOp, ho, resolve, invoke, builtin, hs, hx, hrun, Result.andThen]
    exact hk
  · exact wp_append_own W s x t ho base e i0 (.int k 0) 1 bytes ht hi hz0 hz1 hz2 rfl (by omega) v xs.length (nums k xs) hs HO.out ad m c (nums k ys) hx (by simp [nums, hm]) (C_cells hC) (by intro u hu; simp [nums] at hu; obtain ⟨q, _, rfl⟩ := hu; rfl) (by simp only [maxLen]; omega) hl hbase
      (fun v1 w1 h1 hg _ => key v1 w1 h1 hg)
end
theorem infoSl : (Tryz.prog.info? 25).map (fun i => (i.zero, i.size, i.bytes)) = some (some (.slice none 0 0), 1, 24) := by kernel_rfl
/-- texts of the call's own -/
def OwnT (w : World) (base : Nat) (v : Value) (ls : List (List Int)) : Prop := (Kd.slice 5 (Kd.int .u8)).R 25 w base (fun _ => True) v ls
set_option maxHeartbeats 4000000 in
theorem decodeTextsPlain_calls (A : Option Addr) (N c n : Nat) (ls : List (List Int)) (w : World) (hC : (Kd.int .u8).C w A N (textsB ls)) (hc : N ≤ c) (hn : ls.length = n) (hs : n + sumLen ls ≤ 100000) (hb : ∀ l ∈ ls, bytesB l = true) :
    Calls Tryz.prog 7 #[.string ⟨#[112, 108, 97, 105, 110]⟩, .slice A N c] w fun e w' => ∃ v, e = .returned (.tuple #[v, .bool true]) ∧ OwnT w' w.heap.size v ls ∧ Below w.heap.size w w' := by
  have HLN : Aside0 (ls.length = n) := ⟨hn⟩
  have HTL : Aside0 ((textsB ls).length = N) := ⟨hC.1⟩
  have HBY := Aside0.mk hb
  have HSS := Aside0.mk hs
  have HSM := Aside0.mk (sumLen_le ls)
  have hN : N ≤ 500000 := by have := hC.1; rw [textsB_length] at this; omega
  have hn9 : n ≤ 100000 := by omega
  have HC2 : Aside0 ((Kd.int .u8).C (w.alloc (.cells #[] 5)) A N (textsB ls)) := ⟨Kd.C_alloc hC _⟩
  have HE := Aside0.mk (Own.empty w w.heap.size 5 .u8 (Nat.le_refl _))
  have HEB : Aside0 (Below w.heap.size w (w.alloc (.cells #[] 5))) := ⟨(Below.refl _ _).alloc (Nat.le_refl _) _⟩
  obtain ⟨i8, h8⟩ := h8
  clear hC hb hs
  go_enter Tryz.func7, Tryz.ntmps7
  go_wp2_with (first
    | (at_builtin; refine appendRead (w0 := w) w.heap.size rfl (.tmp 12) (.tmp 13) 25 5 .u8 1 rfl Tryz.underlying25 infoU8 (by decide) _ [] A N c (textsB ls) rfl rfl HE.out HEB.out ?hb HC2.out ?hl ?_; (case hb => exact HEB.out.size); (case hl => simp; omega); intro v1 w1 ho hb hg; rw [List.nil_append] at ho; obtain ⟨A1, c1, rfl, hc1, hr1⟩ := ho.read; rw [HTL.out] at hc1 hr1; rw [HTL.out]; have HR1 := Aside0.mk hr1; have HB1 := Aside0.mk hb; have HBA : Aside0 (Below w.heap.size w (w1.alloc (.cells #[] 44))) := ⟨hb.alloc hb.size _⟩; clear ho hb hg hr1)
    | (go_at_call 13; (with_reducible refine (plDecodeTexts_calls _ A1 N c1 n ls _ (Kd.C_alloc HR1.out _) hc1 HLN.out HSS.out HBY.out).mono ?_); rintro e w2 ⟨v2, u2, rfl, ho, hp, hb⟩; have hoL : (joinL ls).length ≤ 100000 := (by rw [joinL_length]; have := HSS.out; omega); obtain ⟨M, hM⟩ : ∃ M, (joinL ls).length = M := ⟨_, rfl⟩; rw [hM] at hoL; obtain ⟨A2, c2, rfl, hc2, hr2⟩ := ho.read; rw [hM] at hc2 hr2; rw [hM]; obtain ⟨O2, d2, rfl, hd2, hp2⟩ := hp.read; rw [offsL_length] at hd2 hp2; rw [offsL_length]; have HR2 := Aside0.mk hr2; have HP2 := Aside0.mk hp2; have HMQ := Aside0.mk hM; have HB2 := Aside0.mk (HBA.out.trans (hb.mono HBA.out.size)); clear ho hp hb hr2 hp2 hM))
  clear HC2 HE HEB HR1 HB1 HBA
  have HO2 : Aside0 (OwnT w2 w2.heap.size (.slice none 0 0) (ls.take 0)) := ⟨Kd.R_nil _ _ _ _ _⟩
  have HB3 : Aside0 (Below w2.heap.size w2 w2) := ⟨Below.refl _ _⟩
  go_loopg [10, 11] n (fun kq v10 v11 w' => ∃ (j : Nat), j ≤ n ∧ v11 = .int .i64 ((j : Int) + 1) ∧ Aside0 (OwnT w' w2.heap.size v10 (ls.take j)) ∧ Aside0 (Below w2.heap.size w2 w') ∧ Aside0 (n - j ≤ kq))
  case atStart => exact ⟨0, by omega, rfl, HO2, HB3, ⟨by omega⟩⟩
  case round =>
    clear HO2 HB3
    obtain ⟨j, hj, rfl, HO, HB, HK⟩ := hrel
    by_cases cj : j < n
    · have cjb : decide ((j : Int) + 1 < ((n + 1 : Nat) : Int)) = true := decide_eq_true (by omega)
      have cjb2 : decide ((j : Int) + 1 < (n : Int) + 1) = true := decide_eq_true (by omega)
      have hq1 := rd_offsL ls (n + 1) j (by omega)
      have hq2 := rd_offsL ls (n + 1) (j + 1) (by omega)
      obtain ⟨o, ho⟩ : ∃ o, sumLen (ls.take j) = o := ⟨_, rfl⟩
      obtain ⟨q, hq⟩ : ∃ q, sumLen (ls.take (j + 1)) = q := ⟨_, rfl⟩
      have hst := sumLen_take ls j (by rw [HLN.out]; exact cj)
      have hcut := join_cut ls j (by rw [HLN.out]; exact cj)
      have hqM : q ≤ M := by rw [← hq, ← HMQ.out, joinL_length]; exact HSM.out _
      rw [hq, ho] at hst hcut
      rw [ho] at hq1
      rw [hq] at hq2
      obtain ⟨m, hm⟩ : ∃ m, (ls.getD j []).length = m := ⟨_, rfl⟩
      rw [hm] at hst
      obtain ⟨l, hl⟩ : ∃ l, ls.getD j [] = l := ⟨_, rfl⟩
      rw [hl] at hcut hm
      have HTK : Aside0 (ls.take (j + 1) = ls.take j ++ [l]) := ⟨by rw [List.take_succ_eq_append_getElem (by rw [HLN.out]; exact cj), ← hl]; simp [List.getD_eq_getElem?_getD, (show j < ls.length by rw [HLN.out]; exact cj)]⟩
      obtain ⟨A3, cut3, hC3⟩ := cutMid (P := Tryz.prog) 25 5 Tryz.underlying25 h8.1 h8.2 A2 M c2 .u32 .u32 (o : Int) (q : Int) o q rfl rfl (by omega) hqM hc2
      rw [show q - o = m by omega] at cut3 hC3
      have HC3 : Aside0 (∀ W, Below w2.heap.size w2 W → (Kd.int .u8).C W A3 m l) := ⟨fun W hW => by have := hC3 (Kd.int .u8) W _ rfl (Kd.C_below HR2.out hW); rw [hcut] at this; exact this⟩
      obtain ⟨ad, ead, x0⟩ := Kd.at_int HP2.out (j : Int) (by omega) (by omega)
      obtain ⟨ad', ead', x1⟩ := Kd.at_int HP2.out ((j + 1 : Nat) : Int) (by omega) (by omega)
      obtain rfl : ad = ad' := by rw [ead] at ead'; injection ead'
      rw [Int.toNat_natCast, hq1] at x0
      rw [Int.toNat_natCast, hq2] at x1
      have HS0 : True := trivial
      have HS : Aside0 (∀ W, Below w2.heap.size w2 W → W.cell? (ad.add j) = some (.int .u32 o) ∧ W.cell? (ad.add (j + 1)) = some (.int .u32 q)) := ⟨fun W hW => ⟨(hW.cell (World.block_lt_of_cell? w2 _ x0)).trans x0, (hW.cell (World.block_lt_of_cell? w2 _ x1)).trans x1⟩⟩
      have eadd : ad.add (j + 1) = ⟨ad.block, ad.off + (j + 1), none⟩ := by simp [Addr.add]
      rw [eadd] at HS
      clear eadd
      obtain ⟨y0, y1⟩ := HS.out wr HB.out
      have b0 := World.block_lt_of_cell? wr _ y0
      have b1 := World.block_lt_of_cell? wr _ y1
      have qw1 : IntKind.i64.wrap ((j : Int) + 1 - 1) = (j : Int) := by rw [show (j : Int) + 1 - 1 = j by omega]; exact IntWalk.i64_in _ (by omega)
      have qw2 : IntKind.i64.wrap (j : Int) = (j : Int) := IntWalk.i64_in _ (by omega)
      have qi4 : (j : Int) < (n : Int) + 1 := by omega
      have qi5 : (j : Int) + 1 < (n : Int) + 1 := by omega
      have qi0 : (0 : Int) ≤ (j : Int) := by omega
      have qi1 : (j : Int) < ((n + 1 : Nat) : Int) := by omega
      have qi2 : (0 : Int) ≤ (j : Int) + 1 := by omega
      have qi3 : (j : Int) + 1 < ((n + 1 : Nat) : Int) := by omega
      have qn : ((j : Int) + 1).toNat = j + 1 := by omega
      have HE : Aside0 (Own (wr.alloc (.cells #[] 5)) wr.heap.size 5 .u8 (.slice (some ⟨wr.heap.size, 0, none⟩) 0 0) []) := ⟨Own.empty wr wr.heap.size 5 .u8 (Nat.le_refl _)⟩
      have HEB : Aside0 (Below wr.heap.size wr (wr.alloc (.cells #[] 5))) := ⟨(Below.refl _ _).alloc (Nat.le_refl _) _⟩
      have hm9 : m ≤ 100000 := by omega
      have HOL : Aside0 (∀ k, u10.ownBlock = some k → k < wr.heap.size) := ⟨fun k hk => by obtain ⟨inner, hin⟩ := Kd.R_own HO.out; exact own_lt hin k hk⟩
      clear x0 x1 hq1 hq2 hC3 hcut hst ho hq hl hj hqM
      subst ead
      go_wp2_with (fail)
      go_region_held3 (fun w' => w'.cell? (ad.add j) = some (.int .u32 o) ∧ w'.cell? ⟨ad.block, ad.off + (j + 1), none⟩ = some (.int .u32 q))
        (first
          | go_keep
          | exact HS.out _ (HB.out.trans (hb3.mono HB.out.size))
          | exact HS.out _ hb5
          | exact HS.out _ ((HB.out.trans (hb3.mono HB.out.size)).alloc (Nat.le_trans HB.out.size hb3.size) _))
        ((first
          | (refine appendReadStep (w0 := wr) wr.heap.size (by rfl) (.tmp 55) (.tmp 66) 25 5 .u8 1 (by rfl) Tryz.underlying25 infoU8 (by decide) _ [] A3 m (c2 - o) l (by rfl) (by rfl) ?ho ?hb ?hs ?hC ?hl ?_; (case ho => exact HE.out.drewN 1); (case hb => exact HEB.out.trans ((drewN_below _ 1).mono HEB.out.size)); (case hs => exact HEB.out.size); (case hC => exact HC3.out _ (HB.out.trans ((HEB.out.trans ((drewN_below _ 1).mono HEB.out.size)).mono HB.out.size))); (case hl => simp; omega); intro v3 w3 ho3 hb3 hg3; rw [List.nil_append] at ho3; obtain ⟨A4, c4, rfl, hc4, _⟩ := ho3.read; rw [hm] at ho3 ⊢; have HO3 := Aside0.mk ho3; have HU3 : Aside0 (OwnT w3 w2.heap.size u10 (ls.take j)) := ⟨Kd.R_below HO.out hb3⟩; have HMM : Aside0 ((Kd.slice 5 (Kd.int .u8)).M w3 w2.heap.size (fun k => wr.heap.size ≤ k) l [.slice A4 m c4]) := ⟨⟨_, rfl, Kd.R_of_own (by have := (Own.lower HO3.out HB.out.size).out; rw [hm] at this ⊢; exact this) (fun k hk => own_base HO3.out.out k hk)⟩⟩; have HB3 : Aside0 (Below w2.heap.size w2 w3) := ⟨HB.out.trans (hb3.mono HB.out.size)⟩; clear ho3 hg3 hc4)
          | (refine Kd.R_append_step (Kd.slice 5 (Kd.int .u8)) (w0 := w2) w2.heap.size (by rfl) (.tmp 54) (.tmp 68) 22 25 (.slice none 0 0) 24 (by rfl) Tryz.underlying22 infoSl rfl (by decide) (by decide) u10 (ls.take j) l [.slice A4 m c4] (fun _ => True) (fun k => wr.heap.size ≤ k) (by rfl) (by rfl) ?hp ?hok ?hf ?ho ?hb ?hs ?hl ?_; (case hp => first | exact HMM.out | exact Kd.M_below HMM.out (drewN_below _ 1)); (case hok => intro k hk; refine ⟨trivial, fun he => ?_⟩; have := HOL.out k he.symm; omega); (case hf => exact fun _ _ => trivial); (case ho => first | exact HU3.out | exact Kd.R_below HU3.out (drewN_below _ 1)); (case hb => first | exact HB3.out | exact HB3.out.trans ((drewN_below _ 1).mono HB3.out.size)); (case hs => first | exact HB3.out.size | simpa using HB3.out.size); (case hl => rw [List.length_take]; omega); intro v5 w5 ho5 hb5 hg5 hat5; have HO5 := Aside0.mk ho5; have HB5 := Aside0.mk hb5; clear ho5 hg5 hat5)))
      go_wp2_with (fail)
      go_roundg (gk - 1)
      case measure => have := HK.out; omega
      case rel => exact ⟨j + 1, by omega, by go_num, ⟨by rw [HTK.out]; exact HO5.out⟩, HB5, ⟨by have := HK.out; omega⟩⟩
    · obtain rfl : j = n := by omega
      have cjb2 : decide ((j : Int) + 1 < (j : Int) + 1) = false := decide_eq_false (by omega)
      have HTA : Aside0 (ls.take j = ls) := ⟨by rw [← HLN.out, List.take_length]⟩
      rw [HTA.out] at HO
      go_wp2_with (fail)
      go_ret2
      exact ⟨u10, rfl, Kd.R_lower HO.out HB2.out.size, HB2.out.trans (HB.out.mono HB2.out.size)⟩
end Go.Proofs.YtkefklemcoehmaaGreatDoor.Txt
