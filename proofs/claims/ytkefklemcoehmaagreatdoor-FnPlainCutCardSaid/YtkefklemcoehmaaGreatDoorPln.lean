import Derived.Test.YtkefklemcoehmaaGreatDoorWrd
/-! Walks of the plain encoding: numbers of 32 and 64 bits, with points and without. -/
namespace Go.Proofs.YtkefklemcoehmaaGreatDoor.Pln
open Go.Proofs.YtkefklemcoehmaaGreatDoor.Wrd Go.Proofs.YtkefklemcoehmaaGreatDoor.Spl Go.Proofs.YtkefklemcoehmaaGreatDoor.Str Go.Proofs.YtkefklemcoehmaaGreatDoor.Flt Go.Proofs.YtkefklemcoehmaaGreatDoor.Owe Go.Proofs.YtkefklemcoehmaaGreatDoor.Num Go.Proofs.YtkefklemcoehmaaGreatDoor.Le Go.Proofs.YtkefklemcoehmaaGreatDoor.Lst Go.Proofs.YtkefklemcoehmaaGreatDoor.Aid Go.RowKit Go.Proofs.YtkefklemcoehmaaGreatDoorW.PrintWords Go.Proofs.YtkefklemcoehmaaGreatDoorW.PrintLast Go.Proofs.YtkefklemcoehmaaGreatDoorW.PrintMore
set_option linter.unusedVariables false
set_option linter.unusedSimpArgs false
/-- the numbers' signs -/
def sgnL (W : Nat) (l : List Int) : List Int := l.map fun x => if x < 2 ^ (W - 1) then x else x - 2 ^ W
theorem infoI32' : (Tryz.prog.info? 21).map (fun i => (i.zero, i.size, i.bytes)) = some (some (.int .i32 0), 1, 4) := by kernel_rfl
theorem infoI64' : (Tryz.prog.info? 2).map (fun i => (i.zero, i.size, i.bytes)) = some (some (.int .i64 0), 1, 8) := by kernel_rfl
theorem rd_cut (bs : List Int) (l h j : Nat) (hj : l + j < h) : rd ((bs.take h).drop l) (j : Nat) = rd bs (l + j : Nat) := by
  rw [rd_drop]
  unfold rd
  rw [Int.toNat_natCast, List.getD_eq_getElem?_getD, List.getD_eq_getElem?_getD, List.getElem?_take, if_pos hj]
theorem rowCE {enc : Int → Value} {h1 : ∀ x, (enc x).oneCell' = true} {w : World} {g n : Nat} {t : TypeId} {xs : List Int} (h : RowE enc w g t xs) (hn : xs.length = n) (hm : n ≤ 9223372036854775807) : (Kd.scalar enc h1).C w (some ⟨g, 0, none⟩) n xs := by
  have := (h.toOwn (base := g) (Nat.le_refl _) (by omega)).read h1
  obtain ⟨A, c, e, _, hC⟩ := this
  injection e with e1 e2 e3
  rw [← e1, hn] at hC
  exact hC
set_option maxHeartbeats 4000000 in
theorem plDecodeInt32_calls (p : Option Addr) (A : Option Addr) (N c n : Nat) (bs : List Int) (w : World) (hC : (Kd.int .u8).C w A N bs) (hc : N ≤ c) (hN : N = 4 * n) (hn : n ≤ 100000) (hb : bytesB bs = true) :
    Calls Tryz.prog 16 #[.pointer p, .slice none 0 0, .slice A N c] w fun e w' => ∃ v, e = .returned (.tuple #[v, .nilIface]) ∧ Own w' w.heap.size 21 .i32 v ((List.range n).map (fun i => IntKind.i32.wrap (wd4 bs i))) ∧ Below w.heap.size w w' := by
  have HLN : Aside0 (bs.length = N) := ⟨hC.1⟩
  have HC := Aside0.mk hC
  have HBY := Aside0.mk hb
  have h1N : N ≤ 4 * n := by omega
  have h2N : 4 * n ≤ N := by omega
  have hq : (N : Int) / 4 = (n : Int) := by omega
  have hq2 : (N : Int) % 4 = 0 := by omega
  obtain ⟨i8, h8⟩ := h8
  obtain ⟨ie, he, hez⟩ := Option.map_eq_some_iff.1 infoI32'
  obtain ⟨cutz, _⟩ := cutHi (P := Tryz.prog) 30 21 Tryz.underlying30 he none 0 0 .i64 0 0 rfl (by omega) (by omega)
  have hmk : ∀ W : World, (Instr.makeSlice 30 (.int .i64 (n : Int)) (.int .i64 (n : Int))).run Tryz.prog W = .ok (.slice (some ⟨W.heap.size, 0, none⟩) n n) (W.alloc (.cells (madeCells #[.int .i32 0] n) 21)) := make1 (P := Tryz.prog) 30 21 (.int .i32 0) 4 Tryz.underlying30 infoI32' rfl n n (Nat.le_refl _) (by omega) (by omega)
  clear hC hb hN he hez
  go_enter Tryz.func16, Tryz.ntmps16
  go_wp2_with (fail)
  have HM : Aside0 (Row (w.alloc (.cells (madeCells #[.int .i32 0] n) 21)) w.heap.size 21 .i32 (partI (fun i => IntKind.i32.wrap (wd4 bs i)) n 0)) := ⟨by rw [partI_zero]; exact madeRow w 21 .i32 n⟩
  have HB : Aside0 (Below w.heap.size w (w.alloc (.cells (madeCells #[.int .i32 0] n) 21))) := ⟨(Below.refl _ _).alloc (Nat.le_refl _) _⟩
  generalize w.alloc (.cells (madeCells #[.int .i32 0] n) 21) = wm at *
  clear hmk hq hq2
  go_loopg [10, 11, 24] n (fun kq v10 v11 v24 w' => ∃ (j o : Nat), j ≤ n ∧ v24 = .int .i64 j ∧ v10 = .int .i64 o ∧ o ≤ 4 * j ∧ 4 * j ≤ o ∧ Aside0 (Row w' w.heap.size 21 .i32 (partI (fun i => IntKind.i32.wrap (wd4 bs i)) n j)) ∧ Aside0 (Below w.heap.size w w') ∧ Aside0 (n - j ≤ kq))
  case atStart => exact ⟨0, 0, by omega, rfl, rfl, by omega, by omega, HM, HB, ⟨by omega⟩⟩
  case round =>
    clear HM HB
    obtain ⟨j, o, hj, rfl, rfl, ho1, ho2, HR, HB, HK⟩ := hrel
    by_cases cj : j < n
    · have cjb : decide ((j : Int) < n) = true := decide_eq_true (by omega)
      have cjn : decide (j < n) = true := decide_eq_true (by omega)
      obtain ⟨A1, cut1, hC1⟩ := cutMid (P := Tryz.prog) 25 5 Tryz.underlying25 h8.1 h8.2 A N c .i64 .i64 (o : Int) (4 + (o : Int)) o (4 + o) rfl (by omega) (by omega) (by omega) hc
      rw [show 4 + o - o = 4 by omega] at cut1 hC1
      have HOQ : Aside0 (o = 4 * j) := ⟨by omega⟩
      have HCUT : Aside0 (le4L ((bs.take (4 + o)).drop o) = wd4 bs j) := ⟨by
        have e0 : ∀ i : Nat, i < 4 → rd ((bs.take (4 + o)).drop o) (i : Nat) = rd bs (o + i : Nat) := fun i hi => rd_cut bs o (4 + o) i (by omega)
        rw [wd4_rd, ← HOQ.out]; unfold le4L; have := e0 0 (by omega); have := e0 1 (by omega); have := e0 2 (by omega); have := e0 3 (by omega); simp_all⟩
      have HCALL := Aside0.mk (pqplain_leUint32.calls' A1 4 (c - o) ((bs.take (4 + o)).drop o) wr (hC1 _ _ _ rfl (Kd.C_below HC.out HB.out)) (by omega) (by omega) (bytesB_drop (bytesB_take HBY.out _) _))
      have hW := wd4_bd HBY.out (j := j) (by rw [HLN.out]; omega)
      obtain ⟨z, hz⟩ : ∃ z, wd4 bs j = z := ⟨_, rfl⟩
      rw [hz] at HCUT hW
      have HZ := Aside0.mk hz
      obtain ⟨hz0, hz1⟩ := hW
      have rc := HR.out.cell (j := j) (by rw [partI_length]; exact cj)
      have rf := HR.out.free j
      rw [rd_partI _ _ _ _ cj, if_neg (by omega)] at rc
      clear hC1 hj hz
      go_wp2_with (first
        | (go_at_call 45; (with_reducible refine HCALL.out.mono ?_); rintro e w2 ⟨he, ⟨nq, rfl⟩⟩; rw [HCUT.out] at he; subst he))
      go_roundg (gk - 1)
      case measure => have := HK.out; omega
      case rel =>
        refine ⟨j + 1, o + 4, by omega, by go_num, by go_num, by omega, by omega, ⟨?_⟩, ⟨Below.setCell (p := ⟨w.heap.size, j, none⟩) (HB.out.trans ((drewN_below wr nq).mono HB.out.size)) (Nat.le_refl _) _⟩, ⟨by have := HK.out; omega⟩⟩
        have := (HR.out.drewN nq).set j ((fun i => IntKind.i32.wrap (wd4 bs i)) j)
        rw [partI_set] at this
        have e : (fun i => IntKind.i32.wrap (wd4 bs i)) j = wrap32 z := by show IntKind.i32.wrap (wd4 bs j) = _; rw [HZ.out]; exact IntWalk.i32_left z
        rw [e] at this
        exact this
    · obtain rfl : j = n := by omega
      have cjb : decide ((j : Int) < j) = false := decide_eq_false (by omega)
      have HLL : Aside0 (((List.range j).map (fun i => IntKind.i32.wrap (wd4 bs i))).length = j) := ⟨by simp⟩
      have HE : Aside0 (Own wr w.heap.size 21 .i32 (.slice none 0 0) []) := ⟨Own.nil _ _ _ _⟩
      have HRC : Aside0 ((Kd.int .i32).C wr (some ⟨w.heap.size, 0, none⟩) j ((List.range j).map (fun i => IntKind.i32.wrap (wd4 bs i)))) := ⟨by
        have := HR.out
        rw [partI_full] at this
        exact rowC this (by simp) (by omega)⟩
      obtain ⟨ys, hys⟩ : ∃ ys, ys = (List.range j).map (fun i => IntKind.i32.wrap (wd4 bs i)) := ⟨_, rfl⟩
      have HYS := Aside0.mk hys
      rw [← hys] at HLL HRC
      clear hys
      go_wp2_with (first
        | (at_builtin; refine appendRead (w0 := w) w.heap.size rfl (.tmp 41) (.tmp 42) 30 21 .i32 4 rfl Tryz.underlying30 infoI32' (by decide) _ [] (some ⟨w.heap.size, 0, none⟩) j j ys rfl rfl HE.out HB.out HB.out.size HRC.out ?hl ?_; (case hl => simp; omega); intro v1 w1 ho hb hg; rw [List.nil_append] at ho; have HO1 := Aside0.mk ho; have HB1 := Aside0.mk hb; clear ho hb hg))
      go_ret2
      exact ⟨v1, rfl, by rw [← HYS.out]; exact HO1.out, HB1.out⟩
set_option maxHeartbeats 4000000 in
theorem plDecodeInt64_calls (p : Option Addr) (A : Option Addr) (N c n : Nat) (bs : List Int) (w : World) (hC : (Kd.int .u8).C w A N bs) (hc : N ≤ c) (hN : N = 8 * n) (hn : n ≤ 100000) (hb : bytesB bs = true) :
    Calls Tryz.prog 22 #[.pointer p, .slice none 0 0, .slice A N c] w fun e w' => ∃ v, e = .returned (.tuple #[v, .nilIface]) ∧ Own w' w.heap.size 2 .i64 v ((List.range n).map (fun i => IntKind.i64.wrap (wd8 bs i))) ∧ Below w.heap.size w w' := by
  have HLN : Aside0 (bs.length = N) := ⟨hC.1⟩
  have HC := Aside0.mk hC
  have HBY := Aside0.mk hb
  have h1N : N ≤ 8 * n := by omega
  have h2N : 8 * n ≤ N := by omega
  have hq : (N : Int) / 8 = (n : Int) := by omega
  have hq2 : (N : Int) % 8 = 0 := by omega
  obtain ⟨i8, h8⟩ := h8
  obtain ⟨ie, he, hez⟩ := Option.map_eq_some_iff.1 infoI64'
  obtain ⟨cutz, _⟩ := cutHi (P := Tryz.prog) 33 2 Tryz.underlying33 he none 0 0 .i64 0 0 rfl (by omega) (by omega)
  have hmk : ∀ W : World, (Instr.makeSlice 33 (.int .i64 (n : Int)) (.int .i64 (n : Int))).run Tryz.prog W = .ok (.slice (some ⟨W.heap.size, 0, none⟩) n n) (W.alloc (.cells (madeCells #[.int .i64 0] n) 2)) := make1 (P := Tryz.prog) 33 2 (.int .i64 0) 8 Tryz.underlying33 infoI64' rfl n n (Nat.le_refl _) (by omega) (by omega)
  clear hC hb hN he hez
  go_enter Tryz.func22, Tryz.ntmps22
  go_wp2_with (fail)
  have HM : Aside0 (Row (w.alloc (.cells (madeCells #[.int .i64 0] n) 2)) w.heap.size 2 .i64 (partI (fun i => IntKind.i64.wrap (wd8 bs i)) n 0)) := ⟨by rw [partI_zero]; exact madeRow w 2 .i64 n⟩
  have HB : Aside0 (Below w.heap.size w (w.alloc (.cells (madeCells #[.int .i64 0] n) 2))) := ⟨(Below.refl _ _).alloc (Nat.le_refl _) _⟩
  generalize w.alloc (.cells (madeCells #[.int .i64 0] n) 2) = wm at *
  clear hmk hq hq2
  go_loopg [10, 11, 24] n (fun kq v10 v11 v24 w' => ∃ (j o : Nat), j ≤ n ∧ v24 = .int .i64 j ∧ v10 = .int .i64 o ∧ o ≤ 8 * j ∧ 8 * j ≤ o ∧ Aside0 (Row w' w.heap.size 2 .i64 (partI (fun i => IntKind.i64.wrap (wd8 bs i)) n j)) ∧ Aside0 (Below w.heap.size w w') ∧ Aside0 (n - j ≤ kq))
  case atStart => exact ⟨0, 0, by omega, rfl, rfl, by omega, by omega, HM, HB, ⟨by omega⟩⟩
  case round =>
    clear HM HB
    obtain ⟨j, o, hj, rfl, rfl, ho1, ho2, HR, HB, HK⟩ := hrel
    by_cases cj : j < n
    · have cjb : decide ((j : Int) < n) = true := decide_eq_true (by omega)
      have cjn : decide (j < n) = true := decide_eq_true (by omega)
      obtain ⟨A1, cut1, hC1⟩ := cutMid (P := Tryz.prog) 25 5 Tryz.underlying25 h8.1 h8.2 A N c .i64 .i64 (o : Int) (8 + (o : Int)) o (8 + o) rfl (by omega) (by omega) (by omega) hc
      rw [show 8 + o - o = 8 by omega] at cut1 hC1
      have HOQ : Aside0 (o = 8 * j) := ⟨by omega⟩
      have HCUT : Aside0 (le8L ((bs.take (8 + o)).drop o) = wd8 bs j) := ⟨by
        have e0 : ∀ i : Nat, i < 8 → rd ((bs.take (8 + o)).drop o) (i : Nat) = rd bs (o + i : Nat) := fun i hi => rd_cut bs o (8 + o) i (by omega)
        rw [wd8_rd, ← HOQ.out]; unfold le8L le4L le8; have e4 : ∀ i : Nat, i < 4 → rd (((bs.take (8 + o)).drop o).drop 4) (i : Nat) = rd bs (o + (4 + i) : Nat) := fun i hi => by rw [rd_drop]; exact e0 (4 + i) (by omega)
        have := e0 0 (by omega); have := e0 1 (by omega); have := e0 2 (by omega); have := e0 3 (by omega); have := e4 0 (by omega); have := e4 1 (by omega); have := e4 2 (by omega); have := e4 3 (by omega); simp_all⟩
      have HCALL := Aside0.mk (pqplain_leUint64.calls' A1 8 (c - o) ((bs.take (8 + o)).drop o) wr (hC1 _ _ _ rfl (Kd.C_below HC.out HB.out)) (by omega) (by omega) (bytesB_drop (bytesB_take HBY.out _) _))
      have hW := wd8_bd HBY.out (j := j) (by rw [HLN.out]; omega)
      obtain ⟨z, hz⟩ : ∃ z, wd8 bs j = z := ⟨_, rfl⟩
      rw [hz] at HCUT hW
      have HZ := Aside0.mk hz
      obtain ⟨hz0, hz1⟩ := hW
      have rc := HR.out.cell (j := j) (by rw [partI_length]; exact cj)
      have rf := HR.out.free j
      rw [rd_partI _ _ _ _ cj, if_neg (by omega)] at rc
      clear hC1 hj hz
      go_wp2_with (first
        | (go_at_call 54; (with_reducible refine HCALL.out.mono ?_); rintro e w2 ⟨he, ⟨nq, rfl⟩⟩; rw [HCUT.out] at he; subst he))
      go_roundg (gk - 1)
      case measure => have := HK.out; omega
      case rel =>
        refine ⟨j + 1, o + 8, by omega, by go_num, by go_num, by omega, by omega, ⟨?_⟩, ⟨Below.setCell (p := ⟨w.heap.size, j, none⟩) (HB.out.trans ((drewN_below wr nq).mono HB.out.size)) (Nat.le_refl _) _⟩, ⟨by have := HK.out; omega⟩⟩
        have := (HR.out.drewN nq).set j ((fun i => IntKind.i64.wrap (wd8 bs i)) j)
        rw [partI_set] at this
        have e : (fun i => IntKind.i64.wrap (wd8 bs i)) j = wrap64 z := by show IntKind.i64.wrap (wd8 bs j) = _; rw [HZ.out]; exact IntWalk.i64_left z
        rw [e] at this
        exact this
    · obtain rfl : j = n := by omega
      have cjb : decide ((j : Int) < j) = false := decide_eq_false (by omega)
      have HLL : Aside0 (((List.range j).map (fun i => IntKind.i64.wrap (wd8 bs i))).length = j) := ⟨by simp⟩
      have HE : Aside0 (Own wr w.heap.size 2 .i64 (.slice none 0 0) []) := ⟨Own.nil _ _ _ _⟩
      have HRC : Aside0 ((Kd.int .i64).C wr (some ⟨w.heap.size, 0, none⟩) j ((List.range j).map (fun i => IntKind.i64.wrap (wd8 bs i)))) := ⟨by
        have := HR.out
        rw [partI_full] at this
        exact rowC this (by simp) (by omega)⟩
      obtain ⟨ys, hys⟩ : ∃ ys, ys = (List.range j).map (fun i => IntKind.i64.wrap (wd8 bs i)) := ⟨_, rfl⟩
      have HYS := Aside0.mk hys
      rw [← hys] at HLL HRC
      clear hys
      go_wp2_with (first
        | (at_builtin; refine appendRead (w0 := w) w.heap.size rfl (.tmp 41) (.tmp 42) 33 2 .i64 8 rfl Tryz.underlying33 infoI64' (by decide) _ [] (some ⟨w.heap.size, 0, none⟩) j j ys rfl rfl HE.out HB.out HB.out.size HRC.out ?hl ?_; (case hl => simp; omega); intro v1 w1 ho hb hg; rw [List.nil_append] at ho; have HO1 := Aside0.mk ho; have HB1 := Aside0.mk hb; clear ho hb hg))
      go_ret2
      exact ⟨v1, rfl, by rw [← HYS.out]; exact HO1.out, HB1.out⟩
end Go.Proofs.YtkefklemcoehmaaGreatDoor.Pln
