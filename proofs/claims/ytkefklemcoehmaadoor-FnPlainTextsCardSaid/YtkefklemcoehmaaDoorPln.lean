import Derived.Test.YtkefklemcoehmaaDoorWrd
/-! Walks of the plain encoding: numbers of 32 and 64 bits, with points and without. -/
namespace Go.Proofs.YtkefklemcoehmaaDoor.Pln
open Go.Proofs.YtkefklemcoehmaaDoor.Wrd Go.Proofs.YtkefklemcoehmaaDoor.Spl Go.Proofs.YtkefklemcoehmaaDoor.Str Go.Proofs.YtkefklemcoehmaaDoor.Flt Go.Proofs.YtkefklemcoehmaaDoor.Owe Go.Proofs.YtkefklemcoehmaaDoor.Num Go.Proofs.YtkefklemcoehmaaDoor.Le Go.Proofs.YtkefklemcoehmaaDoor.Lst Go.Proofs.YtkefklemcoehmaaDoor.Aid Go.RowKit Go.Proofs.YtkefklemcoehmaaDoorW.PrintWords Go.Proofs.YtkefklemcoehmaaDoorW.PrintLast Go.Proofs.YtkefklemcoehmaaDoorW.PrintMore
set_option linter.unusedVariables false
set_option linter.unusedSimpArgs false
/-- the numbers' signs -/
def sgnL (W : Nat) (l : List Int) : List Int := l.map fun x => if x < 2 ^ (W - 1) then x else x - 2 ^ W
theorem infoI32' : (Tryd.prog.info? 21).map (fun i => (i.zero, i.size, i.bytes)) = some (some (.int .i32 0), 1, 4) := by kernel_rfl
theorem infoI64' : (Tryd.prog.info? 2).map (fun i => (i.zero, i.size, i.bytes)) = some (some (.int .i64 0), 1, 8) := by kernel_rfl
theorem rd_cut (bs : List Int) (l h j : Nat) (hj : l + j < h) : rd ((bs.take h).drop l) (j : Nat) = rd bs (l + j : Nat) := by
  rw [rd_drop]
  unfold rd
  rw [Int.toNat_natCast, List.getD_eq_getElem?_getD, List.getD_eq_getElem?_getD, List.getElem?_take, if_pos hj]
theorem rowCE {enc : Int → Value} {h1 : ∀ x, (enc x).oneCell' = true} {w : World} {g n : Nat} {t : TypeId} {xs : List Int} (h : RowE enc w g t xs) (hn : xs.length = n) (hm : n ≤ 9223372036854775807) : (Kd.scalar enc h1).C w (some ⟨g, 0, none⟩) n xs := by
  have := (h.toOwn (base := g) (Nat.le_refl _) (by omega)).read h1
  obtain ⟨A, c, e, _, hC⟩ := this
  injection e with e1 e2 e3
  rw [← e1, hn] at hC
  exact hC
set_option maxHeartbeats 4000000 in
theorem plEncodeInt32_calls (p : Option Addr) (A : Option Addr) (n c : Nat) (l : List Int) (w : World) (hC : (Kd.int .i32).C w A n l) (hc : n ≤ c) (hn : n ≤ 100000) (hwf : ∀ x ∈ l, (Lit.int .i32 x).wf = true) :
    Calls Tryd.prog 52 #[.pointer p, .slice none 0 0, .slice A n c] w fun e w' => ∃ v, e = .returned (.tuple #[v, .nilIface]) ∧ Own w' w.heap.size 5 .u8 v (enLowL 4 (wideL 32 l)) ∧ Below w.heap.size w w' := by
  have HLN : Aside0 (l.length = n) := ⟨hC.1⟩
  have HC := Aside0.mk hC
  obtain ⟨ws, hws⟩ : ∃ ws, wideL 32 l = ws := ⟨_, rfl⟩
  have HWS := Aside0.mk hws
  have HWL : Aside0 (ws.length = n) := ⟨by rw [← hws, show (wideL 32 l).length = l.length from List.length_map _]; exact HLN.out⟩
  have HU : Aside0 (u32L ws) := ⟨by rw [← hws]; intro x hx; simp only [wideL, List.mem_map] at hx; obtain ⟨y, _, rfl⟩ := hx; simp only [wideI]; unfold u32B; omega⟩
  obtain ⟨i8, h8⟩ := h8
  obtain ⟨cutz, _⟩ := cutHi (P := Tryd.prog) 22 5 Tryd.underlying22 h8.1 none 0 0 .i64 0 0 rfl (by omega) (by omega)
  obtain ⟨m, hm⟩ : ∃ m, m = 4 * n := ⟨_, rfl⟩
  have hmi : (n : Int) * 4 = (m : Int) := by omega
  have hmk : ∀ W : World, (Instr.makeSlice 22 (.int .i64 ((n : Int) * 4)) (.int .i64 ((n : Int) * 4))).run Tryd.prog W = .ok (.slice (some ⟨W.heap.size, 0, none⟩) m m) (W.alloc (.cells (madeCells #[.int .u8 0] m) 5)) := by
    rw [hmi]; exact print_make (P := Tryd.prog) 22 5 .u8 1 Tryd.underlying22 infoU8 (by decide) m (by omega)
  have hm1 : m ≤ 4 * n := by omega
  have hm2 : 4 * n ≤ m := by omega
  have HMQ := Aside0.mk hm
  rw [hws]
  clear hC hmi hm hws
  go_enter Tryd.func52, Tryd.ntmps52
  go_wp2_with (fail)
  have HM : Aside0 (Row (w.alloc (.cells (madeCells #[.int .u8 0] m) 5)) w.heap.size 5 .u8 (p4 ws n 0)) := ⟨by rw [HMQ.out]; exact madeRow w 5 .u8 (4 * n)⟩
  have HB : Aside0 (Below w.heap.size w (w.alloc (.cells (madeCells #[.int .u8 0] m) 5))) := ⟨(Below.refl _ _).alloc (Nat.le_refl _) _⟩
  have HSZ : Aside0 (w.heap.size < (w.alloc (.cells (madeCells #[.int .u8 0] m) 5)).heap.size) := ⟨by simp⟩
  generalize w.alloc (.cells (madeCells #[.int .u8 0] m) 5) = wm at *
  clear hmk
  go_loopg [10, 11, 18] n (fun kq v10 v11 v18 w' => ∃ (j o : Nat), j ≤ n ∧ v18 = .int .i64 j ∧ v10 = .int .i64 o ∧ o ≤ 4 * j ∧ 4 * j ≤ o ∧ Aside0 (Row w' w.heap.size 5 .u8 (p4 ws n j)) ∧ Aside0 (Below w.heap.size w w') ∧ Aside0 (n - j ≤ kq))
  case atStart => exact ⟨0, 0, by omega, rfl, rfl, by omega, by omega, HM, HB, ⟨by omega⟩⟩
  case round =>
    clear HM HB
    obtain ⟨j, o, hj, rfl, rfl, ho1, ho2, HR, HB, HK⟩ := hrel
    by_cases cj : j < n
    · have cjb : decide ((j : Int) < n) = true := decide_eq_true (by omega)
      have cjn : decide (j < n) = true := decide_eq_true (by omega)
      obtain ⟨ad, ead, hcell⟩ := Kd.at_int (Kd.C_below HC.out HB.out) (j : Int) (by omega) (by omega)
      rw [Int.toNat_natCast] at hcell
      obtain ⟨y, hy⟩ : ∃ y, rd l (j : Int) = y := ⟨_, rfl⟩
      rw [hy] at hcell
      obtain ⟨z, hz⟩ : ∃ z, y % 4294967296 = z := ⟨_, rfl⟩
      have hz0 : 0 ≤ z := by omega
      have hz1 : z < 4294967296 := by omega
      have qwz : IntKind.u32.wrap y = z := by rw [IntKind.wrap_u32]; exact hz
      have HY : Aside0 (rd ws (j : Nat) = z) := ⟨by rw [← HWS.out]; show rd (l.map (wideI 32)) (j : Nat) = z; rw [rd_map _ _ _ (by rw [HLN.out]; exact cj), hy]; exact hz⟩
      clear hy hz
      have cut1 := cutAtMid (P := Tryd.prog) 22 5 Tryd.underlying22 h8.1 h8.2 w.heap.size m m .i64 .i64 (o : Int) (4 + (o : Int)) o (4 + o) rfl (by omega) (by omega) (by omega) (by omega) (by omega)
      rw [show 4 + o - o = 4 by omega] at cut1
      have HOQ : Aside0 (o = 4 * j) := ⟨by omega⟩
      have HCALL := Aside0.mk fun nq => pqplain_lePutUint32.calls w.heap.size o 4 (m - o) 5 (p4 ws n j) z (wr.drewN nq) (HR.out.drewN nq) (by omega) (by rw [p4_length]; omega) hz0 hz1
      have qw : IntKind.i64.wrap (4 + (o : Int)) = 4 + (o : Int) := IntWalk.i64_in _ (by omega)
      have qi1 : (j < n) = True := eq_true cj
      have qi2 : ((j : Int) < (n : Int)) = True := eq_true (by omega)
      have qi3 : (0 ≤ (j : Int)) = True := eq_true (by omega)
      have qi4 : (0 ≤ (o : Int)) = True := eq_true (by omega)
      clear hj
      subst ead
      go_wp2_with (fail)
      refine region_tail 10 (by kernel_rfl) (by kernel_rfl) ?_
      simp only [List.take_succ_cons, List.take_zero, List.drop_succ_cons, List.drop_zero]
      repeat (quiet_step ((fail)))
      refine wpQuiet_nil ?_
      rintro _ ⟨nq, rfl⟩
      clear qi1 qi2 qi3 qi4
      go_wp2_with (first
        | (go_at_call 104; (with_reducible refine (HCALL.out nq).mono ?_); rintro e w2 ⟨rfl, hg, hrow⟩; have HG2 := Aside0.mk hg; have HM2 := Aside0.mk hrow; clear hg hrow))
      go_roundg (gk - 1)
      case measure => have := HK.out; omega
      case rel =>
        refine ⟨j + 1, o + 4, by omega, by go_num, by go_num, by omega, by omega, ⟨?_⟩, ⟨belowGrown (HB.out.trans ((drewN_below wr nq).mono HB.out.size)) HG2.out (Nat.le_refl _)⟩, ⟨by have := HK.out; omega⟩⟩
        have := HM2.out
        rw [← HY.out, HOQ.out] at this
        exact this
    · obtain rfl : j = n := by omega
      have cjb : decide ((j : Int) < j) = false := decide_eq_false (by omega)
      have HE : Aside0 (Own wr w.heap.size 5 .u8 (.slice none 0 0) []) := ⟨Own.nil _ _ _ _⟩
      have HRC : Aside0 ((Kd.int .u8).C wr (some ⟨w.heap.size, 0, none⟩) m (enLowL 4 ws)) := ⟨by have := rowC HR.out (n := m) (by rw [p4_length]; omega) (by omega); rw [p4_enLow ws j HWL.out] at this; exact this⟩
      go_wp2_with (first
        | (at_builtin; refine appendRead (w0 := w) w.heap.size rfl (.tmp 36) (.tmp 37) 22 5 .u8 1 rfl Tryd.underlying22 infoU8 (by decide) _ [] (some ⟨w.heap.size, 0, none⟩) m m (enLowL 4 ws) rfl rfl HE.out HB.out HB.out.size HRC.out ?hl ?_; (case hl => simp; omega); intro v1 w1 ho hb hg; rw [List.nil_append] at ho; have HO1 := Aside0.mk ho; have HB1 := Aside0.mk hb; clear ho hb hg))
      go_ret2
      exact ⟨v1, rfl, HO1.out, HB1.out⟩
set_option maxHeartbeats 4000000 in
theorem plDecodeInt32_calls (p : Option Addr) (A : Option Addr) (N c n : Nat) (bs : List Int) (w : World) (hC : (Kd.int .u8).C w A N bs) (hc : N ≤ c) (hN : N = 4 * n) (hn : n ≤ 100000) (hb : bytesB bs = true) :
    Calls Tryd.prog 58 #[.pointer p, .slice none 0 0, .slice A N c] w fun e w' => ∃ v, e = .returned (.tuple #[v, .nilIface]) ∧ Own w' w.heap.size 21 .i32 v ((List.range n).map (fun i => IntKind.i32.wrap (wd4 bs i))) ∧ Below w.heap.size w w' := by
  have HLN : Aside0 (bs.length = N) := ⟨hC.1⟩
  have HC := Aside0.mk hC
  have HBY := Aside0.mk hb
  have h1N : N ≤ 4 * n := by omega
  have h2N : 4 * n ≤ N := by omega
  have hq : (N : Int) / 4 = (n : Int) := by omega
  have hq2 : (N : Int) % 4 = 0 := by omega
  obtain ⟨i8, h8⟩ := h8
  obtain ⟨ie, he, hez⟩ := Option.map_eq_some_iff.1 infoI32'
  obtain ⟨cutz, _⟩ := cutHi (P := Tryd.prog) 48 21 Tryd.underlying48 he none 0 0 .i64 0 0 rfl (by omega) (by omega)
  have hmk : ∀ W : World, (Instr.makeSlice 48 (.int .i64 (n : Int)) (.int .i64 (n : Int))).run Tryd.prog W = .ok (.slice (some ⟨W.heap.size, 0, none⟩) n n) (W.alloc (.cells (madeCells #[.int .i32 0] n) 21)) := make1 (P := Tryd.prog) 48 21 (.int .i32 0) 4 Tryd.underlying48 infoI32' rfl n n (Nat.le_refl _) (by omega) (by omega)
  clear hC hb hN he hez
  go_enter Tryd.func58, Tryd.ntmps58
  go_wp2_with (fail)
  have HM : Aside0 (Row (w.alloc (.cells (madeCells #[.int .i32 0] n) 21)) w.heap.size 21 .i32 (partI (fun i => IntKind.i32.wrap (wd4 bs i)) n 0)) := ⟨by rw [partI_zero]; exact madeRow w 21 .i32 n⟩
  have HB : Aside0 (Below w.heap.size w (w.alloc (.cells (madeCells #[.int .i32 0] n) 21))) := ⟨(Below.refl _ _).alloc (Nat.le_refl _) _⟩
  generalize w.alloc (.cells (madeCells #[.int .i32 0] n) 21) = wm at *
  clear hmk hq hq2
  go_loopg [10, 11, 24] n (fun kq v10 v11 v24 w' => ∃ (j o : Nat), j ≤ n ∧ v24 = .int .i64 j ∧ v10 = .int .i64 o ∧ o ≤ 4 * j ∧ 4 * j ≤ o ∧ Aside0 (Row w' w.heap.size 21 .i32 (partI (fun i => IntKind.i32.wrap (wd4 bs i)) n j)) ∧ Aside0 (Below w.heap.size w w') ∧ Aside0 (n - j ≤ kq))
  case atStart => exact ⟨0, 0, by omega, rfl, rfl, by omega, by omega, HM, HB, ⟨by omega⟩⟩
  case round =>
    clear HM HB
    obtain ⟨j, o, hj, rfl, rfl, ho1, ho2, HR, HB, HK⟩ := hrel
    by_cases cj : j < n
    · have cjb : decide ((j : Int) < n) = true := decide_eq_true (by omega)
      have cjn : decide (j < n) = true := decide_eq_true (by omega)
      obtain ⟨A1, cut1, hC1⟩ := cutMid (P := Tryd.prog) 22 5 Tryd.underlying22 h8.1 h8.2 A N c .i64 .i64 (o : Int) (4 + (o : Int)) o (4 + o) rfl (by omega) (by omega) (by omega) hc
      rw [show 4 + o - o = 4 by omega] at cut1 hC1
      have HOQ : Aside0 (o = 4 * j) := ⟨by omega⟩
      have HCUT : Aside0 (le4L ((bs.take (4 + o)).drop o) = wd4 bs j) := ⟨by
        have e0 : ∀ i : Nat, i < 4 → rd ((bs.take (4 + o)).drop o) (i : Nat) = rd bs (o + i : Nat) := fun i hi => rd_cut bs o (4 + o) i (by omega)
        rw [wd4_rd, ← HOQ.out]; unfold le4L; have := e0 0 (by omega); have := e0 1 (by omega); have := e0 2 (by omega); have := e0 3 (by omega); simp_all⟩
      have HCALL := Aside0.mk (pqplain_leUint32.calls' A1 4 (c - o) ((bs.take (4 + o)).drop o) wr (hC1 _ _ _ rfl (Kd.C_below HC.out HB.out)) (by omega) (by omega) (bytesB_drop (bytesB_take HBY.out _) _))
      have hW := wd4_bd HBY.out (j := j) (by rw [HLN.out]; omega)
      obtain ⟨z, hz⟩ : ∃ z, wd4 bs j = z := ⟨_, rfl⟩
      rw [hz] at HCUT hW
      have HZ := Aside0.mk hz
      obtain ⟨hz0, hz1⟩ := hW
      have rc := HR.out.cell (j := j) (by rw [partI_length]; exact cj)
      have rf := HR.out.free j
      rw [rd_partI _ _ _ _ cj, if_neg (by omega)] at rc
      clear hC1 hj hz
      go_wp2_with (first
        | (go_at_call 110; (with_reducible refine HCALL.out.mono ?_); rintro e w2 ⟨he, ⟨nq, rfl⟩⟩; rw [HCUT.out] at he; subst he))
      go_roundg (gk - 1)
      case measure => have := HK.out; omega
      case rel =>
        refine ⟨j + 1, o + 4, by omega, by go_num, by go_num, by omega, by omega, ⟨?_⟩, ⟨Below.setCell (p := ⟨w.heap.size, j, none⟩) (HB.out.trans ((drewN_below wr nq).mono HB.out.size)) (Nat.le_refl _) _⟩, ⟨by have := HK.out; omega⟩⟩
        have := (HR.out.drewN nq).set j ((fun i => IntKind.i32.wrap (wd4 bs i)) j)
        rw [partI_set] at this
        have e : (fun i => IntKind.i32.wrap (wd4 bs i)) j = wrap32 z := by show IntKind.i32.wrap (wd4 bs j) = _; rw [HZ.out]; exact IntWalk.i32_left z
        rw [e] at this
        exact this
    · obtain rfl : j = n := by omega
      have cjb : decide ((j : Int) < j) = false := decide_eq_false (by omega)
      have HLL : Aside0 (((List.range j).map (fun i => IntKind.i32.wrap (wd4 bs i))).length = j) := ⟨by simp⟩
      have HE : Aside0 (Own wr w.heap.size 21 .i32 (.slice none 0 0) []) := ⟨Own.nil _ _ _ _⟩
      have HRC : Aside0 ((Kd.int .i32).C wr (some ⟨w.heap.size, 0, none⟩) j ((List.range j).map (fun i => IntKind.i32.wrap (wd4 bs i)))) := ⟨by
        have := HR.out
        rw [partI_full] at this
        exact rowC this (by simp) (by omega)⟩
      obtain ⟨ys, hys⟩ : ∃ ys, ys = (List.range j).map (fun i => IntKind.i32.wrap (wd4 bs i)) := ⟨_, rfl⟩
      have HYS := Aside0.mk hys
      rw [← hys] at HLL HRC
      clear hys
      go_wp2_with (first
        | (at_builtin; refine appendRead (w0 := w) w.heap.size rfl (.tmp 41) (.tmp 42) 48 21 .i32 4 rfl Tryd.underlying48 infoI32' (by decide) _ [] (some ⟨w.heap.size, 0, none⟩) j j ys rfl rfl HE.out HB.out HB.out.size HRC.out ?hl ?_; (case hl => simp; omega); intro v1 w1 ho hb hg; rw [List.nil_append] at ho; have HO1 := Aside0.mk ho; have HB1 := Aside0.mk hb; clear ho hb hg))
      go_ret2
      exact ⟨v1, rfl, by rw [← HYS.out]; exact HO1.out, HB1.out⟩
set_option maxHeartbeats 4000000 in
theorem plEncodeInt64_calls (p : Option Addr) (A : Option Addr) (n c : Nat) (l : List Int) (w : World) (hC : (Kd.int .i64).C w A n l) (hc : n ≤ c) (hn : n ≤ 100000) (hwf : ∀ x ∈ l, (Lit.int .i64 x).wf = true) :
    Calls Tryd.prog 34 #[.pointer p, .slice none 0 0, .slice A n c] w fun e w' => ∃ v, e = .returned (.tuple #[v, .nilIface]) ∧ Own w' w.heap.size 5 .u8 v (enLowL 8 (wideL 64 l)) ∧ Below w.heap.size w w' := by
  have HLN : Aside0 (l.length = n) := ⟨hC.1⟩
  have HC := Aside0.mk hC
  obtain ⟨ws, hws⟩ : ∃ ws, wideL 64 l = ws := ⟨_, rfl⟩
  have HWS := Aside0.mk hws
  have HWL : Aside0 (ws.length = n) := ⟨by rw [← hws, show (wideL 64 l).length = l.length from List.length_map _]; exact HLN.out⟩
  have HU : Aside0 (u64L ws) := ⟨by rw [← hws]; intro x hx; simp only [wideL, List.mem_map] at hx; obtain ⟨y, _, rfl⟩ := hx; simp only [wideI]; unfold u64B; omega⟩
  obtain ⟨i8, h8⟩ := h8
  obtain ⟨cutz, _⟩ := cutHi (P := Tryd.prog) 22 5 Tryd.underlying22 h8.1 none 0 0 .i64 0 0 rfl (by omega) (by omega)
  obtain ⟨m, hm⟩ : ∃ m, m = 8 * n := ⟨_, rfl⟩
  have hmi : (n : Int) * 8 = (m : Int) := by omega
  have hmk : ∀ W : World, (Instr.makeSlice 22 (.int .i64 ((n : Int) * 8)) (.int .i64 ((n : Int) * 8))).run Tryd.prog W = .ok (.slice (some ⟨W.heap.size, 0, none⟩) m m) (W.alloc (.cells (madeCells #[.int .u8 0] m) 5)) := by
    rw [hmi]; exact print_make (P := Tryd.prog) 22 5 .u8 1 Tryd.underlying22 infoU8 (by decide) m (by omega)
  have hm1 : m ≤ 8 * n := by omega
  have hm2 : 8 * n ≤ m := by omega
  have HMQ := Aside0.mk hm
  rw [hws]
  clear hC hmi hm hws
  go_enter Tryd.func34, Tryd.ntmps34
  go_wp2_with (fail)
  have HM : Aside0 (Row (w.alloc (.cells (madeCells #[.int .u8 0] m) 5)) w.heap.size 5 .u8 (p8 ws n 0)) := ⟨by rw [HMQ.out]; exact madeRow w 5 .u8 (8 * n)⟩
  have HB : Aside0 (Below w.heap.size w (w.alloc (.cells (madeCells #[.int .u8 0] m) 5))) := ⟨(Below.refl _ _).alloc (Nat.le_refl _) _⟩
  have HSZ : Aside0 (w.heap.size < (w.alloc (.cells (madeCells #[.int .u8 0] m) 5)).heap.size) := ⟨by simp⟩
  generalize w.alloc (.cells (madeCells #[.int .u8 0] m) 5) = wm at *
  clear hmk
  go_loopg [10, 11, 18] n (fun kq v10 v11 v18 w' => ∃ (j o : Nat), j ≤ n ∧ v18 = .int .i64 j ∧ v10 = .int .i64 o ∧ o ≤ 8 * j ∧ 8 * j ≤ o ∧ Aside0 (Row w' w.heap.size 5 .u8 (p8 ws n j)) ∧ Aside0 (Below w.heap.size w w') ∧ Aside0 (n - j ≤ kq))
  case atStart => exact ⟨0, 0, by omega, rfl, rfl, by omega, by omega, HM, HB, ⟨by omega⟩⟩
  case round =>
    clear HM HB
    obtain ⟨j, o, hj, rfl, rfl, ho1, ho2, HR, HB, HK⟩ := hrel
    by_cases cj : j < n
    · have cjb : decide ((j : Int) < n) = true := decide_eq_true (by omega)
      have cjn : decide (j < n) = true := decide_eq_true (by omega)
      obtain ⟨ad, ead, hcell⟩ := Kd.at_int (Kd.C_below HC.out HB.out) (j : Int) (by omega) (by omega)
      rw [Int.toNat_natCast] at hcell
      obtain ⟨y, hy⟩ : ∃ y, rd l (j : Int) = y := ⟨_, rfl⟩
      rw [hy] at hcell
      obtain ⟨z, hz⟩ : ∃ z, y % 18446744073709551616 = z := ⟨_, rfl⟩
      have hz0 : 0 ≤ z := by omega
      have hz1 : z < 18446744073709551616 := by omega
      have qwz : IntKind.u64.wrap y = z := by rw [IntKind.wrap_u64]; exact hz
      have HY : Aside0 (rd ws (j : Nat) = z) := ⟨by rw [← HWS.out]; show rd (l.map (wideI 64)) (j : Nat) = z; rw [rd_map _ _ _ (by rw [HLN.out]; exact cj), hy]; exact hz⟩
      clear hy hz
      have cut1 := cutAtMid (P := Tryd.prog) 22 5 Tryd.underlying22 h8.1 h8.2 w.heap.size m m .i64 .i64 (o : Int) (8 + (o : Int)) o (8 + o) rfl (by omega) (by omega) (by omega) (by omega) (by omega)
      rw [show 8 + o - o = 8 by omega] at cut1
      have HOQ : Aside0 (o = 8 * j) := ⟨by omega⟩
      have HCALL := Aside0.mk fun nq => pqplain_lePutUint64.calls w.heap.size o 8 (m - o) 5 (p8 ws n j) z (wr.drewN nq) (HR.out.drewN nq) (by omega) (by omega) (by rw [p8_length]; omega) hz0 hz1
      have qw : IntKind.i64.wrap (8 + (o : Int)) = 8 + (o : Int) := IntWalk.i64_in _ (by omega)
      have qi1 : (j < n) = True := eq_true cj
      have qi2 : ((j : Int) < (n : Int)) = True := eq_true (by omega)
      have qi3 : (0 ≤ (j : Int)) = True := eq_true (by omega)
      have qi4 : (0 ≤ (o : Int)) = True := eq_true (by omega)
      clear hj
      subst ead
      go_wp2_with (fail)
      refine region_tail 10 (by kernel_rfl) (by kernel_rfl) ?_
      simp only [List.take_succ_cons, List.take_zero, List.drop_succ_cons, List.drop_zero]
      repeat (quiet_step ((fail)))
      refine wpQuiet_nil ?_
      rintro _ ⟨nq, rfl⟩
      clear qi1 qi2 qi3 qi4
      go_wp2_with (first
        | (go_at_call 69; (with_reducible refine (HCALL.out nq).mono ?_); rintro e w2 ⟨rfl, hg, hrow⟩; have HG2 := Aside0.mk hg; have HM2 := Aside0.mk hrow; clear hg hrow))
      go_roundg (gk - 1)
      case measure => have := HK.out; omega
      case rel =>
        refine ⟨j + 1, o + 8, by omega, by go_num, by go_num, by omega, by omega, ⟨?_⟩, ⟨belowGrown (HB.out.trans ((drewN_below wr nq).mono HB.out.size)) HG2.out (Nat.le_refl _)⟩, ⟨by have := HK.out; omega⟩⟩
        have := HM2.out
        rw [← HY.out, HOQ.out] at this
        exact this
    · obtain rfl : j = n := by omega
      have cjb : decide ((j : Int) < j) = false := decide_eq_false (by omega)
      have HE : Aside0 (Own wr w.heap.size 5 .u8 (.slice none 0 0) []) := ⟨Own.nil _ _ _ _⟩
      have HRC : Aside0 ((Kd.int .u8).C wr (some ⟨w.heap.size, 0, none⟩) m (enLowL 8 ws)) := ⟨by have := rowC HR.out (n := m) (by rw [p8_length]; omega) (by omega); rw [p8_enLow ws j HWL.out] at this; exact this⟩
      go_wp2_with (first
        | (at_builtin; refine appendRead (w0 := w) w.heap.size rfl (.tmp 36) (.tmp 37) 22 5 .u8 1 rfl Tryd.underlying22 infoU8 (by decide) _ [] (some ⟨w.heap.size, 0, none⟩) m m (enLowL 8 ws) rfl rfl HE.out HB.out HB.out.size HRC.out ?hl ?_; (case hl => simp; omega); intro v1 w1 ho hb hg; rw [List.nil_append] at ho; have HO1 := Aside0.mk ho; have HB1 := Aside0.mk hb; clear ho hb hg))
      go_ret2
      exact ⟨v1, rfl, HO1.out, HB1.out⟩
set_option maxHeartbeats 4000000 in
theorem plDecodeInt64_calls (p : Option Addr) (A : Option Addr) (N c n : Nat) (bs : List Int) (w : World) (hC : (Kd.int .u8).C w A N bs) (hc : N ≤ c) (hN : N = 8 * n) (hn : n ≤ 100000) (hb : bytesB bs = true) :
    Calls Tryd.prog 37 #[.pointer p, .slice none 0 0, .slice A N c] w fun e w' => ∃ v, e = .returned (.tuple #[v, .nilIface]) ∧ Own w' w.heap.size 2 .i64 v ((List.range n).map (fun i => IntKind.i64.wrap (wd8 bs i))) ∧ Below w.heap.size w w' := by
  have HLN : Aside0 (bs.length = N) := ⟨hC.1⟩
  have HC := Aside0.mk hC
  have HBY := Aside0.mk hb
  have h1N : N ≤ 8 * n := by omega
  have h2N : 8 * n ≤ N := by omega
  have hq : (N : Int) / 8 = (n : Int) := by omega
  have hq2 : (N : Int) % 8 = 0 := by omega
  obtain ⟨i8, h8⟩ := h8
  obtain ⟨ie, he, hez⟩ := Option.map_eq_some_iff.1 infoI64'
  obtain ⟨cutz, _⟩ := cutHi (P := Tryd.prog) 28 2 Tryd.underlying28 he none 0 0 .i64 0 0 rfl (by omega) (by omega)
  have hmk : ∀ W : World, (Instr.makeSlice 28 (.int .i64 (n : Int)) (.int .i64 (n : Int))).run Tryd.prog W = .ok (.slice (some ⟨W.heap.size, 0, none⟩) n n) (W.alloc (.cells (madeCells #[.int .i64 0] n) 2)) := make1 (P := Tryd.prog) 28 2 (.int .i64 0) 8 Tryd.underlying28 infoI64' rfl n n (Nat.le_refl _) (by omega) (by omega)
  clear hC hb hN he hez
  go_enter Tryd.func37, Tryd.ntmps37
  go_wp2_with (fail)
  have HM : Aside0 (Row (w.alloc (.cells (madeCells #[.int .i64 0] n) 2)) w.heap.size 2 .i64 (partI (fun i => IntKind.i64.wrap (wd8 bs i)) n 0)) := ⟨by rw [partI_zero]; exact madeRow w 2 .i64 n⟩
  have HB : Aside0 (Below w.heap.size w (w.alloc (.cells (madeCells #[.int .i64 0] n) 2))) := ⟨(Below.refl _ _).alloc (Nat.le_refl _) _⟩
  generalize w.alloc (.cells (madeCells #[.int .i64 0] n) 2) = wm at *
  clear hmk hq hq2
  go_loopg [10, 11, 24] n (fun kq v10 v11 v24 w' => ∃ (j o : Nat), j ≤ n ∧ v24 = .int .i64 j ∧ v10 = .int .i64 o ∧ o ≤ 8 * j ∧ 8 * j ≤ o ∧ Aside0 (Row w' w.heap.size 2 .i64 (partI (fun i => IntKind.i64.wrap (wd8 bs i)) n j)) ∧ Aside0 (Below w.heap.size w w') ∧ Aside0 (n - j ≤ kq))
  case atStart => exact ⟨0, 0, by omega, rfl, rfl, by omega, by omega, HM, HB, ⟨by omega⟩⟩
  case round =>
    clear HM HB
    obtain ⟨j, o, hj, rfl, rfl, ho1, ho2, HR, HB, HK⟩ := hrel
    by_cases cj : j < n
    · have cjb : decide ((j : Int) < n) = true := decide_eq_true (by omega)
      have cjn : decide (j < n) = true := decide_eq_true (by omega)
      obtain ⟨A1, cut1, hC1⟩ := cutMid (P := Tryd.prog) 22 5 Tryd.underlying22 h8.1 h8.2 A N c .i64 .i64 (o : Int) (8 + (o : Int)) o (8 + o) rfl (by omega) (by omega) (by omega) hc
      rw [show 8 + o - o = 8 by omega] at cut1 hC1
      have HOQ : Aside0 (o = 8 * j) := ⟨by omega⟩
      have HCUT : Aside0 (le8L ((bs.take (8 + o)).drop o) = wd8 bs j) := ⟨by
        have e0 : ∀ i : Nat, i < 8 → rd ((bs.take (8 + o)).drop o) (i : Nat) = rd bs (o + i : Nat) := fun i hi => rd_cut bs o (8 + o) i (by omega)
        rw [wd8_rd, ← HOQ.out]; unfold le8L le4L le8; have e4 : ∀ i : Nat, i < 4 → rd (((bs.take (8 + o)).drop o).drop 4) (i : Nat) = rd bs (o + (4 + i) : Nat) := fun i hi => by rw [rd_drop]; exact e0 (4 + i) (by omega)
        have := e0 0 (by omega); have := e0 1 (by omega); have := e0 2 (by omega); have := e0 3 (by omega); have := e4 0 (by omega); have := e4 1 (by omega); have := e4 2 (by omega); have := e4 3 (by omega); simp_all⟩
      have HCALL := Aside0.mk (pqplain_leUint64.calls' A1 8 (c - o) ((bs.take (8 + o)).drop o) wr (hC1 _ _ _ rfl (Kd.C_below HC.out HB.out)) (by omega) (by omega) (bytesB_drop (bytesB_take HBY.out _) _))
      have hW := wd8_bd HBY.out (j := j) (by rw [HLN.out]; omega)
      obtain ⟨z, hz⟩ : ∃ z, wd8 bs j = z := ⟨_, rfl⟩
      rw [hz] at HCUT hW
      have HZ := Aside0.mk hz
      obtain ⟨hz0, hz1⟩ := hW
      have rc := HR.out.cell (j := j) (by rw [partI_length]; exact cj)
      have rf := HR.out.free j
      rw [rd_partI _ _ _ _ cj, if_neg (by omega)] at rc
      clear hC1 hj hz
      go_wp2_with (first
        | (go_at_call 75; (with_reducible refine HCALL.out.mono ?_); rintro e w2 ⟨he, ⟨nq, rfl⟩⟩; rw [HCUT.out] at he; subst he))
      go_roundg (gk - 1)
      case measure => have := HK.out; omega
      case rel =>
        refine ⟨j + 1, o + 8, by omega, by go_num, by go_num, by omega, by omega, ⟨?_⟩, ⟨Below.setCell (p := ⟨w.heap.size, j, none⟩) (HB.out.trans ((drewN_below wr nq).mono HB.out.size)) (Nat.le_refl _) _⟩, ⟨by have := HK.out; omega⟩⟩
        have := (HR.out.drewN nq).set j ((fun i => IntKind.i64.wrap (wd8 bs i)) j)
        rw [partI_set] at this
        have e : (fun i => IntKind.i64.wrap (wd8 bs i)) j = wrap64 z := by show IntKind.i64.wrap (wd8 bs j) = _; rw [HZ.out]; exact IntWalk.i64_left z
        rw [e] at this
        exact this
    · obtain rfl : j = n := by omega
      have cjb : decide ((j : Int) < j) = false := decide_eq_false (by omega)
      have HLL : Aside0 (((List.range j).map (fun i => IntKind.i64.wrap (wd8 bs i))).length = j) := ⟨by simp⟩
      have HE : Aside0 (Own wr w.heap.size 2 .i64 (.slice none 0 0) []) := ⟨Own.nil _ _ _ _⟩
      have HRC : Aside0 ((Kd.int .i64).C wr (some ⟨w.heap.size, 0, none⟩) j ((List.range j).map (fun i => IntKind.i64.wrap (wd8 bs i)))) := ⟨by
        have := HR.out
        rw [partI_full] at this
        exact rowC this (by simp) (by omega)⟩
      obtain ⟨ys, hys⟩ : ∃ ys, ys = (List.range j).map (fun i => IntKind.i64.wrap (wd8 bs i)) := ⟨_, rfl⟩
      have HYS := Aside0.mk hys
      rw [← hys] at HLL HRC
      clear hys
      go_wp2_with (first
        | (at_builtin; refine appendRead (w0 := w) w.heap.size rfl (.tmp 41) (.tmp 42) 28 2 .i64 8 rfl Tryd.underlying28 infoI64' (by decide) _ [] (some ⟨w.heap.size, 0, none⟩) j j ys rfl rfl HE.out HB.out HB.out.size HRC.out ?hl ?_; (case hl => simp; omega); intro v1 w1 ho hb hg; rw [List.nil_append] at ho; have HO1 := Aside0.mk ho; have HB1 := Aside0.mk hb; clear ho hb hg))
      go_ret2
      exact ⟨v1, rfl, by rw [← HYS.out]; exact HO1.out, HB1.out⟩
end Go.Proofs.YtkefklemcoehmaaDoor.Pln
