import Derived.Test.YtkefklemcoehmaaWrd
/-! Walks of the plain encoding: numbers of 32 and 64 bits, with points and without. -/
namespace Go.Proofs.Ytkefklemcoehmaa.Pln
open Go.Proofs.Ytkefklemcoehmaa.Wrd Go.Proofs.Ytkefklemcoehmaa.Spl Go.Proofs.Ytkefklemcoehmaa.Str Go.Proofs.Ytkefklemcoehmaa.Flt Go.Proofs.Ytkefklemcoehmaa.Owe Go.Proofs.Ytkefklemcoehmaa.Num Go.Proofs.Ytkefklemcoehmaa.Le Go.Proofs.Ytkefklemcoehmaa.Lst Go.Proofs.Ytkefklemcoehmaa.Aid Go.RowKit Go.Proofs.YtkefklemcoehmaaW.PrintWords Go.Proofs.YtkefklemcoehmaaW.PrintLast Go.Proofs.YtkefklemcoehmaaW.PrintMore
set_option linter.unusedVariables false
set_option linter.unusedSimpArgs false
/-- the numbers' signs -/
def sgnL (W : Nat) (l : List Int) : List Int := l.map fun x => if x < 2 ^ (W - 1) then x else x - 2 ^ W
theorem infoF32' : (Try.prog.info? 64).map (fun i => (i.zero, i.size, i.bytes)) = some (some (.float .f32 0), 1, 4) := by kernel_rfl
theorem infoF64' : (Try.prog.info? 73).map (fun i => (i.zero, i.size, i.bytes)) = some (some (.float .f64 0), 1, 8) := by kernel_rfl
theorem infoI32' : (Try.prog.info? 21).map (fun i => (i.zero, i.size, i.bytes)) = some (some (.int .i32 0), 1, 4) := by kernel_rfl
theorem infoI64' : (Try.prog.info? 2).map (fun i => (i.zero, i.size, i.bytes)) = some (some (.int .i64 0), 1, 8) := by kernel_rfl
theorem rd_cut (bs : List Int) (l h j : Nat) (hj : l + j < h) : rd ((bs.take h).drop l) (j : Nat) = rd bs (l + j : Nat) := by
  rw [rd_drop]
  unfold rd
  rw [Int.toNat_natCast, List.getD_eq_getElem?_getD, List.getD_eq_getElem?_getD, List.getElem?_take, if_pos hj]
theorem rowCE {enc : Int → Value} {h1 : ∀ x, (enc x).oneCell' = true} {w : World} {g n : Nat} {t : TypeId} {xs : List Int} (h : RowE enc w g t xs) (hn : xs.length = n) (hm : n ≤ 9223372036854775807) : (Kd.scalar enc h1).C w (some ⟨g, 0, none⟩) n xs := by
  have := (h.toOwn (base := g) (Nat.le_refl _) (by omega)).read h1
  obtain ⟨A, c, e, _, hC⟩ := this
  injection e with e1 e2 e3
  rw [← e1, hn] at hC
  exact hC
set_option maxHeartbeats 4000000 in
theorem plEncodeFloat_calls (p : Option Addr) (A : Option Addr) (n c : Nat) (l : List Int) (w : World) (hC : (Kd.scalar f32 f32_one).C w A n l) (hc : n ≤ c) (hn : n ≤ 100000) (hu : u32L l) :
    Calls Try.prog 25 #[.pointer p, .slice none 0 0, .slice A n c] w fun e w' => ∃ v, e = .returned (.tuple #[v, .nilIface]) ∧ Own w' w.heap.size 5 .u8 v (enLowL 4 (l)) ∧ Below w.heap.size w w' := by
  have HLN : Aside0 (l.length = n) := ⟨hC.1⟩
  have HC := Aside0.mk hC
  obtain ⟨ws, hws⟩ : ∃ ws, l = ws := ⟨_, rfl⟩
  have HWS := Aside0.mk hws
  have HWL : Aside0 (ws.length = n) := ⟨by rw [← hws, show l.length = l.length from rfl]; exact HLN.out⟩
  have HU : Aside0 (u32L ws) := ⟨by rw [← hws]; exact hu⟩
  obtain ⟨i8, h8⟩ := h8
  obtain ⟨cutz, _⟩ := cutHi (P := Try.prog) 23 5 Try.underlying23 h8.1 none 0 0 .i64 0 0 rfl (by omega) (by omega)
  obtain ⟨m, hm⟩ : ∃ m, m = 4 * n := ⟨_, rfl⟩
  have hmi : (n : Int) * 4 = (m : Int) := by omega
  have hmk : ∀ W : World, (Instr.makeSlice 23 (.int .i64 ((n : Int) * 4)) (.int .i64 ((n : Int) * 4))).run Try.prog W = .ok (.slice (some ⟨W.heap.size, 0, none⟩) m m) (W.alloc (.cells (madeCells #[.int .u8 0] m) 5)) := by
    rw [hmi]; exact print_make (P := Try.prog) 23 5 .u8 1 Try.underlying23 infoU8 (by decide) m (by omega)
  have hm1 : m ≤ 4 * n := by omega
  have hm2 : 4 * n ≤ m := by omega
  have HMQ := Aside0.mk hm
  rw [hws]
  clear hC hmi hm hws
  go_enter Try.func25, Try.ntmps25
  go_wp2_with (fail)
  have HM : Aside0 (Row (w.alloc (.cells (madeCells #[.int .u8 0] m) 5)) w.heap.size 5 .u8 (p4 ws n 0)) := ⟨by rw [HMQ.out]; exact madeRow w 5 .u8 (4 * n)⟩
  have HB : Aside0 (Below w.heap.size w (w.alloc (.cells (madeCells #[.int .u8 0] m) 5))) := ⟨(Below.refl _ _).alloc (Nat.le_refl _) _⟩
  have HSZ : Aside0 (w.heap.size < (w.alloc (.cells (madeCells #[.int .u8 0] m) 5)).heap.size) := ⟨by simp⟩
  generalize w.alloc (.cells (madeCells #[.int .u8 0] m) 5) = wm at *
  clear hmk
  go_loopg [10, 11, 18] n (fun kq v10 v11 v18 w' => ∃ (j o : Nat), j ≤ n ∧ v18 = .int .i64 j ∧ v10 = .int .i64 o ∧ o ≤ 4 * j ∧ 4 * j ≤ o ∧ Aside0 (Row w' w.heap.size 5 .u8 (p4 ws n j)) ∧ Aside0 (Below w.heap.size w w') ∧ Aside0 (n - j ≤ kq))
  case atStart => exact ⟨0, 0, by omega, rfl, rfl, by omega, by omega, HM, HB, ⟨by omega⟩⟩
  case round =>
    clear HM HB
    obtain ⟨j, o, hj, rfl, rfl, ho1, ho2, HR, HB, HK⟩ := hrel
    by_cases cj : j < n
    · have cjb : decide ((j : Int) < n) = true := decide_eq_true (by omega)
      have cjn : decide (j < n) = true := decide_eq_true (by omega)
      obtain ⟨ad, ead, hcell⟩ := at_f32 (Kd.C_below HC.out HB.out) (j : Int) (by omega) (by omega)
      rw [Int.toNat_natCast] at hcell
      obtain ⟨y, hy⟩ : ∃ y, rd l (j : Int) = y := ⟨_, rfl⟩
      rw [hy] at hcell
      have hyb : u32B y := by rw [← hy, HWS.out]; exact HU.out _ (rd_mem (by rw [HWL.out]; exact cj))
      obtain ⟨hz0, hz1⟩ := hyb
      have hfb := float32bits_run y hz0
      have HY : Aside0 (rd ws (j : Nat) = y) := ⟨by rw [← hy, HWS.out]⟩
      clear hy
      have cut1 := cutAtMid (P := Try.prog) 23 5 Try.underlying23 h8.1 h8.2 w.heap.size m m .i64 .i64 (o : Int) (4 + (o : Int)) o (4 + o) rfl (by omega) (by omega) (by omega) (by omega) (by omega)
      rw [show 4 + o - o = 4 by omega] at cut1
      have HOQ : Aside0 (o = 4 * j) := ⟨by omega⟩
      have HCALL := Aside0.mk fun nq => pqplain_lePutUint32.calls w.heap.size o 4 (m - o) 5 (p4 ws n j) y (wr.drewN nq) (HR.out.drewN nq) (by omega) (by rw [p4_length]; omega) hz0 hz1
      have qw : IntKind.i64.wrap (4 + (o : Int)) = 4 + (o : Int) := IntWalk.i64_in _ (by omega)
      have qi1 : (j < n) = True := eq_true cj
      have qi2 : ((j : Int) < (n : Int)) = True := eq_true (by omega)
      have qi3 : (0 ≤ (j : Int)) = True := eq_true (by omega)
      have qi4 : (0 ≤ (o : Int)) = True := eq_true (by omega)
      clear hj
      subst ead
      go_wp2_with (fail)
      refine region_tail 10 (by kernel_rfl) (by kernel_rfl) ?_
      simp only [List.take_succ_cons, List.take_zero, List.drop_succ_cons, List.drop_zero]
      repeat (quiet_step ((fail)))
      refine wpQuiet_nil ?_
      rintro _ ⟨nq, rfl⟩
      clear qi1 qi2 qi3 qi4
      go_wp2_with (first
        | (go_at_call 39; (with_reducible refine (HCALL.out nq).mono ?_); rintro e w2 ⟨rfl, hg, hrow⟩; have HG2 := Aside0.mk hg; have HM2 := Aside0.mk hrow; clear hg hrow))
      go_roundg (gk - 1)
      case measure => have := HK.out; omega
      case rel =>
        refine ⟨j + 1, o + 4, by omega, by go_num, by go_num, by omega, by omega, ⟨?_⟩, ⟨belowGrown (HB.out.trans ((drewN_below wr nq).mono HB.out.size)) HG2.out (Nat.le_refl _)⟩, ⟨by have := HK.out; omega⟩⟩
        have := HM2.out
        rw [← HY.out, HOQ.out] at this
        exact this
    · obtain rfl : j = n := by omega
      have cjb : decide ((j : Int) < j) = false := decide_eq_false (by omega)
      have HE : Aside0 (Own wr w.heap.size 5 .u8 (.slice none 0 0) []) := ⟨Own.nil _ _ _ _⟩
      have HRC : Aside0 ((Kd.int .u8).C wr (some ⟨w.heap.size, 0, none⟩) m (enLowL 4 ws)) := ⟨by have := rowC HR.out (n := m) (by rw [p4_length]; omega) (by omega); rw [p4_enLow ws j HWL.out] at this; exact this⟩
      go_wp2_with (first
        | (at_builtin; refine appendRead (w0 := w) w.heap.size rfl (.tmp 36) (.tmp 37) 23 5 .u8 1 rfl Try.underlying23 infoU8 (by decide) _ [] (some ⟨w.heap.size, 0, none⟩) m m (enLowL 4 ws) rfl rfl HE.out HB.out HB.out.size HRC.out ?hl ?_; (case hl => simp; omega); intro v1 w1 ho hb hg; rw [List.nil_append] at ho; have HO1 := Aside0.mk ho; have HB1 := Aside0.mk hb; clear ho hb hg))
      go_ret2
      exact ⟨v1, rfl, HO1.out, HB1.out⟩
set_option maxHeartbeats 4000000 in
theorem plDecodeFloat_calls (p : Option Addr) (A : Option Addr) (N c n : Nat) (bs : List Int) (w : World) (hC : (Kd.int .u8).C w A N bs) (hc : N ≤ c) (hN : N = 4 * n) (hn : n ≤ 100000) (hb : bytesB bs = true) :
    Calls Try.prog 27 #[.pointer p, .slice none 0 0, .slice A N c] w fun e w' => ∃ v, e = .returned (.tuple #[v, .nilIface]) ∧ OwnE f32 w' w.heap.size 64 v ((List.range n).map (wd4 bs)) ∧ Below w.heap.size w w' := by
  have HLN : Aside0 (bs.length = N) := ⟨hC.1⟩
  have HC := Aside0.mk hC
  have HBY := Aside0.mk hb
  have h1N : N ≤ 4 * n := by omega
  have h2N : 4 * n ≤ N := by omega
  have hq : (N : Int) / 4 = (n : Int) := by omega
  have hq2 : (N : Int) % 4 = 0 := by omega
  obtain ⟨i8, h8⟩ := h8
  obtain ⟨ie, he, hez⟩ := Option.map_eq_some_iff.1 infoF32'
  obtain ⟨cutz, _⟩ := cutHi (P := Try.prog) 63 64 Try.underlying63 he none 0 0 .i64 0 0 rfl (by omega) (by omega)
  have hmk : ∀ W : World, (Instr.makeSlice 63 (.int .i64 (n : Int)) (.int .i64 (n : Int))).run Try.prog W = .ok (.slice (some ⟨W.heap.size, 0, none⟩) n n) (W.alloc (.cells (madeCells #[f32 0] n) 64)) := make1 (P := Try.prog) 63 64 (.float .f32 0) 4 Try.underlying63 infoF32' rfl n n (Nat.le_refl _) (by omega) (by omega)
  clear hC hb hN he hez
  go_enter Try.func27, Try.ntmps27
  go_wp2_with (fail)
  have HM : Aside0 (RowE f32 (w.alloc (.cells (madeCells #[f32 0] n) 64)) w.heap.size 64 (partI (wd4 bs) n 0)) := ⟨by rw [partI_zero]; exact madeRowE f32 0 w 64 n⟩
  have HB : Aside0 (Below w.heap.size w (w.alloc (.cells (madeCells #[f32 0] n) 64))) := ⟨(Below.refl _ _).alloc (Nat.le_refl _) _⟩
  generalize w.alloc (.cells (madeCells #[f32 0] n) 64) = wm at *
  clear hmk hq hq2
  go_loopg [10, 11, 24] n (fun kq v10 v11 v24 w' => ∃ (j o : Nat), j ≤ n ∧ v24 = .int .i64 j ∧ v10 = .int .i64 o ∧ o ≤ 4 * j ∧ 4 * j ≤ o ∧ Aside0 (RowE f32 w' w.heap.size 64 (partI (wd4 bs) n j)) ∧ Aside0 (Below w.heap.size w w') ∧ Aside0 (n - j ≤ kq))
  case atStart => exact ⟨0, 0, by omega, rfl, rfl, by omega, by omega, HM, HB, ⟨by omega⟩⟩
  case round =>
    clear HM HB
    obtain ⟨j, o, hj, rfl, rfl, ho1, ho2, HR, HB, HK⟩ := hrel
    by_cases cj : j < n
    · have cjb : decide ((j : Int) < n) = true := decide_eq_true (by omega)
      have cjn : decide (j < n) = true := decide_eq_true (by omega)
      obtain ⟨A1, cut1, hC1⟩ := cutMid (P := Try.prog) 23 5 Try.underlying23 h8.1 h8.2 A N c .i64 .i64 (o : Int) (4 + (o : Int)) o (4 + o) rfl (by omega) (by omega) (by omega) hc
      rw [show 4 + o - o = 4 by omega] at cut1 hC1
      have HOQ : Aside0 (o = 4 * j) := ⟨by omega⟩
      have HCUT : Aside0 (le4L ((bs.take (4 + o)).drop o) = wd4 bs j) := ⟨by
        have e0 : ∀ i : Nat, i < 4 → rd ((bs.take (4 + o)).drop o) (i : Nat) = rd bs (o + i : Nat) := fun i hi => rd_cut bs o (4 + o) i (by omega)
        rw [wd4_rd, ← HOQ.out]; unfold le4L; have := e0 0 (by omega); have := e0 1 (by omega); have := e0 2 (by omega); have := e0 3 (by omega); simp_all⟩
      have HCALL := Aside0.mk (pqplain_leUint32.calls' A1 4 (c - o) ((bs.take (4 + o)).drop o) wr (hC1 _ _ _ rfl (Kd.C_below HC.out HB.out)) (by omega) (by omega) (bytesB_drop (bytesB_take HBY.out _) _))
      have hW := wd4_bd HBY.out (j := j) (by rw [HLN.out]; omega)
      obtain ⟨z, hz⟩ : ∃ z, wd4 bs j = z := ⟨_, rfl⟩
      rw [hz] at HCUT hW
      have HZ := Aside0.mk hz
      obtain ⟨hz0, hz1⟩ := hW
      obtain ⟨q, hfq⟩ : ∃ q, f32 z = .float .f32 q := ⟨_, rfl⟩
      have hff : ∀ W : World, (callFunc 24 #[.int .u32 z]).run Try.prog W = .ok (.value (.float .f32 q)) W := by rw [← hfq]; exact float32frombits_run z hz0
      have HQ := Aside0.mk hfq
      have hst := fun (a : Addr) (W : World) m => run_store Try.prog W a (.float .f32 q) m rfl
      have rc : wr.cell? ⟨w.heap.size, j, none⟩ = some (.float .f32 0) := HR.out.cell (j := j) (x := 0) (by simp [partI, cj])
      have rf := HR.out.free j
      clear hfq
      clear hC1 hj hz
      go_wp2_with (first
        | (go_at_call 38; (with_reducible refine HCALL.out.mono ?_); rintro e w2 ⟨he, ⟨nq, rfl⟩⟩; rw [HCUT.out] at he; subst he))
      go_roundg (gk - 1)
      case measure => have := HK.out; omega
      case rel =>
        refine ⟨j + 1, o + 4, by omega, by go_num, by go_num, by omega, by omega, ⟨?_⟩, ⟨Below.setCell (p := ⟨w.heap.size, j, none⟩) (HB.out.trans ((drewN_below wr nq).mono HB.out.size)) (Nat.le_refl _) _⟩, ⟨by have := HK.out; omega⟩⟩
        have := (HR.out.drewN nq).set j ((wd4 bs) j)
        rw [partI_set, HZ.out, HQ.out] at this
        exact this
    · obtain rfl : j = n := by omega
      have cjb : decide ((j : Int) < j) = false := decide_eq_false (by omega)
      have HLL : Aside0 (((List.range j).map (wd4 bs)).length = j) := ⟨by simp⟩
      have HE : Aside0 (OwnE f32 wr w.heap.size 64 (.slice none 0 0) []) := ⟨OwnE.nil _ _ _ _⟩
      have HRC : Aside0 ((Kd.scalar f32 f32_one).C wr (some ⟨w.heap.size, 0, none⟩) j ((List.range j).map (wd4 bs))) := ⟨by
        have := HR.out
        rw [partI_full] at this
        exact rowCE this (by simp) (by omega)⟩
      obtain ⟨ys, hys⟩ : ∃ ys, ys = (List.range j).map (wd4 bs) := ⟨_, rfl⟩
      have HYS := Aside0.mk hys
      rw [← hys] at HLL HRC
      clear hys
      go_wp2_with (first
        | (at_builtin; refine appendReadE (w0 := w) f32 f32_one w.heap.size rfl (.tmp 41) (.tmp 42) 63 64 (.float .f32 0) 4 rfl Try.underlying63 infoF32' rfl (by decide) _ [] (some ⟨w.heap.size, 0, none⟩) j j ys rfl rfl HE.out HB.out HB.out.size HRC.out ?hl ?_; (case hl => simp; omega); intro v1 w1 ho hb hg; rw [List.nil_append] at ho; have HO1 := Aside0.mk ho; have HB1 := Aside0.mk hb; clear ho hb hg))
      go_ret2
      exact ⟨v1, rfl, by rw [← HYS.out]; exact HO1.out, HB1.out⟩
set_option maxHeartbeats 4000000 in
theorem plEncodeDouble_calls (p : Option Addr) (A : Option Addr) (n c : Nat) (l : List Int) (w : World) (hC : (Kd.scalar f64 f64_one).C w A n l) (hc : n ≤ c) (hn : n ≤ 100000) (hu : u64L l) :
    Calls Try.prog 31 #[.pointer p, .slice none 0 0, .slice A n c] w fun e w' => ∃ v, e = .returned (.tuple #[v, .nilIface]) ∧ Own w' w.heap.size 5 .u8 v (enLowL 8 (l)) ∧ Below w.heap.size w w' := by
  have HLN : Aside0 (l.length = n) := ⟨hC.1⟩
  have HC := Aside0.mk hC
  obtain ⟨ws, hws⟩ : ∃ ws, l = ws := ⟨_, rfl⟩
  have HWS := Aside0.mk hws
  have HWL : Aside0 (ws.length = n) := ⟨by rw [← hws, show l.length = l.length from rfl]; exact HLN.out⟩
  have HU : Aside0 (u64L ws) := ⟨by rw [← hws]; exact hu⟩
  obtain ⟨i8, h8⟩ := h8
  obtain ⟨cutz, _⟩ := cutHi (P := Try.prog) 23 5 Try.underlying23 h8.1 none 0 0 .i64 0 0 rfl (by omega) (by omega)
  obtain ⟨m, hm⟩ : ∃ m, m = 8 * n := ⟨_, rfl⟩
  have hmi : (n : Int) * 8 = (m : Int) := by omega
  have hmk : ∀ W : World, (Instr.makeSlice 23 (.int .i64 ((n : Int) * 8)) (.int .i64 ((n : Int) * 8))).run Try.prog W = .ok (.slice (some ⟨W.heap.size, 0, none⟩) m m) (W.alloc (.cells (madeCells #[.int .u8 0] m) 5)) := by
    rw [hmi]; exact print_make (P := Try.prog) 23 5 .u8 1 Try.underlying23 infoU8 (by decide) m (by omega)
  have hm1 : m ≤ 8 * n := by omega
  have hm2 : 8 * n ≤ m := by omega
  have HMQ := Aside0.mk hm
  rw [hws]
  clear hC hmi hm hws
  go_enter Try.func31, Try.ntmps31
  go_wp2_with (fail)
  have HM : Aside0 (Row (w.alloc (.cells (madeCells #[.int .u8 0] m) 5)) w.heap.size 5 .u8 (p8 ws n 0)) := ⟨by rw [HMQ.out]; exact madeRow w 5 .u8 (8 * n)⟩
  have HB : Aside0 (Below w.heap.size w (w.alloc (.cells (madeCells #[.int .u8 0] m) 5))) := ⟨(Below.refl _ _).alloc (Nat.le_refl _) _⟩
  have HSZ : Aside0 (w.heap.size < (w.alloc (.cells (madeCells #[.int .u8 0] m) 5)).heap.size) := ⟨by simp⟩
  generalize w.alloc (.cells (madeCells #[.int .u8 0] m) 5) = wm at *
  clear hmk
  go_loopg [10, 11, 18] n (fun kq v10 v11 v18 w' => ∃ (j o : Nat), j ≤ n ∧ v18 = .int .i64 j ∧ v10 = .int .i64 o ∧ o ≤ 8 * j ∧ 8 * j ≤ o ∧ Aside0 (Row w' w.heap.size 5 .u8 (p8 ws n j)) ∧ Aside0 (Below w.heap.size w w') ∧ Aside0 (n - j ≤ kq))
  case atStart => exact ⟨0, 0, by omega, rfl, rfl, by omega, by omega, HM, HB, ⟨by omega⟩⟩
  case round =>
    clear HM HB
    obtain ⟨j, o, hj, rfl, rfl, ho1, ho2, HR, HB, HK⟩ := hrel
    by_cases cj : j < n
    · have cjb : decide ((j : Int) < n) = true := decide_eq_true (by omega)
      have cjn : decide (j < n) = true := decide_eq_true (by omega)
      obtain ⟨ad, ead, hcell⟩ := at_f64 (Kd.C_below HC.out HB.out) (j : Int) (by omega) (by omega)
      rw [Int.toNat_natCast] at hcell
      obtain ⟨y, hy⟩ : ∃ y, rd l (j : Int) = y := ⟨_, rfl⟩
      rw [hy] at hcell
      have hyb : u64B y := by rw [← hy, HWS.out]; exact HU.out _ (rd_mem (by rw [HWL.out]; exact cj))
      obtain ⟨hz0, hz1⟩ := hyb
      have hfb := float64bits_run y hz0
      have HY : Aside0 (rd ws (j : Nat) = y) := ⟨by rw [← hy, HWS.out]⟩
      clear hy
      have cut1 := cutAtMid (P := Try.prog) 23 5 Try.underlying23 h8.1 h8.2 w.heap.size m m .i64 .i64 (o : Int) (8 + (o : Int)) o (8 + o) rfl (by omega) (by omega) (by omega) (by omega) (by omega)
      rw [show 8 + o - o = 8 by omega] at cut1
      have HOQ : Aside0 (o = 8 * j) := ⟨by omega⟩
      have HCALL := Aside0.mk fun nq => pqplain_lePutUint64.calls w.heap.size o 8 (m - o) 5 (p8 ws n j) y (wr.drewN nq) (HR.out.drewN nq) (by omega) (by omega) (by rw [p8_length]; omega) hz0 hz1
      have qw : IntKind.i64.wrap (8 + (o : Int)) = 8 + (o : Int) := IntWalk.i64_in _ (by omega)
      have qi1 : (j < n) = True := eq_true cj
      have qi2 : ((j : Int) < (n : Int)) = True := eq_true (by omega)
      have qi3 : (0 ≤ (j : Int)) = True := eq_true (by omega)
      have qi4 : (0 ≤ (o : Int)) = True := eq_true (by omega)
      clear hj
      subst ead
      go_wp2_with (fail)
      refine region_tail 10 (by kernel_rfl) (by kernel_rfl) ?_
      simp only [List.take_succ_cons, List.take_zero, List.drop_succ_cons, List.drop_zero]
      repeat (quiet_step ((fail)))
      refine wpQuiet_nil ?_
      rintro _ ⟨nq, rfl⟩
      clear qi1 qi2 qi3 qi4
      go_wp2_with (first
        | (go_at_call 46; (with_reducible refine (HCALL.out nq).mono ?_); rintro e w2 ⟨rfl, hg, hrow⟩; have HG2 := Aside0.mk hg; have HM2 := Aside0.mk hrow; clear hg hrow))
      go_roundg (gk - 1)
      case measure => have := HK.out; omega
      case rel =>
        refine ⟨j + 1, o + 8, by omega, by go_num, by go_num, by omega, by omega, ⟨?_⟩, ⟨belowGrown (HB.out.trans ((drewN_below wr nq).mono HB.out.size)) HG2.out (Nat.le_refl _)⟩, ⟨by have := HK.out; omega⟩⟩
        have := HM2.out
        rw [← HY.out, HOQ.out] at this
        exact this
    · obtain rfl : j = n := by omega
      have cjb : decide ((j : Int) < j) = false := decide_eq_false (by omega)
      have HE : Aside0 (Own wr w.heap.size 5 .u8 (.slice none 0 0) []) := ⟨Own.nil _ _ _ _⟩
      have HRC : Aside0 ((Kd.int .u8).C wr (some ⟨w.heap.size, 0, none⟩) m (enLowL 8 ws)) := ⟨by have := rowC HR.out (n := m) (by rw [p8_length]; omega) (by omega); rw [p8_enLow ws j HWL.out] at this; exact this⟩
      go_wp2_with (first
        | (at_builtin; refine appendRead (w0 := w) w.heap.size rfl (.tmp 36) (.tmp 37) 23 5 .u8 1 rfl Try.underlying23 infoU8 (by decide) _ [] (some ⟨w.heap.size, 0, none⟩) m m (enLowL 8 ws) rfl rfl HE.out HB.out HB.out.size HRC.out ?hl ?_; (case hl => simp; omega); intro v1 w1 ho hb hg; rw [List.nil_append] at ho; have HO1 := Aside0.mk ho; have HB1 := Aside0.mk hb; clear ho hb hg))
      go_ret2
      exact ⟨v1, rfl, HO1.out, HB1.out⟩
set_option maxHeartbeats 4000000 in
theorem plDecodeDouble_calls (p : Option Addr) (A : Option Addr) (N c n : Nat) (bs : List Int) (w : World) (hC : (Kd.int .u8).C w A N bs) (hc : N ≤ c) (hN : N = 8 * n) (hn : n ≤ 100000) (hb : bytesB bs = true) :
    Calls Try.prog 33 #[.pointer p, .slice none 0 0, .slice A N c] w fun e w' => ∃ v, e = .returned (.tuple #[v, .nilIface]) ∧ OwnE f64 w' w.heap.size 73 v ((List.range n).map (wd8 bs)) ∧ Below w.heap.size w w' := by
  have HLN : Aside0 (bs.length = N) := ⟨hC.1⟩
  have HC := Aside0.mk hC
  have HBY := Aside0.mk hb
  have h1N : N ≤ 8 * n := by omega
  have h2N : 8 * n ≤ N := by omega
  have hq : (N : Int) / 8 = (n : Int) := by omega
  have hq2 : (N : Int) % 8 = 0 := by omega
  obtain ⟨i8, h8⟩ := h8
  obtain ⟨ie, he, hez⟩ := Option.map_eq_some_iff.1 infoF64'
  obtain ⟨cutz, _⟩ := cutHi (P := Try.prog) 72 73 Try.underlying72 he none 0 0 .i64 0 0 rfl (by omega) (by omega)
  have hmk : ∀ W : World, (Instr.makeSlice 72 (.int .i64 (n : Int)) (.int .i64 (n : Int))).run Try.prog W = .ok (.slice (some ⟨W.heap.size, 0, none⟩) n n) (W.alloc (.cells (madeCells #[f64 0] n) 73)) := make1 (P := Try.prog) 72 73 (.float .f64 0) 8 Try.underlying72 infoF64' rfl n n (Nat.le_refl _) (by omega) (by omega)
  clear hC hb hN he hez
  go_enter Try.func33, Try.ntmps33
  go_wp2_with (fail)
  have HM : Aside0 (RowE f64 (w.alloc (.cells (madeCells #[f64 0] n) 73)) w.heap.size 73 (partI (wd8 bs) n 0)) := ⟨by rw [partI_zero]; exact madeRowE f64 0 w 73 n⟩
  have HB : Aside0 (Below w.heap.size w (w.alloc (.cells (madeCells #[f64 0] n) 73))) := ⟨(Below.refl _ _).alloc (Nat.le_refl _) _⟩
  generalize w.alloc (.cells (madeCells #[f64 0] n) 73) = wm at *
  clear hmk hq hq2
  go_loopg [10, 11, 24] n (fun kq v10 v11 v24 w' => ∃ (j o : Nat), j ≤ n ∧ v24 = .int .i64 j ∧ v10 = .int .i64 o ∧ o ≤ 8 * j ∧ 8 * j ≤ o ∧ Aside0 (RowE f64 w' w.heap.size 73 (partI (wd8 bs) n j)) ∧ Aside0 (Below w.heap.size w w') ∧ Aside0 (n - j ≤ kq))
  case atStart => exact ⟨0, 0, by omega, rfl, rfl, by omega, by omega, HM, HB, ⟨by omega⟩⟩
  case round =>
    clear HM HB
    obtain ⟨j, o, hj, rfl, rfl, ho1, ho2, HR, HB, HK⟩ := hrel
    by_cases cj : j < n
    · have cjb : decide ((j : Int) < n) = true := decide_eq_true (by omega)
      have cjn : decide (j < n) = true := decide_eq_true (by omega)
      obtain ⟨A1, cut1, hC1⟩ := cutMid (P := Try.prog) 23 5 Try.underlying23 h8.1 h8.2 A N c .i64 .i64 (o : Int) (8 + (o : Int)) o (8 + o) rfl (by omega) (by omega) (by omega) hc
      rw [show 8 + o - o = 8 by omega] at cut1 hC1
      have HOQ : Aside0 (o = 8 * j) := ⟨by omega⟩
      have HCUT : Aside0 (le8L ((bs.take (8 + o)).drop o) = wd8 bs j) := ⟨by
        have e0 : ∀ i : Nat, i < 8 → rd ((bs.take (8 + o)).drop o) (i : Nat) = rd bs (o + i : Nat) := fun i hi => rd_cut bs o (8 + o) i (by omega)
        rw [wd8_rd, ← HOQ.out]; unfold le8L le4L le8; have e4 : ∀ i : Nat, i < 4 → rd (((bs.take (8 + o)).drop o).drop 4) (i : Nat) = rd bs (o + (4 + i) : Nat) := fun i hi => by rw [rd_drop]; exact e0 (4 + i) (by omega)
        have := e0 0 (by omega); have := e0 1 (by omega); have := e0 2 (by omega); have := e0 3 (by omega); have := e4 0 (by omega); have := e4 1 (by omega); have := e4 2 (by omega); have := e4 3 (by omega); simp_all⟩
      have HCALL := Aside0.mk (pqplain_leUint64.calls' A1 8 (c - o) ((bs.take (8 + o)).drop o) wr (hC1 _ _ _ rfl (Kd.C_below HC.out HB.out)) (by omega) (by omega) (bytesB_drop (bytesB_take HBY.out _) _))
      have hW := wd8_bd HBY.out (j := j) (by rw [HLN.out]; omega)
      obtain ⟨z, hz⟩ : ∃ z, wd8 bs j = z := ⟨_, rfl⟩
      rw [hz] at HCUT hW
      have HZ := Aside0.mk hz
      obtain ⟨hz0, hz1⟩ := hW
      obtain ⟨q, hfq⟩ : ∃ q, f64 z = .float .f64 q := ⟨_, rfl⟩
      have hff : ∀ W : World, (callFunc 30 #[.int .u64 z]).run Try.prog W = .ok (.value (.float .f64 q)) W := by rw [← hfq]; exact float64frombits_run z hz0
      have HQ := Aside0.mk hfq
      have hst := fun (a : Addr) (W : World) m => run_store Try.prog W a (.float .f64 q) m rfl
      have rc : wr.cell? ⟨w.heap.size, j, none⟩ = some (.float .f64 0) := HR.out.cell (j := j) (x := 0) (by simp [partI, cj])
      have rf := HR.out.free j
      clear hfq
      clear hC1 hj hz
      go_wp2_with (first
        | (go_at_call 49; (with_reducible refine HCALL.out.mono ?_); rintro e w2 ⟨he, ⟨nq, rfl⟩⟩; rw [HCUT.out] at he; subst he))
      go_roundg (gk - 1)
      case measure => have := HK.out; omega
      case rel =>
        refine ⟨j + 1, o + 8, by omega, by go_num, by go_num, by omega, by omega, ⟨?_⟩, ⟨Below.setCell (p := ⟨w.heap.size, j, none⟩) (HB.out.trans ((drewN_below wr nq).mono HB.out.size)) (Nat.le_refl _) _⟩, ⟨by have := HK.out; omega⟩⟩
        have := (HR.out.drewN nq).set j ((wd8 bs) j)
        rw [partI_set, HZ.out, HQ.out] at this
        exact this
    · obtain rfl : j = n := by omega
      have cjb : decide ((j : Int) < j) = false := decide_eq_false (by omega)
      have HLL : Aside0 (((List.range j).map (wd8 bs)).length = j) := ⟨by simp⟩
      have HE : Aside0 (OwnE f64 wr w.heap.size 73 (.slice none 0 0) []) := ⟨OwnE.nil _ _ _ _⟩
      have HRC : Aside0 ((Kd.scalar f64 f64_one).C wr (some ⟨w.heap.size, 0, none⟩) j ((List.range j).map (wd8 bs))) := ⟨by
        have := HR.out
        rw [partI_full] at this
        exact rowCE this (by simp) (by omega)⟩
      obtain ⟨ys, hys⟩ : ∃ ys, ys = (List.range j).map (wd8 bs) := ⟨_, rfl⟩
      have HYS := Aside0.mk hys
      rw [← hys] at HLL HRC
      clear hys
      go_wp2_with (first
        | (at_builtin; refine appendReadE (w0 := w) f64 f64_one w.heap.size rfl (.tmp 41) (.tmp 42) 72 73 (.float .f64 0) 8 rfl Try.underlying72 infoF64' rfl (by decide) _ [] (some ⟨w.heap.size, 0, none⟩) j j ys rfl rfl HE.out HB.out HB.out.size HRC.out ?hl ?_; (case hl => simp; omega); intro v1 w1 ho hb hg; rw [List.nil_append] at ho; have HO1 := Aside0.mk ho; have HB1 := Aside0.mk hb; clear ho hb hg))
      go_ret2
      exact ⟨v1, rfl, by rw [← HYS.out]; exact HO1.out, HB1.out⟩
end Go.Proofs.Ytkefklemcoehmaa.Pln
