import Derived.Test.YtkefklemcoehmaaWrd
import Derived.Test.YtkefklemcoehmaaPln
import Derived.Test.YtkefklemcoehmaaSpe
/-! Walks of the package of streams: numbers of 64 bits (laid by a program of this session out of the text for 32 bits). -/
namespace Go.Proofs.Ytkefklemcoehmaa.Spq
open Go.Proofs.Ytkefklemcoehmaa.Wrd Go.Proofs.Ytkefklemcoehmaa.Pln Go.Proofs.Ytkefklemcoehmaa.Spe Go.Proofs.Ytkefklemcoehmaa.Spd Go.Proofs.Ytkefklemcoehmaa.Spl Go.Proofs.Ytkefklemcoehmaa.Str Go.Proofs.Ytkefklemcoehmaa.Flt Go.Proofs.Ytkefklemcoehmaa.Owe Go.Proofs.Ytkefklemcoehmaa.Num Go.Proofs.Ytkefklemcoehmaa.Le Go.Proofs.Ytkefklemcoehmaa.Lst Go.Proofs.Ytkefklemcoehmaa.Aid Go.RowKit Go.Proofs.YtkefklemcoehmaaW.PrintWords Go.Proofs.YtkefklemcoehmaaW.PrintLast Go.Proofs.YtkefklemcoehmaaW.PrintMore
set_option linter.unusedVariables false
set_option linter.unusedSimpArgs false
set_option maxRecDepth 100000 in
set_option maxHeartbeats 4000000 in
theorem bytesOfDouble_calls (A : Option Addr) (n c : Nat) (l : List Int) (w : World) (hC : (Kd.scalar f64 f64_one).C w A n l) (hc : n ≤ c) (hn : n ≤ 100000) (hu : u64L l) :
    Calls Try.prog 48 #[.slice A n c] w fun e w' => e = .returned (.slice (some ⟨w.heap.size, 0, none⟩) (8 * n) (8 * n)) ∧ Row w' w.heap.size 5 .u8 (p8 l n n) ∧ Below w.heap.size w w' := by
  have HLN : Aside0 (l.length = n) := ⟨hC.1⟩
  have HC := Aside0.mk hC
  have HU := Aside0.mk hu
  obtain ⟨i8, h8⟩ := h8
  obtain ⟨m, hm⟩ : ∃ m, m = 8 * n := ⟨_, rfl⟩
  have hmi : 8 * (n : Int) = (m : Int) := by omega
  have hmk : ∀ W : World, (Instr.makeSlice 23 (.int .i64 (8 * (n : Int))) (.int .i64 (8 * (n : Int)))).run Try.prog W = .ok (.slice (some ⟨W.heap.size, 0, none⟩) m m) (W.alloc (.cells (madeCells #[.int .u8 0] m) 5)) := by
    rw [hmi]; exact print_make (P := Try.prog) 23 5 .u8 1 Try.underlying23 infoU8 (by decide) m (by omega)
  have hm1 : m ≤ 8 * n := by omega
  have hm2 : 8 * n ≤ m := by omega
  have HMQ := Aside0.mk hm
  clear hC hu hmi hm
  go_enter Try.func48, Try.ntmps48
  go_wp2_with (fail)
  have HM : Aside0 (Row (w.alloc (.cells (madeCells #[.int .u8 0] m) 5)) w.heap.size 5 .u8 (p8 l n 0)) := ⟨by rw [HMQ.out]; exact madeRow w 5 .u8 (8 * n)⟩
  have HB : Aside0 (Below w.heap.size w (w.alloc (.cells (madeCells #[.int .u8 0] m) 5))) := ⟨(Below.refl _ _).alloc (Nat.le_refl _) _⟩
  generalize w.alloc (.cells (madeCells #[.int .u8 0] m) 5) = wm at *
  clear hmk
  go_loopg [4, 5, 12] n (fun kq v4 v5 v12 w' => ∃ (j : Nat), j ≤ n ∧ v12 = .int .i64 j ∧ Aside0 (Row w' w.heap.size 5 .u8 (p8 l n j)) ∧ Aside0 (Below w.heap.size w w') ∧ Aside0 (n - j ≤ kq))
  case atStart => exact ⟨0, by omega, rfl, HM, HB, ⟨by omega⟩⟩
  case round =>
    clear HM HB
    obtain ⟨j, hj, rfl, HR, HB, HK⟩ := hrel
    by_cases cj : j < n
    · have cjb : decide ((j : Int) < n) = true := decide_eq_true (by omega)
      obtain ⟨ad, ead, hcell⟩ := at_f64 (Kd.C_below HC.out HB.out) (j : Int) (by omega) (by omega)
      rw [Int.toNat_natCast] at hcell
      obtain ⟨y, hy⟩ : ∃ y, rd l (j : Int) = y := ⟨_, rfl⟩
      rw [hy] at hcell
      have hyb : u64B y := by rw [← hy]; exact HU.out _ (rd_mem (by rw [HLN.out]; exact cj))
      obtain ⟨hy0, hy1⟩ := hyb
      have HY := Aside0.mk hy
      have hfb := float64bits_run y hy0
      have cut1 := cutAt (P := Try.prog) 23 5 Try.underlying23 h8.1 h8.2 w.heap.size m m .i64 (8 * (j : Int)) (8 * j) (by omega) (by omega) (by omega) (by omega)
      have HCALL := Aside0.mk fun nq => pqsplit_lePutUint64.calls w.heap.size (8 * j) (m - 8 * j) (m - 8 * j) 5 (p8 l n j) y (wr.drewN nq) (HR.out.drewN nq) (by omega) (Nat.le_refl _) (by rw [p8_length]; omega) hy0 hy1
      have qw : IntKind.i64.wrap (8 * (j : Int)) = 8 * (j : Int) := IntWalk.i64_in _ (by omega)
      clear hy hj
      subst ead
      go_wp2_with (fail)
      refine region_tail 6 (by kernel_rfl) (by kernel_rfl) ?_
      simp only [List.take_succ_cons, List.take_zero, List.drop_succ_cons, List.drop_zero]
      repeat (quiet_step ((fail)))
      refine wpQuiet_nil ?_
      rintro _ ⟨nq, rfl⟩
      go_wp2_with (first
        | (go_at_call 57; (with_reducible refine (HCALL.out nq).mono ?_); rintro e w2 ⟨rfl, hg, hrow⟩; have HG2 := Aside0.mk hg; have HM2 := Aside0.mk hrow; clear hg hrow))
      go_roundg (gk - 1)
      case measure => have := HK.out; omega
      case rel =>
        refine ⟨j + 1, by omega, by go_num, ⟨?_⟩, ⟨belowGrown (HB.out.trans ((drewN_below wr nq).mono HB.out.size)) HG2.out (Nat.le_refl _)⟩, ⟨by have := HK.out; omega⟩⟩
        have := HM2.out
        rw [← HY.out] at this
        exact this
    · obtain rfl : j = n := by omega
      have cjb : decide ((j : Int) < j) = false := decide_eq_false (by omega)
      go_wp2_with (fail)
      go_ret
      exact ⟨by rw [← HMQ.out]; rfl, HR.out, HB.out⟩
set_option maxRecDepth 100000 in
set_option maxHeartbeats 4000000 in
theorem words64_calls (A : Option Addr) (N c n : Nat) (bs : List Int) (w : World) (hC : (Kd.int .u8).C w A N bs) (hc : N ≤ c) (hN : N = 8 * n) (hn : n ≤ 100000) (hb : bytesB bs = true) :
    Calls Try.prog 56 #[.slice A N c] w fun e w' => e = .returned (.slice (some ⟨w.heap.size, 0, none⟩) n n) ∧ Row w' w.heap.size 47 .u64 (partI (wd8 bs) n n) ∧ Below w.heap.size w w' := by
  have HLN : Aside0 (bs.length = N) := ⟨hC.1⟩
  have HC := Aside0.mk hC
  have HBY := Aside0.mk hb
  have h1N : N ≤ 8 * n := by omega
  have h2N : 8 * n ≤ N := by omega
  have hq : (N : Int) / 8 = (n : Int) := by omega
  obtain ⟨i8, h8⟩ := h8
  have hmk := print_make (P := Try.prog) 27 47 .u64 8 Try.underlying27 infoU64 (by decide) n (by omega)
  clear hC hb hN
  go_enter Try.func56, Try.ntmps56
  go_wp2_with (fail)
  have HM : Aside0 (Row (w.alloc (.cells (madeCells #[.int .u64 0] n) 47)) w.heap.size 47 .u64 (partI (wd8 bs) n 0)) := ⟨by rw [partI_zero]; exact madeRow w 47 .u64 n⟩
  have HB : Aside0 (Below w.heap.size w (w.alloc (.cells (madeCells #[.int .u64 0] n) 47))) := ⟨(Below.refl _ _).alloc (Nat.le_refl _) _⟩
  generalize w.alloc (.cells (madeCells #[.int .u64 0] n) 47) = wm at *
  clear hmk
  go_loopg [4, 11] n (fun kq v4 v11 w' => ∃ (j : Nat), j ≤ n ∧ v11 = .int .i64 j ∧ Aside0 (Row w' w.heap.size 47 .u64 (partI (wd8 bs) n j)) ∧ Aside0 (Below w.heap.size w w') ∧ Aside0 (n - j ≤ kq))
  case atStart => exact ⟨0, by omega, rfl, HM, HB, ⟨by omega⟩⟩
  case round =>
    clear HM HB
    obtain ⟨j, hj, rfl, HR, HB, HK⟩ := hrel
    by_cases cj : j < n
    · have cjb : decide ((j : Int) < n) = true := decide_eq_true (by omega)
      have cjn : decide (j < n) = true := decide_eq_true (by omega)
      obtain ⟨A1, cut1, hC1⟩ := cutLo (P := Try.prog) 23 5 Try.underlying23 h8.1 h8.2 A N c .i64 (8 * (j : Int)) (8 * j) (by omega) (by omega) hc
      have HCALL := Aside0.mk (pqsplit_leUint64.calls' A1 (N - 8 * j) (c - 8 * j) (bs.drop (8 * j)) wr (hC1 _ _ _ rfl (Kd.C_below HC.out HB.out)) (by omega) (by omega) (bytesB_drop HBY.out _))
      have HW := Aside0.mk (wd8_bd HBY.out (j := j) (by rw [HLN.out]; omega))
      have rc := HR.out.cell (j := j) (by rw [partI_length]; exact cj)
      have rf := HR.out.free j
      rw [rd_partI _ _ _ _ cj, if_neg (by omega)] at rc
      clear hC1 hj
      go_wp2_with (first
        | (go_at_call 58; (with_reducible refine HCALL.out.mono ?_); rintro e w2 ⟨rfl, ⟨nq, rfl⟩⟩))
      go_roundg (gk - 1)
      case measure => have := HK.out; omega
      case rel =>
        refine ⟨j + 1, by omega, by go_num, ⟨?_⟩, ⟨Below.setCell (p := ⟨w.heap.size, j, none⟩) (HB.out.trans ((drewN_below wr nq).mono HB.out.size)) (Nat.le_refl _) _⟩, ⟨by have := HK.out; omega⟩⟩
        have := (HR.out.drewN nq).set j (wd8 bs j)
        rw [partI_set] at this
        exact this
    · obtain rfl : j = n := by omega
      have cjb : decide ((j : Int) < j) = false := decide_eq_false (by omega)
      go_wp2_with (fail)
      go_ret
      exact ⟨rfl, HR.out, HB.out⟩
set_option maxRecDepth 100000 in
set_option maxHeartbeats 4000000 in
theorem ofDouble_calls (A : Option Addr) (N c n : Nat) (bs : List Int) (w : World) (hC : (Kd.int .u8).C w A N bs) (hc : N ≤ c) (hN : N = 8 * n) (hn : n ≤ 100000) (hb : bytesB bs = true) :
    Calls Try.prog 51 #[.slice A N c] w fun e w' => e = .returned (.slice (some ⟨w.heap.size, 0, none⟩) n n) ∧ RowE f64 w' w.heap.size 73 (partI (wd8 bs) n n) ∧ Below w.heap.size w w' := by
  have HLN : Aside0 (bs.length = N) := ⟨hC.1⟩
  have HC := Aside0.mk hC
  have HBY := Aside0.mk hb
  have h1N : N ≤ 8 * n := by omega
  have h2N : 8 * n ≤ N := by omega
  have hq : (N : Int) / 8 = (n : Int) := by omega
  obtain ⟨i8, h8⟩ := h8
  have hmk : ∀ W : World, (Instr.makeSlice 72 (.int .i64 (n : Int)) (.int .i64 (n : Int))).run Try.prog W = .ok (.slice (some ⟨W.heap.size, 0, none⟩) n n) (W.alloc (.cells (madeCells #[f64 0] n) 73)) := make1 (P := Try.prog) 72 73 (.float .f64 0) 8 Try.underlying72 infoF64' rfl n n (Nat.le_refl _) (by omega) (by omega)
  clear hC hb hN
  go_enter Try.func51, Try.ntmps51
  go_wp2_with (fail)
  have HM : Aside0 (RowE f64 (w.alloc (.cells (madeCells #[f64 0] n) 73)) w.heap.size 73 (partI (wd8 bs) n 0)) := ⟨by rw [partI_zero]; exact madeRowE f64 0 w 73 n⟩
  have HB : Aside0 (Below w.heap.size w (w.alloc (.cells (madeCells #[f64 0] n) 73))) := ⟨(Below.refl _ _).alloc (Nat.le_refl _) _⟩
  generalize w.alloc (.cells (madeCells #[f64 0] n) 73) = wm at *
  clear hmk
  go_loopg [4, 11] n (fun kq v4 v11 w' => ∃ (j : Nat), j ≤ n ∧ v11 = .int .i64 j ∧ Aside0 (RowE f64 w' w.heap.size 73 (partI (wd8 bs) n j)) ∧ Aside0 (Below w.heap.size w w') ∧ Aside0 (n - j ≤ kq))
  case atStart => exact ⟨0, by omega, rfl, HM, HB, ⟨by omega⟩⟩
  case round =>
    clear HM HB
    obtain ⟨j, hj, rfl, HR, HB, HK⟩ := hrel
    by_cases cj : j < n
    · have cjb : decide ((j : Int) < n) = true := decide_eq_true (by omega)
      have cjn : decide (j < n) = true := decide_eq_true (by omega)
      obtain ⟨A1, cut1, hC1⟩ := cutLo (P := Try.prog) 23 5 Try.underlying23 h8.1 h8.2 A N c .i64 (8 * (j : Int)) (8 * j) (by omega) (by omega) hc
      have HCALL := Aside0.mk (pqsplit_leUint64.calls' A1 (N - 8 * j) (c - 8 * j) (bs.drop (8 * j)) wr (hC1 _ _ _ rfl (Kd.C_below HC.out HB.out)) (by omega) (by omega) (bytesB_drop HBY.out _))
      have hW := wd8_bd HBY.out (j := j) (by rw [HLN.out]; omega)
      obtain ⟨q, hq⟩ : ∃ q, f64 (wd8 bs j) = .float .f64 q := ⟨_, rfl⟩
      have hff : ∀ W : World, (callFunc 30 #[.int .u64 (le8L (bs.drop (8 * j)))]).run Try.prog W = .ok (.value (.float .f64 q)) W := by rw [← hq]; exact float64frombits_run (wd8 bs j) hW.1
      have HQ := Aside0.mk hq
      have hst := fun (a : Addr) (W : World) m => run_store Try.prog W a (.float .f64 q) m rfl
      clear hq
      have rc : wr.cell? ⟨w.heap.size, j, none⟩ = some (.float .f64 0) := HR.out.cell (j := j) (x := 0) (by simp [partI, cj])
      have rf := HR.out.free j
      clear hC1 hj hW
      go_wp2_with (first
        | (go_at_call 58; (with_reducible refine HCALL.out.mono ?_); rintro e w2 ⟨rfl, ⟨nq, rfl⟩⟩))
      go_roundg (gk - 1)
      case measure => have := HK.out; omega
      case rel =>
        refine ⟨j + 1, by omega, by go_num, ⟨?_⟩, ⟨Below.setCell (p := ⟨w.heap.size, j, none⟩) (HB.out.trans ((drewN_below wr nq).mono HB.out.size)) (Nat.le_refl _) _⟩, ⟨by have := HK.out; omega⟩⟩
        have := (HR.out.drewN nq).set j (wd8 bs j)
        rw [partI_set, HQ.out] at this
        exact this
    · obtain rfl : j = n := by omega
      have cjb : decide ((j : Int) < j) = false := decide_eq_false (by omega)
      go_wp2_with (fail)
      go_ret
      exact ⟨rfl, HR.out, HB.out⟩
set_option maxRecDepth 100000 in
set_option maxHeartbeats 4000000 in
theorem encodeDouble_calls (g M : Nat) (A : Option Addr) (N c n : Nat) (bs : List Int) (w : World) (hR : Row w g 5 .u8 (List.replicate (16 * n) 0)) (hM : M = 16 * n) (hC : (Kd.int .u8).C w A N bs) (hc : N ≤ c) (hN : N = 8 * n) (hn0 : 0 < n) (hn : n ≤ 100000) (hb : bytesB bs = true) :
    Calls Try.prog 47 #[.slice (some ⟨g, 0, none⟩) N M, .slice A N c] w fun e w' => e = .returned (.tuple #[]) ∧ w.grownBy w' (some g) ∧ Row w' g 5 .u8 (strP (fun j s => wd8 bs j / 256 ^ s % 256) n (16 * n) 8 n) := by
  have HLN : Aside0 (bs.length = N) := ⟨hC.1⟩
  have HG : Aside0 (g < w.heap.size) := ⟨hR.lt⟩
  have HGN : Aside0 (g ≠ w.heap.size) := ⟨by have := HG.out; omega⟩
  have HCALL := Aside0.mk (words64_calls A N c n bs w hC hc hN hn hb)
  have HR := Aside0.mk hR
  have HBY := Aside0.mk hb
  have h1N : N ≤ 8 * n := by omega
  have h2N : 8 * n ≤ N := by omega
  have h1M : M ≤ 16 * n := by omega
  have h2M : 16 * n ≤ M := by omega
  have hq : (N : Int) / 8 = (n : Int) := by omega
  obtain ⟨i8, h8⟩ := h8
  have cut0 := cutAtMid (P := Try.prog) 23 5 Try.underlying23 h8.1 h8.2 g N M .i64 .i64 0 (n : Int) 0 (n) rfl (by omega) (by omega) (by omega) (by omega) (by omega)
  have cut1 := cutAtMid (P := Try.prog) 23 5 Try.underlying23 h8.1 h8.2 g N M .i64 .i64 (n : Int) (2 * (n : Int)) (n) (2 * n) (by omega) (by omega) (by omega) (by omega) (by omega) (by omega)
  have cut2 := cutAtMid (P := Try.prog) 23 5 Try.underlying23 h8.1 h8.2 g N M .i64 .i64 (2 * (n : Int)) (3 * (n : Int)) (2 * n) (3 * n) (by omega) (by omega) (by omega) (by omega) (by omega) (by omega)
  have cut3 := cutAtMid (P := Try.prog) 23 5 Try.underlying23 h8.1 h8.2 g N M .i64 .i64 (3 * (n : Int)) (4 * (n : Int)) (3 * n) (4 * n) (by omega) (by omega) (by omega) (by omega) (by omega) (by omega)
  have cut4 := cutAtMid (P := Try.prog) 23 5 Try.underlying23 h8.1 h8.2 g N M .i64 .i64 (4 * (n : Int)) (5 * (n : Int)) (4 * n) (5 * n) (by omega) (by omega) (by omega) (by omega) (by omega) (by omega)
  have cut5 := cutAtMid (P := Try.prog) 23 5 Try.underlying23 h8.1 h8.2 g N M .i64 .i64 (5 * (n : Int)) (6 * (n : Int)) (5 * n) (6 * n) (by omega) (by omega) (by omega) (by omega) (by omega) (by omega)
  have cut6 := cutAtMid (P := Try.prog) 23 5 Try.underlying23 h8.1 h8.2 g N M .i64 .i64 (6 * (n : Int)) (7 * (n : Int)) (6 * n) (7 * n) (by omega) (by omega) (by omega) (by omega) (by omega) (by omega)
  have cut7 := cutAtMid (P := Try.prog) 23 5 Try.underlying23 h8.1 h8.2 g N M .i64 .i64 (7 * (n : Int)) (8 * (n : Int)) (7 * n) (8 * n) (by omega) (by omega) (by omega) (by omega) (by omega) (by omega)
  rw [Nat.sub_zero, Nat.sub_zero] at cut0
  rw [show 2 * n - n = n by omega] at cut1
  rw [show 3 * n - 2 * n = n by omega] at cut2
  rw [show 4 * n - 3 * n = n by omega] at cut3
  rw [show 5 * n - 4 * n = n by omega] at cut4
  rw [show 6 * n - 5 * n = n by omega] at cut5
  rw [show 7 * n - 6 * n = n by omega] at cut6
  rw [show 8 * n - 7 * n = n by omega] at cut7
  clear hC hb hN hR hM
  go_enter Try.func47, Try.ntmps47
  go_wp2_with (first
    | (go_at_call 56; (with_reducible refine HCALL.out.mono ?_); rintro e w1 ⟨rfl, hw, hb⟩; have HW1 := Aside0.mk hw; have HB1 := Aside0.mk hb; clear hw hb))
  have HR1 : Aside0 (Row w1 g 5 .u8 (strP (fun j s => wd8 bs j / 256 ^ s % 256) n (16 * n) 8 0)) := ⟨by rw [strP_zero]; exact HR.out.below HB1.out HG.out⟩
  have HGR : Aside0 (w.grownBy w1 (some g)) := ⟨grown_of_below HB1.out _⟩
  clear HR HB1 cut0 cut1 cut2 cut3 cut4 cut5 cut6 cut7 hq HCALL
  go_loopg [13, 14, 69] n (fun kq v13 v14 v69 w' => ∃ (j : Nat), j ≤ n ∧ v69 = .int .i64 j ∧ Aside0 (Row w' g 5 .u8 (strP (fun j s => wd8 bs j / 256 ^ s % 256) n (16 * n) 8 j)) ∧ Aside0 (Row w' w.heap.size 47 .u64 (partI (wd8 bs) n n)) ∧ Aside0 (w.grownBy w' (some g)) ∧ Aside0 (n - j ≤ kq))
  case atStart => exact ⟨0, by omega, rfl, HR1, HW1, HGR, ⟨by omega⟩⟩
  case round =>
    clear HR1 HW1 HGR
    obtain ⟨j, hj, rfl, HR, HW, HGR, HK⟩ := hrel
    by_cases cj : j < n
    · have cjb : decide ((j : Int) < n) = true := decide_eq_true (by omega)
      have cjn : decide (j < n) = true := decide_eq_true (by omega)
      have wc := HW.out.cell (j := j) (by rw [partI_length]; exact cj)
      rw [rd_partI _ _ _ _ cj, if_pos cj] at wc
      obtain ⟨hy0, hy1⟩ := wd8_bd HBY.out (j := j) (by rw [HLN.out]; omega)
      obtain ⟨y, hy⟩ : ∃ y, wd8 bs j = y := ⟨_, rfl⟩
      rw [hy] at wc hy0 hy1
      have HY := Aside0.mk hy
      have rc0 := HR.out.cell (j := j) (by rw [strP_length]; omega)
      have rc1 := HR.out.cell (j := n + j) (by rw [strP_length]; omega)
      have rc2 := HR.out.cell (j := 2 * n + j) (by rw [strP_length]; omega)
      have rc3 := HR.out.cell (j := 3 * n + j) (by rw [strP_length]; omega)
      have rc4 := HR.out.cell (j := 4 * n + j) (by rw [strP_length]; omega)
      have rc5 := HR.out.cell (j := 5 * n + j) (by rw [strP_length]; omega)
      have rc6 := HR.out.cell (j := 6 * n + j) (by rw [strP_length]; omega)
      have rc7 := HR.out.cell (j := 7 * n + j) (by rw [strP_length]; omega)
      have rf0 := HR.out.free j
      have rf1 := HR.out.free (n + j)
      have rf2 := HR.out.free (2 * n + j)
      have rf3 := HR.out.free (3 * n + j)
      have rf4 := HR.out.free (4 * n + j)
      have rf5 := HR.out.free (5 * n + j)
      have rf6 := HR.out.free (6 * n + j)
      have rf7 := HR.out.free (7 * n + j)
      clear hy hj
      go_wp2_with (fail)
      go_roundg (gk - 1)
      case measure => have := HK.out; omega
      case rel =>
        refine ⟨j + 1, by omega, by go_num, ⟨?_⟩, ⟨?_⟩, ⟨?_⟩, ⟨by have := HK.out; omega⟩⟩
        · have h := ((((((((HR.out.set j (y % 256)).set (n + j) (y / 256 % 256)).set (2 * n + j) (y / 65536 % 256)).set (3 * n + j) (y / 16777216 % 256)).set (4 * n + j) (y / 4294967296 % 256)).set (5 * n + j) (y / 1099511627776 % 256)).set (6 * n + j) (y / 281474976710656 % 256)).set (7 * n + j) (y / 72057594037927936 % 256))
          rw [← strP_set _ _ _ _ _ cj (by omega)]
          have e : setsK (fun s => wd8 bs j / 256 ^ s % 256) n j (strP (fun j s => wd8 bs j / 256 ^ s % 256) n (16 * n) 8 j) 8 = (((((((((strP (fun j s => wd8 bs j / 256 ^ s % 256) n (16 * n) 8 j).set j (y % 256)).set (n + j) (y / 256 % 256)).set (2 * n + j) (y / 65536 % 256)).set (3 * n + j) (y / 16777216 % 256)).set (4 * n + j) (y / 4294967296 % 256)).set (5 * n + j) (y / 1099511627776 % 256)).set (6 * n + j) (y / 281474976710656 % 256)).set (7 * n + j) (y / 72057594037927936 % 256)) := by
            simp [setsK, HY.out]
          rw [e]
          have e3 : y / 72057594037927936 % 256 = y / 72057594037927936 := by omega
          rw [e3] at h ⊢
          exact h
        · have hne := HGN.out
          exact ((((((((HW.out.far (p := ⟨g, j, none⟩) (Ne.symm hne) _).far (p := ⟨g, n + j, none⟩) (Ne.symm hne) _).far (p := ⟨g, 2 * n + j, none⟩) (Ne.symm hne) _).far (p := ⟨g, 3 * n + j, none⟩) (Ne.symm hne) _).far (p := ⟨g, 4 * n + j, none⟩) (Ne.symm hne) _).far (p := ⟨g, 5 * n + j, none⟩) (Ne.symm hne) _).far (p := ⟨g, 6 * n + j, none⟩) (Ne.symm hne) _).far (p := ⟨g, 7 * n + j, none⟩) (Ne.symm hne) _)
        · exact (grownSet (grownSet (grownSet (grownSet (grownSet (grownSet (grownSet (grownSet HGR.out _ _) _ _) _ _) _ _) _ _) _ _) _ _) _ _)
    · obtain rfl : j = n := by omega
      have cjb : decide ((j : Int) < j) = false := decide_eq_false (by omega)
      go_wp2_with (fail)
      go_end0
      exact ⟨rfl, HGR.out, HR.out⟩
/-- the words of streams -/
def sw8 (bs : List Int) (n : Nat) : List Int := (List.range n).map fun j => le8 (rd bs (j : Nat)) (rd bs (n + j : Nat)) (rd bs (2 * n + j : Nat)) (rd bs (3 * n + j : Nat)) (rd bs (4 * n + j : Nat)) (rd bs (5 * n + j : Nat)) (rd bs (6 * n + j : Nat)) (rd bs (7 * n + j : Nat))
theorem sw8_length (bs : List Int) (n : Nat) : (sw8 bs n).length = n := by simp [sw8]
theorem rd_sw8 (bs : List Int) (n j : Nat) (hj : j < n) : rd (sw8 bs n) (j : Nat) = le8 (rd bs (j : Nat)) (rd bs (n + j : Nat)) (rd bs (2 * n + j : Nat)) (rd bs (3 * n + j : Nat)) (rd bs (4 * n + j : Nat)) (rd bs (5 * n + j : Nat)) (rd bs (6 * n + j : Nat)) (rd bs (7 * n + j : Nat)) := by
  rw [rd_nat _ _ (by rw [sw8_length]; exact hj)]; simp [sw8]
theorem sw8_u64 {bs : List Int} (hb : bytesB bs = true) (n : Nat) (hn : bs.length = 8 * n) : u64L (sw8 bs n) := by
  intro x hx
  simp only [sw8, List.mem_map, List.mem_range] at hx
  obtain ⟨j, hj, rfl⟩ := hx
  exact le8_bd _ _ _ _ _ _ _ _ (bytesB_rd hb rfl (by omega)) (bytesB_rd hb rfl (by omega)) (bytesB_rd hb rfl (by omega)) (bytesB_rd hb rfl (by omega)) (bytesB_rd hb rfl (by omega)) (bytesB_rd hb rfl (by omega)) (bytesB_rd hb rfl (by omega)) (bytesB_rd hb rfl (by omega))
theorem le8_rawW (y0 y1 y2 y3 y4 y5 y6 y7 : Int) (b0 : byt y0) (b1 : byt y1) (b2 : byt y2) (b3 : byt y3) (b4 : byt y4) (b5 : byt y5) (b6 : byt y6) (b7 : byt y7) : (Go.bits .or .u64 (Go.bits .or .u64 (Go.bits .or .u64 (Go.bits .or .u64 (Go.bits .or .u64 (Go.bits .or .u64 (Go.bits .or .u64 (IntKind.u64.wrap y0) (IntKind.u64.wrap (IntKind.u64.wrap y1 * 256))) (IntKind.u64.wrap (IntKind.u64.wrap y2 * 65536))) (IntKind.u64.wrap (IntKind.u64.wrap y3 * 16777216))) (IntKind.u64.wrap (IntKind.u64.wrap y4 * 4294967296))) (IntKind.u64.wrap (IntKind.u64.wrap y5 * 1099511627776))) (IntKind.u64.wrap (IntKind.u64.wrap y6 * 281474976710656))) (IntKind.u64.wrap (IntKind.u64.wrap y7 * 72057594037927936))) = le8 y0 y1 y2 y3 y4 y5 y6 y7 := by
  unfold byt at *
  rw [IntWalk.u64_in y0 (by omega), IntWalk.u64_in y1 (by omega), IntWalk.u64_in y2 (by omega), IntWalk.u64_in y3 (by omega), IntWalk.u64_in y4 (by omega), IntWalk.u64_in y5 (by omega), IntWalk.u64_in y6 (by omega), IntWalk.u64_in y7 (by omega)]
  rw [IntWalk.u64_in (y1 * 256) (by omega), IntWalk.u64_in (y2 * 65536) (by omega), IntWalk.u64_in (y3 * 16777216) (by omega), IntWalk.u64_in (y4 * 4294967296) (by omega), IntWalk.u64_in (y5 * 1099511627776) (by omega), IntWalk.u64_in (y6 * 281474976710656) (by omega), IntWalk.u64_in (y7 * 72057594037927936) (by omega)]
  rw [or_u64 8 (y0) (y1 * 256) (by omega) (by omega) (by omega) (by omega) (by omega) (by omega)]
  rw [or_u64 16 (y0 + y1 * 256) (y2 * 65536) (by omega) (by omega) (by omega) (by omega) (by omega) (by omega)]
  rw [or_u64 24 (y0 + y1 * 256 + y2 * 65536) (y3 * 16777216) (by omega) (by omega) (by omega) (by omega) (by omega) (by omega)]
  rw [or_u64 32 (y0 + y1 * 256 + y2 * 65536 + y3 * 16777216) (y4 * 4294967296) (by omega) (by omega) (by omega) (by omega) (by omega) (by omega)]
  rw [or_u64 40 (y0 + y1 * 256 + y2 * 65536 + y3 * 16777216 + y4 * 4294967296) (y5 * 1099511627776) (by omega) (by omega) (by omega) (by omega) (by omega) (by omega)]
  rw [or_u64 48 (y0 + y1 * 256 + y2 * 65536 + y3 * 16777216 + y4 * 4294967296 + y5 * 1099511627776) (y6 * 281474976710656) (by omega) (by omega) (by omega) (by omega) (by omega) (by omega)]
  rw [or_u64 56 (y0 + y1 * 256 + y2 * 65536 + y3 * 16777216 + y4 * 4294967296 + y5 * 1099511627776 + y6 * 281474976710656) (y7 * 72057594037927936) (by omega) (by omega) (by omega) (by omega) (by omega) (by omega)]
  unfold le8 le4; omega
set_option maxRecDepth 100000 in
set_option maxHeartbeats 4000000 in
theorem decodeDouble_calls (g : Nat) (A : Option Addr) (N c n : Nat) (bs : List Int) (w : World) (hR : Row w g 5 .u8 (List.replicate (8 * n) 0)) (hC : ReadKeep w g .u8 A N bs) (hc : N ≤ c) (hN : N = 8 * n) (hn : n ≤ 100000) (hb : bytesB bs = true) :
    Calls Try.prog 50 #[.slice (some ⟨g, 0, none⟩) N N, .slice A N c] w fun e w' => e = .returned (.tuple #[]) ∧ w.grownBy w' (some g) ∧ Row w' g 5 .u8 (p8 (sw8 bs n) n n) := by
  have HLN : Aside0 (bs.length = N) := ⟨(hC w (grownRefl _ _)).1⟩
  have HC := Aside0.mk hC
  have HR : Aside0 (Row w g 5 .u8 (p8 (sw8 bs n) n 0)) := ⟨hR⟩
  have HBY := Aside0.mk hb
  have HGR : Aside0 (w.grownBy w (some g)) := ⟨grownRefl _ _⟩
  have h1N : N ≤ 8 * n := by omega
  have h2N : 8 * n ≤ N := by omega
  have hq : (N : Int) / 8 = (n : Int) := by omega
  obtain ⟨i8, h8⟩ := h8
  obtain ⟨A0, cut0, hC0⟩ := cutMid (P := Try.prog) 23 5 Try.underlying23 h8.1 h8.2 A N c .i64 .i64 0 (n : Int) 0 (n) rfl (by omega) (by omega) (by omega) hc
  obtain ⟨A1, cut1, hC1⟩ := cutMid (P := Try.prog) 23 5 Try.underlying23 h8.1 h8.2 A N c .i64 .i64 (n : Int) (2 * (n : Int)) (n) (2 * n) (by omega) (by omega) (by omega) (by omega) hc
  obtain ⟨A2, cut2, hC2⟩ := cutMid (P := Try.prog) 23 5 Try.underlying23 h8.1 h8.2 A N c .i64 .i64 (2 * (n : Int)) (3 * (n : Int)) (2 * n) (3 * n) (by omega) (by omega) (by omega) (by omega) hc
  obtain ⟨A3, cut3, hC3⟩ := cutMid (P := Try.prog) 23 5 Try.underlying23 h8.1 h8.2 A N c .i64 .i64 (3 * (n : Int)) (4 * (n : Int)) (3 * n) (4 * n) (by omega) (by omega) (by omega) (by omega) hc
  obtain ⟨A4, cut4, hC4⟩ := cutMid (P := Try.prog) 23 5 Try.underlying23 h8.1 h8.2 A N c .i64 .i64 (4 * (n : Int)) (5 * (n : Int)) (4 * n) (5 * n) (by omega) (by omega) (by omega) (by omega) hc
  obtain ⟨A5, cut5, hC5⟩ := cutMid (P := Try.prog) 23 5 Try.underlying23 h8.1 h8.2 A N c .i64 .i64 (5 * (n : Int)) (6 * (n : Int)) (5 * n) (6 * n) (by omega) (by omega) (by omega) (by omega) hc
  obtain ⟨A6, cut6, hC6⟩ := cutMid (P := Try.prog) 23 5 Try.underlying23 h8.1 h8.2 A N c .i64 .i64 (6 * (n : Int)) (7 * (n : Int)) (6 * n) (7 * n) (by omega) (by omega) (by omega) (by omega) hc
  obtain ⟨A7, cut7, hC7⟩ := cutMid (P := Try.prog) 23 5 Try.underlying23 h8.1 h8.2 A N c .i64 .i64 (7 * (n : Int)) (8 * (n : Int)) (7 * n) (8 * n) (by omega) (by omega) (by omega) (by omega) hc
  rw [Nat.sub_zero, Nat.sub_zero] at cut0
  rw [Nat.sub_zero] at hC0
  rw [show 2 * n - n = n by omega] at cut1 hC1
  rw [show 3 * n - 2 * n = n by omega] at cut2 hC2
  rw [show 4 * n - 3 * n = n by omega] at cut3 hC3
  rw [show 5 * n - 4 * n = n by omega] at cut4 hC4
  rw [show 6 * n - 5 * n = n by omega] at cut5 hC5
  rw [show 7 * n - 6 * n = n by omega] at cut6 hC6
  rw [show 8 * n - 7 * n = n by omega] at cut7 hC7
  have HC0 := Aside0.mk (hC0 (Kd.int .u8))
  have HC1 := Aside0.mk (hC1 (Kd.int .u8))
  have HC2 := Aside0.mk (hC2 (Kd.int .u8))
  have HC3 := Aside0.mk (hC3 (Kd.int .u8))
  have HC4 := Aside0.mk (hC4 (Kd.int .u8))
  have HC5 := Aside0.mk (hC5 (Kd.int .u8))
  have HC6 := Aside0.mk (hC6 (Kd.int .u8))
  have HC7 := Aside0.mk (hC7 (Kd.int .u8))
  have HSU : Aside0 (u64L (sw8 bs n)) := ⟨sw8_u64 hb n (by rw [HLN.out]; exact hN)⟩
  clear hC hb hN hR hC0 hC1 hC2 hC3 hC4 hC5 hC6 hC7
  go_enter Try.func50, Try.ntmps50
  go_wp2_with (fail)
  clear cut0 cut1 cut2 cut3 cut4 cut5 cut6 cut7 hq
  go_loopg [13, 66] n (fun kq v13 v66 w' => ∃ (j : Nat), j ≤ n ∧ v66 = .int .i64 j ∧ Aside0 (Row w' g 5 .u8 (p8 (sw8 bs n) n j)) ∧ Aside0 (w.grownBy w' (some g)) ∧ Aside0 (n - j ≤ kq))
  case atStart => exact ⟨0, by omega, rfl, HR, HGR, ⟨by omega⟩⟩
  case round =>
    clear HR HGR
    obtain ⟨j, hj, rfl, HR, HGR, HK⟩ := hrel
    by_cases cj : j < n
    · have cjb : decide ((j : Int) < n) = true := decide_eq_true (by omega)
      have cjn : decide (j < n) = true := decide_eq_true (by omega)
      obtain ⟨ad0, ead0, x0⟩ := Kd.at_int (HC0.out _ _ rfl (HC.out wr HGR.out)) (j : Int) (by omega) (by omega)
      obtain ⟨ad1, ead1, x1⟩ := Kd.at_int (HC1.out _ _ rfl (HC.out wr HGR.out)) (j : Int) (by omega) (by omega)
      obtain ⟨ad2, ead2, x2⟩ := Kd.at_int (HC2.out _ _ rfl (HC.out wr HGR.out)) (j : Int) (by omega) (by omega)
      obtain ⟨ad3, ead3, x3⟩ := Kd.at_int (HC3.out _ _ rfl (HC.out wr HGR.out)) (j : Int) (by omega) (by omega)
      obtain ⟨ad4, ead4, x4⟩ := Kd.at_int (HC4.out _ _ rfl (HC.out wr HGR.out)) (j : Int) (by omega) (by omega)
      obtain ⟨ad5, ead5, x5⟩ := Kd.at_int (HC5.out _ _ rfl (HC.out wr HGR.out)) (j : Int) (by omega) (by omega)
      obtain ⟨ad6, ead6, x6⟩ := Kd.at_int (HC6.out _ _ rfl (HC.out wr HGR.out)) (j : Int) (by omega) (by omega)
      obtain ⟨ad7, ead7, x7⟩ := Kd.at_int (HC7.out _ _ rfl (HC.out wr HGR.out)) (j : Int) (by omega) (by omega)
      rw [Int.toNat_natCast, Spd.rd_cut _ _ _ _ (by omega), Nat.zero_add] at x0
      rw [Int.toNat_natCast, Spd.rd_cut _ _ _ _ (by omega)] at x1 x2 x3 x4 x5 x6 x7
      have b0 : byt (rd bs (j : Nat)) := bytesB_rd HBY.out rfl (by rw [HLN.out]; omega)
      have b1 : byt (rd bs (n + j : Nat)) := bytesB_rd HBY.out rfl (by rw [HLN.out]; omega)
      have b2 : byt (rd bs (2 * n + j : Nat)) := bytesB_rd HBY.out rfl (by rw [HLN.out]; omega)
      have b3 : byt (rd bs (3 * n + j : Nat)) := bytesB_rd HBY.out rfl (by rw [HLN.out]; omega)
      have b4 : byt (rd bs (4 * n + j : Nat)) := bytesB_rd HBY.out rfl (by rw [HLN.out]; omega)
      have b5 : byt (rd bs (5 * n + j : Nat)) := bytesB_rd HBY.out rfl (by rw [HLN.out]; omega)
      have b6 : byt (rd bs (6 * n + j : Nat)) := bytesB_rd HBY.out rfl (by rw [HLN.out]; omega)
      have b7 : byt (rd bs (7 * n + j : Nat)) := bytesB_rd HBY.out rfl (by rw [HLN.out]; omega)
      have HS := Aside0.mk (rd_sw8 bs n j cj)
      generalize rd bs (j : Nat) = y0 at *
      generalize rd bs (n + j : Nat) = y1 at *
      generalize rd bs (2 * n + j : Nat) = y2 at *
      generalize rd bs (3 * n + j : Nat) = y3 at *
      generalize rd bs (4 * n + j : Nat) = y4 at *
      generalize rd bs (5 * n + j : Nat) = y5 at *
      generalize rd bs (6 * n + j : Nat) = y6 at *
      generalize rd bs (7 * n + j : Nat) = y7 at *
      have HV := Aside0.mk (le8_rawW y0 y1 y2 y3 y4 y5 y6 y7 b0 b1 b2 b3 b4 b5 b6 b7)
      have cutd := cutAt (P := Try.prog) 23 5 Try.underlying23 h8.1 h8.2 g N N .i64 (8 * (j : Int)) (8 * j) (by omega) (by omega) (by omega) (by omega)
      have hv := le8_bd y0 y1 y2 y3 y4 y5 y6 y7 b0 b1 b2 b3 b4 b5 b6 b7
      have HCALL := Aside0.mk fun nq => pqsplit_lePutUint64.calls g (8 * j) (N - 8 * j) (N - 8 * j) 5 (p8 (sw8 bs n) n j) (le8 y0 y1 y2 y3 y4 y5 y6 y7) (wr.drewN nq) (HR.out.drewN nq) (by omega) (Nat.le_refl _) (by rw [p8_length]; omega) hv.1 hv.2
      have qw : IntKind.i64.wrap (8 * (j : Int)) = 8 * (j : Int) := IntWalk.i64_in _ (by omega)
      have qi1 : (j < n) = True := eq_true cj
      have qi2 : ((j : Int) < (n : Int)) = True := eq_true (by omega)
      have qi3 : (0 ≤ (j : Int)) = True := eq_true (by omega)
      clear hj hv b0 b1 b2 b3 b4 b5 b6 b7
      subst ead0 ead1 ead2 ead3 ead4 ead5 ead6 ead7
      go_wp2_with (fail)
      refine region_tail 58 (by kernel_rfl) (by kernel_rfl) ?_
      simp only [List.take_succ_cons, List.take_zero, List.drop_succ_cons, List.drop_zero]
      repeat (quiet_step ((fail)))
      refine wpQuiet_nil ?_
      rintro _ ⟨nq, rfl⟩
      rw [HV.out]
      go_wp2_with (first
        | (go_at_call 57; (with_reducible refine (HCALL.out nq).mono ?_); rintro e w2 ⟨rfl, hg, hrow⟩; have HG2 := Aside0.mk hg; have HM2 := Aside0.mk hrow; clear hg hrow))
      go_roundg (gk - 1)
      case measure => have := HK.out; omega
      case rel =>
        refine ⟨j + 1, by omega, by go_num, ⟨?_⟩, ⟨grownTrans (grownDrewN HGR.out nq) HG2.out⟩, ⟨by have := HK.out; omega⟩⟩
        have := HM2.out
        rw [← HS.out] at this
        exact this
    · obtain rfl : j = n := by omega
      have cjb : decide ((j : Int) < j) = false := decide_eq_false (by omega)
      go_wp2_with (fail)
      go_end0
      exact ⟨rfl, HGR.out, HR.out⟩
set_option maxRecDepth 100000 in
set_option maxHeartbeats 4000000 in
theorem encodeDouble0_calls (A : Option Addr) (c : Nat) (w : World) :
    Calls Try.prog 47 #[.slice none 0 0, .slice A 0 c] w fun e w' => e = .returned (.tuple #[]) ∧ Below w.heap.size w w' := by
  have HCALL := Aside0.mk (words64_calls A 0 c 0 [] w ⟨rfl, by omega, fun h => absurd h (by omega)⟩ (by omega) rfl (by omega) rfl)
  obtain ⟨i8, h8⟩ := h8
  have cut := cut_mid (P := Try.prog) 23 5 .i64 .i64 Try.underlying23 h8.1 1 h8.2 none 0 0 0 0 (by omega) (by omega) (by omega) (by omega)
  go_enter Try.func47, Try.ntmps47
  go_wp2_with (first
    | (go_at_call 56; (with_reducible refine HCALL.out.mono ?_); rintro e w1 ⟨rfl, hw, hb⟩; have HW1 := Aside0.mk hw; have HB1 := Aside0.mk hb; clear hw hb))
  refine wp_loop_rounds 1 ?_
  rw [rounds_succ]
  go_wp2_with (fail)
  go_end0
  exact ⟨rfl, HB1.out⟩
theorem streams_strP (l : List Int) (n : Nat) (hn : l.length = n) (h0 : 0 < n) (hu : u64L l) :
    (strP (fun j s => wd8 (p8 l n n) j / 256 ^ s % 256) n (16 * n) 8 n).take (8 * n) = streamsL 8 (enLowL 8 l) := by
  rw [strP_full _ _ _ _ h0 (by omega), streams_enLow 8 (by omega), hn]
  apply List.map_congr_left
  intro i hi
  have hi : i < 8 * n := by simpa using hi
  have h3 : i % n < n := Nat.mod_lt _ h0
  show wd8 (p8 l n n) (i % n) / 256 ^ (i / n) % 256 = _
  rw [wd8_p8 l n _ hu hn h3]
set_option maxRecDepth 100000 in
set_option maxHeartbeats 4000000 in
theorem spEncodeDouble_calls (p : Option Addr) (A : Option Addr) (n c : Nat) (l : List Int) (w : World) (hC : (Kd.scalar f64 f64_one).C w A n l) (hc : n ≤ c) (hn : n ≤ 100000) (hu : u64L l) :
    Calls Try.prog 32 #[.pointer p, .slice none 0 0, .slice A n c] w fun e w' => ∃ v, e = .returned (.tuple #[v, .nilIface]) ∧ Own w' w.heap.size 5 .u8 v (streamsL 8 (enLowL 8 l)) ∧ Below w.heap.size w w' := by
  have hln : l.length = n := hC.1
  have HC := Aside0.mk hC
  have HU := Aside0.mk hu
  by_cases h0 : n = 0
  · subst h0
    obtain rfl : l = [] := List.eq_nil_of_length_eq_zero hln
    have H1 := Aside0.mk (spResize0_calls w)
    have H2 := Aside0.mk (bytesOfDouble_calls A 0 c [] w hC hc hn hu)
    clear hC hu hln
    go_enter Try.func32, Try.ntmps32
    go_wp2_with (first
      | (go_at_call 40; (with_reducible refine H1.out.mono ?_); rintro e w1 ⟨rfl, rfl⟩)
      | (go_at_call 48; (with_reducible refine H2.out.mono ?_); rintro e w1 ⟨rfl, hw, hb⟩; have HB1 := Aside0.mk hb; clear hw hb)
      | (go_at_call 47; (with_reducible refine (encodeDouble0_calls _ _ _).mono ?_); rintro e w2 ⟨rfl, hb⟩; have HB2 := Aside0.mk (HB1.out.trans (hb.mono HB1.out.size)); clear hb))
    go_ret2
    exact ⟨_, rfl, by rw [streams_nil]; exact Own.nil _ _ _ _, HB2.out⟩
  · obtain ⟨m, hm⟩ : ∃ m, m = 8 * n := ⟨_, rfl⟩
    have H1 := Aside0.mk (spResize_calls (8 * (n : Int)) m (by omega) (by omega) (by omega) w)
    have HM := Aside0.mk hm
    have HLN := Aside0.mk hln
    have hm1 : m ≤ 8 * n := by omega
    have hm2 : 8 * n ≤ m := by omega
    have h1 : 0 < n := by omega
    clear hC hu hln hm h0
    go_enter Try.func32, Try.ntmps32
    go_wp2_with (first
      | (go_at_call 40; (with_reducible refine H1.out.mono ?_); rintro e w1 ⟨rfl, hr, hb⟩; have HR1 := Aside0.mk hr; have HB1 := Aside0.mk hb; clear hr hb)
      | (go_at_call 48; (with_reducible refine (bytesOfDouble_calls A n c l w1 (Kd.C_below HC.out HB1.out) hc hn HU.out).mono ?_); rintro e w2 ⟨rfl, hr, hb⟩; have HR2 := Aside0.mk hr; have HB2 := Aside0.mk hb; clear hr hb)
      | (go_at_call 47; rw [← HM.out]; (with_reducible refine (encodeDouble_calls w.heap.size (2 * m) (some ⟨w1.heap.size, 0, none⟩) m m n (p8 l n n) w2 ?hr ?hM ?hC (Nat.le_refl _) HM.out h1 hn (p8_bytes _ _ _ (Nat.le_refl _))).mono ?_); (case hr => have := HR1.out.below HB2.out HR1.out.lt; rw [HM.out, show 2 * (8 * n) = 16 * n by omega] at this; exact this); (case hM => omega); (case hC => exact rowC HR2.out (by rw [p8_length]; omega) (by omega)); rintro e w3 ⟨rfl, hg, hr⟩; have HG3 := Aside0.mk hg; have HR3 := Aside0.mk hr; clear hg hr))
    go_ret2
    refine ⟨_, rfl, ?_, belowGrown (HB1.out.trans (HB2.out.mono HB1.out.size)) HG3.out (Nat.le_refl _)⟩
    have := HR3.out.toOwn (base := w.heap.size) (n := 8 * n) (Nat.le_refl _) (by rw [strP_length]; omega) (by rw [strP_length]; omega)
    rw [strP_length, streams_strP l n HLN.out h1 HU.out] at this
    rw [show 2 * m = 16 * n by omega, HM.out]
    exact this
theorem partI_wd8 (ws : List Int) (n : Nat) (hn : ws.length = n) (hu : u64L ws) : partI (wd8 (p8 ws n n)) n n = ws := by
  rw [partI_full]
  apply List.ext_getElem
  · simp [hn]
  · intro i h1 h2
    simp only [List.getElem_map, List.getElem_range]
    rw [wd8_p8 ws n i hu hn (by omega), rd_nat _ _ h2]
set_option maxRecDepth 100000 in
set_option maxHeartbeats 4000000 in
theorem spDecodeDouble_calls (p : Option Addr) (A : Option Addr) (N c n : Nat) (bs : List Int) (w : World) (hC : (Kd.int .u8).C w A N bs) (hc : N ≤ c) (hN : N = 8 * n) (hn : n ≤ 100000) (hb : bytesB bs = true) :
    Calls Try.prog 34 #[.pointer p, .slice none 0 0, .slice A N c] w fun e w' => ∃ v, e = .returned (.tuple #[v, .nilIface]) ∧ OwnE f64 w' w.heap.size 73 v (sw8 bs n) ∧ Below w.heap.size w w' := by
  have hln : bs.length = N := hC.1
  have HC := Aside0.mk hC
  have HBY := Aside0.mk hb
  have HN := Aside0.mk hN
  have h1N : N ≤ 8 * n := by omega
  have h2N : 8 * n ≤ N := by omega
  have hq : (N : Int) % 8 = 0 := by omega
  have HSU : Aside0 (u64L (sw8 bs n)) := ⟨sw8_u64 hb n (by omega)⟩
  have hmk := print_make (P := Try.prog) 23 5 .u8 1 Try.underlying23 infoU8 (by decide) N (by omega)
  have HR : Aside0 (Row (w.alloc (.cells (madeCells #[.int .u8 0] N) 5)) w.heap.size 5 .u8 (List.replicate (8 * n) 0)) := ⟨by rw [← hN]; exact madeRow w 5 .u8 N⟩
  have HB : Aside0 (Below w.heap.size w (w.alloc (.cells (madeCells #[.int .u8 0] N) 5))) := ⟨(Below.refl _ _).alloc (Nat.le_refl _) _⟩
  clear hC hb hN hln
  go_enter Try.func34, Try.ntmps34
  go_wp2_with (first
    | (go_at_call 50; (with_reducible refine (decodeDouble_calls w.heap.size A N c n bs _ HR.out (readKeep_of HC.out HB.out (Nat.le_refl _)) hc HN.out hn HBY.out).mono ?_); rintro e w1 ⟨rfl, hg, hr⟩; have HG1 := Aside0.mk hg; have HR1 := Aside0.mk hr; clear hg hr)
    | (go_at_call 51; (with_reducible refine (ofDouble_calls (some ⟨w.heap.size, 0, none⟩) N N n (p8 (sw8 bs n) n n) w1 (rowC HR1.out (by rw [p8_length]; omega) (by omega)) (Nat.le_refl _) HN.out hn (p8_bytes _ _ _ (Nat.le_refl _))).mono ?_); rintro e w2 ⟨rfl, hr, hb⟩; have HR2 := Aside0.mk hr; have HB2 := Aside0.mk hb; clear hr hb))
  go_ret2
  have HB1 : Below w.heap.size w w1 := belowGrown HB.out HG1.out (Nat.le_refl _)
  refine ⟨_, rfl, ?_, HB1.trans (HB2.out.mono HB1.size)⟩
  have := HR2.out
  rw [partI_wd8 _ _ (sw8_length _ _) HSU.out] at this
  have := this.toOwn (base := w.heap.size) HB1.size (by rw [sw8_length]; omega)
  rw [sw8_length] at this
  exact this
end Go.Proofs.Ytkefklemcoehmaa.Spq
