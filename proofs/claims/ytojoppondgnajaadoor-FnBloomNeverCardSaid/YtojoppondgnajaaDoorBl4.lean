import Derived.Test.YtojoppondgnajaaDoorBl3
import Derived.Lib.LaidTab
import Derived.LaidMore
import Derived.Stop.Joined
namespace Go.Proofs.YtojoppondgnajaaDoor.Bl
open Go.Proofs.YtojoppondgnajaaDoor.Aid Go.RowKit Go.Proofs.YtojoppondgnajaaDoorW.PrintWords Go.Proofs.YtojoppondgnajaaDoorW.PrintLast Go.Proofs.YtojoppondgnajaaDoorW.PrintMore
set_option linter.unusedVariables false
set_option linter.unusedSimpArgs false
theorem isFilter_val (l : List Int) (hl : l.length < 4294967296) : PFnBloomInsert.spec_IsFilter.f l = some (decide (0 < l.length ∧ l.length % 32 = 0 ∧ l.length ≤ 100000)) := by
  unfold PFnBloomInsert.spec_IsFilter.f
  by_cases h1 : 0 < l.length
  · rw [if_pos (by omega)]
    by_cases h2 : l.length % 32 = 0
    · rw [if_pos (by omega)]
      congr 1
      rw [decide_eq_decide]; omega
    · rw [if_neg (by omega)]
      congr 1
      symm; rw [decide_eq_false_iff_not]; omega
  · rw [if_neg (by omega)]
    congr 1
    symm; rw [decide_eq_false_iff_not]; omega
set_option maxHeartbeats 4000000 in
theorem lawCheck_calls (a0 : Option Addr) (len0 cap0 : Nat) (z0 : List Int) (x : Int) (W : World) (w0 : (a0 = none ∧ len0 = 0 ∧ cap0 = 0 ∧ z0 = []) ∨ ∃ x, a0 = some x ∧ len0 ≤ cap0 ∧ cap0 ≤ maxLen ∧ z0.length = cap0 ∧ (∀ i, i < z0.length → W.cell? (x.add i) = some (.int .u8 (z0.getD i 0))) ∧ ∀ n ∈ z0, (Lit.int .u8 n).wf = true) (y0 : len0 * 1 ≤ 140737488351232) (hx : u64B x) (hS : Salt W) (hW0 : 0 < W.heap.size) :
    Calls Tryd.prog 3 #[.slice a0 len0 cap0, .int .u64 x] W fun e w' => e = .returned (.bool true) ∧ Below W.heap.size W w' := by
  obtain ⟨l, rfl, hr1, hm1, hw1, hc1⟩ := ReadsInt.ofRowC w0
  have hC := Kd.C_of_reads (d := (0 : Int)) (h1 := fun _ => rfl) hr1
  have hb : bytesB l = true := bytesB_of fun x hx => byt_of_wf (hw1 x hx)
  have HC : Aside0 ((Kd.int .u8).C W a0 l.length l) := ⟨hC⟩
  have HBY := Aside0.mk hb
  have HX := Aside0.mk hx
  have HS := Aside0.mk hS
  clear w0 hr1 hm1 hw1 hb hC hx hS
  by_cases h1 : 2147483647 < l.length
  · have q1 : decide (2147483647 < (l.length : Int)) = true := decide_eq_true (by omega)
    go_enter Tryd.func3, Tryd.ntmps3
    go_wp2
    go_ret
    exact ⟨rfl, Below.refl _ _⟩
  · have q1 : decide (2147483647 < (l.length : Int)) = false := decide_eq_false (by omega)
    have hv := isFilter_val l (by omega)
    by_cases h2 : 0 < l.length ∧ l.length % 32 = 0 ∧ l.length ≤ 100000
    · rw [decide_eq_true h2] at hv
      have HF : Aside0 (Fil l) := ⟨⟨HBY.out, h2.1, h2.2.1, h2.2.2⟩⟩
      obtain ⟨B, hB⟩ : ∃ B, l.length = 32 * B := ⟨l.length / 32, by omega⟩
      have HL := Aside0.mk (PFnBloomInsert.spec_IsFilter.calls a0 cap0 l true W HC.out hc1 hv)
      have hB1 : 0 < B ∧ B < 65536 := by omega
      have HE : Aside0 (checkB l x = hasB l x B 8) := ⟨by rw [check_has l HF.out x HX.out, show l.length / 32 = B by omega]⟩
      have HB := Aside0.mk hB
      have HW0 := Aside0.mk hW0
      clear hv hB h2
      go_enter Tryd.func3, Tryd.ntmps3
      go_wp2_with (first
        | (go_at_call 7; (with_reducible refine HL.out.mono ?_); rintro e w' ⟨rfl, ⟨nd, rfl⟩⟩)
        | (go_at_call 8; (with_reducible refine (implCheck_calls a0 l.length cap0 l x HX.out (W.drewN nd) ?h1 ?h2 ?h3 hc1 HF.out).mono ?_); (case h1 => exact HS.out); (case h2 => exact HW0.out); (case h3 => exact Kd.C_below HC.out (drewN_below W nd)); rintro e w2 ⟨rfl, hb2⟩; have HB2 := Aside0.mk hb2; clear hb2)
        | (go_at_call 9; (with_reducible refine (has2_calls a0 l.length cap0 l x HX.out B HB.out hB1.2 hB1.1 w2 ?h1 hc1 HBY.out).mono ?_); (case h1 => exact Kd.C_below HC.out ((drewN_below W nd).trans HB2.out)); rintro e w3 ⟨rfl, hb3⟩; have HB3 := Aside0.mk hb3; clear hb3))
      go_ret
      refine ⟨?_, ((drewN_below W nd).trans HB2.out).trans (HB3.out.mono HB2.out.size)⟩
      show Ending.returned (Value.bool (checkB l x == hasB l x B 8)) = _
      rw [HE.out, beq_self_eq_true]
    · rw [decide_eq_false h2] at hv
      have HL := Aside0.mk (PFnBloomInsert.spec_IsFilter.calls a0 cap0 l false W HC.out hc1 hv)
      clear hv
      go_enter Tryd.func3, Tryd.ntmps3
      go_wp2_with (first
        | (go_at_call 7; (with_reducible refine HL.out.mono ?_); rintro e w' ⟨rfl, ⟨nd, rfl⟩⟩))
      go_ret
      exact ⟨rfl, drewN_below W nd⟩

/-! ### what the row's condition gives -/
theorem gSalt : Tryd.prog.globalNamed "loop.example/pub-g01502/pub/pqbloom.salt" = some 0 := by kernel_rfl
theorem tSalt : (Tryd.prog.globals[0]?).map (·.type) = some 53 := by kernel_rfl
theorem of_laid {W : World} (h : laidMetH Tryd.prog [("loop.example/pub-g01502/pub/pqbloom.salt", Lib.tabData .u32 [1203114875, 1150766481, 2284105051, 2729912477, 1884591559, 770785867, 2667333959, 1550580529])] W) : Salt W ∧ 0 < W.heap.size := by
  rw [MakeChecks.laidMetH_plain _ _ _ (by kernel_rfl)] at h
  have hT := Lib.tabIs_of_head gSalt tSalt Tryd.underlying53 Tryd.underlying40 (by kernel_rfl) (by kernel_rfl) h
  have hS : Salt W := fun i hi => by
    have := World.var?_cell gSalt hT i
    rw [this]
    rcases (show i = 0 ∨ i = 1 ∨ i = 2 ∨ i = 3 ∨ i = 4 ∨ i = 5 ∨ i = 6 ∨ i = 7 by omega) with rfl | rfl | rfl | rfl | rfl | rfl | rfl | rfl <;> rfl
  refine ⟨hS, ?_⟩
  have h0 := hS 0 (by decide)
  unfold World.cell? at h0
  cases hh : W.heap[0]? with
  | none => simp [hh] at h0
  | some o => exact (Array.getElem?_eq_some_iff.1 hh).1
theorem u64_of_wf {x : Int} (h : (Lit.int .u64 x).wf = true) : u64B x := by
  have := wf_bd h
  have e1 : IntKind.u64.min = 0 := by decide +kernel
  have e2 : IntKind.u64.max = 18446744073709551615 := by decide +kernel
  unfold u64B; omega
theorem checkLaw (a0 : Option Addr) (len0 cap0 : Nat) (z0 : List Int) (x : Int) (W : World) (w0 : (a0 = none ∧ len0 = 0 ∧ cap0 = 0 ∧ z0 = []) ∨ ∃ x, a0 = some x ∧ len0 ≤ cap0 ∧ cap0 ≤ maxLen ∧ z0.length = cap0 ∧ (∀ i, i < z0.length → W.cell? (x.add i) = some (.int .u8 (z0.getD i 0))) ∧ ∀ n ∈ z0, (Lit.int .u8 n).wf = true) (y0 : len0 * 1 ≤ 140737488351232) (w1 : (Lit.int .u64 x).wf = true)
    (hL : laidMetH Tryd.prog [("loop.example/pub-g01502/pub/pqbloom.salt", Lib.tabData .u32 [1203114875, 1150766481, 2284105051, 2729912477, 1884591559, 770785867, 2667333959, 1550580529])] W) :
    Calls Tryd.prog 3 #[.slice a0 len0 cap0, .int .u64 x] W fun e w' => e = .returned (.bool true) ∧ Below W.heap.size W w' :=
  lawCheck_calls a0 len0 cap0 z0 x W w0 y0 (u64_of_wf w1) (of_laid hL).1 (of_laid hL).2
end Go.Proofs.YtojoppondgnajaaDoor.Bl
