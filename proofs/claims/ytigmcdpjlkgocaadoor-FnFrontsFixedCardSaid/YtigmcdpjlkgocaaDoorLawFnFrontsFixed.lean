/- Texts of one length are written and read in the same way as others with shared fronts. -/
-- Laid by a program of this session.
import Derived.Test.YtigmcdpjlkgocaaDoorRows
import Derived.Test.YtigmcdpjlkgocaaDoorCards
import Derived.Test.YtigmcdpjlkgocaaDoorTie
import Derived.Test.YtigmcdpjlkgocaaDoorDfx
import Derived.Test.YtigmcdpjlkgocaaDoorMdl
import Derived.Test.YtigmcdpjlkgocaaDoorFoz
import Derived.WalkKit
import Derived.ProofKit
import Derived.OpenShut
import Derived.ShutString
import Derived.ChangeOld
import Derived.Below
import Derived.SizedLaws
import Derived.OpenVars
import Derived.LaidMore
import Derived.Stop.Joined
import Derived.SevenTiedAt
import Derived.Test.YtigmcdpjlkgocaaDoorWSized
namespace Go.Proofs.YtigmcdpjlkgocaaDoor.fnFrontsFixed
open Go.ChangeShapes Go.WideShapes Go.ChangeAt Go.RowKit
open Go.ChangeMaps (open_string shut_string)
set_option linter.unusedVariables false
theorem own : ownKnob Tryd.prog.godebug = none := by kernel_rfl
theorem laidOut : laidOutB Tryd.prog = true := by kernel_rfl
def IsRow (k : IntKind) (w : World) (a : Option Addr) (len cap : Nat) (zs : List Int) : Prop :=
  (a = none ∧ len = 0 ∧ cap = 0 ∧ zs = []) ∨
  ∃ x, a = some x ∧ len ≤ cap ∧ cap ≤ maxLen ∧ zs.length = cap ∧ (∀ i, i < zs.length → w.cell? (x.add i) = some (.int k (zs.getD i 0))) ∧ ∀ n ∈ zs, (Lit.int k n).wf = true
theorem varsCons {H : Type} {enc : TypeId × Value → H} {P : Program} {w : World} {sp : Nat → Bool} {n : String} {ns : List String} {gs : List (DataW H)} {ps : List MemPlace} (h : DataW.TrodVars enc P w sp (n :: ns) gs ps) :
    ∃ d ds q, gs = d :: ds ∧ DataW.TrodVars enc P w sp ns ds q := by
  cases gs with
  | nil => simp [DataW.TrodVars] at h
  | cons d ds =>
    obtain ⟨g, t, cs, fuel, p, q, _, _, _, _, hs, _⟩ := h
    exact ⟨d, ds, q, rfl, hs⟩
theorem door_met (os : Os) (args : Array Value) : laidMetH Tryd.prog Rows.fnFrontsFixedRow.laid ((World.doorLaid Tryd.prog 85 os).forCall (fun _ _ => 0) ⟨#[], args, []⟩).memory :=
  laidMetH_of_parts3 (fuel := 8) (laidMet_of_run' 8 (by kernel_rfl) (by kernel_rfl)) (by kernel_rfl) (by kernel_rfl)
set_option maxRecDepth 100000 in
theorem lifted (os : Os) (started : os.Started) (H : Type) (enc : TypeId × Value → H) :
    ReturnsInHanded {} Tryd.checked os 8 .any (fun w args => (Rows.fnFrontsFixedSpec.pre enc Tryd.prog Tryd.f8 [] false w args ∧ laidMetH Tryd.prog Rows.fnFrontsFixedRow.laid w) ∧ sizedMet enc Tryd.prog Tryd.f8 (OpenSpec.ofChange Rows.fnFrontsFixedSpec) false w args)
      (Rows.fnFrontsFixedSpec.post enc Tryd.prog Tryd.f8 false true false false) := by
  refine returnsInHanded_of_change_and (C := Tryd.checked) (X := fun w _ => laidMetH Tryd.prog Rows.fnFrontsFixedRow.laid w) (fun _ _ _ hh h => h.of_heap hh) own started (by kernel_rfl) Tryd.func8
    (ChangeSpec.witness_shaped (enc := enc) (C := Tryd.checked) (os := os) (X := fun w _ => laidMetH Tryd.prog Rows.fnFrontsFixedRow.laid w) false (World.doorLaid Tryd.prog 85 os) #[.int .i64 0, .slice none 0 0, .slice none 0 0, .agg #[.int .i64 0, .int .i64 0, .slice none 0 0]] 8 rfl (World.shaped_of_RefB (by kernel_rfl) (by kernel_rfl)) (by kernel_rfl) (by kernel_rfl) (by kernel_rfl) (door_met os _)) ?_
  intro W base args ds gs before hval0 hW hcnd hsz0 hL _
  have hsz : (DataW.weightsEach Tryd.prog (Tryd.f8.params.toList ++ Rows.fnFrontsFixedSpec.plain.varTypes Tryd.prog) (ds ++ gs)).all (· ≤ reachBytes) = true := hsz0
  have hval : ∀ (j : Nat) t v, Tryd.f8.params[j]? = some t → args[j]? = some v → Value.okWide Tryd.prog W .any base t v := hval0
  have hW' := hW
  obtain ⟨p, q, hA0, hV, rfl, hfz, hnd⟩ := hW
  have hA : DataW.TrodAll enc Tryd.prog W 0 (fun _ => true) true Tryd.f8.params.toList args.toList ds p := hA0
  rw [Tryd.params8] at hA hval hsz
  obtain ⟨v0, vs0, d0, ds0, p0, q0, hargs, rfl, rfl, h0, r0⟩ := trodAll_cons hA
  obtain ⟨v1, vs1, d1, ds1, p1, q1, rfl, rfl, rfl, h1, r1⟩ := trodAll_cons r0
  obtain ⟨v2, vs2, d2, ds2, p2, q2, rfl, rfl, rfl, h2, r2⟩ := trodAll_cons r1
  obtain ⟨v3, vs3, d3, ds3, p3, q3, rfl, rfl, rfl, h3, r3⟩ := trodAll_cons r2
  obtain ⟨rfl, rfl, rfl⟩ := trodAll_nil r3
  obtain rfl : args = #[v0, v1, v2, v3] := by cases args; simp_all
  obtain ⟨a0, rfl, rfl, rfl, w0⟩ := open_int Tryd.underlying3 (hval 0 3 v0 rfl rfl) h0
  obtain ⟨a1, len1, cap1, rfl⟩ := okWide_slice Tryd.underlying29 (hval 1 29 v1 rfl rfl)
  have k1 := h1
  have lt1 : ∀ x ∈ p1, x.block < W.heap.size := by obtain ⟨m, hm⟩ := k1; exact DataW.trod_lt m _ _ _ hm
  obtain ⟨z1, w1⟩ : ∃ zs, IsRow .u8 W a1 len1 cap1 zs := by
    obtain ⟨fuel, hf⟩ := h1
    rcases open_ints Tryd.underlying29 Tryd.underlying5 (by kernel_rfl) hf with ⟨hcs, _⟩ | ⟨x, l, c, zs, hcs, _, hl, hm, hz, _, hcell, hwz⟩
    · simp [Value.cells] at hcs
      obtain ⟨rfl, rfl, rfl⟩ := hcs
      exact ⟨[], .inl ⟨rfl, rfl, rfl, rfl⟩⟩
    · simp [Value.cells] at hcs
      obtain ⟨rfl, rfl, rfl⟩ := hcs
      exact ⟨zs, .inr ⟨_, rfl, hl, hm, by simpa using hz, hcell, hwz⟩⟩
  have y1 : len1 * 1 ≤ 140737488351232 := Go.Proofs.YtigmcdpjlkgocaaDoorW.PrintWords.sized_ints hsz (j := 1) (t := 29) rfl rfl Tryd.underlying29 Tryd.underlying5 (by kernel_rfl) (by kernel_rfl) h1
  obtain ⟨a2, len2, cap2, rfl⟩ := okWide_slice Tryd.underlying23 (hval 2 23 v2 rfl rfl)
  have k2 := h2
  have lt2 : ∀ x ∈ p2, x.block < W.heap.size := by obtain ⟨m, hm⟩ := k2; exact DataW.trod_lt m _ _ _ hm
  obtain ⟨z2, w2⟩ : ∃ zs, IsRow .i64 W a2 len2 cap2 zs := by
    obtain ⟨fuel, hf⟩ := h2
    rcases open_ints Tryd.underlying23 Tryd.underlying3 (by kernel_rfl) hf with ⟨hcs, _⟩ | ⟨x, l, c, zs, hcs, _, hl, hm, hz, _, hcell, hwz⟩
    · simp [Value.cells] at hcs
      obtain ⟨rfl, rfl, rfl⟩ := hcs
      exact ⟨[], .inl ⟨rfl, rfl, rfl, rfl⟩⟩
    · simp [Value.cells] at hcs
      obtain ⟨rfl, rfl, rfl⟩ := hcs
      exact ⟨zs, .inr ⟨_, rfl, hl, hm, by simpa using hz, hcell, hwz⟩⟩
  have y2 : len2 * 8 ≤ 140737488351232 := Go.Proofs.YtigmcdpjlkgocaaDoorW.PrintWords.sized_ints hsz (j := 2) (t := 23) rfl rfl Tryd.underlying23 Tryd.underlying3 (by kernel_rfl) (by kernel_rfl) h2
  have k3 := h3
  have lt3 : ∀ x ∈ p3, x.block < W.heap.size := by obtain ⟨m, hm⟩ := k3; exact DataW.trod_lt m _ _ _ hm
  obtain ⟨fb3, fp3, fa3, fn3, fc3, fm3, w3⟩ : ∃ b p Am nm cm mr, For.IsForm v3 W b p Am nm cm mr := by
    obtain ⟨fuel, hf⟩ := h3
    exact For.openForm Tryd.underlying25 rfl rfl rfl rfl rfl rfl Tryd.underlying3 Tryd.underlying23 (by kernel_rfl) (by kernel_rfl) (by kernel_rfl) (hval 3 25 v3 rfl rfl) hf
  have ef3 := w3.eq
  subst ef3
  clear hA0 hval0 hsz0 hsz
  refine (Dfx.frontsFixed_holds0 a0 a1 len1 cap1 z1 a2 len2 cap2 z2 fb3 fp3 fa3 fn3 fc3 fm3 W w0 w1 y1 w2 y2 w3).mono fun e W' ⟨he, bel⟩ => ?_
  subst he
  have hV2 := Below.trodVars laidOut bel (by kernel_rfl) hV
  obtain ⟨g0, gs0, x0, rfl, hv0⟩ := varsCons hV
  obtain ⟨g1, gs1, x1, rfl, hv1⟩ := varsCons hv0
  obtain ⟨g2, gs2, x2, rfl, hv2⟩ := varsCons hv1
  obtain ⟨rfl, _⟩ := trodVars_none hv2
  exact ⟨_, rfl, _, _, _, [], _, _, hW', trodAll_mk1 (shut_bool Tryd.underlying4 _), (trodAll_cons_mk (shut_int Tryd.underlying3 w0) (trodAll_cons_mk (Below.trod laidOut (by kernel_rfl) (of_decide_eq_true (by kernel_rfl)) k1 bel lt1) (trodAll_cons_mk (Below.trod laidOut (by kernel_rfl) (of_decide_eq_true (by kernel_rfl)) k2 bel lt2) (trodAll_cons_mk (Below.trod laidOut (by kernel_rfl) (of_decide_eq_true (by kernel_rfl)) k3 bel lt3) trodAll_mk0)))), hV2, bel.frame _, fun h => by cases h⟩
theorem over : Rows.fnFrontsFixedRow.holds Tryd.pinned (OpenSpec.ofChange Rows.fnFrontsFixedSpec) :=
  OpenClaim.holds_of_wide 8 Tryd.f8 rfl rfl rfl rfl rfl rfl rfl ⟨rfl, rfl, rfl, rfl, rfl⟩ rfl rfl rfl rfl rfl (by kernel_rfl) Tryd.func8 (by kernel_rfl)
    (of_decide_eq_true (by kernel_rfl)) (by unfold Func.isWrapper; first | (rw [if_pos (by decide +kernel)]; kernel_rfl) | (rw [if_neg (by decide +kernel)]; exact ⟨rfl, rfl⟩))
    (fun os started H enc _ => lifted os started H enc)
theorem proved : Rows.FnFrontsFixedSaid := over
theorem card : Claim7.holds Tryd.pinned (.plain (OpenSpec.ofChange Rows.fnFrontsFixedSpec)) Rows.fnFrontsFixedCard :=
  Claim7.holds_tied_plain_at .later [] [.sentinel, .sentinel, .sentinel, .sentinel] true (true, "b670ee3e7eaced1cbc5102caa4ee260ecb19fd67507ff32c4f8307880a12c1d2") false
    proved (fun _ h => by cases h) (by kernel_rfl) (fun _ h => by cases h) fnFrontsFixed_row_tie rfl ⟨rfl, rfl⟩ (by kernel_rfl) rfl
    (fun f fn hf hfn => by
      obtain rfl : f = 8 := Option.some.inj ((show Tryd.prog.funcNamed "loop.example/pub-g01502/laws.FnFrontsFixed" = some 8 by kernel_rfl).symm.trans hf) |>.symm
      obtain rfl : fn = Tryd.f8 := (Option.some.inj (Tryd.func8.symm.trans hfn)).symm
      exact ⟨by kernel_rfl, fun j t ht => by
        rw [Tryd.params8] at ht
        have hm : t ∈ [3, 29, 23, 25] := by simpa using Array.mem_of_getElem? ht
        have hall : ([3, 29, 23, 25].all fun u => !Tryd.prog.wantsStandIn u) = true := by kernel_rfl
        exact (show Tryd.prog.wantsStandIn t = false by simpa using List.all_eq_true.1 hall t hm)⟩)
    (by kernel_rfl)
#print axioms card
end Go.Proofs.YtigmcdpjlkgocaaDoor.fnFrontsFixed
namespace Go.Proofs.YtigmcdpjlkgocaaDoor
/-- The card, under a short name, for the claim. -/
theorem fnFrontsFixed_card_holds : Rows.FnFrontsFixedCardSaid := fnFrontsFixed.card
end Go.Proofs.YtigmcdpjlkgocaaDoor
