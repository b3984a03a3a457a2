/- The law ThriftCut, up to the given bulk: the law answers yes. -/
-- Laid by a program of this session.
import Derived.Test.YtcboegodjlfmnaaDoorRows
import Derived.Test.YtcboegodjlfmnaaDoorCards
import Derived.Test.YtcboegodjlfmnaaDoorTie
import Derived.Test.YtcboegodjlfmnaaDoorSlTwh
import Derived.Deep.DeepHandedRow
import Derived.WalkKit
import Derived.ProofKit
import Derived.OpenShut
import Derived.ShutString
import Derived.ChangeOld
import Derived.Below
import Derived.SizedLaws
import Derived.OpenVars
import Derived.LaidMore
import Derived.Stop.Joined
import Derived.SevenTiedAt
import Derived.Test.YtcboegodjlfmnaaDoorSlW
namespace Go.Proofs.YtcboegodjlfmnaaDoor.fnThriftCutUpto
open Go.ChangeShapes Go.WideShapes Go.ChangeAt Go.RowKit
open Go.ChangeMaps (open_string shut_string)
set_option linter.unusedVariables false
theorem own : ownKnob Tryd.prog.godebug = none := by kernel_rfl
theorem laidOut : laidOutB Tryd.prog = true := by kernel_rfl
def IsRow (k : IntKind) (w : World) (a : Option Addr) (len cap : Nat) (zs : List Int) : Prop :=
  (a = none ∧ len = 0 ∧ cap = 0 ∧ zs = []) ∨
  ∃ x, a = some x ∧ len ≤ cap ∧ cap ≤ maxLen ∧ zs.length = cap ∧ (∀ i, i < zs.length → w.cell? (x.add i) = some (.int k (zs.getD i 0))) ∧ ∀ n ∈ zs, (Lit.int k n).wf = true
theorem varsCons {H : Type} {enc : TypeId × Value → H} {P : Program} {w : World} {sp : Nat → Bool} {n : String} {ns : List String} {gs : List (DataW H)} {ps : List MemPlace} (h : DataW.TrodVars enc P w sp (n :: ns) gs ps) :
    ∃ d ds q, gs = d :: ds ∧ DataW.TrodVars enc P w sp ns ds q := by
  cases gs with
  | nil => simp [DataW.TrodVars] at h
  | cons d ds =>
    obtain ⟨g, t, cs, fuel, p, q, _, _, _, _, hs, _⟩ := h
    exact ⟨d, ds, q, rfl, hs⟩
theorem door_met (os : Os) (args : Array Value) : laidMetH Tryd.prog Rows.fnThriftCutUptoRow.laid ((World.doorLaid Tryd.prog 66 os).forCall (fun _ _ => 0) ⟨#[], args, []⟩).memory :=
  laidMetH_of_parts3 (fuel := 8) (laidMet_of_run' 8 (by kernel_rfl) (by kernel_rfl)) (by kernel_rfl) (by kernel_rfl)
set_option maxRecDepth 100000 in
theorem witness (os : Os) (H : Type) (enc : TypeId × Value → H) : ∃ (w : World) (tape : Tape) (i : Input), w.os = os ∧ (w.forCall tape i).Shaped Tryd.checked.prog ∧ i.vars = [] ∧ Input.okWide Tryd.checked.prog (w.forCall tape i) .any w.heap.size 3 i ∧
      (Rows.OpenSpec.upto Rows.fnThriftCutSpec).preRow enc Tryd.checked.prog Tryd.f3 [] false Rows.fnThriftCutUptoRow.laid (w.forCall tape i).memory i.args ∧ ({} : Assume).holds Tryd.checked.prog (lone (Frame.enter Tryd.checked.prog 3 i.args .normal) [] (w.forCall tape i)) := by
  have hok : Input.okWideB Tryd.checked.prog ((World.doorLaid Tryd.prog 66 os).forCall (fun _ _ => 0) ⟨#[], #[.agg #[.int .i64 0, .bool false, .int .i64 0, .int .u64 0, .slice none 0 0, .int .i64 0, .int .i64 0, .slice none 0 0, .slice none 0 0], .int .i64 0], []⟩) 3 ⟨#[], #[.agg #[.int .i64 0, .bool false, .int .i64 0, .int .u64 0, .slice none 0 0, .int .i64 0, .int .i64 0, .slice none 0 0, .slice none 0 0], .int .i64 0], []⟩ = true := by kernel_rfl
  refine ⟨World.doorLaid Tryd.prog 66 os, fun _ _ => 0, ⟨#[], #[.agg #[.int .i64 0, .bool false, .int .i64 0, .int .u64 0, .slice none 0 0, .int .i64 0, .int .i64 0, .slice none 0 0, .slice none 0 0], .int .i64 0], []⟩, rfl, World.shaped_of_RefB (by kernel_rfl) (by kernel_rfl), (Input.okWide_of_okWideB (base := 0) hok).1, (Input.okWide_of_okWideB hok).2, ?_, ?_⟩
  · exact OpenSpec.preRow_of_cond (s := Rows.OpenSpec.upto Rows.fnThriftCutSpec) 8 (x := ([.agg [.lit (.int .i64 0), .lit (.bool false), .lit (.int .i64 0), .lit (.int .u64 0), .nil, .lit (.int .i64 0), .lit (.int .i64 0), .nil, .nil], .lit (.int .i64 0)], [], [])) (by kernel_rfl) (by kernel_rfl) (fun k hk => by obtain rfl := Option.some.inj hk; kernel_rfl) (by kernel_rfl) (door_met os _)
  · simp only [Assume.holds]
    exact ⟨by simp, by simp, fun _ => Modest.zero, by simp, by simp⟩
set_option maxRecDepth 100000 in
theorem lifted (os : Os) (started : os.Started) (H : Type) (enc : TypeId × Value → H) (F : Stop.Interp) :
    ReturnsInHanded {} Tryd.checked os 3 .any ((Rows.OpenSpec.upto Rows.fnThriftCutSpec).preRow enc Tryd.checked.prog Tryd.f3 [] false Rows.fnThriftCutUptoRow.laid)
      (((Rows.OpenSpec.upto Rows.fnThriftCutSpec).at F).post enc Tryd.checked.prog Tryd.f3 false true false false) := by
  refine returnsInHanded_of_row (C := Tryd.checked) own started (by kernel_rfl) Tryd.func3 (witness os H enc) ?_
  intro W base args ds gs before hval0 hW hcnd hk0 hsz0 hL _ _
  have hbk : Rows.uptoSmall H (ds ++ gs) = true := hk0 _ rfl
  have hsz : (DataW.weightsEach Tryd.prog (Tryd.f3.params.toList ++ Rows.fnThriftCutSpec.plain.varTypes Tryd.prog) (ds ++ gs)).all (· ≤ reachBytes) = true := hsz0
  have hval : ∀ (j : Nat) t v, Tryd.f3.params[j]? = some t → args[j]? = some v → Value.okWide Tryd.prog W .any base t v := hval0
  have hW' := hW
  obtain ⟨p, q, hA0, hV, rfl, hfz, hnd⟩ := hW
  obtain ⟨rfl, rfl⟩ := trodVars_none hV
  have hA : DataW.TrodAll enc Tryd.prog W 0 (fun _ => true) true Tryd.f3.params.toList args.toList ds p := hA0
  rw [Tryd.params3] at hA hval hsz
  obtain ⟨v0, vs0, d0, ds0, p0, q0, hargs, rfl, rfl, h0, r0⟩ := trodAll_cons hA
  obtain ⟨v1, vs1, d1, ds1, p1, q1, rfl, rfl, rfl, h1, r1⟩ := trodAll_cons r0
  obtain ⟨rfl, rfl, rfl⟩ := trodAll_nil r1
  obtain rfl : args = #[v0, v1] := by cases args; simp_all
  have hbulk : Rows.uptoBulk d0 + (Rows.uptoBulk d1 + (0)) ≤ 1048576 := of_decide_eq_true hbk
  have k0 := h0
  have lt0 : ∀ x ∈ p0, x.block < W.heap.size := by obtain ⟨m, hm⟩ := k0; exact DataW.trod_lt m _ _ _ hm
  obtain ⟨x0, cs0, w0⟩ : ∃ x cs, Tbk.IsThing v0 W x cs (Rows.uptoBulk d0) := by
    obtain ⟨fuel, hf⟩ := h0
    exact Tbk.openParam (hval 0 27 v0 rfl rfl) hf
  have ev0 := w0.eq
  subst ev0
  obtain ⟨a1, rfl, rfl, rfl, w1⟩ := open_int Tryd.underlying3 (hval 1 3 v1 rfl rfl) h1
  clear hA0 hval0 hsz0 hsz hk0 hbk
  refine (Twh.cut_holds0 x0 cs0 a1 W w0.in_ w0.ow (Nat.le_trans w0.sz (by omega)) w1 hL).mono fun e W' ⟨he, bel⟩ => ?_
  subst he
  exact ⟨_, rfl, _, _, _, [], _, [], hW', trodAll_mk1 (shut_bool Tryd.underlying4 _), (trodAll_cons_mk (Below.trod laidOut (by kernel_rfl) (of_decide_eq_true (by kernel_rfl)) k0 bel lt0) (trodAll_cons_mk (shut_int Tryd.underlying3 w1) trodAll_mk0)), rfl, bel.frame _, fun h => by cases h⟩
theorem over : Rows.fnThriftCutUptoRow.holds Tryd.pinned (Rows.OpenSpec.upto Rows.fnThriftCutSpec) :=
  OpenClaim.holds_of_cond 3 Tryd.f3 rfl rfl rfl rfl rfl rfl rfl ⟨rfl, rfl, rfl, rfl, rfl⟩ rfl rfl rfl rfl rfl (by kernel_rfl) Tryd.func3 (by kernel_rfl)
    (of_decide_eq_true (by kernel_rfl)) (by unfold Func.isWrapper; first | (rw [if_pos (by decide +kernel)]; kernel_rfl) | (rw [if_neg (by decide +kernel)]; exact ⟨rfl, rfl⟩))
    (fun os started H enc _ F => by rw [OpenClaim.pre_eq_preRow]; exact lifted os started H enc F)
theorem proved : Rows.FnThriftCutUptoSaid := over
theorem card : Claim7.holds Tryd.pinned (.plain (Rows.OpenSpec.upto Rows.fnThriftCutSpec)) Rows.fnThriftCutUptoCard :=
  Claim7.holds_tied_plain_at .later [] [.sentinel, .sentinel] true (true, "e62820aa3f5798b1fd911a8736ff093748ffc20bd61a52c6e251be8b3f36cfbf") true
    proved (fun _ h => by cases h) (by kernel_rfl) (fun _ h => by cases h) fnThriftCutUpto_row_tie rfl ⟨rfl, rfl⟩ (by kernel_rfl) rfl
    (fun f fn hf hfn => by
      obtain rfl : f = 3 := Option.some.inj ((show Tryd.prog.funcNamed "loop.example/pub-g01502/laws.FnThriftCut" = some 3 by kernel_rfl).symm.trans hf) |>.symm
      obtain rfl : fn = Tryd.f3 := (Option.some.inj (Tryd.func3.symm.trans hfn)).symm
      exact ⟨by kernel_rfl, fun j t ht => by
        rw [Tryd.params3] at ht
        have hm : t ∈ [27, 3] := by simpa using Array.mem_of_getElem? ht
        have hall : ([27, 3].all fun u => !Tryd.prog.wantsStandIn u) = true := by kernel_rfl
        exact (show Tryd.prog.wantsStandIn t = false by simpa using List.all_eq_true.1 hall t hm)⟩)
    (by kernel_rfl)
#print axioms card
end Go.Proofs.YtcboegodjlfmnaaDoor.fnThriftCutUpto
namespace Go.Proofs.YtcboegodjlfmnaaDoor
/-- The card, under a short name, for the claim. -/
theorem fnThriftCutUpto_card_holds : Rows.FnThriftCutUptoCardSaid := fnThriftCutUpto.card
end Go.Proofs.YtcboegodjlfmnaaDoor
