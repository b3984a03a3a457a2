import Derived.Test.YtoopljlbiifmfaaEne
/-! Numbers of 32 bits in runs: the methods that write them, the thin package. -/
namespace Go.Proofs.Ytoopljlbiifmfaa.Lie
open Go.Proofs.Ytoopljlbiifmfaa.Ene Go.Proofs.Ytoopljlbiifmfaa.Rlx Go.Proofs.Ytoopljlbiifmfaa.End Go.Proofs.Ytoopljlbiifmfaa.Enc Go.Proofs.Ytoopljlbiifmfaa.Enb Go.Proofs.Ytoopljlbiifmfaa.Ena Go.Proofs.Ytoopljlbiifmfaa.Dec Go.Proofs.Ytoopljlbiifmfaa.Uva Go.Proofs.Ytoopljlbiifmfaa.Rle Go.Proofs.Ytoopljlbiifmfaa.Run Go.Proofs.Ytoopljlbiifmfaa.Rlp Go.Proofs.Ytoopljlbiifmfaa.Rlb Go.Proofs.Ytoopljlbiifmfaa.Buf Go.Proofs.Ytoopljlbiifmfaa.Fit Go.Proofs.Ytoopljlbiifmfaa.Bit Go.Proofs.Ytoopljlbiifmfaa.Wrd Go.Proofs.Ytoopljlbiifmfaa.Spl Go.Proofs.Ytoopljlbiifmfaa.Str Go.Proofs.Ytoopljlbiifmfaa.Flt Go.Proofs.Ytoopljlbiifmfaa.Owe Go.Proofs.Ytoopljlbiifmfaa.Num Go.Proofs.Ytoopljlbiifmfaa.Le Go.Proofs.Ytoopljlbiifmfaa.Lst Go.Proofs.Ytoopljlbiifmfaa.Aid Go.RowKit Go.Proofs.YtoopljlbiifmfaaW.PrintWords Go.Proofs.YtoopljlbiifmfaaW.PrintLast Go.Proofs.YtoopljlbiifmfaaW.PrintMore
set_option linter.unusedVariables false
set_option linter.unusedSimpArgs false
set_option maxHeartbeats 4000000 in
theorem rlWrapE_calls (p : Value) (w : World) :
    Calls Try.prog 27 #[p, .nilIface] w fun e w' => e = .returned .nilIface ∧ w = w' := by
  go_enter Try.func27, Try.ntmps27
  go_wp2_with (fail)
  go_ret
  exact ⟨rfl, rfl⟩
set_option maxHeartbeats 4000000 in
theorem rlEnc32_calls (g : Nat) (A : Option Addr) (N c : Nat) (w : Nat) (l : List Int) (w0 : World) (hp : w0.cell? ⟨g, 0, none⟩ = some (.int .i64 (w : Int))) (hC : (Kd.int .i32).C w0 A N l) (hc : N ≤ c) (hn : N ≤ 100000) (hw1 : 1 ≤ w) (hw8 : w ≤ 32) (hu : fitL w (wideL 32 l)) (hwf : ∀ x ∈ l, (Lit.int .i32 x).wf = true) :
    Calls Try.prog 21 #[.pointer (some ⟨g, 0, none⟩), .slice none 0 0, .slice A N c] w0 fun e w' => ∃ v rs, e = .returned (.tuple #[v, .nilIface]) ∧ Own w' w0.heap.size 5 .u8 v (hyb w rs) ∧ hybV rs = wideL 32 l ∧ hybOk w rs ∧ Below w0.heap.size w0 w' := by
  have HCALL := Aside0.mk (encodeInt32_calls w0.drew A N c w (.slice none 0 0) [] l w0.drew (Own.nil _ _ _ _) (Below.refl _ _) (Kd.C_drewN hC 1) hc hn (by simp) hw1 hw8 hu hwf)
  have HBD : Aside0 (Below w0.heap.size w0 w0.drew) := ⟨drewN_below w0 1⟩
  obtain ⟨i8, h8⟩ := h8
  obtain ⟨cutz, _⟩ := cutHi (P := Try.prog) 22 5 Try.underlying22 h8.1 none 0 0 .i64 0 0 rfl (by omega) (by omega)
  have hlt := World.block_lt_of_cell? w0 _ hp
  have hpd : w0.drew.cell? ⟨g, 0, none⟩ = some (.int .i64 (w : Int)) := hp
  have hltd : g < w0.drew.heap.size := hlt
  have qw : IntKind.u64.wrap (w : Int) = (w : Int) := IntWalk.u64_in _ (by omega)
  clear hC hu hwf
  go_enter Try.func21, Try.ntmps21
  go_wp2_with (fail)
  go_region_held3 (fun (w9 : World) => w9.cell? ⟨g, 0, none⟩ = some (.int .i64 (w : Int)))
    (first | assumption | exact hpd | exact HP2.out)
    ((first
      | (go_at_call 31; (with_reducible refine HCALL.out.mono ?_); rintro e w2 ⟨v2, rs, rfl, ho, hv, hk, hb⟩; rw [List.nil_append] at ho; have HO2 := Aside0.mk ho; have HV2 := Aside0.mk hv; have HK2 := Aside0.mk hk; have HP2 : Aside0 (w2.cell? ⟨g, 0, none⟩ = some (.int .i64 (w : Int))) := ⟨(hb.cell hltd).trans hpd⟩; have HB2 := Aside0.mk (HBD.out.trans (hb.mono HBD.out.size)); clear ho hb hv hk)
      | fail "no arm"))
  go_wp2_with (first
    | (go_at_call 27; (with_reducible refine (rlWrapE_calls _ _).mono ?_); rintro e w3 ⟨rfl, rfl⟩))
  go_ret2
  exact ⟨v2, rs, rfl, HO2.out, HV2.out, HK2.out, HB2.out⟩
set_option maxHeartbeats 4000000 in
theorem encodeInt32sRl_calls (A : Option Addr) (N c : Nat) (w : Nat) (l : List Int) (w0 : World) (hC : (Kd.int .i32).C w0 A N l) (hc : N ≤ c) (hn : N ≤ 100000) (hw1 : 1 ≤ w) (hw8 : w ≤ 32) (hu : fitL w (wideL 32 l)) (hwf : ∀ x ∈ l, (Lit.int .i32 x).wf = true) :
    Calls Try.prog 11 #[.string ⟨#[114, 108, 101]⟩, .int .i64 w, .slice A N c] w0 fun e w' => ∃ v rs, e = .returned (.tuple #[v, .bool true]) ∧ Own w' w0.heap.size 5 .u8 v (hyb w rs) ∧ hybV rs = wideL 32 l ∧ hybOk w rs ∧ Below w0.heap.size w0 w' := by
  have HLN : Aside0 (l.length = N) := ⟨hC.1⟩
  have HU := Aside0.mk hu
  have HWF := Aside0.mk hwf
  have HC2 : Aside0 ((Kd.int .i32).C (w0.alloc (.cells #[] 21)) A N l) := ⟨Kd.C_alloc hC _⟩
  have HE := Aside0.mk (Own.empty w0 w0.heap.size 21 .i32 (Nat.le_refl _))
  have HEB : Aside0 (Below w0.heap.size w0 (w0.alloc (.cells #[] 21))) := ⟨(Below.refl _ _).alloc (Nat.le_refl _) _⟩
  clear hC hu hwf
  go_enter Try.func11, Try.ntmps11
  go_wp2_with (first
    | (at_builtin; go_loud (refine appendRead (w0 := w0) w0.heap.size rfl (.tmp 11) (.tmp 12) 33 21 .i32 4 rfl Try.underlying33 infoI32e (by decide) _ [] A N c l rfl rfl HE.out HEB.out ?hb HC2.out ?hl ?_); (case hb => exact HEB.out.size); (case hl => simp; omega); intro v1 w1 ho hb hg; rw [List.nil_append] at ho; obtain ⟨A1, c1, rfl, hc1, hr1⟩ := ho.read; rw [HLN.out] at hc1 hr1; rw [HLN.out]; have HR1 := Aside0.mk (Kd.C_alloc hr1 (.cells #[.int .i64 (w : Int)] 44)); have HP1 : Aside0 ((w1.alloc (.cells #[.int .i64 (w : Int)] 44)).cell? ⟨w1.heap.size, 0, none⟩ = some (.int .i64 (w : Int))) := ⟨(Blk.new w1 #[.int .i64 (w : Int)] 44).cell rfl⟩; have HBA : Aside0 (Below w0.heap.size w0 (w1.alloc (.cells #[.int .i64 (w : Int)] 44))) := ⟨hb.alloc hb.size _⟩; clear ho hb hg hr1)
    | (go_at_call 21; go_loud (with_reducible refine (rlEnc32_calls w1.heap.size A1 N c1 w l _ HP1.out HR1.out hc1 hn hw1 hw8 HU.out HWF.out).mono ?_); rintro e w2 ⟨v2, rs, rfl, ho, hv, hk, hb⟩; have HV2 := Aside0.mk hv; have HK2 := Aside0.mk hk; have HB2 := Aside0.mk (HBA.out.trans (hb.mono HBA.out.size)); have HO2 := Aside0.mk (Own.lower ho HBA.out.size); clear ho hb hv hk)
    | go_quiet (fail))
  go_ret2
  exact ⟨v2, rs, rfl, HO2.out.drewN _, HV2.out, HK2.out, HB2.out.trans ((drewN_below _ _).mono HB2.out.size)⟩
end Go.Proofs.Ytoopljlbiifmfaa.Lie
