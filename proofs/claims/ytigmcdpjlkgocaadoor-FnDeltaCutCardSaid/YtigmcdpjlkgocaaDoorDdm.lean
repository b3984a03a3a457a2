import Derived.Test.YtigmcdpjlkgocaaDoorDdc
/-! Differences: the methods that read them, and the thin package. -/
namespace Go.Proofs.YtigmcdpjlkgocaaDoor.Ddm
open Go.Proofs.YtigmcdpjlkgocaaDoor.Ddc Go.Proofs.YtigmcdpjlkgocaaDoor.Dhr Go.Proofs.YtigmcdpjlkgocaaDoor.Dun Go.Proofs.YtigmcdpjlkgocaaDoor.Duv Go.Proofs.YtigmcdpjlkgocaaDoor.Dst Go.Proofs.YtigmcdpjlkgocaaDoor.Deo Go.Proofs.YtigmcdpjlkgocaaDoor.Den Go.Proofs.YtigmcdpjlkgocaaDoor.Deb Go.Proofs.YtigmcdpjlkgocaaDoor.Drx Go.Proofs.YtigmcdpjlkgocaaDoor.Dds Go.Proofs.YtigmcdpjlkgocaaDoor.Dbw Go.Proofs.YtigmcdpjlkgocaaDoor.Dbk Go.Proofs.YtigmcdpjlkgocaaDoor.Dhd Go.Proofs.YtigmcdpjlkgocaaDoor.Dgr Go.Proofs.YtigmcdpjlkgocaaDoor.Dpu Go.Proofs.YtigmcdpjlkgocaaDoor.Pak Go.Proofs.YtigmcdpjlkgocaaDoor.Buf Go.Proofs.YtigmcdpjlkgocaaDoor.Fit Go.Proofs.YtigmcdpjlkgocaaDoor.Bit Go.Proofs.YtigmcdpjlkgocaaDoor.Wrd Go.Proofs.YtigmcdpjlkgocaaDoor.Spl Go.Proofs.YtigmcdpjlkgocaaDoor.Str Go.Proofs.YtigmcdpjlkgocaaDoor.Flt Go.Proofs.YtigmcdpjlkgocaaDoor.Owe Go.Proofs.YtigmcdpjlkgocaaDoor.Num Go.Proofs.YtigmcdpjlkgocaaDoor.Le Go.Proofs.YtigmcdpjlkgocaaDoor.Lst Go.Proofs.YtigmcdpjlkgocaaDoor.Aid Go.RowKit Go.Proofs.YtigmcdpjlkgocaaDoorW.PrintWords Go.Proofs.YtigmcdpjlkgocaaDoorW.PrintLast Go.Proofs.YtigmcdpjlkgocaaDoorW.PrintMore
set_option linter.unusedVariables false
set_option linter.unusedSimpArgs false
/-- bytes that are a list of differences, with nothing behind -/
structure IsStr (k : IntKind) (W : Nat) (X : List Int) (B P S T : Nat) (f : Int) (bs : List DBlk) : Prop where
  eq : X = hdG B P T f ++ (blksB bs ++ [])
  hB : B = P * S
  hB1 : B % 128 = 0
  hS : S % 32 = 0
  hP : 0 < P
  hB0 : 0 < B
  hB9 : B ≤ 65536
  hT : T ≤ 200000
  hf0 : k.min ≤ f
  hf1 : f ≤ k.max
  ok : strOk W P S (T - 1) bs
theorem min64 : IntKind.i64.min = -9223372036854775808 := by decide
theorem max64 : IntKind.i64.max = 9223372036854775807 := by decide
theorem min32 : IntKind.i32.min = -2147483648 := by decide
theorem max32 : IntKind.i32.max = 2147483647 := by decide
theorem bpWrap_calls (p : Value) (w : World) :
    Calls Tryd.prog 68 #[p, .nilIface] w fun e w' => e = .returned .nilIface ∧ w = w' := by
  go_enter Tryd.func68, Tryd.ntmps68
  go_wp2_with (fail)
  go_ret
  exact ⟨rfl, rfl⟩
set_option maxHeartbeats 4000000 in
theorem bpDecInt64_calls (p : Value) (A : Option Addr) (N c : Nat) (X : List Int) (B P S T : Nat) (f : Int) (bs : List DBlk) (w : World) (hC : (Kd.int .u8).C w A N X) (hX : IsStr .i64 64 X B P S T f bs) (hc : N ≤ c) (hN : N ≤ 268435455) :
    Calls Tryd.prog 34 #[p, .slice none 0 0, .slice A N c] w fun e w' => ∃ v, e = .returned (.tuple #[v, .nilIface]) ∧ Own w' w.heap.size 2 .i64 v ((f :: blksV .i64 f bs).take T) ∧ Below w.heap.size w w' := by
  have h0 := hX.hf0
  have h1 := hX.hf1
  rw [min64] at h0
  rw [max64] at h1
  have HCALL := Aside0.mk (decInt64_calls none 0 A N c X B P S T f bs [] w hC hX.eq hc hN hX.hB hX.hB1 hX.hS hX.hP hX.hB0 hX.hB9 hX.hT h0 h1 hX.ok)
  obtain ⟨iE, hE⟩ : ∃ i, (Tryd.prog.info? 2) = some i ∧ i.size = 1 := Option.map_eq_some_iff.1 (show (Tryd.prog.info? 2).map (fun i => i.size) = some 1 by kernel_rfl)
  obtain ⟨cutz, _⟩ := cutHi (P := Tryd.prog) 22 2 Tryd.underlying22 hE.1 none 0 0 .i64 0 0 rfl (by omega) (by omega)
  clear hC hX h0 h1
  go_enter Tryd.func34, Tryd.ntmps34
  go_wp2_with (first
    | (go_at_call 67; go_loud (with_reducible refine HCALL.out.mono ?_); rintro e w2 ⟨v2, A2, c2, rfl, ho, _, _, hb⟩; have HO2 : Aside0 (Own w2 w.heap.size 2 .i64 v2 ((f :: blksV .i64 f bs).take T)) := ⟨ho.elim (fun h => (by obtain ⟨h1, h2⟩ := h; subst h2; rw [h1]; exact Own.nil _ _ _ _)) (fun h => h.2)⟩; have HB2 := Aside0.mk hb; clear ho hb)
    | (go_at_call 68; (with_reducible refine (bpWrap_calls _ _).mono ?_); rintro e w3 ⟨rfl, rfl⟩))
  go_ret2
  exact ⟨v2, rfl, HO2.out, HB2.out⟩
set_option maxHeartbeats 4000000 in
theorem decodeInt64sDelta_calls (A : Option Addr) (N c : Nat) (X : List Int) (B P S T : Nat) (f : Int) (bs : List DBlk) (w0 : World) (hC : (Kd.int .u8).C w0 A N X) (hX : IsStr .i64 64 X B P S T f bs) (hc : N ≤ c) (hN : N ≤ 268435455) :
    Calls Tryd.prog 13 #[.string ⟨#[100, 101, 108, 116, 97]⟩, .slice A N c] w0 fun e w' => ∃ v, e = .returned (.tuple #[v, .bool true]) ∧ Own w' w0.heap.size 2 .i64 v ((f :: blksV .i64 f bs).take T) ∧ Below w0.heap.size w0 w' := by
  have HLN : Aside0 (X.length = N) := ⟨hC.1⟩
  have HIS := Aside0.mk hX
  have HC2 : Aside0 ((Kd.int .u8).C (w0.alloc (.cells #[] 5)) A N X) := ⟨Kd.C_alloc hC _⟩
  have HE := Aside0.mk (Own.empty w0 w0.heap.size 5 .u8 (Nat.le_refl _))
  have HEB : Aside0 (Below w0.heap.size w0 (w0.alloc (.cells #[] 5))) := ⟨(Below.refl _ _).alloc (Nat.le_refl _) _⟩
  clear hC hX
  go_enter Tryd.func13, Tryd.ntmps13
  go_wp2_with (first
    | (at_builtin; go_loud (refine appendRead (w0 := w0) w0.heap.size rfl (.tmp 9) (.tmp 10) 29 5 .u8 1 rfl Tryd.underlying29 infoU8 (by decide) _ [] A N c X rfl rfl HE.out HEB.out ?hb HC2.out ?hl ?_); (case hb => exact HEB.out.size); (case hl => simp; omega); intro v1 w1 ho hb hg; rw [List.nil_append] at ho; obtain ⟨A1, c1, rfl, hc1, hr1⟩ := ho.read; rw [HLN.out] at hc1 hr1; rw [HLN.out]; have HR1 := Aside0.mk (Kd.C_alloc hr1 (.cells #[] 67)); have HBA : Aside0 (Below w0.heap.size w0 (w1.alloc (.cells #[] 67))) := ⟨hb.alloc hb.size _⟩; clear ho hb hg hr1)
    | (go_at_call 34; go_loud (with_reducible refine (bpDecInt64_calls _ A1 N c1 X B P S T f bs _ HR1.out HIS.out hc1 hN).mono ?_); rintro e w2 ⟨v2, rfl, ho, hb⟩; have HB2 := Aside0.mk (HBA.out.trans (hb.mono HBA.out.size)); have HO2 := Aside0.mk (Own.lower ho HBA.out.size); clear ho hb)
    | go_quiet (fail))
  go_ret2
  exact ⟨v2, rfl, HO2.out.drewN _, HB2.out.trans ((drewN_below _ _).mono HB2.out.size)⟩
set_option maxHeartbeats 4000000 in
theorem bpDecInt32_calls (p : Value) (A : Option Addr) (N c : Nat) (X : List Int) (B P S T : Nat) (f : Int) (bs : List DBlk) (w : World) (hC : (Kd.int .u8).C w A N X) (hX : IsStr .i32 32 X B P S T f bs) (hc : N ≤ c) (hN : N ≤ 268435455) :
    Calls Tryd.prog 50 #[p, .slice none 0 0, .slice A N c] w fun e w' => ∃ v, e = .returned (.tuple #[v, .nilIface]) ∧ Own w' w.heap.size 21 .i32 v ((f :: blksV .i32 f bs).take T) ∧ Below w.heap.size w w' := by
  have h0 := hX.hf0
  have h1 := hX.hf1
  rw [min32] at h0
  rw [max32] at h1
  have HCALL := Aside0.mk (decInt32_calls none 0 A N c X B P S T f bs [] w hC hX.eq hc hN hX.hB hX.hB1 hX.hS hX.hP hX.hB0 hX.hB9 hX.hT h0 h1 hX.ok)
  obtain ⟨iE, hE⟩ : ∃ i, (Tryd.prog.info? 21) = some i ∧ i.size = 1 := Option.map_eq_some_iff.1 (show (Tryd.prog.info? 21).map (fun i => i.size) = some 1 by kernel_rfl)
  obtain ⟨cutz, _⟩ := cutHi (P := Tryd.prog) 45 21 Tryd.underlying45 hE.1 none 0 0 .i64 0 0 rfl (by omega) (by omega)
  clear hC hX h0 h1
  go_enter Tryd.func50, Tryd.ntmps50
  go_wp2_with (first
    | (go_at_call 87; go_loud (with_reducible refine HCALL.out.mono ?_); rintro e w2 ⟨v2, A2, c2, rfl, ho, _, _, hb⟩; have HO2 : Aside0 (Own w2 w.heap.size 21 .i32 v2 ((f :: blksV .i32 f bs).take T)) := ⟨ho.elim (fun h => (by obtain ⟨h1, h2⟩ := h; subst h2; rw [h1]; exact Own.nil _ _ _ _)) (fun h => h.2)⟩; have HB2 := Aside0.mk hb; clear ho hb)
    | (go_at_call 68; (with_reducible refine (bpWrap_calls _ _).mono ?_); rintro e w3 ⟨rfl, rfl⟩))
  go_ret2
  exact ⟨v2, rfl, HO2.out, HB2.out⟩
set_option maxHeartbeats 4000000 in
theorem decodeInt32sDelta_calls (A : Option Addr) (N c : Nat) (X : List Int) (B P S T : Nat) (f : Int) (bs : List DBlk) (w0 : World) (hC : (Kd.int .u8).C w0 A N X) (hX : IsStr .i32 32 X B P S T f bs) (hc : N ≤ c) (hN : N ≤ 268435455) :
    Calls Tryd.prog 23 #[.string ⟨#[100, 101, 108, 116, 97]⟩, .int .i64 0, .slice A N c] w0 fun e w' => ∃ v, e = .returned (.tuple #[v, .bool true]) ∧ Own w' w0.heap.size 21 .i32 v ((f :: blksV .i32 f bs).take T) ∧ Below w0.heap.size w0 w' := by
  have HLN : Aside0 (X.length = N) := ⟨hC.1⟩
  have HIS := Aside0.mk hX
  have HC2 : Aside0 ((Kd.int .u8).C (w0.alloc (.cells #[] 5)) A N X) := ⟨Kd.C_alloc hC _⟩
  have HE := Aside0.mk (Own.empty w0 w0.heap.size 5 .u8 (Nat.le_refl _))
  have HEB : Aside0 (Below w0.heap.size w0 (w0.alloc (.cells #[] 5))) := ⟨(Below.refl _ _).alloc (Nat.le_refl _) _⟩
  clear hC hX
  go_enter Tryd.func23, Tryd.ntmps23
  go_wp2_with (first
    | (at_builtin; go_loud (refine appendRead (w0 := w0) w0.heap.size rfl (.tmp 11) (.tmp 12) 29 5 .u8 1 rfl Tryd.underlying29 infoU8 (by decide) _ [] A N c X rfl rfl HE.out HEB.out ?hb HC2.out ?hl ?_); (case hb => exact HEB.out.size); (case hl => simp; omega); intro v1 w1 ho hb hg; rw [List.nil_append] at ho; obtain ⟨A1, c1, rfl, hc1, hr1⟩ := ho.read; rw [HLN.out] at hc1 hr1; rw [HLN.out]; have HR1 := Aside0.mk (Kd.C_alloc hr1 (.cells #[] 67)); have HBA : Aside0 (Below w0.heap.size w0 (w1.alloc (.cells #[] 67))) := ⟨hb.alloc hb.size _⟩; clear ho hb hg hr1)
    | (go_at_call 50; go_loud (with_reducible refine (bpDecInt32_calls _ A1 N c1 X B P S T f bs _ HR1.out HIS.out hc1 hN).mono ?_); rintro e w2 ⟨v2, rfl, ho, hb⟩; have HB2 := Aside0.mk (HBA.out.trans (hb.mono HBA.out.size)); have HO2 := Aside0.mk (Own.lower ho HBA.out.size); clear ho hb)
    | go_quiet (fail))
  go_ret2
  exact ⟨v2, rfl, HO2.out.drewN _, HB2.out.trans ((drewN_below _ _).mono HB2.out.size)⟩
end Go.Proofs.YtigmcdpjlkgocaaDoor.Ddm
