import Derived.Test.YtigmcdpjlkgocaaGreatDoorDep
/-! The encoder of differences, its methods, and the thin package. -/
namespace Go.Proofs.YtigmcdpjlkgocaaGreatDoor.Dew
open Go.Proofs.YtigmcdpjlkgocaaGreatDoor.Dep Go.Proofs.YtigmcdpjlkgocaaGreatDoor.Dsr Go.Proofs.YtigmcdpjlkgocaaGreatDoor.Dst Go.Proofs.YtigmcdpjlkgocaaGreatDoor.Deo Go.Proofs.YtigmcdpjlkgocaaGreatDoor.Den Go.Proofs.YtigmcdpjlkgocaaGreatDoor.Deb Go.Proofs.YtigmcdpjlkgocaaGreatDoor.Drx Go.Proofs.YtigmcdpjlkgocaaGreatDoor.Dds Go.Proofs.YtigmcdpjlkgocaaGreatDoor.Dbw Go.Proofs.YtigmcdpjlkgocaaGreatDoor.Dbk Go.Proofs.YtigmcdpjlkgocaaGreatDoor.Dhd Go.Proofs.YtigmcdpjlkgocaaGreatDoor.Dgr Go.Proofs.YtigmcdpjlkgocaaGreatDoor.Dpu Go.Proofs.YtigmcdpjlkgocaaGreatDoor.Pak Go.Proofs.YtigmcdpjlkgocaaGreatDoor.Buf Go.Proofs.YtigmcdpjlkgocaaGreatDoor.Fit Go.Proofs.YtigmcdpjlkgocaaGreatDoor.Bit Go.Proofs.YtigmcdpjlkgocaaGreatDoor.Wrd Go.Proofs.YtigmcdpjlkgocaaGreatDoor.Spl Go.Proofs.YtigmcdpjlkgocaaGreatDoor.Str Go.Proofs.YtigmcdpjlkgocaaGreatDoor.Flt Go.Proofs.YtigmcdpjlkgocaaGreatDoor.Owe Go.Proofs.YtigmcdpjlkgocaaGreatDoor.Num Go.Proofs.YtigmcdpjlkgocaaGreatDoor.Le Go.Proofs.YtigmcdpjlkgocaaGreatDoor.Lst Go.Proofs.YtigmcdpjlkgocaaGreatDoor.Aid Go.RowKit Go.Proofs.YtigmcdpjlkgocaaGreatDoorW.PrintWords Go.Proofs.YtigmcdpjlkgocaaGreatDoorW.PrintLast Go.Proofs.YtigmcdpjlkgocaaGreatDoorW.PrintMore
set_option linter.unusedVariables false
set_option linter.unusedSimpArgs false
theorem infoI64w : (Tryz.prog.info? 2).map (fun i => (i.zero, i.size, i.bytes)) = some (some (.int .i64 0), 1, 8) := by kernel_rfl
theorem infoI32w : (Tryz.prog.info? 21).map (fun i => (i.zero, i.size, i.bytes)) = some (some (.int .i32 0), 1, 4) := by kernel_rfl
theorem hdL_le (T : Nat) (f : Int) (hT : T ≤ 4294967296) (h0 : -9223372036854775808 ≤ f) (h1 : f ≤ 9223372036854775807) : (hdL T f).length ≤ 40 := by
  have b1 := varL_len10 128 (by omega)
  have b2 := varL_len10 4 (by omega)
  have b3 := varL_len10 T (by omega)
  have b4 := varL_len10 (zz f) (zz_lt f h0 h1)
  unfold hdL
  simp only [List.length_append]; omega
theorem wf64 {l : List Int} (h : ∀ x ∈ l, (Lit.int .i64 x).wf = true) : -9223372036854775808 ≤ fstI l ∧ fstI l ≤ 9223372036854775807 := by
  cases l with
  | nil => show -9223372036854775808 ≤ (0 : Int) ∧ (0 : Int) ≤ 9223372036854775807; omega
  | cons x l =>
    have := h x (by simp)
    simp [Lit.wf, IntKind.min, IntKind.max, IntKind.signed, IntKind.bits] at this
    show -9223372036854775808 ≤ x ∧ x ≤ 9223372036854775807; omega
theorem wf32 {l : List Int} (h : ∀ x ∈ l, (Lit.int .i32 x).wf = true) : -2147483648 ≤ fstI l ∧ fstI l ≤ 2147483647 := by
  cases l with
  | nil => show -2147483648 ≤ (0 : Int) ∧ (0 : Int) ≤ 2147483647; omega
  | cons x l =>
    have := h x (by simp)
    simp [Lit.wf, IntKind.min, IntKind.max, IntKind.signed, IntKind.bits] at this
    show -2147483648 ≤ x ∧ x ≤ 2147483647; omega
/-- the bytes that the encoder writes for a list -/
structure EncOf (k : IntKind) (W : Nat) (l : List Int) (bs : List DBlk) : Prop where
  ok : strOk W 4 32 (l.length - 1) bs
  vals : (fstI l :: blksV k (fstI l) bs).take l.length = l
  len : (blksB bs).length ≤ 2000000
theorem encInt64D_calls (w0 : World) (A : Option Addr) (N c : Nat) (l : List Int) (v : Value) (xs : List Int) (w : World) (hO : Own w w0.heap.size 5 .u8 v xs) (hB : Below w0.heap.size w0 w) (hC : (Kd.int .i64).C w0 A N l) (hc : N ≤ c) (hn9 : N ≤ 100000) (hx : xs.length ≤ 16777216) (hwf : ∀ x ∈ l, (Lit.int .i64 x).wf = true) :
    Calls Tryz.prog 65 #[v, .slice A N c] w fun e w' => ∃ v1 bs, e = .returned v1 ∧ Own w' w0.heap.size 5 .u8 v1 (xs ++ hdL N (fstI l) ++ blksB bs) ∧ EncOf .i64 64 l bs ∧ Below w0.heap.size w0 w' := by
  have hl : l.length = N := hC.1
  by_cases h : N < 2
  · refine (encInt64Short_calls w0 A N c l v xs w hO hB hC hc h hx hwf).mono ?_
    rintro e w' ⟨v1, rfl, ho, hb⟩
    refine ⟨v1, [], rfl, by simpa [blksB] using ho, ⟨by rw [hl]; show N - 1 = 0; omega, ?_, by simp [blksB]⟩, hb⟩
    rcases (show N = 0 ∨ N = 1 by omega) with e | e
    · rw [hl, e, List.take_zero]; exact (List.eq_nil_of_length_eq_zero (by omega)).symm
    · match l, (show l.length = 1 by omega) with
      | [x], _ => rfl
  · refine (encInt64Long_calls w0 A N c l v xs w hO hB hC hc (by omega) hn9 hx hwf).mono ?_
    rintro e w' ⟨v1, bs, rfl, ho, h1, h2, h3, hb⟩
    exact ⟨v1, bs, rfl, ho, ⟨by rw [hl]; exact h1, by rw [hl]; exact h2, h3⟩, hb⟩
theorem encInt64_calls (w0 : World) (A : Option Addr) (N c : Nat) (l : List Int) (v : Value) (xs : List Int) (w : World) (hO : Own w w0.heap.size 5 .u8 v xs) (hB : Below w0.heap.size w0 w) (hC : (Kd.int .i64).C w0 A N l) (hc : N ≤ c) (hn9 : N ≤ 100000) (hx : xs.length ≤ 16777216) (hwf : ∀ x ∈ l, (Lit.int .i64 x).wf = true) :
    Calls Tryz.prog 38 #[v, .slice A N c] w fun e w' => ∃ v1 bs, e = .returned v1 ∧ Own w' w0.heap.size 5 .u8 v1 (xs ++ hdL N (fstI l) ++ blksB bs) ∧ EncOf .i64 64 l bs ∧ Below w0.heap.size w0 w' := by
  have HCALL := Aside0.mk (encInt64D_calls w0 A N c l v xs w hO hB hC hc hn9 hx hwf)
  clear hO hB hC hwf
  go_enter Tryz.func38, Tryz.ntmps38
  go_wp2_with (first
    | (go_at_call 65; go_loud (with_reducible refine HCALL.out.mono ?_); rintro e w2 ⟨v1, bs, rfl, ho, hk, hb⟩; have HO2 := Aside0.mk ho; have HK2 := Aside0.mk hk; have HB2 := Aside0.mk hb; clear ho hk hb))
  go_ret
  exact ⟨_, bs, rfl, HO2.out, HK2.out, HB2.out⟩
set_option maxHeartbeats 4000000 in
theorem bpEncInt64_calls (p : Value) (A : Option Addr) (N c : Nat) (l : List Int) (w : World) (hC : (Kd.int .i64).C w A N l) (hc : N ≤ c) (hn9 : N ≤ 100000) (hwf : ∀ x ∈ l, (Lit.int .i64 x).wf = true) :
    Calls Tryz.prog 17 #[p, .slice none 0 0, .slice A N c] w fun e w' => ∃ v1 bs, e = .returned (.tuple #[v1, .nilIface]) ∧ Own w' w.heap.size 5 .u8 v1 (hdL N (fstI l) ++ blksB bs) ∧ EncOf .i64 64 l bs ∧ Below w.heap.size w w' := by
  have HCALL := Aside0.mk (encInt64_calls w A N c l (.slice none 0 0) [] w (Own.nil _ _ _ _) (Below.refl _ _) hC hc hn9 (by simp) hwf)
  obtain ⟨i8, h8⟩ := h8
  obtain ⟨cutz, _⟩ := cutHi (P := Tryz.prog) 24 5 Tryz.underlying24 h8.1 none 0 0 .i64 0 0 rfl (by omega) (by omega)
  clear hC hwf
  go_enter Tryz.func17, Tryz.ntmps17
  go_wp2_with (first
    | (go_at_call 38; go_loud (with_reducible refine HCALL.out.mono ?_); rintro e w2 ⟨v1, bs, rfl, ho, hk, hb⟩; rw [List.nil_append] at ho; have HO2 := Aside0.mk ho; have HK2 := Aside0.mk hk; have HB2 := Aside0.mk hb; clear ho hk hb))
  go_ret2
  exact ⟨_, bs, rfl, HO2.out, HK2.out, HB2.out⟩
set_option maxHeartbeats 4000000 in
theorem encodeInt64sDelta_calls (A : Option Addr) (N c : Nat) (l : List Int) (w0 : World) (hC : (Kd.int .i64).C w0 A N l) (hc : N ≤ c) (hn9 : N ≤ 100000) (hwf : ∀ x ∈ l, (Lit.int .i64 x).wf = true) :
    Calls Tryz.prog 5 #[.string ⟨#[100, 101, 108, 116, 97]⟩, .slice A N c] w0 fun e w' => ∃ v bs, e = .returned (.tuple #[v, .bool true]) ∧ Own w' w0.heap.size 5 .u8 v (hdL N (fstI l) ++ blksB bs) ∧ EncOf .i64 64 l bs ∧ Below w0.heap.size w0 w' := by
  have HLN : Aside0 (l.length = N) := ⟨hC.1⟩
  have HWF := Aside0.mk hwf
  have HC2 : Aside0 ((Kd.int .i64).C (w0.alloc (.cells #[] 2)) A N l) := ⟨Kd.C_alloc hC _⟩
  have HE := Aside0.mk (Own.empty w0 w0.heap.size 2 .i64 (Nat.le_refl _))
  have HEB : Aside0 (Below w0.heap.size w0 (w0.alloc (.cells #[] 2))) := ⟨(Below.refl _ _).alloc (Nat.le_refl _) _⟩
  clear hC hwf
  go_enter Tryz.func5, Tryz.ntmps5
  go_wp2_with (first
    | (at_builtin; go_loud (refine appendRead (w0 := w0) w0.heap.size rfl (.tmp 9) (.tmp 10) 23 2 .i64 8 rfl Tryz.underlying23 infoI64w (by decide) _ [] A N c l rfl rfl HE.out HEB.out ?hb HC2.out ?hl ?_); (case hb => exact HEB.out.size); (case hl => simp; omega); intro v1 w1 ho hb hg; rw [List.nil_append] at ho; obtain ⟨A1, c1, rfl, hc1, hr1⟩ := ho.read; rw [HLN.out] at hc1 hr1; rw [HLN.out]; have HR1 := Aside0.mk (Kd.C_alloc hr1 (.cells #[] 46)); have HBA : Aside0 (Below w0.heap.size w0 (w1.alloc (.cells #[] 46))) := ⟨hb.alloc hb.size _⟩; clear ho hb hg hr1)
    | (go_at_call 17; go_loud (with_reducible refine (bpEncInt64_calls _ A1 N c1 l _ HR1.out hc1 hn9 HWF.out).mono ?_); rintro e w2 ⟨v2, bs, rfl, ho, hk, hb⟩; have HK2 := Aside0.mk hk; have HB2 := Aside0.mk (HBA.out.trans (hb.mono HBA.out.size)); have HO2 := Aside0.mk (Own.lower ho HBA.out.size); clear ho hb hk)
    | go_quiet (fail))
  go_ret2
  exact ⟨v2, bs, rfl, HO2.out.drewN _, HK2.out, HB2.out.trans ((drewN_below _ _).mono HB2.out.size)⟩
theorem encInt32D_calls (w0 : World) (A : Option Addr) (N c : Nat) (l : List Int) (v : Value) (xs : List Int) (w : World) (hO : Own w w0.heap.size 5 .u8 v xs) (hB : Below w0.heap.size w0 w) (hC : (Kd.int .i32).C w0 A N l) (hc : N ≤ c) (hn9 : N ≤ 100000) (hx : xs.length ≤ 16777216) (hwf : ∀ x ∈ l, (Lit.int .i32 x).wf = true) :
    Calls Tryz.prog 61 #[v, .slice A N c] w fun e w' => ∃ v1 bs, e = .returned v1 ∧ Own w' w0.heap.size 5 .u8 v1 (xs ++ hdL N (fstI l) ++ blksB bs) ∧ EncOf .i32 32 l bs ∧ Below w0.heap.size w0 w' := by
  have hl : l.length = N := hC.1
  by_cases h : N < 2
  · refine (encInt32Short_calls w0 A N c l v xs w hO hB hC hc h hx hwf).mono ?_
    rintro e w' ⟨v1, rfl, ho, hb⟩
    refine ⟨v1, [], rfl, by simpa [blksB] using ho, ⟨by rw [hl]; show N - 1 = 0; omega, ?_, by simp [blksB]⟩, hb⟩
    rcases (show N = 0 ∨ N = 1 by omega) with e | e
    · rw [hl, e, List.take_zero]; exact (List.eq_nil_of_length_eq_zero (by omega)).symm
    · match l, (show l.length = 1 by omega) with
      | [x], _ => rfl
  · refine (encInt32Long_calls w0 A N c l v xs w hO hB hC hc (by omega) hn9 hx hwf).mono ?_
    rintro e w' ⟨v1, bs, rfl, ho, h1, h2, h3, hb⟩
    exact ⟨v1, bs, rfl, ho, ⟨by rw [hl]; exact h1, by rw [hl]; exact h2, h3⟩, hb⟩
theorem encInt32_calls (w0 : World) (A : Option Addr) (N c : Nat) (l : List Int) (v : Value) (xs : List Int) (w : World) (hO : Own w w0.heap.size 5 .u8 v xs) (hB : Below w0.heap.size w0 w) (hC : (Kd.int .i32).C w0 A N l) (hc : N ≤ c) (hn9 : N ≤ 100000) (hx : xs.length ≤ 16777216) (hwf : ∀ x ∈ l, (Lit.int .i32 x).wf = true) :
    Calls Tryz.prog 31 #[v, .slice A N c] w fun e w' => ∃ v1 bs, e = .returned v1 ∧ Own w' w0.heap.size 5 .u8 v1 (xs ++ hdL N (fstI l) ++ blksB bs) ∧ EncOf .i32 32 l bs ∧ Below w0.heap.size w0 w' := by
  have HCALL := Aside0.mk (encInt32D_calls w0 A N c l v xs w hO hB hC hc hn9 hx hwf)
  clear hO hB hC hwf
  go_enter Tryz.func31, Tryz.ntmps31
  go_wp2_with (first
    | (go_at_call 61; go_loud (with_reducible refine HCALL.out.mono ?_); rintro e w2 ⟨v1, bs, rfl, ho, hk, hb⟩; have HO2 := Aside0.mk ho; have HK2 := Aside0.mk hk; have HB2 := Aside0.mk hb; clear ho hk hb))
  go_ret
  exact ⟨_, bs, rfl, HO2.out, HK2.out, HB2.out⟩
set_option maxHeartbeats 4000000 in
theorem bpEncInt32_calls (p : Value) (A : Option Addr) (N c : Nat) (l : List Int) (w : World) (hC : (Kd.int .i32).C w A N l) (hc : N ≤ c) (hn9 : N ≤ 100000) (hwf : ∀ x ∈ l, (Lit.int .i32 x).wf = true) :
    Calls Tryz.prog 12 #[p, .slice none 0 0, .slice A N c] w fun e w' => ∃ v1 bs, e = .returned (.tuple #[v1, .nilIface]) ∧ Own w' w.heap.size 5 .u8 v1 (hdL N (fstI l) ++ blksB bs) ∧ EncOf .i32 32 l bs ∧ Below w.heap.size w w' := by
  have HCALL := Aside0.mk (encInt32_calls w A N c l (.slice none 0 0) [] w (Own.nil _ _ _ _) (Below.refl _ _) hC hc hn9 (by simp) hwf)
  obtain ⟨i8, h8⟩ := h8
  obtain ⟨cutz, _⟩ := cutHi (P := Tryz.prog) 24 5 Tryz.underlying24 h8.1 none 0 0 .i64 0 0 rfl (by omega) (by omega)
  clear hC hwf
  go_enter Tryz.func12, Tryz.ntmps12
  go_wp2_with (first
    | (go_at_call 31; go_loud (with_reducible refine HCALL.out.mono ?_); rintro e w2 ⟨v1, bs, rfl, ho, hk, hb⟩; rw [List.nil_append] at ho; have HO2 := Aside0.mk ho; have HK2 := Aside0.mk hk; have HB2 := Aside0.mk hb; clear ho hk hb))
  go_ret2
  exact ⟨_, bs, rfl, HO2.out, HK2.out, HB2.out⟩
set_option maxHeartbeats 4000000 in
theorem encodeInt32sDelta_calls (A : Option Addr) (N c : Nat) (l : List Int) (w0 : World) (hC : (Kd.int .i32).C w0 A N l) (hc : N ≤ c) (hn9 : N ≤ 100000) (hwf : ∀ x ∈ l, (Lit.int .i32 x).wf = true) :
    Calls Tryz.prog 4 #[.string ⟨#[100, 101, 108, 116, 97]⟩, .int .i64 0, .slice A N c] w0 fun e w' => ∃ v bs, e = .returned (.tuple #[v, .bool true]) ∧ Own w' w0.heap.size 5 .u8 v (hdL N (fstI l) ++ blksB bs) ∧ EncOf .i32 32 l bs ∧ Below w0.heap.size w0 w' := by
  have HLN : Aside0 (l.length = N) := ⟨hC.1⟩
  have HWF := Aside0.mk hwf
  have HC2 : Aside0 ((Kd.int .i32).C (w0.alloc (.cells #[] 21)) A N l) := ⟨Kd.C_alloc hC _⟩
  have HE := Aside0.mk (Own.empty w0 w0.heap.size 21 .i32 (Nat.le_refl _))
  have HEB : Aside0 (Below w0.heap.size w0 (w0.alloc (.cells #[] 21))) := ⟨(Below.refl _ _).alloc (Nat.le_refl _) _⟩
  clear hC hwf
  go_enter Tryz.func4, Tryz.ntmps4
  go_wp2_with (first
    | (at_builtin; go_loud (refine appendRead (w0 := w0) w0.heap.size rfl (.tmp 11) (.tmp 12) 22 21 .i32 4 rfl Tryz.underlying22 infoI32w (by decide) _ [] A N c l rfl rfl HE.out HEB.out ?hb HC2.out ?hl ?_); (case hb => exact HEB.out.size); (case hl => simp; omega); intro v1 w1 ho hb hg; rw [List.nil_append] at ho; obtain ⟨A1, c1, rfl, hc1, hr1⟩ := ho.read; rw [HLN.out] at hc1 hr1; rw [HLN.out]; have HR1 := Aside0.mk (Kd.C_alloc hr1 (.cells #[] 46)); have HBA : Aside0 (Below w0.heap.size w0 (w1.alloc (.cells #[] 46))) := ⟨hb.alloc hb.size _⟩; clear ho hb hg hr1)
    | (go_at_call 12; go_loud (with_reducible refine (bpEncInt32_calls _ A1 N c1 l _ HR1.out hc1 hn9 HWF.out).mono ?_); rintro e w2 ⟨v2, bs, rfl, ho, hk, hb⟩; have HK2 := Aside0.mk hk; have HB2 := Aside0.mk (HBA.out.trans (hb.mono HBA.out.size)); have HO2 := Aside0.mk (Own.lower ho HBA.out.size); clear ho hb hk)
    | go_quiet (fail))
  go_ret2
  exact ⟨v2, bs, rfl, HO2.out.drewN _, HK2.out, HB2.out.trans ((drewN_below _ _).mono HB2.out.size)⟩
end Go.Proofs.YtigmcdpjlkgocaaGreatDoor.Dew
