import Derived.Test.YtigmcdpjlkgocaaDoorMdt
import Derived.WideShapes
import Derived.Deep.Slices
import Derived.Deep.Strs
import Derived.OpenShut
import Derived.ChangeSlices
/-! Forms: which are ones. -/
namespace Go.Proofs.YtigmcdpjlkgocaaDoor.Dfm
open Go.Proofs.YtigmcdpjlkgocaaDoor.Pak Go.Proofs.YtigmcdpjlkgocaaDoor.Buf Go.Proofs.YtigmcdpjlkgocaaDoor.Fit Go.Proofs.YtigmcdpjlkgocaaDoor.Bit Go.Proofs.YtigmcdpjlkgocaaDoor.Wrd Go.Proofs.YtigmcdpjlkgocaaDoor.Spl Go.Proofs.YtigmcdpjlkgocaaDoor.Str Go.Proofs.YtigmcdpjlkgocaaDoor.Flt Go.Proofs.YtigmcdpjlkgocaaDoor.Owe Go.Proofs.YtigmcdpjlkgocaaDoor.Num Go.Proofs.YtigmcdpjlkgocaaDoor.Le Go.Proofs.YtigmcdpjlkgocaaDoor.Lst Go.Proofs.YtigmcdpjlkgocaaDoor.Aid Go.RowKit Go.Proofs.YtigmcdpjlkgocaaDoorW.PrintWords Go.Proofs.YtigmcdpjlkgocaaDoorW.PrintLast Go.Proofs.YtigmcdpjlkgocaaDoorW.PrintMore
set_option linter.unusedVariables false
set_option linter.unusedSimpArgs false
/-- a form that is one -/
def FormOk (b p : Int) (nm : Nat) (mr : List Int) : Prop := ∃ B P S : Nat, b = (B : Int) ∧ p = (P : Int) ∧ B = P * S ∧ 128 ≤ B ∧ B ≤ 1024 ∧ B % 128 = 0 ∧ S % 32 = 0 ∧ 0 < P ∧ P ≤ 32 ∧ nm ≤ 100 ∧ ∀ x ∈ mr, 0 ≤ x ∧ x ≤ 64
/-- what IsForm says -/
structure FormRes (v : Value) (b p : Int) (nm : Nat) (mr : List Int) : Prop where
  mk :: (out : ∃ r : Bool, v = .bool r ∧ (r = true → FormOk b p nm mr))
theorem form_cells (W : World) (b p : Int) (Am : Option Addr) (nm cm : Nat) : (W.alloc (.cells #[.int .i64 b, .int .i64 p, .slice Am nm cm] 25)).cell? ⟨W.heap.size, 0, none⟩ = some (.int .i64 b) ∧ (W.alloc (.cells #[.int .i64 b, .int .i64 p, .slice Am nm cm] 25)).cell? ⟨W.heap.size, 1, none⟩ = some (.int .i64 p) ∧ (W.alloc (.cells #[.int .i64 b, .int .i64 p, .slice Am nm cm] 25)).cell? ⟨W.heap.size, 2, none⟩ = some (.slice Am nm cm) :=
  ⟨(Blk.new W #[.int .i64 b, .int .i64 p, .slice Am nm cm] 25).cell rfl, (Blk.new W #[.int .i64 b, .int .i64 p, .slice Am nm cm] 25).cell rfl, (Blk.new W #[.int .i64 b, .int .i64 p, .slice Am nm cm] 25).cell rfl⟩
set_option maxHeartbeats 4000000 in
theorem zzFits1_calls (b p : Int) (Am : Option Addr) (nm cm : Nat) (W : World) :
    Calls Tryd.prog 11 #[.agg #[.int .i64 b, .int .i64 p, .slice Am nm cm]] W fun e w' => e = .returned (.bool (decide (nm ≤ 2147483647))) ∧ Below W.heap.size W w' := by
  obtain ⟨x0, x1, x2⟩ := form_cells W b p Am nm cm
  have HB : Aside0 (Below W.heap.size W (W.alloc (.cells #[.int .i64 b, .int .i64 p, .slice Am nm cm] 25))) := ⟨(Below.refl _ _).alloc (Nat.le_refl _) _⟩
  by_cases h : 2147483647 < nm
  · have q1 : decide (2147483647 < (nm : Int)) = true := decide_eq_true (by omega)
    have q2 : decide (2147483647 < nm) = true := decide_eq_true h
    go_enter Tryd.func11, Tryd.ntmps11
    go_wp2_with (fail)
    go_ret
    exact ⟨by rw [decide_eq_false (by omega)]; rfl, HB.out⟩
  · have q1 : decide (2147483647 < (nm : Int)) = false := decide_eq_false (by omega)
    have q2 : decide (2147483647 < nm) = false := decide_eq_false h
    go_enter Tryd.func11, Tryd.ntmps11
    go_wp2_with (fail)
    go_ret
    exact ⟨by rw [decide_eq_true (by omega)]; rfl, HB.out⟩
set_option maxHeartbeats 16000000 in
set_option maxRecDepth 100000 in
theorem isForm_calls (b p : Int) (Am : Option Addr) (nm cm : Nat) (mr : List Int) (W : World) (hM : (Kd.int .i64).C W Am nm mr) (hcm : nm ≤ cm) :
    Calls Tryd.prog 12 #[.agg #[.int .i64 b, .int .i64 p, .slice Am nm cm]] W fun e w' => ∃ v, e = .returned v ∧ FormRes v b p nm mr ∧ Below W.heap.size W w' := by
  obtain ⟨x0, x1, x2⟩ := form_cells W b p Am nm cm
  have HB : Aside0 (Below W.heap.size W (W.alloc (.cells #[.int .i64 b, .int .i64 p, .slice Am nm cm] 25))) := ⟨(Below.refl _ _).alloc (Nat.le_refl _) _⟩
  have HM : Aside0 ((Kd.int .i64).C (W.alloc (.cells #[.int .i64 b, .int .i64 p, .slice Am nm cm] 25)) Am nm mr) := ⟨Kd.C_alloc hM _⟩
  clear hM
  by_cases c1 : b < 128
  · have q1 : decide (b < 128) = true := decide_eq_true c1
    go_enter Tryd.func12, Tryd.ntmps12
    go_wp2_with (fail)
    go_ret
    exact ⟨_, rfl, ⟨⟨false, rfl, fun h => by cases h⟩⟩, HB.out⟩
  have q1 : decide (b < 128) = false := decide_eq_false c1
  by_cases c2 : 1024 < b
  · have q2 : decide (1024 < b) = true := decide_eq_true c2
    go_enter Tryd.func12, Tryd.ntmps12
    go_wp2_with (fail)
    go_ret
    exact ⟨_, rfl, ⟨⟨false, rfl, fun h => by cases h⟩⟩, HB.out⟩
  have q2 : decide (1024 < b) = false := decide_eq_false c2
  obtain ⟨B, rfl⟩ : ∃ B : Nat, b = (B : Int) := ⟨b.toNat, by omega⟩
  obtain ⟨rm, hrm⟩ : ∃ rm, B % 128 = rm := ⟨_, rfl⟩
  have t1 : (B : Int) % 128 = (rm : Int) := by omega
  have t2 : (B : Int).tmod 128 = (rm : Int) := by rw [Int.tmod_eq_emod_of_nonneg (by omega)]; exact t1
  have HRM := Aside0.mk hrm
  have w1 : IntKind.i64.wrap (rm : Int) = (rm : Int) := IntWalk.i64_in _ (by omega)
  clear hrm
  by_cases c3 : ¬ rm = 0
  · have q3 : ((rm : Int) == 0) = false := by rw [beq_eq_false_iff_ne]; omega
    have q3n : ((rm : Int) != 0) = true := by rw [bne, q3]; rfl
    go_enter Tryd.func12, Tryd.ntmps12
    go_wp2_with (fail)
    go_ret
    exact ⟨_, rfl, ⟨⟨false, rfl, fun h => by cases h⟩⟩, HB.out⟩
  have q3 : ((rm : Int) == 0) = true := by rw [beq_iff_eq]; omega
  have q3n : ((rm : Int) != 0) = false := by rw [bne, q3]; rfl
  by_cases c4 : p < 1
  · have q4 : decide (p < 1) = true := decide_eq_true c4
    go_enter Tryd.func12, Tryd.ntmps12
    go_wp2_with (fail)
    go_ret
    exact ⟨_, rfl, ⟨⟨false, rfl, fun h => by cases h⟩⟩, HB.out⟩
  have q4 : decide (p < 1) = false := decide_eq_false c4
  by_cases c5 : 32 < p
  · have q5 : decide (32 < p) = true := decide_eq_true c5
    go_enter Tryd.func12, Tryd.ntmps12
    go_wp2_with (fail)
    go_ret
    exact ⟨_, rfl, ⟨⟨false, rfl, fun h => by cases h⟩⟩, HB.out⟩
  have q5 : decide (32 < p) = false := decide_eq_false c5
  obtain ⟨P, rfl⟩ : ∃ P : Nat, p = (P : Int) := ⟨p.toNat, by omega⟩
  by_cases c6 : 100 < nm
  · have q6 : decide (100 < (nm : Int)) = true := decide_eq_true (by omega)
    have q6n : decide (100 < nm) = true := decide_eq_true c6
    go_enter Tryd.func12, Tryd.ntmps12
    go_wp2_with (fail)
    go_ret
    exact ⟨_, rfl, ⟨⟨false, rfl, fun h => by cases h⟩⟩, HB.out⟩
  have q6 : decide (100 < (nm : Int)) = false := decide_eq_false (by omega)
  have q6n : decide (100 < nm) = false := decide_eq_false c6
  have hB1 : 128 ≤ B := by omega
  have hB9 : B ≤ 1024 := by omega
  have hP1 : 0 < P := by omega
  have hP9 : P ≤ 32 := by omega
  have hn9 : nm ≤ 100 := by omega
  obtain ⟨rp, hrp⟩ : ∃ r, B % P = r := ⟨_, rfl⟩
  have s1 : (B : Int) % (P : Int) = (rp : Int) := by rw [← hrp]; exact (Int.natCast_emod B P).symm
  have s2 : (B : Int).tmod (P : Int) = (rp : Int) := by rw [Int.tmod_eq_emod_of_nonneg (by omega)]; exact s1
  obtain ⟨S, hS⟩ : ∃ r, B / P = r := ⟨_, rfl⟩
  have s3 : (B : Int) / (P : Int) = (S : Int) := by rw [← hS]; exact (Int.natCast_ediv B P).symm
  have s4 : (B : Int).tdiv (P : Int) = (S : Int) := by rw [Int.tdiv_eq_ediv_of_nonneg (by omega)]; exact s3
  have hrpP : rp < P := by rw [← hrp]; exact Nat.mod_lt _ hP1
  have hSB : S ≤ B := by rw [← hS]; exact Nat.div_le_self _ _
  have hBPS : B = P * S + rp := by rw [← hS, ← hrp]; exact (Nat.div_add_mod B P).symm
  obtain ⟨rs, hrs⟩ : ∃ r, S % 32 = r := ⟨_, rfl⟩
  have s5 : (S : Int) % 32 = (rs : Int) := by omega
  have s6 : (S : Int).tmod 32 = (rs : Int) := by rw [Int.tmod_eq_emod_of_nonneg (by omega)]; exact s5
  have HBPS := Aside0.mk hBPS
  have HRS := Aside0.mk hrs
  have w2 : IntKind.i64.wrap (rp : Int) = (rp : Int) := IntWalk.i64_in _ (by omega)
  have w3 : IntKind.i64.wrap (S : Int) = (S : Int) := IntWalk.i64_in _ (by omega)
  have w4 : IntKind.i64.wrap (rs : Int) = (rs : Int) := IntWalk.i64_in _ (by omega)
  have z1 : ((P : Int) = 0) = False := eq_false (by omega)
  have z2 : (P = 0) = False := eq_false (by omega)
  clear hrp hS hBPS hrs
  go_enter Tryd.func12, Tryd.ntmps12
  go_wp2_with (fail)
  generalize W.alloc (.cells #[.int .i64 B, .int .i64 P, .slice Am nm cm] 25) = w5 at *
  go_loopg [4, 38] nm (fun kq v4 v38 w' => ∃ (i : Nat), i ≤ nm ∧ v38 = .int .i64 i ∧ w5 = w' ∧ Aside0 (∀ t : Nat, t < i → 0 ≤ rd mr (t : Nat) ∧ rd mr (t : Nat) ≤ 64) ∧ Aside0 (nm - i ≤ kq))
  case atStart => exact ⟨0, by omega, rfl, rfl, ⟨fun t ht => by omega⟩, ⟨by omega⟩⟩
  case round =>
    obtain ⟨i, hi, rfl, rfl, HT, HK⟩ := hrel
    by_cases ci : i < nm
    · have cib : decide ((i : Int) < (nm : Int)) = true := decide_eq_true (by omega)
      have cibn : decide (i < nm) = true := decide_eq_true ci
      obtain ⟨am, eam, xm⟩ := Kd.at_int HM.out (i : Int) (by omega) (by omega)
      subst eam
      rw [Int.toNat_natCast] at xm
      obtain ⟨y, hy⟩ : ∃ y, rd mr (i : Nat) = y := ⟨_, rfl⟩
      rw [hy] at xm
      have HY := Aside0.mk hy
      clear hy
      by_cases g1 : y < 0
      · have r1 : decide (y < 0) = true := decide_eq_true g1
        go_wp2_with (fail)
        go_ret
        exact ⟨_, rfl, ⟨⟨false, rfl, fun h => by cases h⟩⟩, HB.out⟩
      · have r1 : decide (y < 0) = false := decide_eq_false g1
        by_cases g2 : 64 < y
        · have r2 : decide (64 < y) = true := decide_eq_true g2
          go_wp2_with (fail)
          go_ret
          exact ⟨_, rfl, ⟨⟨false, rfl, fun h => by cases h⟩⟩, HB.out⟩
        · have r2 : decide (64 < y) = false := decide_eq_false g2
          have HT2 : Aside0 (∀ t : Nat, t < i + 1 → 0 ≤ rd mr (t : Nat) ∧ rd mr (t : Nat) ≤ 64) := ⟨fun t ht => by
            by_cases c : t < i
            · exact HT.out t c
            · obtain rfl : t = i := by omega
              rw [HY.out]; omega⟩
          go_wp2_with (fail)
          go_roundg (gk - 1)
          case measure => have := HK.out; omega
          case rel => exact ⟨i + 1, by omega, by go_num, rfl, HT2, ⟨by have := HK.out; omega⟩⟩
    · obtain rfl : nm = i := by omega
      have cib : decide ((nm : Int) < (nm : Int)) = false := decide_eq_false (by omega)
      have cibn : decide (nm < nm) = false := decide_eq_false (by omega)
      by_cases g1 : rp = 0
      · have r1 : ((rp : Int) == 0) = true := by rw [beq_iff_eq]; omega
        by_cases g2 : rs = 0
        · have r2 : ((rs : Int) == 0) = true := by rw [beq_iff_eq]; omega
          have HG : Aside0 (rp = 0 ∧ rs = 0) := ⟨⟨g1, g2⟩⟩
          have HC3 : Aside0 (rm = 0) := ⟨by omega⟩
          clear g1 g2 c3
          go_wp2_with (fail)
          go_ret
          refine ⟨_, rfl, ⟨⟨true, rfl, fun _ => ⟨B, P, S, rfl, rfl, ?_, hB1, hB9, ?_, ?_, hP1, hP9, hn9, fun x hx => ?_⟩⟩⟩, HB.out⟩
          · have := HBPS.out; rw [HG.out.1] at this; omega
          · rw [HRM.out]; exact HC3.out
          · rw [HRS.out]; exact HG.out.2
          · obtain ⟨t, ht, rfl⟩ := List.getElem_of_mem hx
            have h1 := HT.out t (by have := HM.out.1; omega)
            rw [rd_nat _ _ ht] at h1
            exact h1
        · have r2 : ((rs : Int) == 0) = false := by rw [beq_eq_false_iff_ne]; omega
          go_wp2_with (fail)
          go_ret
          exact ⟨_, rfl, ⟨⟨false, rfl, fun h => by cases h⟩⟩, HB.out⟩
      · have r1 : ((rp : Int) == 0) = false := by rw [beq_eq_false_iff_ne]; omega
        go_wp2_with (fail)
        go_ret
        exact ⟨_, rfl, ⟨⟨false, rfl, fun h => by cases h⟩⟩, HB.out⟩
end Go.Proofs.YtigmcdpjlkgocaaDoor.Dfm

/-! A form that comes in. -/
namespace Go.Proofs.YtigmcdpjlkgocaaDoor.For
open Go.Proofs.YtigmcdpjlkgocaaDoor.Dfm Go.Proofs.YtigmcdpjlkgocaaDoor.Fit Go.Proofs.YtigmcdpjlkgocaaDoor.Bit Go.Proofs.YtigmcdpjlkgocaaDoor.Wrd Go.Proofs.YtigmcdpjlkgocaaDoor.Spl Go.Proofs.YtigmcdpjlkgocaaDoor.Str Go.Proofs.YtigmcdpjlkgocaaDoor.Num Go.Proofs.YtigmcdpjlkgocaaDoor.Le Go.Proofs.YtigmcdpjlkgocaaDoor.Lst Go.Proofs.YtigmcdpjlkgocaaDoor.Aid Go.RowKit Go.Proofs.YtigmcdpjlkgocaaDoorW.PrintWords Go.Proofs.YtigmcdpjlkgocaaDoorW.PrintLast Go.Proofs.YtigmcdpjlkgocaaDoorW.PrintMore
set_option linter.unusedVariables false
set_option linter.unusedSimpArgs false
/-- a form that came in -/
structure IsForm (v : Value) (w : World) (b p : Int) (Am : Option Addr) (nm cm : Nat) (mr : List Int) : Prop where
  eq : v = .agg #[.int .i64 b, .int .i64 p, .slice Am nm cm]
  C : (Kd.int .i64).C w Am nm mr
  le : nm ≤ cm
theorem openForm {H : Type} {enc : TypeId × Value → H} {P : Program} {w : World} {base base' : Nat} {held : Bool} {t q i64 : TypeId} {f0 f1 f2 : Field} {fuel : Nat} {v : Value} {x : DataW H × List MemPlace} (ht : P.underlying t = some (.struct #[f0, f1, f2]))
    (t0 : f0.type = i64) (o0 : f0.offset = 0) (t1 : f1.type = i64) (o1 : f1.offset = 1) (t2 : f2.type = q) (o2 : f2.offset = 2) (hi : P.underlying i64 = some (.int .i64)) (hq : P.underlying q = some (.slice i64))
    (ct : P.cellsOf t = 3) (ci : P.cellsOf i64 = 1) (cq : P.cellsOf q = 1) (hv : Value.okWide P w .any base' t v) (h : DataW.trod enc P w base (fun _ => true) held fuel t v.cells.toList = some x) : ∃ b p Am nm cm mr, IsForm v w b p Am nm cm mr := by
  obtain ⟨cs, rfl, hsz⟩ := Go.WideShapes.okWide_struct ht hv
  rw [ct] at hsz
  obtain ⟨y0, y1, y2, k, _, _, g0, g1, g2⟩ := Go.Deep.trod_struct3 ht h
  rw [t0, o0, ci] at g0
  rw [t1, o1, ci] at g1
  rw [t2, o2, cq] at g2
  obtain ⟨l, rfl⟩ : ∃ l : List Value, cs = l.toArray := ⟨cs.toList, by simp⟩
  match l, hsz with
  | [c0, c1, c2], _ =>
  simp [Value.cells] at g0 g1 g2
  obtain ⟨z0, e0, _, w0⟩ := DataW.trod_int hi g0
  obtain ⟨z1, e1, _, w1⟩ := DataW.trod_int hi g1
  simp at e0 e1
  subst e0 e1
  rcases Go.ChangeShapes.open_ints hq hi ci g2 with ⟨h2, _⟩ | ⟨x2, l2, p2, zs, h2, _, hl2, hm2, hz2, _, hc2, hw2⟩
  · simp at h2
    subst h2
    exact ⟨z0, z1, none, 0, 0, [], rfl, Kd.C_nil _ _, Nat.le_refl _⟩
  · simp at h2
    subst h2
    simp only [maxLen] at hm2
    simp only [if_true] at hz2
    have hlt : (zs.take l2).length = l2 := by rw [List.length_take]; omega
    refine ⟨z0, z1, some x2, l2, p2, zs.take l2, rfl, ⟨hlt, by omega, fun hp => ⟨x2, rfl, fun c p hc => ?_⟩⟩, hl2⟩
    have hcl : c < l2 := by
      have h := (List.getElem?_eq_some_iff.1 hc).1
      have h : c < (zs.take l2).length := h
      omega
    have := hc2 c (by omega)
    refine ⟨[.int .i64 p], rfl, rfl, fun i u hu => ?_⟩
    have hi : i = 0 := by
      have := (List.getElem?_eq_some_iff.1 hu).1
      simp at this; exact this
    subst hi
    have hu' : Value.int .i64 p = u := by simpa using hu
    subst hu'
    have hz : zs.getD c 0 = p := by
      rw [List.getElem?_take, if_pos hcl] at hc
      rw [List.getD_eq_getElem?_getD, hc]; rfl
    rw [hz] at this
    have e3 : c * (Kd.int .i64).sz + 0 = c := Nat.mul_one c
    rw [e3]; exact this
end Go.Proofs.YtigmcdpjlkgocaaDoor.For
