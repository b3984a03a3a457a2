import Derived.Test.YtigmcdpjlkgocaaDoorDdm
import Derived.Test.YtigmcdpjlkgocaaDoorDct
/-! dlWide. -/
namespace Go.Proofs.YtigmcdpjlkgocaaDoor.Dwi
open Go.Proofs.YtigmcdpjlkgocaaDoor.Ddm Go.Proofs.YtigmcdpjlkgocaaDoor.Dct Go.Proofs.YtigmcdpjlkgocaaDoor.Ddc Go.Proofs.YtigmcdpjlkgocaaDoor.Dsr Go.Proofs.YtigmcdpjlkgocaaDoor.Dst Go.Proofs.YtigmcdpjlkgocaaDoor.Deo Go.Proofs.YtigmcdpjlkgocaaDoor.Den Go.Proofs.YtigmcdpjlkgocaaDoor.Deb Go.Proofs.YtigmcdpjlkgocaaDoor.Drx Go.Proofs.YtigmcdpjlkgocaaDoor.Dds Go.Proofs.YtigmcdpjlkgocaaDoor.Dbw Go.Proofs.YtigmcdpjlkgocaaDoor.Dbk Go.Proofs.YtigmcdpjlkgocaaDoor.Dhd Go.Proofs.YtigmcdpjlkgocaaDoor.Dgr Go.Proofs.YtigmcdpjlkgocaaDoor.Dpu Go.Proofs.YtigmcdpjlkgocaaDoor.Pak Go.Proofs.YtigmcdpjlkgocaaDoor.Buf Go.Proofs.YtigmcdpjlkgocaaDoor.Fit Go.Proofs.YtigmcdpjlkgocaaDoor.Bit Go.Proofs.YtigmcdpjlkgocaaDoor.Wrd Go.Proofs.YtigmcdpjlkgocaaDoor.Spl Go.Proofs.YtigmcdpjlkgocaaDoor.Str Go.Proofs.YtigmcdpjlkgocaaDoor.Num Go.Proofs.YtigmcdpjlkgocaaDoor.Le Go.Proofs.YtigmcdpjlkgocaaDoor.Lst Go.Proofs.YtigmcdpjlkgocaaDoor.Aid Go.RowKit Go.Proofs.YtigmcdpjlkgocaaDoorW.PrintWords Go.Proofs.YtigmcdpjlkgocaaDoorW.PrintLast Go.Proofs.YtigmcdpjlkgocaaDoorW.PrintMore
set_option linter.unusedVariables false
set_option linter.unusedSimpArgs false
set_option maxHeartbeats 4000000 in
theorem dlWide_calls (A : Option Addr) (n c : Nat) (l : List Int) (W : World) (hC : (Kd.int .i32).C W A n l) (hc : n ≤ c) (hn : n ≤ 100000) (hwf : ∀ x ∈ l, (Lit.int .i32 x).wf = true) :
    Calls Tryd.prog 24 #[.slice A n c] W fun e w' => ∃ v, e = .returned v ∧ Own w' W.heap.size 2 .i64 v l ∧ Below W.heap.size W w' := by
  have HLN : Aside0 (l.length = n) := ⟨hC.1⟩
  have HC := Aside0.mk hC
  have HWF := Aside0.mk hwf
  clear hC hwf
  go_enter Tryd.func24, Tryd.ntmps24
  go_wp2_with (fail)
  have HO0 : Aside0 (Own W W.heap.size 2 .i64 (.slice none 0 0) (l.take 0)) := ⟨Own.nil _ _ _ _⟩
  have HB0 : Aside0 (Below W.heap.size W W) := ⟨Below.refl _ _⟩
  go_loopg [3, 5, 8] n (fun kq v3 v5 v8 w' => ∃ j : Nat, j ≤ n ∧ v8 = .int .i64 j ∧ Aside0 (Own w' W.heap.size 2 .i64 v3 (l.take j)) ∧ Aside0 (Below W.heap.size W w') ∧ Aside0 (n - j ≤ kq))
  case atStart => exact ⟨0, by omega, rfl, HO0, HB0, ⟨by omega⟩⟩
  case round =>
    clear HO0 HB0
    obtain ⟨j, hj, rfl, HO, HB, HK⟩ := hrel
    by_cases cj : j < n
    · have cjb : decide ((j : Int) < (n : Int)) = true := decide_eq_true (by omega)
      obtain ⟨ad, ead, hcell⟩ := Kd.at_int (Kd.C_below HC.out HB.out) (j : Int) (by omega) (by omega)
      rw [Int.toNat_natCast] at hcell
      have hx := HWF.out _ (rd_mem (l := l) (i := j) (by rw [HLN.out]; exact cj))
      have HT := Aside0.mk (take_rd l j (by rw [HLN.out]; exact cj))
      obtain ⟨x, hxq⟩ : ∃ x, rd l (j : Nat) = x := ⟨_, rfl⟩
      rw [hxq] at hcell hx HT
      have hxw : IntKind.i64.wrap x = x := by
        simp [Lit.wf, IntKind.min, IntKind.max, IntKind.signed, IntKind.bits] at hx
        exact IntWalk.i64_in _ (by omega)
      have hlt : (l.take j).length ≤ 100000 := by rw [List.length_take]; omega
      subst ead
      clear hx hxq
      go_wp2_with (first
        | (at_builtin; go_loud (refine appendOwn (w0 := W) W.heap.size rfl (.tmp 12) (.tmp 15) 22 2 .i64 8 rfl Tryd.underlying22 infoI64z (by decide) u3 (l.take j) x rfl rfl HO.out HB.out ?hb ?hl ?_); (case hb => exact HB.out.size); (case hl => omega); intro v1 w1 ho hb hg; have HO1 := Aside0.mk ho; have HB1 := Aside0.mk hb; clear ho hb hg))
      go_roundg (gk - 1)
      case measure => have := HK.out; omega
      case rel => exact ⟨j + 1, by omega, by go_num, ⟨by rw [HT.out]; exact HO1.out⟩, HB1, ⟨by have := HK.out; omega⟩⟩
    · obtain rfl : j = n := by omega
      have cjb : decide ((j : Int) < (j : Int)) = false := decide_eq_false (by omega)
      go_wp2_with (fail)
      go_ret
      have := HO.out
      rw [← HLN.out, List.take_length] at this
      exact ⟨_, rfl, this, HB.out⟩
end Go.Proofs.YtigmcdpjlkgocaaDoor.Dwi
