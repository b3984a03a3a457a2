import Derived.Test.YtoopljlbiifmfaaDoorEnc
import Derived.Test.YtoopljlbiifmfaaDoorRlx
import Derived.Test.YtoopljlbiifmfaaDoorWrd
import Derived.Lib.Strings
import Derived.Lib.Slices
import Derived.Lib.Small
import Derived.Lib.Walk
import Derived.Lib.BitFns
import Derived.Lib.ItoaNum
import Derived.Shelf.Lays
import Derived.Shelf.Strconv.Itoa0
import Derived.Test.YtoopljlbiifmfaaDoorLid
import Derived.Test.YtoopljlbiifmfaaDoorPad
/-! Numbers of 32 bits in runs: the encoder. -/
namespace Go.Proofs.YtoopljlbiifmfaaDoor.End
open Go.Proofs.YtoopljlbiifmfaaDoor.Enc Go.Proofs.YtoopljlbiifmfaaDoor.Enb Go.Proofs.YtoopljlbiifmfaaDoor.Ena Go.Proofs.YtoopljlbiifmfaaDoor.Dec Go.Proofs.YtoopljlbiifmfaaDoor.Uva Go.Proofs.YtoopljlbiifmfaaDoor.Rle Go.Proofs.YtoopljlbiifmfaaDoor.Run Go.Proofs.YtoopljlbiifmfaaDoor.Rlp Go.Proofs.YtoopljlbiifmfaaDoor.Rlb Go.Proofs.YtoopljlbiifmfaaDoor.Buf Go.Proofs.YtoopljlbiifmfaaDoor.Fit Go.Proofs.YtoopljlbiifmfaaDoor.Bit Go.Proofs.YtoopljlbiifmfaaDoor.Wrd Go.Proofs.YtoopljlbiifmfaaDoor.Spl Go.Proofs.YtoopljlbiifmfaaDoor.Str Go.Proofs.YtoopljlbiifmfaaDoor.Flt Go.Proofs.YtoopljlbiifmfaaDoor.Owe Go.Proofs.YtoopljlbiifmfaaDoor.Num Go.Proofs.YtoopljlbiifmfaaDoor.Le Go.Proofs.YtoopljlbiifmfaaDoor.Lst Go.Proofs.YtoopljlbiifmfaaDoor.Aid Go.RowKit Go.Proofs.YtoopljlbiifmfaaDoorW.PrintWords Go.Proofs.YtoopljlbiifmfaaDoorW.PrintLast Go.Proofs.YtoopljlbiifmfaaDoorW.PrintMore
set_option linter.unusedVariables false
set_option linter.unusedSimpArgs false
def ag8 (a0 a1 a2 a3 a4 a5 a6 a7 : Int) : Value := .agg #[.int .i32 a0, .int .i32 a1, .int .i32 a2, .int .i32 a3, .int .i32 a4, .int .i32 a5, .int .i32 a6, .int .i32 a7]
set_option maxHeartbeats 4000000 in
theorem eq8 (w : World) (d : Nat) (a0 a1 a2 a3 a4 a5 a6 a7 b0 b1 b2 b3 b4 b5 b6 b7 : Int) : (Op.equalIn (d + 2) 121 (ag8 a0 a1 a2 a3 a4 a5 a6 a7) (ag8 b0 b1 b2 b3 b4 b5 b6 b7)).run Tryd.prog w = .ok (a0 == b0 && (a1 == b1 && (a2 == b2 && (a3 == b3 && (a4 == b4 && (a5 == b5 && (a6 == b6 && a7 == b7))))))) w := by
  have hel : ∀ (w : World) d x y, (Op.equalIn (d+1) 21 (.int .i32 x) (.int .i32 y)).run Tryd.prog w = .ok (x == y) w := fun w d x y => by
    rw [run_equalIn_int w d 21 .i32 .i32 x y Tryd.underlying21]
  have hs : ∀ w : World, (sizeOf 21).run Tryd.prog w = .ok 1 w := fun w => by
    obtain ⟨i, hi, hz⟩ := Option.map_eq_some_iff.1 (show (Tryd.prog.info? 21).map (fun i => i.size) = some 1 by kernel_rfl)
    simp [sizeOf, typeInfo, hi, hz]
  have hp : ∀ (xs : Array Value) (off : Nat) v, xs[off]? = some v → ∀ w : World, (part 21 xs off).run Tryd.prog w = .ok v w := fun xs off v hx w => by
    simp [part, isAgg, run_underlying Tryd.underlying21, hx]
  have p0 := hp #[.int .i32 a0, .int .i32 a1, .int .i32 a2, .int .i32 a3, .int .i32 a4, .int .i32 a5, .int .i32 a6, .int .i32 a7] 0 (.int .i32 a0) rfl
  have q0 := hp #[.int .i32 b0, .int .i32 b1, .int .i32 b2, .int .i32 b3, .int .i32 b4, .int .i32 b5, .int .i32 b6, .int .i32 b7] 0 (.int .i32 b0) rfl
  have p1 := hp #[.int .i32 a0, .int .i32 a1, .int .i32 a2, .int .i32 a3, .int .i32 a4, .int .i32 a5, .int .i32 a6, .int .i32 a7] 1 (.int .i32 a1) rfl
  have q1 := hp #[.int .i32 b0, .int .i32 b1, .int .i32 b2, .int .i32 b3, .int .i32 b4, .int .i32 b5, .int .i32 b6, .int .i32 b7] 1 (.int .i32 b1) rfl
  have p2 := hp #[.int .i32 a0, .int .i32 a1, .int .i32 a2, .int .i32 a3, .int .i32 a4, .int .i32 a5, .int .i32 a6, .int .i32 a7] 2 (.int .i32 a2) rfl
  have q2 := hp #[.int .i32 b0, .int .i32 b1, .int .i32 b2, .int .i32 b3, .int .i32 b4, .int .i32 b5, .int .i32 b6, .int .i32 b7] 2 (.int .i32 b2) rfl
  have p3 := hp #[.int .i32 a0, .int .i32 a1, .int .i32 a2, .int .i32 a3, .int .i32 a4, .int .i32 a5, .int .i32 a6, .int .i32 a7] 3 (.int .i32 a3) rfl
  have q3 := hp #[.int .i32 b0, .int .i32 b1, .int .i32 b2, .int .i32 b3, .int .i32 b4, .int .i32 b5, .int .i32 b6, .int .i32 b7] 3 (.int .i32 b3) rfl
  have p4 := hp #[.int .i32 a0, .int .i32 a1, .int .i32 a2, .int .i32 a3, .int .i32 a4, .int .i32 a5, .int .i32 a6, .int .i32 a7] 4 (.int .i32 a4) rfl
  have q4 := hp #[.int .i32 b0, .int .i32 b1, .int .i32 b2, .int .i32 b3, .int .i32 b4, .int .i32 b5, .int .i32 b6, .int .i32 b7] 4 (.int .i32 b4) rfl
  have p5 := hp #[.int .i32 a0, .int .i32 a1, .int .i32 a2, .int .i32 a3, .int .i32 a4, .int .i32 a5, .int .i32 a6, .int .i32 a7] 5 (.int .i32 a5) rfl
  have q5 := hp #[.int .i32 b0, .int .i32 b1, .int .i32 b2, .int .i32 b3, .int .i32 b4, .int .i32 b5, .int .i32 b6, .int .i32 b7] 5 (.int .i32 b5) rfl
  have p6 := hp #[.int .i32 a0, .int .i32 a1, .int .i32 a2, .int .i32 a3, .int .i32 a4, .int .i32 a5, .int .i32 a6, .int .i32 a7] 6 (.int .i32 a6) rfl
  have q6 := hp #[.int .i32 b0, .int .i32 b1, .int .i32 b2, .int .i32 b3, .int .i32 b4, .int .i32 b5, .int .i32 b6, .int .i32 b7] 6 (.int .i32 b6) rfl
  have p7 := hp #[.int .i32 a0, .int .i32 a1, .int .i32 a2, .int .i32 a3, .int .i32 a4, .int .i32 a5, .int .i32 a6, .int .i32 a7] 7 (.int .i32 a7) rfl
  have q7 := hp #[.int .i32 b0, .int .i32 b1, .int .i32 b2, .int .i32 b3, .int .i32 b4, .int .i32 b5, .int .i32 b6, .int .i32 b7] 7 (.int .i32 b7) rfl
  clear hp
  unfold ag8
  rw [Op.equalIn]
  simp only [Sem.run_bind, run_underlying Tryd.underlying121, Result.andThen_ok, hs, Std.Legacy.Range.forIn_eq_forIn_range', Std.Legacy.Range.size, Nat.sub_zero, Nat.add_one_sub_one, Nat.div_one]
  simp only [List.range'_succ, List.range'_zero, List.forIn_cons, List.forIn_nil, Sem.run_bind, Result.andThen_ok, Nat.mul_one, Nat.zero_add, Nat.reduceAdd, hel, p0, q0]
  rcases Decidable.em (a0 = b0) with h0 | h0
  case inr => simp [h0, Sem.run_bind, hel, p0, q0, p1, q1, p2, q2, p3, q3, p4, q4, p5, q5, p6, q6, p7, q7]
  subst h0
  rcases Decidable.em (a1 = b1) with h1 | h1
  case inr => simp [h1, Sem.run_bind, hel, p0, q0, p1, q1, p2, q2, p3, q3, p4, q4, p5, q5, p6, q6, p7, q7]
  subst h1
  rcases Decidable.em (a2 = b2) with h2 | h2
  case inr => simp [h2, Sem.run_bind, hel, p0, q0, p1, q1, p2, q2, p3, q3, p4, q4, p5, q5, p6, q6, p7, q7]
  subst h2
  rcases Decidable.em (a3 = b3) with h3 | h3
  case inr => simp [h3, Sem.run_bind, hel, p0, q0, p1, q1, p2, q2, p3, q3, p4, q4, p5, q5, p6, q6, p7, q7]
  subst h3
  rcases Decidable.em (a4 = b4) with h4 | h4
  case inr => simp [h4, Sem.run_bind, hel, p0, q0, p1, q1, p2, q2, p3, q3, p4, q4, p5, q5, p6, q6, p7, q7]
  subst h4
  rcases Decidable.em (a5 = b5) with h5 | h5
  case inr => simp [h5, Sem.run_bind, hel, p0, q0, p1, q1, p2, q2, p3, q3, p4, q4, p5, q5, p6, q6, p7, q7]
  subst h5
  rcases Decidable.em (a6 = b6) with h6 | h6
  case inr => simp [h6, Sem.run_bind, hel, p0, q0, p1, q1, p2, q2, p3, q3, p4, q4, p5, q5, p6, q6, p7, q7]
  subst h6
  rcases Decidable.em (a7 = b7) with h7 | h7
  case inr => simp [h7, Sem.run_bind, hel, p0, q0, p1, q1, p2, q2, p3, q3, p4, q4, p5, q5, p6, q6, p7, q7]
  subst h7
  simp [Sem.run_bind, hel, p0, q0, p1, q1, p2, q2, p3, q3, p4, q4, p5, q5, p6, q6, p7, q7]
theorem eql8 (a0 a1 a2 a3 a4 a5 a6 a7 b0 b1 b2 b3 b4 b5 b6 b7 : Int) (w : World) : (binOp .eql 121 (.agg #[.int .i32 a0, .int .i32 a1, .int .i32 a2, .int .i32 a3, .int .i32 a4, .int .i32 a5, .int .i32 a6, .int .i32 a7]) (.agg #[.int .i32 b0, .int .i32 b1, .int .i32 b2, .int .i32 b3, .int .i32 b4, .int .i32 b5, .int .i32 b6, .int .i32 b7])).run Tryd.prog w = .ok (.bool (a0 == b0 && (a1 == b1 && (a2 == b2 && (a3 == b3 && (a4 == b4 && (a5 == b5 && (a6 == b6 && a7 == b7)))))))) w := by
  rw [run_eql_struct]
  have := eq8 w 9998 a0 a1 a2 a3 a4 a5 a6 a7 b0 b1 b2 b3 b4 b5 b6 b7
  unfold ag8 at this
  rw [this]; rfl
theorem neq8 (a0 a1 a2 a3 a4 a5 a6 a7 b0 b1 b2 b3 b4 b5 b6 b7 : Int) : ∃ B : Bool, ∀ w : World, (binOp .neq 121 (.agg #[.int .i32 a0, .int .i32 a1, .int .i32 a2, .int .i32 a3, .int .i32 a4, .int .i32 a5, .int .i32 a6, .int .i32 a7]) (.agg #[.int .i32 b0, .int .i32 b1, .int .i32 b2, .int .i32 b3, .int .i32 b4, .int .i32 b5, .int .i32 b6, .int .i32 b7])).run Tryd.prog w = .ok (.bool B) w := by
  refine ⟨!(a0 == b0 && (a1 == b1 && (a2 == b2 && (a3 == b3 && (a4 == b4 && (a5 == b5 && (a6 == b6 && a7 == b7))))))), fun w => ?_⟩
  rw [run_neq_struct]
  have := eq8 w 9998 a0 a1 a2 a3 a4 a5 a6 a7 b0 b1 b2 b3 b4 b5 b6 b7
  unfold ag8 at this
  rw [this]; rfl
/-- the eight cells of a word -/
def At8 (w : World) (a : Addr) (y : Nat → Int) : Prop := w.cell? a = some (.int .i32 (y 0)) ∧ w.cell? ⟨a.block, a.off + 1, none⟩ = some (.int .i32 (y 1)) ∧ w.cell? ⟨a.block, a.off + 2, none⟩ = some (.int .i32 (y 2)) ∧ w.cell? ⟨a.block, a.off + 3, none⟩ = some (.int .i32 (y 3)) ∧ w.cell? ⟨a.block, a.off + 4, none⟩ = some (.int .i32 (y 4)) ∧ w.cell? ⟨a.block, a.off + 5, none⟩ = some (.int .i32 (y 5)) ∧ w.cell? ⟨a.block, a.off + 6, none⟩ = some (.int .i32 (y 6)) ∧ w.cell? ⟨a.block, a.off + 7, none⟩ = some (.int .i32 (y 7))

set_option maxHeartbeats 8000000 in
set_option maxRecDepth 100000 in
theorem index8_calls (A : Option Addr) (m c : Nat) (l : List Int) (w : World) (hC : (Kd.int .i32).C w A (8 * m) l) (hc : m ≤ c) (hm : m ≤ 100000) :
    Calls Tryd.prog 109 #[.slice A m c] w fun e w' => ∃ n : Nat, e = .returned (.int .i64 n) ∧ n ≤ m ∧ Below w.heap.size w w' := by
  have HC := Aside0.mk hC
  have HB0 : Aside0 (Below w.heap.size w w) := ⟨Below.refl _ _⟩
  clear hC
  go_enter Tryd.func109, Tryd.ntmps109
  go_wp2_with (fail)
  go_loopg [2] m (fun kq v2 w' => ∃ (j : Nat), j ≤ m ∧ v2 = .int .i64 j ∧ Aside0 (Below w.heap.size w w') ∧ Aside0 (m - j ≤ kq))
  case atStart => exact ⟨0, by omega, rfl, HB0, ⟨by omega⟩⟩
  case round =>
    clear HB0
    obtain ⟨j, hj, rfl, HB, HK⟩ := hrel
    have HBd : Aside0 (Below w.heap.size w wr.drew) := ⟨HB.out.drew⟩
    by_cases cj : j < m
    · have cjb : decide ((j : Int) < (m : Int)) = true := decide_eq_true (by omega)
      have qi0 : (0 : Int) ≤ (j : Int) := by omega
      have qi1 : (j : Int) < (m : Int) := by omega
      obtain ⟨ad, ead, _, _⟩ := at8 HC.out j cj
      have HS : Aside0 (∀ W, Below w.heap.size w W → W.cell? (ad.add (j * 8)) = some (.int .i32 (rd l (8 * j : Nat))) ∧ ∀ q, 0 < q → q < 8 → W.cell? ⟨(ad.add (j * 8)).block, (ad.add (j * 8)).off + q, none⟩ = some (.int .i32 (rd l (8 * j + q : Nat)))) := ⟨fun W hW => by
        obtain ⟨ad2, e2, h0, h8⟩ := at8 (Kd.C_below HC.out hW) j cj
        rw [ead] at e2; injection e2 with e2; subst e2
        exact ⟨h0, h8⟩⟩
      obtain ⟨y0, hy0⟩ : ∃ y, rd l (8 * j : Nat) = y := ⟨_, rfl⟩
      obtain ⟨y1, hy1⟩ : ∃ y, rd l (8 * j + 1 : Nat) = y := ⟨_, rfl⟩
      obtain ⟨y2, hy2⟩ : ∃ y, rd l (8 * j + 2 : Nat) = y := ⟨_, rfl⟩
      obtain ⟨y3, hy3⟩ : ∃ y, rd l (8 * j + 3 : Nat) = y := ⟨_, rfl⟩
      obtain ⟨y4, hy4⟩ : ∃ y, rd l (8 * j + 4 : Nat) = y := ⟨_, rfl⟩
      obtain ⟨y5, hy5⟩ : ∃ y, rd l (8 * j + 5 : Nat) = y := ⟨_, rfl⟩
      obtain ⟨y6, hy6⟩ : ∃ y, rd l (8 * j + 6 : Nat) = y := ⟨_, rfl⟩
      obtain ⟨y7, hy7⟩ : ∃ y, rd l (8 * j + 7 : Nat) = y := ⟨_, rfl⟩
      have HS2 : Aside0 (∀ w9, Below w.heap.size w w9 → w9.cell? (ad.add (j * 8)) = some (.int .i32 y0) ∧ w9.cell? ⟨(ad.add (j * 8)).block, (ad.add (j * 8)).off + 1, none⟩ = some (.int .i32 y1) ∧ w9.cell? ⟨(ad.add (j * 8)).block, (ad.add (j * 8)).off + 2, none⟩ = some (.int .i32 y2) ∧ w9.cell? ⟨(ad.add (j * 8)).block, (ad.add (j * 8)).off + 3, none⟩ = some (.int .i32 y3) ∧ w9.cell? ⟨(ad.add (j * 8)).block, (ad.add (j * 8)).off + 4, none⟩ = some (.int .i32 y4) ∧ w9.cell? ⟨(ad.add (j * 8)).block, (ad.add (j * 8)).off + 5, none⟩ = some (.int .i32 y5) ∧ w9.cell? ⟨(ad.add (j * 8)).block, (ad.add (j * 8)).off + 6, none⟩ = some (.int .i32 y6) ∧ w9.cell? ⟨(ad.add (j * 8)).block, (ad.add (j * 8)).off + 7, none⟩ = some (.int .i32 y7)) := ⟨fun W hW => ⟨by rw [← hy0]; exact (HS.out W hW).1, by rw [← hy1]; exact (HS.out W hW).2 1 (by omega) (by omega), by rw [← hy2]; exact (HS.out W hW).2 2 (by omega) (by omega), by rw [← hy3]; exact (HS.out W hW).2 3 (by omega) (by omega), by rw [← hy4]; exact (HS.out W hW).2 4 (by omega) (by omega), by rw [← hy5]; exact (HS.out W hW).2 5 (by omega) (by omega), by rw [← hy6]; exact (HS.out W hW).2 6 (by omega) (by omega), by rw [← hy7]; exact (HS.out W hW).2 7 (by omega) (by omega)⟩⟩
      have HBC := Aside0.mk fun W => broadcast8x4_calls y0 W
      obtain ⟨B, hne⟩ := neq8 y0 y1 y2 y3 y4 y5 y6 y7 y0 y0 y0 y0 y0 y0 y0 y0
      clear HS hy0 hy1 hy2 hy3 hy4 hy5 hy6 hy7
      subst ead
      cases B
      all_goals
        go_wp2_with (fail)
        go_region_held3 (fun (w9 : World) => w9.cell? (ad.add (j * 8)) = some (.int .i32 y0) ∧ w9.cell? ⟨(ad.add (j * 8)).block, (ad.add (j * 8)).off + 1, none⟩ = some (.int .i32 y1) ∧ w9.cell? ⟨(ad.add (j * 8)).block, (ad.add (j * 8)).off + 2, none⟩ = some (.int .i32 y2) ∧ w9.cell? ⟨(ad.add (j * 8)).block, (ad.add (j * 8)).off + 3, none⟩ = some (.int .i32 y3) ∧ w9.cell? ⟨(ad.add (j * 8)).block, (ad.add (j * 8)).off + 4, none⟩ = some (.int .i32 y4) ∧ w9.cell? ⟨(ad.add (j * 8)).block, (ad.add (j * 8)).off + 5, none⟩ = some (.int .i32 y5) ∧ w9.cell? ⟨(ad.add (j * 8)).block, (ad.add (j * 8)).off + 6, none⟩ = some (.int .i32 y6) ∧ w9.cell? ⟨(ad.add (j * 8)).block, (ad.add (j * 8)).off + 7, none⟩ = some (.int .i32 y7))
          (first | exact HS2.out _ HB2.out | exact HS2.out _ HBd.out)
          ((first
            | (go_at_call 107; go_loud (with_reducible refine (HBC.out _).mono ?_); rintro e w2 ⟨rfl, hb⟩; have HB2 := Aside0.mk (HBd.out.trans (hb.mono HBd.out.size)); clear hb)
            | fail "no arm"))
      · go_wp2_with (fail)
        go_ret
        exact ⟨j, rfl, by omega, HB2.out⟩
      · go_wp2_with (fail)
        go_roundg (gk - 1)
        case measure => have := HK.out; omega
        case rel => exact ⟨j + 1, by omega, by go_num, HB2, ⟨by have := HK.out; omega⟩⟩
    · obtain rfl : j = m := by omega
      have cjb : decide ((j : Int) < (j : Int)) = false := decide_eq_false (by omega)
      go_wp2_with (first | (go_quiet (fail)))
      go_ret
      exact ⟨j, rfl, by omega, HB.out.trans ((drewN_below wr _).mono HB.out.size)⟩
end Go.Proofs.YtoopljlbiifmfaaDoor.End

/-! Numbers of 32 bits in runs: the encoder's walk. -/
namespace Go.Proofs.YtoopljlbiifmfaaDoor.Ene
open Go.Proofs.YtoopljlbiifmfaaDoor.Rlx Go.Proofs.YtoopljlbiifmfaaDoor.End Go.Proofs.YtoopljlbiifmfaaDoor.Enc Go.Proofs.YtoopljlbiifmfaaDoor.Enb Go.Proofs.YtoopljlbiifmfaaDoor.Ena Go.Proofs.YtoopljlbiifmfaaDoor.Dec Go.Proofs.YtoopljlbiifmfaaDoor.Uva Go.Proofs.YtoopljlbiifmfaaDoor.Rle Go.Proofs.YtoopljlbiifmfaaDoor.Run Go.Proofs.YtoopljlbiifmfaaDoor.Rlp Go.Proofs.YtoopljlbiifmfaaDoor.Rlb Go.Proofs.YtoopljlbiifmfaaDoor.Buf Go.Proofs.YtoopljlbiifmfaaDoor.Fit Go.Proofs.YtoopljlbiifmfaaDoor.Bit Go.Proofs.YtoopljlbiifmfaaDoor.Wrd Go.Proofs.YtoopljlbiifmfaaDoor.Spl Go.Proofs.YtoopljlbiifmfaaDoor.Str Go.Proofs.YtoopljlbiifmfaaDoor.Flt Go.Proofs.YtoopljlbiifmfaaDoor.Owe Go.Proofs.YtoopljlbiifmfaaDoor.Num Go.Proofs.YtoopljlbiifmfaaDoor.Le Go.Proofs.YtoopljlbiifmfaaDoor.Lst Go.Proofs.YtoopljlbiifmfaaDoor.Aid Go.RowKit Go.Proofs.YtoopljlbiifmfaaDoorW.PrintWords Go.Proofs.YtoopljlbiifmfaaDoorW.PrintLast Go.Proofs.YtoopljlbiifmfaaDoorW.PrintMore
set_option linter.unusedVariables false
set_option linter.unusedSimpArgs false
/-- what the loops keep: the target's block apart from the words' block -/
structure Sti (w0 : World) (gw : Nat) (ws : List Int) (v : Value) (xs : List Int) (w : World) : Prop where
  own : Own w w0.heap.size 5 .u8 v xs
  bel : Below w0.heap.size w0 w
  words : Row w gw 121 .i32 ws
  ne : v.ownBlock ≠ some gw
theorem _root_.Go.Proofs.YtoopljlbiifmfaaDoor.Ene.Sti.below' {w0 w W : World} {gw : Nat} {ws xs : List Int} {v : Value} (h : Sti w0 gw ws v xs w) (hb : Below w.heap.size w W) : Sti w0 gw ws v xs W :=
  ⟨h.own.below hb, h.bel.trans (hb.mono h.bel.size), h.words.grown (grownOfBelow hb rfl none) (by simp), h.ne⟩
theorem _root_.Go.Proofs.YtoopljlbiifmfaaDoor.Ene.Sti.drawn {w0 w W : World} {gw : Nat} {ws xs : List Int} {v : Value} (h : Sti w0 gw ws v xs w) (d : Drawn0 w W) : Sti w0 gw ws v xs W := by
  obtain ⟨n, rfl⟩ := d.out
  exact h.below' (drewN_below w n)
theorem _root_.Go.Proofs.YtoopljlbiifmfaaDoor.Ene.Sti.step {w0 w W : World} {gw : Nat} {ws xs ys : List Int} {v v1 : Value} (h : Sti w0 gw ws v xs w) (ho : Own W w0.heap.size 5 .u8 v1 ys) (hb : Below w0.heap.size w0 W) (hg : w.grownBy W v.ownBlock) (hat : Hat w v v1) : Sti w0 gw ws v1 ys W :=
  ⟨ho, hb, h.words.grown hg (fun e => h.ne e.symm), by
    rcases hat.out with e | ⟨g, e, hgt⟩
    · rw [e]; exact h.ne
    · rw [e]; intro e2; injection e2 with e2; have := h.words.lt; omega⟩
theorem _root_.Go.Proofs.YtoopljlbiifmfaaDoor.Ene.Sti.C {w0 w : World} {gw : Nat} {ws xs : List Int} {v : Value} (h : Sti w0 gw ws v xs w) (hl : ws.length ≤ 1000000) : (Kd.int .i32).C w (some ⟨gw, 0, none⟩) ws.length ws := rowC h.words rfl (by omega)
theorem _root_.Go.Proofs.YtoopljlbiifmfaaDoor.Ene.Sti.grownC {w0 w W : World} {gw : Nat} {ws xs : List Int} {v : Value} (h : Sti w0 gw ws v xs w) (hg : w.grownBy W v.ownBlock) (hl : ws.length ≤ 1000000) : (Kd.int .i32).C W (some ⟨gw, 0, none⟩) ws.length ws := rowC (h.words.grown hg (fun e => h.ne e.symm)) rfl (by omega)
theorem wide_get (l : List Int) (p : Nat) (hp : p < l.length) : rd (wideL 32 l) (p : Nat) = rd l (p : Nat) % 4294967296 := by
  rw [rd_nat _ _ (by unfold wideL; rw [List.length_map]; exact hp), rd_nat _ _ hp]
  unfold wideL
  rw [List.getElem_map]
  rfl
theorem wide_cut (l : List Int) (m i h : Nat) (hh : h ≤ m) : wideL 32 (((l.take (8 * m)).take (8 * h)).drop (8 * i)) = ((wideL 32 l).drop (8 * i)).take (8 * (h - i)) := by
  unfold wideL
  rw [List.take_take, Nat.min_eq_left (by omega), List.map_drop, List.map_take, List.drop_take, show 8 * h - 8 * i = 8 * (h - i) by omega]
theorem rep_bytesI (b y K sz : Nat) (hs : (b + 7) / 8 = sz) : varL (2 * K) ++ lowL sz (y : Int) = (R.rep y K).bytes b := by
  simp only [R.bytes, hs]
theorem hyb_bdI {b : Nat} {l : List Int} {rs : List R} {c n : Nat} (hw8 : b ≤ 32) (h : hybOk b rs) (hv : hybV rs = l.take c) (hl : l.length = n) (hn : n ≤ 100000) : (hyb b rs).length ≤ 900000 := by
  have h2 : (hybV rs).length ≤ 100000 := by rw [hv, List.length_take]; omega
  have := hyb_le b (by omega) rs h (by omega)
  omega
set_option maxHeartbeats 16000000 in
set_option maxRecDepth 100000 in
theorem encodeInt32_calls (w0 : World) (A : Option Addr) (n c : Nat) (b : Nat) (v : Value) (xs l : List Int) (w : World) (hO : Own w w0.heap.size 5 .u8 v xs) (hB : Below w0.heap.size w0 w) (hC : (Kd.int .i32).C w0 A n l) (hc : n ≤ c) (hn : n ≤ 100000) (hx : xs.length ≤ 16) (hw1 : 1 ≤ b) (hw8 : b ≤ 32) (hu : fitL b (wideL 32 l)) (hwf : ∀ x ∈ l, (Lit.int .i32 x).wf = true) :
    Calls Tryd.prog 74 #[v, .slice A n c, .int .u64 b] w fun e w' => ∃ v1 rs, e = .returned (.tuple #[v1, .nilIface]) ∧ Own w' w0.heap.size 5 .u8 v1 (xs ++ hyb b rs) ∧ hybV rs = wideL 32 l ∧ hybOk b rs ∧ Below w0.heap.size w0 w' := by
  have HLN : Aside0 (l.length = n) := ⟨hC.1⟩
  have HC := Aside0.mk hC
  have HWF := Aside0.mk hwf
  obtain ⟨wl, hwl⟩ : ∃ wl, wideL 32 l = wl := ⟨_, rfl⟩
  have HWG : Aside0 (∀ p : Nat, p < n → rd wl (p : Nat) = rd l (p : Nat) % 4294967296) := ⟨fun p hp => by rw [← hwl]; exact wide_get l p (by rw [HLN.out]; exact hp)⟩
  have HWN : Aside0 (wl.length = n) := ⟨by rw [← hwl]; unfold wideL; rw [List.length_map, HLN.out]⟩
  rw [hwl] at hu ⊢
  have HWL := Aside0.mk hwl
  have HU := Aside0.mk hu
  have HXL := Aside0.mk hx
  obtain ⟨sz, hsz⟩ : ∃ sz, (b + 7) / 8 = sz := ⟨_, rfl⟩
  have HSZ := Aside0.mk hsz
  obtain ⟨m, hm⟩ : ∃ m, n / 8 = m := ⟨_, rfl⟩
  have hmI : (n : Int) / 8 = (m : Int) := by omega
  have qw0 : ((b : Int) == 0) = false := by rw [beq_eq_false_iff_ne]; omega
  have qw8 : decide (32 < (b : Int)) = false := decide_eq_false (by omega)
  have qw82 : decide (32 < b) = false := decide_eq_false (by omega)
  have HWO := Aside0.mk (wordsOf_calls A n c m l w (Kd.C_below hC hB) hc (by omega) hm)
  have HO0 := Aside0.mk hO
  have HB0 := Aside0.mk hB
  obtain ⟨h32, hh32⟩ : ∃ i, (Tryd.prog.info? 121) = some i ∧ i.size = 8 := Option.map_eq_some_iff.1 (show (Tryd.prog.info? 121).map (fun i => i.size) = some 8 by kernel_rfl)
  clear hC hu hwl hO hB hx hwf hsz
  go_enter Tryd.func74, Tryd.ntmps74
  go_upto_if 35 with (fail)
  go_cut [0] from 33 (fun v0 wx => ∃ rs, Aside0 (Own wx w0.heap.size 5 .u8 v0 (xs ++ hyb b rs)) ∧ Aside0 (hybV rs = wl.take (8 * m)) ∧ Aside0 (hybOk b rs) ∧ Aside0 (Below w0.heap.size w0 wx))
  case first =>
    by_cases c8 : 8 ≤ n
    · have q8 : decide (8 ≤ (n : Int)) = true := decide_eq_true (by omega)
      have q82 : decide (8 ≤ n) = true := decide_eq_true c8
      go_wp2_with (first
        | (go_at_call 106; go_loud (with_reducible refine HWO.out.mono ?_); rintro e wm ⟨rfl, hr, hbw, hlt⟩; have HR := Aside0.mk hr; have HBW := Aside0.mk hbw; clear hr hbw hlt))
      obtain ⟨gw, hgw⟩ : ∃ gw, w.heap.size = gw := ⟨_, rfl⟩
      have HST : Aside0 (Sti w0 gw (l.take (8 * m)) v (xs ++ hyb b []) wm) := ⟨⟨by rw [show xs ++ hyb b [] = xs by simp [hyb]]; exact HO0.out.below HBW.out, HB0.out.trans (HBW.out.mono HB0.out.size), by rw [← hgw]; exact HR.out, fun e => by have := own_lt HO0.out.out gw e; omega⟩⟩
      rw [hgw] at HR ⊢
      obtain ⟨ws, hws⟩ : ∃ ws, l.take (8 * m) = ws := ⟨_, rfl⟩
      have HWL8 : Aside0 (ws.length = 8 * m) := ⟨by rw [← hws, List.length_take, HLN.out]; omega⟩
      have HWR : Aside0 (∀ p : Nat, p < 8 * m → rd ws (p : Nat) = rd l (p : Nat)) := ⟨fun p hp => by
        rw [← hws, rd_nat _ _ (by rw [List.length_take, HLN.out]; omega), rd_nat _ _ (by rw [HLN.out]; omega), List.getElem_take]⟩
      have HWW : Aside0 (∀ x ∈ ws, (Lit.int .i32 x).wf = true) := ⟨fun x hx => HWF.out x (by rw [← hws] at hx; exact List.mem_of_mem_take hx)⟩
      rw [hws] at HST
      have HWS := Aside0.mk hws
      obtain ⟨ad, had⟩ : ∃ ad : Addr, (⟨gw, 0, none⟩ : Addr) = ad := ⟨_, rfl⟩
      have HSC : Aside0 (∀ v xs W, Sti w0 gw ws v xs W → (Kd.int .i32).C W (some ad) (8 * m) ws) := ⟨fun v xs W h => by rw [← had, ← HWL8.out]; exact h.C (by rw [HWL8.out]; omega)⟩
      have HSG : Aside0 (∀ v xs W W2, Sti w0 gw ws v xs W → W.grownBy W2 v.ownBlock → (Kd.int .i32).C W2 (some ad) (8 * m) ws) := ⟨fun v xs W W2 h hg => by rw [← had, ← HWL8.out]; exact h.grownC hg (by rw [HWL8.out]; omega)⟩
      rw [had]
      clear hgw had hws HR HO0 HB0 HBW
      go_loopg [0, 9] m (fun kq v0 v9 w' => ∃ (i : Nat) (rs : List R), i ≤ m ∧ v9 = .int .i64 i ∧ Aside0 (Sti w0 gw ws v0 (xs ++ hyb b rs) w') ∧ Aside0 (hybV rs = wl.take (8 * i)) ∧ Aside0 (hybOk b rs) ∧ Aside0 (m - i ≤ kq))
      case atStart => exact ⟨0, [], by omega, rfl, HST, ⟨by simp [hybV]⟩, ⟨fun x hx => by cases hx⟩, ⟨by omega⟩⟩
      case round =>
        obtain ⟨i, rs, hi, rfl, HST1, HV, HOK, HK3⟩ := hrel
        clear HST
        by_cases ci : i < m
        · have cib : decide ((i : Int) < m) = true := decide_eq_true (by omega)
          obtain ⟨gk0, rfl⟩ : ∃ gk0, gk = gk0 + 1 := ⟨gk - 1, by have := HK3.out; omega⟩
          obtain ⟨ad', e', hc0, -⟩ := at8 (HSC.out _ _ _ HST1.out) i ci
          obtain rfl : ad = ad' := by injection e'
          obtain ⟨y, hy⟩ : ∃ y, rd ws (8 * i : Nat) = y := ⟨_, rfl⟩
          rw [hy] at hc0
          have HYY : Aside0 (rd ws (8 * i : Nat) = y) := ⟨hy⟩
          obtain ⟨u, hu⟩ : ∃ u : Nat, y % 4294967296 = (u : Int) := ⟨(y % 4294967296).toNat, by omega⟩
          have HUU := Aside0.mk hu
          have HBR := Aside0.mk fun W => broadcast8x4_calls y W
          clear hy hu e'
          go_wp2_with (first
            | (go_at_call 107; (with_reducible refine (HBR.out _).mono ?_); rintro e w2 ⟨rfl, hb⟩; have HB2 := Aside0.mk hb; clear hb))
          have HST2 : Aside0 (Sti w0 gw ws u0 (xs ++ hyb b rs) (w2.alloc (.cells #[.int .i32 y, .int .i32 y, .int .i32 y, .int .i32 y, .int .i32 y, .int .i32 y, .int .i32 y, .int .i32 y] 121))) := ⟨(HST1.out.below' HB2.out).below' ((Below.refl _ _).alloc (Nat.le_refl _) _)⟩
          have HBK : Aside0 (∀ W, Drawn0 (w2.alloc (.cells #[.int .i32 y, .int .i32 y, .int .i32 y, .int .i32 y, .int .i32 y, .int .i32 y, .int .i32 y, .int .i32 y] 121)) W → ∀ q : Nat, q < 8 → W.cell? ⟨w2.heap.size, q, none⟩ = some (.int .i32 y)) := ⟨fun W hd q hq => by
            obtain ⟨nd, rfl⟩ := hd.out
            have h := ((Blk.new w2 #[.int .i32 y, .int .i32 y, .int .i32 y, .int .i32 y, .int .i32 y, .int .i32 y, .int .i32 y, .int .i32 y] 121).drewN nd)
            refine h.cell ?_
            rcases q with _|_|_|_|_|_|_|_|q <;> first | rfl | omega⟩
          generalize w2.alloc (.cells #[.int .i32 y, .int .i32 y, .int .i32 y, .int .i32 y, .int .i32 y, .int .i32 y, .int .i32 y, .int .i32 y] 121) = wp at *
          obtain ⟨gp, hgp⟩ : ∃ gp, w2.heap.size = gp := ⟨_, rfl⟩
          rw [hgp] at HBK ⊢
          clear hgp HB2
          go_loopg [10] m (fun kq v10 w' => ∃ (k : Nat), i ≤ k ∧ k ≤ m ∧ v10 = .int .i64 k ∧ Aside0 (∀ q : Nat, 8 * i ≤ q → q < 8 * k → rd ws (q : Nat) = y) ∧ Aside0 (Drawn0 wp w') ∧ Aside0 (m - k ≤ kq))
          case atStart => exact ⟨i, Nat.le_refl _, by omega, rfl, ⟨fun q h1 h2 => by omega⟩, ⟨Drawn0.refl _⟩, ⟨by omega⟩⟩
          case round =>
            obtain ⟨k, hik, hkm, rfl, HQ, HD, HK4⟩ := hrel
            have HST3 := Aside0.mk (HST2.out.drawn HD.out)
            have p0 := HBK.out wr HD.out 0 (by omega)
            have p1 := HBK.out wr HD.out 1 (by omega)
            have p2 := HBK.out wr HD.out 2 (by omega)
            have p3 := HBK.out wr HD.out 3 (by omega)
            have p4 := HBK.out wr HD.out 4 (by omega)
            have p5 := HBK.out wr HD.out 5 (by omega)
            have p6 := HBK.out wr HD.out 6 (by omega)
            have p7 := HBK.out wr HD.out 7 (by omega)
            have hbp := World.block_lt_of_cell? wr _ p0
            have qi0 : (0 : Int) ≤ (k : Int) := by omega
            by_cases ck1 : k < m
            · have ckb : decide ((k : Int) < m) = true := decide_eq_true (by omega)
              have ckb2 : decide (k < m) = true := decide_eq_true ck1
              have qi1 : (k : Int) < (m : Int) := by omega
              obtain ⟨ad', e', d0, d8⟩ := at8 (HSC.out _ _ _ HST3.out) k ck1
              obtain rfl : ad = ad' := by injection e'
              obtain ⟨z0, hz0⟩ : ∃ z, rd ws (8 * k : Nat) = z := ⟨_, rfl⟩
              rw [hz0] at d0
              have HZ0 := Aside0.mk hz0
              have d1 := d8 1 (by omega) (by omega)
              obtain ⟨z1, hz1⟩ : ∃ z, rd ws (8 * k + 1 : Nat) = z := ⟨_, rfl⟩
              rw [hz1] at d1
              have HZ1 := Aside0.mk hz1
              have d2 := d8 2 (by omega) (by omega)
              obtain ⟨z2, hz2⟩ : ∃ z, rd ws (8 * k + 2 : Nat) = z := ⟨_, rfl⟩
              rw [hz2] at d2
              have HZ2 := Aside0.mk hz2
              have d3 := d8 3 (by omega) (by omega)
              obtain ⟨z3, hz3⟩ : ∃ z, rd ws (8 * k + 3 : Nat) = z := ⟨_, rfl⟩
              rw [hz3] at d3
              have HZ3 := Aside0.mk hz3
              have d4 := d8 4 (by omega) (by omega)
              obtain ⟨z4, hz4⟩ : ∃ z, rd ws (8 * k + 4 : Nat) = z := ⟨_, rfl⟩
              rw [hz4] at d4
              have HZ4 := Aside0.mk hz4
              have d5 := d8 5 (by omega) (by omega)
              obtain ⟨z5, hz5⟩ : ∃ z, rd ws (8 * k + 5 : Nat) = z := ⟨_, rfl⟩
              rw [hz5] at d5
              have HZ5 := Aside0.mk hz5
              have d6 := d8 6 (by omega) (by omega)
              obtain ⟨z6, hz6⟩ : ∃ z, rd ws (8 * k + 6 : Nat) = z := ⟨_, rfl⟩
              rw [hz6] at d6
              have HZ6 := Aside0.mk hz6
              have d7 := d8 7 (by omega) (by omega)
              obtain ⟨z7, hz7⟩ : ∃ z, rd ws (8 * k + 7 : Nat) = z := ⟨_, rfl⟩
              rw [hz7] at d7
              have HZ7 := Aside0.mk hz7
              have hbz := World.block_lt_of_cell? wr _ d0
              have heq := eql8 z0 z1 z2 z3 z4 z5 z6 z7 y y y y y y y y
              obtain ⟨B, hBq⟩ : ∃ B : Bool, (z0 == y && (z1 == y && (z2 == y && (z3 == y && (z4 == y && (z5 == y && (z6 == y && z7 == y))))))) = B := ⟨_, rfl⟩
              rw [hBq] at heq
              have HBQ := Aside0.mk hBq
              clear e' d8 hBq hz0 hz1 hz2 hz3 hz4 hz5 hz6 hz7
              cases B
              case true =>
                go_wp2_with (first
                  | (go_quiet (fail)))
                go_roundg (gk - 1)
                case measure => have := HK4.out; omega
                case rel => exact ⟨k + 1, by omega, by omega, by go_num, ⟨fun q h1 h2 => by
                  by_cases h : q < 8 * k
                  · exact HQ.out q h1 h
                  · have hb := HBQ.out
                    simp only [Bool.and_eq_true, beq_iff_eq] at hb
                    obtain ⟨b0, b1, b2, b3, b4, b5, b6, b7⟩ := hb
                    obtain ⟨r, rfl⟩ : ∃ r, q = 8 * k + r := ⟨q - 8 * k, by omega⟩
                    have hr : r < 8 := by omega
                    rcases r with _|_|_|_|_|_|_|_|r
                    · exact HZ0.out.trans b0
                    · exact HZ1.out.trans b1
                    · exact HZ2.out.trans b2
                    · exact HZ3.out.trans b3
                    · exact HZ4.out.trans b4
                    · exact HZ5.out.trans b5
                    · exact HZ6.out.trans b6
                    · exact HZ7.out.trans b7
                    · omega⟩, ⟨drawnTrans HD.out ⟨⟨_, rfl⟩⟩⟩, ⟨by have := HK4.out; omega⟩⟩
              case false =>
                by_cases cik : i < k
                · obtain ⟨K, hK⟩ : ∃ K, 8 * (k - i) = K := ⟨_, rfl⟩
                  have hKI : (8 : Int) * ((k : Int) - (i : Int)) = (K : Int) := by omega
                  have qik : decide ((i : Int) < (k : Int)) = true := decide_eq_true (by omega)
                  have qik2 : decide (i < k) = true := decide_eq_true cik
                  have hkb : k - i ≤ 100000 := by omega
                  have HKQ := Aside0.mk hK
                  have HSTd := Aside0.mk fun nd => HST3.out.below' (drewN_below wr nd)
                  have HCALL := Aside0.mk fun nd => appendRunLengthInt32_calls w0 w0.heap.size u0 (xs ++ hyb b rs) K y u b sz (wr.drewN nd) (HSTd.out nd).own (HSTd.out nd).bel (HSTd.out nd).bel.size (by rw [List.length_append]; have := hyb_bdI hw8 HOK.out HV.out HWN.out hn; have := HXL.out; omega) (by omega) HUU.out hw1 hw8 HSZ.out
                  clear hK
                  go_wp2_with (first
                    | (go_quiet (fail))
                    | (go_at_call 108; go_loud (with_reducible refine (HCALL.out _).mono ?_); rintro e w5 ⟨v5, rfl, ho, hb, hg, hat⟩; have HST5 := Aside0.mk ((HSTd.out _).step ho hb hg hat); clear ho hb hg hat))
                  go_roundg gk0
                  case measure => omega
                  case rel =>
                    have hK0 := HKQ.out
                    have hwu : ∀ p : Nat, 8 * i ≤ p → p < 8 * k → rd wl (p : Nat) = (u : Int) := fun p h1 h2 => by
                      rw [HWG.out p (by omega), ← HWR.out p (by omega), HQ.out p h1 h2, HUU.out]
                    have hyl : rd wl (8 * i : Nat) ∈ wl := rd_mem (by rw [HWN.out]; omega)
                    have hyf := HU.out _ hyl
                    rw [hwu (8 * i) (by omega) (by omega)] at hyf
                    have hy0 : u < 2 ^ b := by have := hyf.2; exact_mod_cast this
                    refine ⟨k, rs ++ [R.rep u K], by omega, rfl, ⟨?_⟩, ⟨?_⟩, ⟨hybOk_snoc HOK.out ⟨by omega, hy0⟩⟩, ⟨by have := HK3.out; omega⟩⟩
                    · rw [hyb_snoc, ← rep_bytesI b u K sz HSZ.out, ← List.append_assoc]; exact HST5.out
                    · rw [hybV_snoc, HV.out]
                      show wl.take (8 * i) ++ List.replicate K (u : Int) = _
                      rw [← hK0, show 8 * (k - i) = 8 * k - 8 * i by omega]
                      exact take_rep wl (8 * i) (8 * k) u (by omega) (by rw [HWN.out]; omega) hwu
                · obtain rfl : i = k := by omega
                  have qik : decide ((i : Int) < (i : Int)) = false := decide_eq_false (by omega)
                  obtain ⟨A1, cut1, hC1⟩ := cutLo8 (P := Tryd.prog) 119 121 Tryd.underlying119 hh32.1 hh32.2 (some ad) m m .i64 ((i : Int) + 1) (i + 1) (by omega) (by omega) (Nat.le_refl _)
                  obtain ⟨r, hr⟩ : ∃ r, m - (i + 1) = r := ⟨_, rfl⟩
                  rw [hr] at cut1 hC1
                  have HIX : Aside0 (∀ nd, Calls Tryd.prog 109 #[.slice A1 r r] (wr.drewN nd) fun e w' => ∃ n : Nat, e = .returned (.int .i64 n) ∧ n ≤ r ∧ Below (wr.drewN nd).heap.size (wr.drewN nd) w') := ⟨fun nd => index8_calls A1 r r (ws.drop (8 * (i + 1))) (wr.drewN nd) (hC1 _ _ (HSC.out _ _ _ (HST3.out.below' (drewN_below wr nd)))) (Nat.le_refl _) (by omega)⟩
                  have HSTd := Aside0.mk fun nd => HST3.out.below' (drewN_below wr nd)
                  have HCUT : Aside0 (∀ h, i + 1 ≤ h → h ≤ m → ∃ A2, (∀ W : World, (Instr.slice 119 (.slice (some ad) m m) (some (.int .i64 (i : Int))) (some (.int .i64 (h : Int))) none).run Tryd.prog W = .ok (.slice A2 (h - i) (m - i)) W) ∧ ∀ (w : World) (xs : List Int), (Kd.int .i32).C w (some ad) (8 * m) xs → (Kd.int .i32).C w A2 (8 * (h - i)) ((xs.take (8 * h)).drop (8 * i))) := ⟨fun h h1 h2 => cutMid8 (P := Tryd.prog) 119 121 Tryd.underlying119 hh32.1 hh32.2 (some ad) m m .i64 .i64 (i : Int) (h : Int) i h rfl rfl (by omega) h2 (Nat.le_refl _)⟩
                  have HRQ := Aside0.mk hr
                  clear hC1 hr
                  go_wp2_with (first
                    | (go_quiet (fail))
                    | (go_at_call 109; go_loud (with_reducible refine (HIX.out _).mono ?_); rintro e w4 ⟨t, rfl, ht, hb⟩; obtain ⟨h, hh⟩ : ∃ h, i + 1 + t = h := ⟨_, rfl⟩; have hhI : (i : Int) + 1 + (t : Int) = (h : Int) := (by omega); have hhm : h ≤ m := (by have := HRQ.out; omega); have HST4 := Aside0.mk ((HSTd.out _).below' hb); obtain ⟨A2, cut2, hC2⟩ := HCUT.out h (by omega) hhm; obtain ⟨K, hK⟩ : ∃ K, h - i = K := ⟨_, rfl⟩; rw [hK] at cut2 hC2; have HCALL := Aside0.mk (appendBitPackedInt32_calls w0 w0.heap.size u0 (xs ++ hyb b rs) A2 K (m - i) b ((ws.take (8 * h)).drop (8 * i)) w4 HST4.out.own HST4.out.bel HST4.out.bel.size (by rw [List.length_append]; have := hyb_bdI hw8 HOK.out HV.out HWN.out hn; have := HXL.out; omega) (fun W hW => hC2 W ws (HSG.out _ _ _ _ HST4.out hW)) (by omega) (by omega) hw1 hw8 (fun x hx => HWW.out x (List.mem_of_mem_take (List.mem_of_mem_drop hx)))); have HKQ := Aside0.mk hK; have HHQ := Aside0.mk hh; clear hC2 hK hh hb ht)
                    | (go_at_call 110; go_loud (with_reducible refine HCALL.out.mono ?_); rintro e w5 ⟨v5, rfl, ho, hb, hg, hat⟩; have HO5 := Aside0.mk ho; have HST5 := Aside0.mk (HST4.out.step ho hb hg hat); clear ho hb hg hat))
                  go_roundg gk0
                  case measure => omega
                  case rel =>
                    obtain ⟨L, hL⟩ : ∃ L, (wl.drop (8 * i)).take (8 * K) = L := ⟨_, rfl⟩
                    have hK0 := HKQ.out
                    have hH0 := HHQ.out
                    have hLL : L.length = 8 * K := by rw [← hL, List.length_take, List.length_drop, HWN.out]; omega
                    have hWC := wide_cut l m i h hhm
                    rw [HWS.out, HWL.out, hK0, hL] at hWC
                    refine ⟨h, rs ++ [R.grp L], hhm, rfl, ⟨?_⟩, ⟨?_⟩, ⟨hybOk_snoc HOK.out ⟨by rw [hLL]; omega, by rw [hLL]; omega, fun x hx => HU.out x (by rw [← hL] at hx; exact List.mem_of_mem_drop (List.mem_of_mem_take hx))⟩⟩, ⟨by have := HK3.out; omega⟩⟩
                    · have e : xs ++ hyb b (rs ++ [R.grp L]) = (xs ++ hyb b rs) ++ (varL (2 * K + 1) ++ packLo b (wideL 32 ((ws.take (8 * h)).drop (8 * i)))) := by
                        rw [hyb_snoc, hWC, List.append_assoc]
                        show xs ++ (_ ++ (varL (2 * (L.length / 8) + 1) ++ packLo b L)) = _
                        rw [hLL, show 8 * K / 8 = K by omega]
                      rw [e]; exact HST5.out
                    · rw [hybV_snoc, HV.out]
                      show wl.take (8 * i) ++ L = _
                      rw [← hL, ← List.take_add]
                      congr 1
                      omega
            · obtain rfl : k = m := by omega
              have ckb : decide ((k : Int) < k) = false := decide_eq_false (by omega)
              have cik : i < k := ci
              obtain ⟨K, hK⟩ : ∃ K, 8 * (k - i) = K := ⟨_, rfl⟩
              have hKI : (8 : Int) * ((k : Int) - (i : Int)) = (K : Int) := by omega
              have qik : decide ((i : Int) < (k : Int)) = true := decide_eq_true (by omega)
              have qik2 : decide (i < k) = true := decide_eq_true cik
              have hkb : k - i ≤ 100000 := by omega
              have HKQ := Aside0.mk hK
              have HSTd := Aside0.mk fun nd => HST3.out.below' (drewN_below wr nd)
              have HCALL := Aside0.mk fun nd => appendRunLengthInt32_calls w0 w0.heap.size u0 (xs ++ hyb b rs) K y u b sz (wr.drewN nd) (HSTd.out nd).own (HSTd.out nd).bel (HSTd.out nd).bel.size (by rw [List.length_append]; have := hyb_bdI hw8 HOK.out HV.out HWN.out hn; have := HXL.out; omega) (by omega) HUU.out hw1 hw8 HSZ.out
              clear hK
              go_wp2_with (first
                | (go_quiet (fail))
                | (go_at_call 108; go_loud (with_reducible refine (HCALL.out _).mono ?_); rintro e w5 ⟨v5, rfl, ho, hb, hg, hat⟩; have HST5 := Aside0.mk ((HSTd.out _).step ho hb hg hat); clear ho hb hg hat))
              go_roundg gk0
              case measure => omega
              case rel =>
                have hK0 := HKQ.out
                have hwu : ∀ p : Nat, 8 * i ≤ p → p < 8 * k → rd wl (p : Nat) = (u : Int) := fun p h1 h2 => by
                  rw [HWG.out p (by omega), ← HWR.out p (by omega), HQ.out p h1 h2, HUU.out]
                have hyl : rd wl (8 * i : Nat) ∈ wl := rd_mem (by rw [HWN.out]; omega)
                have hyf := HU.out _ hyl
                rw [hwu (8 * i) (by omega) (by omega)] at hyf
                have hy0 : u < 2 ^ b := by have := hyf.2; exact_mod_cast this
                refine ⟨k, rs ++ [R.rep u K], by omega, rfl, ⟨?_⟩, ⟨?_⟩, ⟨hybOk_snoc HOK.out ⟨by omega, hy0⟩⟩, ⟨by have := HK3.out; omega⟩⟩
                · rw [hyb_snoc, ← rep_bytesI b u K sz HSZ.out, ← List.append_assoc]; exact HST5.out
                · rw [hybV_snoc, HV.out]
                  show wl.take (8 * i) ++ List.replicate K (u : Int) = _
                  rw [← hK0, show 8 * (k - i) = 8 * k - 8 * i by omega]
                  exact take_rep wl (8 * i) (8 * k) u (by omega) (by rw [HWN.out]; omega) hwu
        · obtain rfl : i = m := by omega
          have cib : decide ((i : Int) < i) = false := decide_eq_false (by omega)
          go_wp2_with (fail)
          go_meet
          exact ⟨rs, ⟨HST1.out.own⟩, HV, HOK, ⟨HST1.out.bel⟩⟩
    · have q8 : decide (8 ≤ (n : Int)) = false := decide_eq_false (by omega)
      have q82 : decide (8 ≤ n) = false := decide_eq_false c8
      obtain rfl : m = 0 := by omega
      go_wp2_with (fail)
      go_meet
      exact ⟨[], ⟨by rw [show xs ++ hyb b [] = xs by simp [hyb]]; exact HO0.out⟩, ⟨by simp [hybV]⟩, ⟨fun x hx => by cases hx⟩, HB0⟩
  case rest =>
    obtain ⟨rs0, HO, HV, HOK, HB⟩ := hcut
    have hmI2 : (m : Int) * 8 = ((8 * m : Nat) : Int) := by omega
    obtain ⟨M, hM⟩ : ∃ M, 8 * m = M := ⟨_, rfl⟩
    rw [hM] at hmI2 HV
    clear HWO HO0 HB0
    go_wp2_with (fail)
    go_loopg [0, 12] n (fun kq v0 v12 w' => ∃ (i : Nat) (rs : List R), i ≤ n ∧ v12 = .int .i64 i ∧ Aside0 (Own w' w0.heap.size 5 .u8 v0 (xs ++ hyb b rs)) ∧ Aside0 (hybV rs = wl.take i) ∧ Aside0 (hybOk b rs) ∧ Aside0 (Below w0.heap.size w0 w') ∧ Aside0 (n - i ≤ kq))
    case atStart => exact ⟨M, rs0, by omega, rfl, HO, HV, HOK, HB, ⟨by omega⟩⟩
    case round =>
      clear HO HV HOK HB
      obtain ⟨i, rs, hi, rfl, HO, HV, HOK, HB, HK3⟩ := hrel
      by_cases ci : i < n
      · have cib : decide ((i : Int) < n) = true := decide_eq_true (by omega)
        have cib2 : decide (i < n) = true := decide_eq_true ci
        obtain ⟨gk0, rfl⟩ : ∃ gk0, gk = gk0 + 1 := ⟨gk - 1, by have := HK3.out; omega⟩
        obtain ⟨y, hy⟩ : ∃ y, rd l (i : Nat) = y := ⟨_, rfl⟩
        obtain ⟨u, hu⟩ : ∃ u : Nat, y % 4294967296 = (u : Int) := ⟨(y % 4294967296).toNat, by omega⟩
        have HUU := Aside0.mk hu
        have HWU : Aside0 (rd wl (i : Nat) = (u : Int)) := ⟨by rw [HWG.out i ci, hy, hu]⟩
        have HY0 : Aside0 (u < 2 ^ b) := ⟨by
          have hyf := HU.out _ (rd_mem (l := wl) (i := i) (by rw [HWN.out]; exact ci))
          rw [HWU.out] at hyf
          have := hyf.2; exact_mod_cast this⟩
        have HYY := Aside0.mk hy
        clear hy hu
        go_wp2_with (fail)
        go_loopg [13] n (fun kq v13 w' => ∃ (q : Nat), i ≤ q ∧ q + 1 ≤ n ∧ v13 = .int .i64 ((q : Int) + 1) ∧ Aside0 (∀ p : Nat, i ≤ p → p ≤ q → rd l (p : Nat) = y) ∧ Aside0 (Drawn0 wr w') ∧ Aside0 (n - q ≤ kq))
        case atStart => exact ⟨i, Nat.le_refl _, by omega, by go_num, ⟨fun p h1 h2 => by have e : p = i := (by omega); rw [e]; exact HYY.out⟩, ⟨Drawn0.refl _⟩, ⟨by omega⟩⟩
        case round =>
          obtain ⟨q, hiq, hqj, rfl, HQ, HD, HK5⟩ := hrel
          have HOq := Aside0.mk (own_drawn HO.out HD.out)
          have HBq := Aside0.mk (below_drawn HB.out HD.out)
          obtain ⟨ad, ead, d0⟩ := Kd.at_int (Kd.C_below HC.out HBq.out) (i : Int) (by omega) (by omega)
          rw [Int.toNat_natCast, HYY.out] at d0
          have b0 := World.block_lt_of_cell? wr _ d0
          have qi2 : (0 : Int) ≤ (q : Int) + 1 := by omega
          have qi1 : (i : Int) < (n : Int) := by omega
          have qi6 : (0 : Int) ≤ (i : Int) := by omega
          have qn : ((q : Int) + 1).toNat = q + 1 := by omega
          by_cases cq : q + 1 < n
          · have cqb : decide ((q : Int) + 1 < (n : Int)) = true := decide_eq_true (by omega)
            have qi5 : (q : Int) + 1 < (n : Int) := by omega
            obtain ⟨ad', ead', d1⟩ := Kd.at_int (Kd.C_below HC.out HBq.out) ((q + 1 : Nat) : Int) (by omega) (by omega)
            obtain rfl : ad = ad' := by rw [ead] at ead'; injection ead'
            rw [Int.toNat_natCast] at d1
            have eadd : ad.add (q + 1) = ⟨ad.block, ad.off + (q + 1), none⟩ := by simp [Addr.add]
            rw [eadd] at d1
            obtain ⟨z, hz⟩ : ∃ z, rd l ((q + 1 : Nat) : Int) = z := ⟨_, rfl⟩
            rw [hz] at d1
            have HZ := Aside0.mk hz
            clear eadd hz
            subst ead
            by_cases ce : y = z
            · have qe : (y == z) = true := by rw [ce]; simp
              have HCE := Aside0.mk ce
              subst ce
              go_wp2_with (first
                | (go_quiet (fail)))
              go_roundg (gk - 1)
              case measure => have := HK5.out; omega
              case rel => exact ⟨q + 1, by omega, by omega, by go_num, ⟨fun p h1 h2 => by
                by_cases h : p ≤ q
                · exact HQ.out p h1 h
                · obtain rfl : p = q + 1 := by omega
                  exact HZ.out⟩, ⟨drawnTrans HD.out ⟨⟨_, rfl⟩⟩⟩, ⟨by have := HK5.out; omega⟩⟩
            · have qe : (y == z) = false := by simpa using ce
              clear ce
              obtain ⟨K, hK⟩ : ∃ K, q + 1 - i = K := ⟨_, rfl⟩
              have hKI : (q : Int) + 1 - (i : Int) = (K : Int) := by omega
              have HKQ := Aside0.mk hK
              have hkb : K ≤ 100000 := by omega
              have HCALL := Aside0.mk fun nd => appendRunLengthInt32_calls w0 w0.heap.size u0 (xs ++ hyb b rs) K y u b sz (wr.drewN nd) (HOq.out.drewN nd) (HBq.out.trans ((drewN_below wr nd).mono HBq.out.size)) (by have := HBq.out.size; exact this) (by rw [List.length_append]; have := hyb_bdI hw8 HOK.out HV.out HWN.out hn; have := HXL.out; omega) (by omega) HUU.out hw1 hw8 HSZ.out
              clear hK
              go_wp2_with (first
                | (go_quiet (fail))
                | (go_at_call 108; go_loud (with_reducible refine (HCALL.out _).mono ?_); rintro e w5 ⟨v5, rfl, ho, hb, hg, hat⟩; have HO5 := Aside0.mk ho; have HB5 := Aside0.mk hb; clear ho hb hg hat))
              go_roundg gk0
              case measure => omega
              case rel =>
                have hK0 := HKQ.out
                refine ⟨q + 1, rs ++ [R.rep u K], by omega, by go_num, ⟨?_⟩, ⟨?_⟩, ⟨hybOk_snoc HOK.out ⟨by omega, HY0.out⟩⟩, HB5, ⟨by have := HK3.out; omega⟩⟩
                · rw [hyb_snoc, ← rep_bytesI b u K sz HSZ.out, ← List.append_assoc]; exact HO5.out
                · rw [hybV_snoc, HV.out]
                  show wl.take i ++ List.replicate K (u : Int) = _
                  rw [← hK0]
                  exact take_rep wl i (q + 1) u (by omega) (by rw [HWN.out]; omega) fun p h1 h2 => by rw [HWG.out p (by omega), HQ.out p h1 (by omega), HUU.out]
          · have cqb : decide ((q : Int) + 1 < (n : Int)) = false := decide_eq_false (by omega)
            have qi5 : ¬ (q : Int) + 1 < (n : Int) := by omega
            subst ead
            obtain ⟨K, hK⟩ : ∃ K, q + 1 - i = K := ⟨_, rfl⟩
            have hKI : (q : Int) + 1 - (i : Int) = (K : Int) := by omega
            have HKQ := Aside0.mk hK
            have hkb : K ≤ 100000 := by omega
            have HCALL := Aside0.mk fun nd => appendRunLengthInt32_calls w0 w0.heap.size u0 (xs ++ hyb b rs) K y u b sz (wr.drewN nd) (HOq.out.drewN nd) (HBq.out.trans ((drewN_below wr nd).mono HBq.out.size)) (by have := HBq.out.size; exact this) (by rw [List.length_append]; have := hyb_bdI hw8 HOK.out HV.out HWN.out hn; have := HXL.out; omega) (by omega) HUU.out hw1 hw8 HSZ.out
            clear hK
            go_wp2_with (first
              | (go_quiet (fail))
              | (go_at_call 108; go_loud (with_reducible refine (HCALL.out _).mono ?_); rintro e w5 ⟨v5, rfl, ho, hb, hg, hat⟩; have HO5 := Aside0.mk ho; have HB5 := Aside0.mk hb; clear ho hb hg hat))
            go_roundg gk0
            case measure => omega
            case rel =>
              have hK0 := HKQ.out
              refine ⟨q + 1, rs ++ [R.rep u K], by omega, by go_num, ⟨?_⟩, ⟨?_⟩, ⟨hybOk_snoc HOK.out ⟨by omega, HY0.out⟩⟩, HB5, ⟨by have := HK3.out; omega⟩⟩
              · rw [hyb_snoc, ← rep_bytesI b u K sz HSZ.out, ← List.append_assoc]; exact HO5.out
              · rw [hybV_snoc, HV.out]
                show wl.take i ++ List.replicate K (u : Int) = _
                rw [← hK0]
                exact take_rep wl i (q + 1) u (by omega) (by rw [HWN.out]; omega) fun p h1 h2 => by rw [HWG.out p (by omega), HQ.out p h1 (by omega), HUU.out]
      · obtain rfl : i = n := by omega
        have cib : decide ((i : Int) < i) = false := decide_eq_false (by omega)
        go_wp2_with (fail)
        go_ret2
        exact ⟨_, rs, rfl, HO.out, by rw [HV.out, ← HWN.out, List.take_length], HOK.out, HB.out⟩
end Go.Proofs.YtoopljlbiifmfaaDoor.Ene

/-! Numbers of 32 bits in runs: the methods that write them, the thin package. -/
namespace Go.Proofs.YtoopljlbiifmfaaDoor.Lie
open Go.Proofs.YtoopljlbiifmfaaDoor.Ene Go.Proofs.YtoopljlbiifmfaaDoor.Rlx Go.Proofs.YtoopljlbiifmfaaDoor.End Go.Proofs.YtoopljlbiifmfaaDoor.Enc Go.Proofs.YtoopljlbiifmfaaDoor.Enb Go.Proofs.YtoopljlbiifmfaaDoor.Ena Go.Proofs.YtoopljlbiifmfaaDoor.Dec Go.Proofs.YtoopljlbiifmfaaDoor.Uva Go.Proofs.YtoopljlbiifmfaaDoor.Rle Go.Proofs.YtoopljlbiifmfaaDoor.Run Go.Proofs.YtoopljlbiifmfaaDoor.Rlp Go.Proofs.YtoopljlbiifmfaaDoor.Rlb Go.Proofs.YtoopljlbiifmfaaDoor.Buf Go.Proofs.YtoopljlbiifmfaaDoor.Fit Go.Proofs.YtoopljlbiifmfaaDoor.Bit Go.Proofs.YtoopljlbiifmfaaDoor.Wrd Go.Proofs.YtoopljlbiifmfaaDoor.Spl Go.Proofs.YtoopljlbiifmfaaDoor.Str Go.Proofs.YtoopljlbiifmfaaDoor.Flt Go.Proofs.YtoopljlbiifmfaaDoor.Owe Go.Proofs.YtoopljlbiifmfaaDoor.Num Go.Proofs.YtoopljlbiifmfaaDoor.Le Go.Proofs.YtoopljlbiifmfaaDoor.Lst Go.Proofs.YtoopljlbiifmfaaDoor.Aid Go.RowKit Go.Proofs.YtoopljlbiifmfaaDoorW.PrintWords Go.Proofs.YtoopljlbiifmfaaDoorW.PrintLast Go.Proofs.YtoopljlbiifmfaaDoorW.PrintMore
set_option linter.unusedVariables false
set_option linter.unusedSimpArgs false
set_option maxHeartbeats 4000000 in
theorem rlWrapE_calls (p : Value) (w : World) :
    Calls Tryd.prog 58 #[p, .nilIface] w fun e w' => e = .returned .nilIface ∧ w = w' := by
  go_enter Tryd.func58, Tryd.ntmps58
  go_wp2_with (fail)
  go_ret
  exact ⟨rfl, rfl⟩
set_option maxHeartbeats 4000000 in
theorem rlEnc32_calls (g : Nat) (A : Option Addr) (N c : Nat) (w : Nat) (l : List Int) (w0 : World) (hp : w0.cell? ⟨g, 0, none⟩ = some (.int .i64 (w : Int))) (hC : (Kd.int .i32).C w0 A N l) (hc : N ≤ c) (hn : N ≤ 100000) (hw1 : 1 ≤ w) (hw8 : w ≤ 32) (hu : fitL w (wideL 32 l)) (hwf : ∀ x ∈ l, (Lit.int .i32 x).wf = true) :
    Calls Tryd.prog 51 #[.pointer (some ⟨g, 0, none⟩), .slice none 0 0, .slice A N c] w0 fun e w' => ∃ v rs, e = .returned (.tuple #[v, .nilIface]) ∧ Own w' w0.heap.size 5 .u8 v (hyb w rs) ∧ hybV rs = wideL 32 l ∧ hybOk w rs ∧ Below w0.heap.size w0 w' := by
  have HCALL := Aside0.mk (encodeInt32_calls w0.drew A N c w (.slice none 0 0) [] l w0.drew (Own.nil _ _ _ _) (Below.refl _ _) (Kd.C_drewN hC 1) hc hn (by simp) hw1 hw8 hu hwf)
  have HBD : Aside0 (Below w0.heap.size w0 w0.drew) := ⟨drewN_below w0 1⟩
  obtain ⟨i8, h8⟩ := h8
  obtain ⟨cutz, _⟩ := cutHi (P := Tryd.prog) 25 5 Tryd.underlying25 h8.1 none 0 0 .i64 0 0 rfl (by omega) (by omega)
  have hlt := World.block_lt_of_cell? w0 _ hp
  have hpd : w0.drew.cell? ⟨g, 0, none⟩ = some (.int .i64 (w : Int)) := hp
  have hltd : g < w0.drew.heap.size := hlt
  have qw : IntKind.u64.wrap (w : Int) = (w : Int) := IntWalk.u64_in _ (by omega)
  clear hC hu hwf
  go_enter Tryd.func51, Tryd.ntmps51
  go_wp2_with (fail)
  go_region_held3 (fun (w9 : World) => w9.cell? ⟨g, 0, none⟩ = some (.int .i64 (w : Int)))
    (first | assumption | exact hpd | exact HP2.out)
    ((first
      | (go_at_call 74; (with_reducible refine HCALL.out.mono ?_); rintro e w2 ⟨v2, rs, rfl, ho, hv, hk, hb⟩; rw [List.nil_append] at ho; have HO2 := Aside0.mk ho; have HV2 := Aside0.mk hv; have HK2 := Aside0.mk hk; have HP2 : Aside0 (w2.cell? ⟨g, 0, none⟩ = some (.int .i64 (w : Int))) := ⟨(hb.cell hltd).trans hpd⟩; have HB2 := Aside0.mk (HBD.out.trans (hb.mono HBD.out.size)); clear ho hb hv hk)
      | fail "no arm"))
  go_wp2_with (first
    | (go_at_call 58; (with_reducible refine (rlWrapE_calls _ _).mono ?_); rintro e w3 ⟨rfl, rfl⟩))
  go_ret2
  exact ⟨v2, rs, rfl, HO2.out, HV2.out, HK2.out, HB2.out⟩
set_option maxHeartbeats 4000000 in
theorem encodeInt32sRl_calls (A : Option Addr) (N c : Nat) (w : Nat) (l : List Int) (w0 : World) (hC : (Kd.int .i32).C w0 A N l) (hc : N ≤ c) (hn : N ≤ 100000) (hw1 : 1 ≤ w) (hw8 : w ≤ 32) (hu : fitL w (wideL 32 l)) (hwf : ∀ x ∈ l, (Lit.int .i32 x).wf = true) :
    Calls Tryd.prog 32 #[.string ⟨#[114, 108, 101]⟩, .int .i64 w, .slice A N c] w0 fun e w' => ∃ v rs, e = .returned (.tuple #[v, .bool true]) ∧ Own w' w0.heap.size 5 .u8 v (hyb w rs) ∧ hybV rs = wideL 32 l ∧ hybOk w rs ∧ Below w0.heap.size w0 w' := by
  have HLN : Aside0 (l.length = N) := ⟨hC.1⟩
  have HU := Aside0.mk hu
  have HWF := Aside0.mk hwf
  have HC2 : Aside0 ((Kd.int .i32).C (w0.alloc (.cells #[] 21)) A N l) := ⟨Kd.C_alloc hC _⟩
  have HE := Aside0.mk (Own.empty w0 w0.heap.size 21 .i32 (Nat.le_refl _))
  have HEB : Aside0 (Below w0.heap.size w0 (w0.alloc (.cells #[] 21))) := ⟨(Below.refl _ _).alloc (Nat.le_refl _) _⟩
  clear hC hu hwf
  go_enter Tryd.func32, Tryd.ntmps32
  go_wp2_with (first
    | (at_builtin; go_loud (refine appendRead (w0 := w0) w0.heap.size rfl (.tmp 11) (.tmp 12) 43 21 .i32 4 rfl Tryd.underlying43 infoI32e (by decide) _ [] A N c l rfl rfl HE.out HEB.out ?hb HC2.out ?hl ?_); (case hb => exact HEB.out.size); (case hl => simp; omega); intro v1 w1 ho hb hg; rw [List.nil_append] at ho; obtain ⟨A1, c1, rfl, hc1, hr1⟩ := ho.read; rw [HLN.out] at hc1 hr1; rw [HLN.out]; have HR1 := Aside0.mk (Kd.C_alloc hr1 (.cells #[.int .i64 (w : Int)] 67)); have HP1 : Aside0 ((w1.alloc (.cells #[.int .i64 (w : Int)] 67)).cell? ⟨w1.heap.size, 0, none⟩ = some (.int .i64 (w : Int))) := ⟨(Blk.new w1 #[.int .i64 (w : Int)] 67).cell rfl⟩; have HBA : Aside0 (Below w0.heap.size w0 (w1.alloc (.cells #[.int .i64 (w : Int)] 67))) := ⟨hb.alloc hb.size _⟩; clear ho hb hg hr1)
    | (go_at_call 51; go_loud (with_reducible refine (rlEnc32_calls w1.heap.size A1 N c1 w l _ HP1.out HR1.out hc1 hn hw1 hw8 HU.out HWF.out).mono ?_); rintro e w2 ⟨v2, rs, rfl, ho, hv, hk, hb⟩; have HV2 := Aside0.mk hv; have HK2 := Aside0.mk hk; have HB2 := Aside0.mk (HBA.out.trans (hb.mono HBA.out.size)); have HO2 := Aside0.mk (Own.lower ho HBA.out.size); clear ho hb hv hk)
    | go_quiet (fail))
  go_ret2
  exact ⟨v2, rs, rfl, HO2.out.drewN _, HV2.out, HK2.out, HB2.out.trans ((drewN_below _ _).mono HB2.out.size)⟩
end Go.Proofs.YtoopljlbiifmfaaDoor.Lie

/-! How many bits a number has. -/
namespace Go.Proofs.YtoopljlbiifmfaaDoor.Len
open Go.Proofs.YtoopljlbiifmfaaDoor.Aid Go.RowKit Go.Proofs.YtoopljlbiifmfaaDoorW.PrintWords Go.Proofs.YtoopljlbiifmfaaDoorW.PrintLast Go.Proofs.YtoopljlbiifmfaaDoorW.PrintMore
set_option linter.unusedVariables false
set_option linter.unusedSimpArgs false
theorem bitLen_fit (u : Nat) (hu : u < 4294967296) : Lib.bitLen u ≤ 32 ∧ u < 2 ^ Lib.bitLen u := by
  refine ⟨Lib.bitLen_le u 32 (by omega) (by omega), ?_⟩
  by_cases h : u = 0
  · subst h; unfold Lib.bitLen; rw [Lib.bitLenAux_zero]; decide
  · have := Lib.bitLenAux_bounds 64 u (by omega) h
    exact this.2.2
set_option maxHeartbeats 4000000 in
set_option maxRecDepth 100000 in
theorem len32_calls' (x : Int) (w : World) (h0 : 0 ≤ x) (h1 : x ≤ 4294967295) :
    Calls Tryd.prog 114 #[.int .u32 x] w fun e w' => e = .returned (.int .i64 (Lib.bitLen x.toNat)) ∧ w' = w := by
  have hq : ∀ y : Int, 0 ≤ y → y < 256 → wrap64 (wrap64 (Lib.len8 y)) = (Lib.bitLen y.toNat : Int) := fun y h0 h1 => by
    rw [Lib.len8_of y h0 (by omega)]
    have l := Lib.bitLen_le8' y h0 (by omega)
    simp only [wrap64]
    omega
  have hq2 : ∀ (k y : Int), 0 ≤ y → y ≤ 255 → 0 ≤ k → k ≤ 100 → wrap64 (k + wrap64 (Lib.len8 y)) = k + (Lib.bitLen y.toNat : Int) := fun k y h0 h1 hk0 hk1 => by
    rw [Lib.len8_of y h0 h1]
    have l := Lib.bitLen_le8' y h0 h1
    simp only [wrap64]
    omega
  by_cases b : x < 65536
  · have q1 : decide (65536 ≤ x) = false := decide_eq_false (by omega)
    by_cases a : x < 256
    · have g0 : x ≤ 255 := by omega
      have q2 : decide (256 ≤ x) = false := decide_eq_false (by omega)
      have HE := hq x h0 a
      clear hq
      go_enter Tryd.func114, Tryd.ntmps114
      go_wp2_with (fail)
      go_ret
      exact ⟨congrArg Ending.returned (congrArg (Value.int IntKind.i64) HE), rfl⟩
    · obtain ⟨y, hy⟩ : ∃ y, x / 256 = y := ⟨_, rfl⟩
      have g0 : 0 ≤ y := by omega
      have g1 : y ≤ 255 := by omega
      have q2 : decide (256 ≤ x) = true := decide_eq_true (by omega)
      have HE := hq2 8 y g0 g1 (by omega) (by omega)
      have HS : Aside0 ((8 + (Lib.bitLen y.toNat : Int)) = (Lib.bitLen x.toNat : Int)) := ⟨by
        have s := Lib.bitLen_shift8 x.toNat (by omega) (by omega)
        rw [show x.toNat / 256 = y.toNat by omega] at s
        omega⟩
      clear hq hq2
      go_enter Tryd.func114, Tryd.ntmps114
      go_wp2_with (fail)
      go_ret
      exact ⟨congrArg Ending.returned (congrArg (Value.int IntKind.i64) HS.out), rfl⟩
  · have q1 : decide (65536 ≤ x) = true := decide_eq_true (by omega)
    obtain ⟨y, hy⟩ : ∃ y, x / 65536 = y := ⟨_, rfl⟩
    by_cases a : y < 256
    · have g0 : 0 ≤ y := by omega
      have g1 : y ≤ 255 := by omega
      have q2 : decide (256 ≤ y) = false := decide_eq_false (by omega)
      have HE := hq2 16 y g0 g1 (by omega) (by omega)
      have HS : Aside0 ((16 + (Lib.bitLen y.toNat : Int)) = (Lib.bitLen x.toNat : Int)) := ⟨by
        have s := Lib.bitLen_shift16 x.toNat (by omega) (by omega)
        rw [show x.toNat / 65536 = y.toNat by omega] at s
        omega⟩
      clear hq hq2
      go_enter Tryd.func114, Tryd.ntmps114
      go_wp2_with (fail)
      go_ret
      exact ⟨congrArg Ending.returned (congrArg (Value.int IntKind.i64) HS.out), rfl⟩
    · obtain ⟨z, hz⟩ : ∃ z, y / 256 = z := ⟨_, rfl⟩
      have g0 : 0 ≤ z := by omega
      have g1 : z ≤ 255 := by omega
      have q2 : decide (256 ≤ y) = true := decide_eq_true (by omega)
      have HE := hq2 24 z g0 g1 (by omega) (by omega)
      have HS : Aside0 ((24 + (Lib.bitLen z.toNat : Int)) = (Lib.bitLen x.toNat : Int)) := ⟨by
        have s := Lib.bitLen_shift24 x.toNat (by omega) (by omega)
        rw [show x.toNat / 16777216 = z.toNat by omega] at s
        omega⟩
      clear hq hq2
      go_enter Tryd.func114, Tryd.ntmps114
      go_wp2_with (fail)
      go_ret
      exact ⟨congrArg Ending.returned (congrArg (Value.int IntKind.i64) HS.out), rfl⟩
theorem len32_calls (x : Int) (w : World) (h0 : 0 ≤ x) (h1 : x ≤ 4294967295) :
    Calls Tryd.prog 114 #[.int .u32 x] w fun e w' => ∃ k : Nat, e = .returned (.int .i64 (k : Int)) ∧ k ≤ 32 ∧ x < ((2 ^ k : Nat) : Int) ∧ w = w' := by
  refine (len32_calls' x w h0 h1).mono ?_
  rintro e w' ⟨rfl, rfl⟩
  have := bitLen_fit x.toNat (by omega)
  exact ⟨_, rfl, this.1, by omega, rfl⟩
end Go.Proofs.YtoopljlbiifmfaaDoor.Len

/-! Indexes in runs behind their width: the methods that write them. -/
namespace Go.Proofs.YtoopljlbiifmfaaDoor.Max
open Go.Proofs.YtoopljlbiifmfaaDoor.Len Go.Proofs.YtoopljlbiifmfaaDoor.Lie Go.Proofs.YtoopljlbiifmfaaDoor.Ene Go.Proofs.YtoopljlbiifmfaaDoor.Rlx Go.Proofs.YtoopljlbiifmfaaDoor.End Go.Proofs.YtoopljlbiifmfaaDoor.Enc Go.Proofs.YtoopljlbiifmfaaDoor.Enb Go.Proofs.YtoopljlbiifmfaaDoor.Ena Go.Proofs.YtoopljlbiifmfaaDoor.Dec Go.Proofs.YtoopljlbiifmfaaDoor.Uva Go.Proofs.YtoopljlbiifmfaaDoor.Rle Go.Proofs.YtoopljlbiifmfaaDoor.Run Go.Proofs.YtoopljlbiifmfaaDoor.Rlp Go.Proofs.YtoopljlbiifmfaaDoor.Rlb Go.Proofs.YtoopljlbiifmfaaDoor.Buf Go.Proofs.YtoopljlbiifmfaaDoor.Fit Go.Proofs.YtoopljlbiifmfaaDoor.Bit Go.Proofs.YtoopljlbiifmfaaDoor.Wrd Go.Proofs.YtoopljlbiifmfaaDoor.Spl Go.Proofs.YtoopljlbiifmfaaDoor.Str Go.Proofs.YtoopljlbiifmfaaDoor.Flt Go.Proofs.YtoopljlbiifmfaaDoor.Owe Go.Proofs.YtoopljlbiifmfaaDoor.Num Go.Proofs.YtoopljlbiifmfaaDoor.Le Go.Proofs.YtoopljlbiifmfaaDoor.Lst Go.Proofs.YtoopljlbiifmfaaDoor.Aid Go.RowKit Go.Proofs.YtoopljlbiifmfaaDoorW.PrintWords Go.Proofs.YtoopljlbiifmfaaDoorW.PrintLast Go.Proofs.YtoopljlbiifmfaaDoorW.PrintMore
set_option linter.unusedVariables false
set_option linter.unusedSimpArgs false
set_option maxHeartbeats 4000000 in
theorem maxLen_calls (A : Option Addr) (n c : Nat) (l : List Int) (w : World) (hC : (Kd.int .i32).C w A n l) (hc : n ≤ c) (hn : n ≤ 2147483647) :
    Calls Tryd.prog 79 #[.slice A n c] w fun e w' => ∃ k : Nat, e = .returned (.int .i64 (k : Int)) ∧ k ≤ 32 ∧ fitL k (wideL 32 l) ∧ w = w' := by
  have HLN : Aside0 (l.length = n) := ⟨hC.1⟩
  have HC := Aside0.mk hC
  clear hC
  go_enter Tryd.func79, Tryd.ntmps79
  go_wp2_with (fail)
  go_loopg [2, 4, 5, 8] n (fun kq v2 v4 v5 v8 w' => ∃ (j k : Nat), j ≤ n ∧ k ≤ 32 ∧ v8 = .int .i64 j ∧ v2 = .int .i64 k ∧ Aside0 (∀ p : Nat, p < j → rd l (p : Nat) % 4294967296 < ((2 ^ k : Nat) : Int)) ∧ w = w' ∧ Aside0 (n - j ≤ kq))
  case atStart => exact ⟨0, 0, by omega, by omega, rfl, rfl, ⟨fun p hp => by omega⟩, rfl, ⟨by omega⟩⟩
  case round =>
    obtain ⟨j, k, hj, hk, rfl, rfl, HP, rfl, HK⟩ := hrel
    by_cases cj : j < n
    · have cjb : decide ((j : Int) < n) = true := decide_eq_true (by omega)
      obtain ⟨ad, ead, hcell⟩ := Kd.at_int HC.out (j : Int) (by omega) (by omega)
      rw [Int.toNat_natCast] at hcell
      obtain ⟨y, hy⟩ : ∃ y, rd l (j : Int) = y := ⟨_, rfl⟩
      rw [hy] at hcell
      obtain ⟨u, hu⟩ : ∃ u : Nat, y % 4294967296 = (u : Int) := ⟨(y % 4294967296).toNat, by omega⟩
      have hyw : IntKind.u32.wrap y = (u : Int) := by rw [IntKind.wrap_u32]; exact hu
      have hu9 : u < 4294967296 := by omega
      have HY : Aside0 (rd l (j : Nat) % 4294967296 = (u : Int)) := ⟨by rw [hy]; exact hu⟩
      have hbl := bitLen_fit u hu9
      have HL : Aside0 (∀ W : World, Calls Tryd.prog 114 #[.int .u32 (u : Int)] W fun e w' => e = .returned (.int .i64 (Lib.bitLen u)) ∧ w' = W) := ⟨fun W => by
        have := len32_calls' (u : Int) W (by omega) (by omega)
        rw [Int.toNat_natCast] at this
        exact this⟩
      obtain ⟨q, hq⟩ : ∃ q, Lib.bitLen u = q := ⟨_, rfl⟩
      rw [hq] at hbl HL
      obtain ⟨hq32, huq⟩ := hbl
      have HUQ := Aside0.mk huq
      clear hu hy hq huq
      subst ead
      by_cases cq : k < q
      · have cqb : decide ((k : Int) < (q : Int)) = true := decide_eq_true (by omega)
        go_wp2_with (first
          | (go_at_call 114; go_loud (with_reducible refine (HL.out _).mono ?_); rintro e w2 ⟨rfl, rfl⟩))
        go_roundg (gk - 1)
        case measure => have := HK.out; omega
        case rel =>
          refine ⟨j + 1, q, by omega, hq32, by go_num, rfl, ⟨fun p hp => ?_⟩, rfl, ⟨by have := HK.out; omega⟩⟩
          by_cases h : p < j
          · have h1 := HP.out p h
            have h2 : (2 : Nat) ^ k ≤ 2 ^ q := Nat.pow_le_pow_right (by omega) (by omega)
            omega
          · obtain rfl : p = j := by omega
            have h1 := HY.out
            have h2 := HUQ.out
            omega
      · have cqb : decide ((k : Int) < (q : Int)) = false := decide_eq_false (by omega)
        go_wp2_with (first
          | (go_at_call 114; go_loud (with_reducible refine (HL.out _).mono ?_); rintro e w2 ⟨rfl, rfl⟩))
        go_roundg (gk - 1)
        case measure => have := HK.out; omega
        case rel =>
          refine ⟨j + 1, k, by omega, hk, by go_num, rfl, ⟨fun p hp => ?_⟩, rfl, ⟨by have := HK.out; omega⟩⟩
          by_cases h : p < j
          · exact HP.out p h
          · obtain rfl : p = j := by omega
            have h1 := HY.out
            have h2 := HUQ.out
            have h3 : (2 : Nat) ^ q ≤ 2 ^ k := Nat.pow_le_pow_right (by omega) (by omega)
            omega
    · obtain rfl : j = n := by omega
      have cjb : decide ((j : Int) < j) = false := decide_eq_false (by omega)
      go_wp2_with (fail)
      go_ret
      refine ⟨k, rfl, hk, fun x hx => ?_, rfl⟩
      unfold wideL at hx
      obtain ⟨y, hy, rfl⟩ := List.mem_map.1 hx
      obtain ⟨p, hp, rfl⟩ := List.getElem_of_mem hy
      have h := HP.out p (by rw [← HLN.out]; exact hp)
      rw [rd_nat _ _ hp] at h
      have h3 : (2 : Int) ^ k = ((2 ^ k : Nat) : Int) := by push_cast; rfl
      rw [h3]
      show 0 ≤ l[p] % 4294967296 ∧ l[p] % 4294967296 < _
      omega
set_option maxHeartbeats 4000000 in
theorem isZero32_calls (A : Option Addr) (n c : Nat) (l : List Int) (w : World) (hC : (Kd.int .i32).C w A n l) (hc : n ≤ c) (hn : n ≤ 2147483647) (hz : ∀ p : Nat, p < n → rd l (p : Nat) = 0) :
    Calls Tryd.prog 105 #[.slice A n c] w fun e w' => e = .returned (.bool true) ∧ w = w' := by
  have HC := Aside0.mk hC
  have HZ := Aside0.mk hz
  clear hC hz
  go_enter Tryd.func105, Tryd.ntmps105
  go_wp2_with (fail)
  go_loopg [4, 7] n (fun kq v4 v7 w' => ∃ (j : Nat), j ≤ n ∧ v7 = .int .i64 j ∧ w = w' ∧ Aside0 (n - j ≤ kq))
  case atStart => exact ⟨0, by omega, rfl, rfl, ⟨by omega⟩⟩
  case round =>
    obtain ⟨j, hj, rfl, rfl, HK⟩ := hrel
    by_cases cj : j < n
    · have cjb : decide ((j : Int) < n) = true := decide_eq_true (by omega)
      obtain ⟨ad, ead, hcell⟩ := Kd.at_int HC.out (j : Int) (by omega) (by omega)
      rw [Int.toNat_natCast, HZ.out j cj] at hcell
      subst ead
      go_wp2_with (fail)
      go_roundg (gk - 1)
      case measure => have := HK.out; omega
      case rel => exact ⟨j + 1, by omega, by go_num, rfl, ⟨by have := HK.out; omega⟩⟩
    · obtain rfl : j = n := by omega
      have cjb : decide ((j : Int) < j) = false := decide_eq_false (by omega)
      go_wp2_with (fail)
      go_ret
      exact ⟨rfl, rfl⟩
set_option maxHeartbeats 4000000 in
set_option maxRecDepth 100000 in
theorem appendUvarint_calls (w0 : World) (base : Nat) (v : Value) (xs : List Int) (x : Nat) (w : World) (hO : Own w base 5 .u8 v xs) (hB : Below base w0 w) (hb : base ≤ w.heap.size) (hx : xs.length ≤ 536870912) (hx9 : x < 34359738368) :
    Calls Tryd.prog 89 #[v, .int .u64 x] w fun e w' => ∃ v1, e = .returned v1 ∧ Own w' base 5 .u8 v1 (xs ++ varL x) ∧ Below base w0 w' := by
  have HF : Aside0 (Front (w.alloc (.cells #[.int .u8 0, .int .u8 0, .int .u8 0, .int .u8 0, .int .u8 0, .int .u8 0, .int .u8 0, .int .u8 0, .int .u8 0, .int .u8 0] 132)) w.heap.size 10 132 .u8 []) := ⟨by
    have := Front.ofRow (w := w.alloc (.cells #[.int .u8 0, .int .u8 0, .int .u8 0, .int .u8 0, .int .u8 0, .int .u8 0, .int .u8 0, .int .u8 0, .int .u8 0, .int .u8 0] 132)) (g := w.heap.size) (t := 132) (k := .u8) (ys := [0, 0, 0, 0, 0, 0, 0, 0, 0, 0]) ⟨Blk.new _ _ _⟩ 0 (by omega)
    exact this⟩
  have HOA : Aside0 (Own (w.alloc (.cells #[.int .u8 0, .int .u8 0, .int .u8 0, .int .u8 0, .int .u8 0, .int .u8 0, .int .u8 0, .int .u8 0, .int .u8 0, .int .u8 0] 132)) base 5 .u8 v xs) := ⟨hO.alloc _⟩
  have HBA : Aside0 (Below base w0 (w.alloc (.cells #[.int .u8 0, .int .u8 0, .int .u8 0, .int .u8 0, .int .u8 0, .int .u8 0, .int .u8 0, .int .u8 0, .int .u8 0, .int .u8 0] 132))) := ⟨hB.alloc hb _⟩
  have HNE : Aside0 (v.ownBlock = none ∨ v.ownBlock ≠ some w.heap.size) := ⟨.inr fun e => by have := own_lt hO.out w.heap.size e; omega⟩
  have hL5 := varL_len5 x hx9
  have hL0 := varL_pos x
  have HPU := Aside0.mk (putUvarint_calls w.heap.size 10 132 10 10 [] x _ HF.out hx9 (by omega) (by simp))
  obtain ⟨L, hL⟩ : ∃ L, (varL x).length = L := ⟨_, rfl⟩
  rw [hL, List.length_nil] at HPU
  rw [hL] at hL5 hL0
  have HL := Aside0.mk hL
  obtain ⟨n, hn⟩ : ∃ n, xs.length = n := ⟨_, rfl⟩
  have HN := Aside0.mk hn
  rw [hn] at hx
  have hsz : base ≤ (w.alloc (.cells #[.int .u8 0, .int .u8 0, .int .u8 0, .int .u8 0, .int .u8 0, .int .u8 0, .int .u8 0, .int .u8 0, .int .u8 0, .int .u8 0] 132)).heap.size := by simp; omega
  have hglt : w.heap.size < (w.alloc (.cells #[.int .u8 0, .int .u8 0, .int .u8 0, .int .u8 0, .int .u8 0, .int .u8 0, .int .u8 0, .int .u8 0, .int .u8 0, .int .u8 0] 132)).heap.size := HF.out.lt
  have hL9 : (0 : Int) ≤ (L : Int) := by omega
  have hL10 : (L : Int) ≤ 10 := by omega
  have hL11 : (L : Int) ≤ (Tryd.prog.arrayLen 132 : Int) := by
    rw [show Tryd.prog.arrayLen 132 = 10 by kernel_rfl]; omega
  obtain ⟨i8, h8⟩ := h8
  clear hO hB hL hn
  go_enter Tryd.func89, Tryd.ntmps89
  go_wp2_with (first
    | (go_at_call 119; go_loud (with_reducible refine HPU.out.mono ?_); rintro e w3 ⟨rfl, hf, hg⟩; rw [List.nil_append] at hf; have hf3 := hf.toOwn (base := w.heap.size) (Nat.le_refl _) (by omega); obtain ⟨A3, c3, e3, hc3, hr3⟩ := hf3.read; injection e3 with e4 e5 e6; subst e4; have HR3 := Aside0.mk hr3; rw [HL.out] at HR3; have HS3 : Aside0 (base ≤ w3.heap.size) := ⟨Nat.le_trans hsz hg.size⟩; have HO3 := Aside0.mk (HOA.out.grown hg HNE.out); have HB3 : Aside0 (Below base w0 w3) := ⟨HBA.out.grown hg hsz (fun j hj => by injection hj with hj; omega)⟩; clear hf hg hf3 hr3 e5 e6 hc3)
    | (at_builtin; go_loud (refine appendRead (w0 := w0) base rfl (.tmp 10) (.tmp 12) 25 5 .u8 1 rfl Tryd.underlying25 infoU8 (by decide) v xs (some ⟨w.heap.size, 0, none⟩) L 10 (varL x) rfl rfl HO3.out HB3.out ?hb HR3.out ?hl ?_); (case hb => exact HS3.out); go_loud ((case hl => rw [HN.out]; omega)); intro v5 w5 ho hb hg; have HO5 := Aside0.mk ho; have HB5 := Aside0.mk hb; clear ho hb hg))
  go_ret
  exact ⟨_, rfl, HO5.out, HB5.out⟩
end Go.Proofs.YtoopljlbiifmfaaDoor.Max

/-! Indexes in runs behind their width: the methods that write them. -/
namespace Go.Proofs.YtoopljlbiifmfaaDoor.Dic
open Go.Proofs.YtoopljlbiifmfaaDoor.Max Go.Proofs.YtoopljlbiifmfaaDoor.Len Go.Proofs.YtoopljlbiifmfaaDoor.Lie Go.Proofs.YtoopljlbiifmfaaDoor.Ene Go.Proofs.YtoopljlbiifmfaaDoor.Rlx Go.Proofs.YtoopljlbiifmfaaDoor.End Go.Proofs.YtoopljlbiifmfaaDoor.Enc Go.Proofs.YtoopljlbiifmfaaDoor.Enb Go.Proofs.YtoopljlbiifmfaaDoor.Ena Go.Proofs.YtoopljlbiifmfaaDoor.Dec Go.Proofs.YtoopljlbiifmfaaDoor.Uva Go.Proofs.YtoopljlbiifmfaaDoor.Rle Go.Proofs.YtoopljlbiifmfaaDoor.Run Go.Proofs.YtoopljlbiifmfaaDoor.Rlp Go.Proofs.YtoopljlbiifmfaaDoor.Rlb Go.Proofs.YtoopljlbiifmfaaDoor.Buf Go.Proofs.YtoopljlbiifmfaaDoor.Fit Go.Proofs.YtoopljlbiifmfaaDoor.Bit Go.Proofs.YtoopljlbiifmfaaDoor.Wrd Go.Proofs.YtoopljlbiifmfaaDoor.Spl Go.Proofs.YtoopljlbiifmfaaDoor.Str Go.Proofs.YtoopljlbiifmfaaDoor.Flt Go.Proofs.YtoopljlbiifmfaaDoor.Owe Go.Proofs.YtoopljlbiifmfaaDoor.Num Go.Proofs.YtoopljlbiifmfaaDoor.Le Go.Proofs.YtoopljlbiifmfaaDoor.Lst Go.Proofs.YtoopljlbiifmfaaDoor.Aid Go.RowKit Go.Proofs.YtoopljlbiifmfaaDoorW.PrintWords Go.Proofs.YtoopljlbiifmfaaDoorW.PrintLast Go.Proofs.YtoopljlbiifmfaaDoorW.PrintMore
set_option linter.unusedVariables false
set_option linter.unusedSimpArgs false
theorem hyb_zero (n : Nat) : hyb 0 [R.rep 0 n] = varL (2 * n) := by
  simp [hyb, R.bytes, lowL]
theorem fit_zero {l : List Int} (h : fitL 0 (wideL 32 l)) (hwf : ∀ x ∈ l, (Lit.int .i32 x).wf = true) : ∀ x ∈ l, x = 0 := by
  intro x hx
  have h1 := h (wideI 32 x) (by unfold wideL; exact List.mem_map_of_mem hx)
  have h2 : wideI 32 x = x % 4294967296 := rfl
  have h3 := hwf x hx
  rw [h2] at h1
  simp [Lit.wf, IntKind.min, IntKind.max, IntKind.signed, IntKind.bits] at h3
  simp at h1
  omega
theorem wide_zero {l : List Int} (h : ∀ x ∈ l, x = 0) : wideL 32 l = List.replicate l.length 0 := by
  unfold wideL
  rw [List.eq_replicate_iff]
  refine ⟨by simp, fun b hb => ?_⟩
  obtain ⟨y, hy, rfl⟩ := List.mem_map.1 hb
  rw [h y hy]; rfl
set_option maxHeartbeats 4000000 in
theorem encodeInt32Z_calls (w0 : World) (A : Option Addr) (n c : Nat) (v : Value) (xs l : List Int) (w : World) (hO : Own w w0.heap.size 5 .u8 v xs) (hB : Below w0.heap.size w0 w) (hC : (Kd.int .i32).C w0 A n l) (hc : n ≤ c) (hn : n ≤ 100000) (hx : xs.length ≤ 16) (hz : ∀ x ∈ l, x = 0) :
    Calls Tryd.prog 74 #[v, .slice A n c, .int .u64 0] w fun e w' => ∃ v1, e = .returned (.tuple #[v1, .nilIface]) ∧ Own w' w0.heap.size 5 .u8 v1 (xs ++ varL (2 * n)) ∧ Below w0.heap.size w0 w' := by
  have HLN : l.length = n := hC.1
  have HZ := Aside0.mk (isZero32_calls A n c l w (Kd.C_below hC hB) hc (by omega) (fun p hp => by
    rw [rd_nat _ _ (by omega)]; exact hz _ (List.getElem_mem _)))
  have HU := Aside0.mk (appendUvarint_calls w0 w0.heap.size v xs (2 * n) w hO hB hB.size (by omega) (by omega))
  rw [show ((2 * n : Nat) : Int) = (n : Int) * 2 by omega] at HU
  have hw : IntKind.u64.wrap (n : Int) = (n : Int) := IntWalk.u64_in _ (by omega)
  clear hO hB hC hz HLN
  go_enter Tryd.func74, Tryd.ntmps74
  go_wp2_with (first
    | (go_at_call 105; go_loud (with_reducible refine HZ.out.mono ?_); rintro e w2 ⟨rfl, rfl⟩)
    | (go_at_call 89; go_loud (with_reducible refine HU.out.mono ?_); rintro e w3 ⟨v1, rfl, ho, hb⟩; have HO3 := Aside0.mk ho; have HB3 := Aside0.mk hb; clear ho hb))
  go_ret2
  exact ⟨_, rfl, HO3.out, HB3.out⟩
/-- runs of so many bits, none too: then all are one run of zeros -/
theorem encodeInt32A_calls (w0 : World) (A : Option Addr) (n c : Nat) (b : Nat) (v : Value) (xs l : List Int) (w : World) (hO : Own w w0.heap.size 5 .u8 v xs) (hB : Below w0.heap.size w0 w) (hC : (Kd.int .i32).C w0 A n l) (hc : n ≤ c) (hn : n ≤ 100000) (hn0 : 0 < n) (hx : xs.length ≤ 16) (hw8 : b ≤ 32) (hu : fitL b (wideL 32 l)) (hwf : ∀ x ∈ l, (Lit.int .i32 x).wf = true) :
    Calls Tryd.prog 74 #[v, .slice A n c, .int .u64 b] w fun e w' => ∃ v1 rs, e = .returned (.tuple #[v1, .nilIface]) ∧ Own w' w0.heap.size 5 .u8 v1 (xs ++ hyb b rs) ∧ hybV rs = wideL 32 l ∧ hybOk b rs ∧ (b = 0 → rs = [R.rep 0 n]) ∧ Below w0.heap.size w0 w' := by
  by_cases h0 : b = 0
  · subst h0
    have hz := fit_zero hu hwf
    refine (encodeInt32Z_calls w0 A n c v xs l w hO hB hC hc hn hx hz).mono ?_
    rintro e w' ⟨v1, rfl, ho, hb⟩
    refine ⟨v1, [R.rep 0 n], rfl, by rw [hyb_zero]; exact ho, ?_, ?_, fun _ => rfl, hb⟩
    · rw [wide_zero hz, hC.1]; simp [hybV, R.vals]
    · intro r hr
      rw [List.mem_singleton] at hr
      subst hr
      exact ⟨by omega, by decide⟩
  · refine (encodeInt32_calls w0 A n c b v xs l w hO hB hC hc hn hx (by omega) hw8 hu hwf).mono ?_
    rintro e w' ⟨v1, rs, rfl, ho, hv, hk, hb⟩
    exact ⟨v1, rs, rfl, ho, hv, hk, fun h => absurd h h0, hb⟩
set_option maxHeartbeats 4000000 in
theorem diWrapE_calls (p : Value) (w : World) :
    Calls Tryd.prog 72 #[p, .nilIface] w fun e w' => e = .returned .nilIface ∧ w = w' := by
  go_enter Tryd.func72, Tryd.ntmps72
  go_wp2_with (fail)
  go_ret
  exact ⟨rfl, rfl⟩
set_option maxHeartbeats 4000000 in
theorem diEnc32_calls (p : Option Addr) (A : Option Addr) (N c : Nat) (l : List Int) (w0 : World) (hC : (Kd.int .i32).C w0 A N l) (hc : N ≤ c) (hn : N ≤ 100000) (hn0 : 0 < N) (hwf : ∀ x ∈ l, (Lit.int .i32 x).wf = true) :
    Calls Tryd.prog 55 #[.pointer p, .slice none 0 0, .slice A N c] w0 fun e w' => ∃ (v : Value) (b : Nat) (rs : List R), e = .returned (.tuple #[v, .nilIface]) ∧ b ≤ 32 ∧ Own w' w0.heap.size 5 .u8 v ((b : Int) :: hyb b rs) ∧ hybV rs = wideL 32 l ∧ hybOk b rs ∧ (b = 0 → rs = [R.rep 0 N]) ∧ Below w0.heap.size w0 w' := by
  have HC := Aside0.mk hC
  have HWF := Aside0.mk hwf
  have HML := Aside0.mk (maxLen_calls A N c l w0 hC hc (by omega))
  obtain ⟨i8, h8⟩ := h8
  obtain ⟨cutz, _⟩ := cutHi (P := Tryd.prog) 25 5 Tryd.underlying25 h8.1 none 0 0 .i64 0 0 rfl (by omega) (by omega)
  clear hC hwf
  go_enter Tryd.func55, Tryd.ntmps55
  go_wp2_with (first
    | (go_at_call 79; go_loud (with_reducible refine HML.out.mono ?_); rintro e w2 ⟨b, rfl, hb32, hfit, rfl⟩; have HFT := Aside0.mk hfit; clear hfit; have qb8 : IntKind.u8.wrap (b : Int) = (b : Int) := (by rw [IntKind.wrap_u8]; omega); have qb64 : IntKind.u64.wrap (b : Int) = (b : Int) := IntWalk.u64_in _ (by omega); have HOA : Aside0 (Own (w0.alloc (.cells #[.int .u8 (b : Int)] 5)) w0.heap.size 5 .u8 (.slice none 0 0) []) := ⟨Own.nil _ _ _ _⟩; have HBA : Aside0 (Below w0.heap.size w0 (w0.alloc (.cells #[.int .u8 (b : Int)] 5))) := ⟨(Below.refl _ _).alloc (Nat.le_refl _) _⟩; have HCA : Aside0 ((Kd.int .u8).C (w0.alloc (.cells #[.int .u8 (b : Int)] 5)) (some ⟨w0.heap.size, 0, none⟩) 1 [(b : Int)]) := ⟨rowC (t := 5) ⟨Blk.new _ _ _⟩ rfl (by omega)⟩)
    | (at_builtin; go_loud (refine appendRead (w0 := w0) w0.heap.size rfl (.tmp 13) (.tmp 16) 25 5 .u8 1 rfl Tryd.underlying25 infoU8 (by decide) (.slice none 0 0) [] (some ⟨w0.heap.size, 0, none⟩) 1 1 [(b : Int)] rfl rfl HOA.out HBA.out ?hb HCA.out ?hl ?_); (case hb => exact HBA.out.size); (case hl => simp); intro v5 w5 ho hb hg; rw [List.nil_append] at ho; have HO5 := Aside0.mk ho; have HB5 := Aside0.mk hb; have HCALL := Aside0.mk (encodeInt32A_calls w0 A N c b v5 [(b : Int)] l w5 ho hb HC.out hc hn hn0 (by simp) hb32 HFT.out HWF.out); clear ho hb hg)
    | (go_at_call 74; go_loud (with_reducible refine HCALL.out.mono ?_); rintro e w6 ⟨v6, rs, rfl, ho, hv, hk, hz, hb⟩; have HO6 := Aside0.mk ho; have HV6 := Aside0.mk hv; have HK6 := Aside0.mk hk; have HZ6 := Aside0.mk hz; have HB6 := Aside0.mk hb; clear ho hv hk hz hb)
    | (go_at_call 72; (with_reducible refine (diWrapE_calls _ _).mono ?_); rintro e w7 ⟨rfl, rfl⟩))
  go_ret2
  exact ⟨v6, b, rs, rfl, hb32, HO6.out, HV6.out, HK6.out, HZ6.out, HB6.out⟩
set_option maxHeartbeats 4000000 in
theorem encodeInt32sDi_calls (A : Option Addr) (N c : Nat) (l : List Int) (w0 : World) (hC : (Kd.int .i32).C w0 A N l) (hc : N ≤ c) (hn : N ≤ 100000) (hn0 : 0 < N) (hwf : ∀ x ∈ l, (Lit.int .i32 x).wf = true) :
    Calls Tryd.prog 32 #[.string ⟨#[114, 108, 101, 100, 105, 99, 116]⟩, .int .i64 0, .slice A N c] w0 fun e w' => ∃ (v : Value) (b : Nat) (rs : List R), e = .returned (.tuple #[v, .bool true]) ∧ b ≤ 32 ∧ Own w' w0.heap.size 5 .u8 v ((b : Int) :: hyb b rs) ∧ hybV rs = wideL 32 l ∧ hybOk b rs ∧ (b = 0 → rs = [R.rep 0 N]) ∧ Below w0.heap.size w0 w' := by
  have HLN : Aside0 (l.length = N) := ⟨hC.1⟩
  have HWF := Aside0.mk hwf
  have HC2 : Aside0 ((Kd.int .i32).C (w0.alloc (.cells #[] 21)) A N l) := ⟨Kd.C_alloc hC _⟩
  have HE := Aside0.mk (Own.empty w0 w0.heap.size 21 .i32 (Nat.le_refl _))
  have HEB : Aside0 (Below w0.heap.size w0 (w0.alloc (.cells #[] 21))) := ⟨(Below.refl _ _).alloc (Nat.le_refl _) _⟩
  clear hC hwf
  go_enter Tryd.func32, Tryd.ntmps32
  go_wp2_with (first
    | (at_builtin; go_loud (refine appendRead (w0 := w0) w0.heap.size rfl (.tmp 11) (.tmp 12) 43 21 .i32 4 rfl Tryd.underlying43 infoI32e (by decide) _ [] A N c l rfl rfl HE.out HEB.out ?hb HC2.out ?hl ?_); (case hb => exact HEB.out.size); (case hl => simp; omega); intro v1 w1 ho hb hg; rw [List.nil_append] at ho; obtain ⟨A1, c1, rfl, hc1, hr1⟩ := ho.read; rw [HLN.out] at hc1 hr1; rw [HLN.out]; have HR1 := Aside0.mk (Kd.C_alloc hr1 (.cells #[] 80)); have HBA : Aside0 (Below w0.heap.size w0 (w1.alloc (.cells #[] 80))) := ⟨hb.alloc hb.size _⟩; clear ho hb hg hr1)
    | (go_at_call 55; go_loud (with_reducible refine (diEnc32_calls _ A1 N c1 l _ HR1.out hc1 hn hn0 HWF.out).mono ?_); rintro e w2 ⟨v2, b, rs, rfl, hb32, ho, hv, hk, hz, hb⟩; have HV2 := Aside0.mk hv; have HK2 := Aside0.mk hk; have HZ2 := Aside0.mk hz; have HB2 := Aside0.mk (HBA.out.trans (hb.mono HBA.out.size)); have HO2 := Aside0.mk (Own.lower ho HBA.out.size); clear ho hb hv hk hz)
    | go_quiet (fail))
  go_ret2
  exact ⟨v2, b, rs, rfl, hb32, HO2.out.drewN _, HV2.out, HK2.out, HZ2.out, HB2.out.trans ((drewN_below _ _).mono HB2.out.size)⟩
end Go.Proofs.YtoopljlbiifmfaaDoor.Dic

/-! Indexes written behind their width, and read: the law. -/
namespace Go.Proofs.YtoopljlbiifmfaaDoor.Lxb
open Go.Proofs.YtoopljlbiifmfaaDoor.Pad Go.Proofs.YtoopljlbiifmfaaDoor.Lid Go.Proofs.YtoopljlbiifmfaaDoor.Dei Go.Proofs.YtoopljlbiifmfaaDoor.Uni Go.Proofs.YtoopljlbiifmfaaDoor.Dic Go.Proofs.YtoopljlbiifmfaaDoor.Max Go.Proofs.YtoopljlbiifmfaaDoor.Lie Go.Proofs.YtoopljlbiifmfaaDoor.Ene Go.Proofs.YtoopljlbiifmfaaDoor.Uva Go.Proofs.YtoopljlbiifmfaaDoor.Rlx Go.Proofs.YtoopljlbiifmfaaDoor.Rle Go.Proofs.YtoopljlbiifmfaaDoor.Run Go.Proofs.YtoopljlbiifmfaaDoor.Rlp Go.Proofs.YtoopljlbiifmfaaDoor.Rlb Go.Proofs.YtoopljlbiifmfaaDoor.Buf Go.Proofs.YtoopljlbiifmfaaDoor.Fit Go.Proofs.YtoopljlbiifmfaaDoor.Bit Go.Proofs.YtoopljlbiifmfaaDoor.Wrd Go.Proofs.YtoopljlbiifmfaaDoor.Spl Go.Proofs.YtoopljlbiifmfaaDoor.Str Go.Proofs.YtoopljlbiifmfaaDoor.Flt Go.Proofs.YtoopljlbiifmfaaDoor.Owe Go.Proofs.YtoopljlbiifmfaaDoor.Num Go.Proofs.YtoopljlbiifmfaaDoor.Le Go.Proofs.YtoopljlbiifmfaaDoor.Lst Go.Proofs.YtoopljlbiifmfaaDoor.Aid Go.RowKit Go.Proofs.YtoopljlbiifmfaaDoorW.PrintWords Go.Proofs.YtoopljlbiifmfaaDoorW.PrintLast Go.Proofs.YtoopljlbiifmfaaDoorW.PrintMore
set_option linter.unusedVariables false
set_option linter.unusedSimpArgs false
theorem rep_or {b N : Nat} {rs : List R} (h : b = 0 → rs = [R.rep 0 N]) : 1 ≤ b ∨ ∀ r ∈ rs, ∃ v k, r = R.rep v k := by
  by_cases h0 : b = 0
  · refine .inr fun r hr => ?_
    rw [h h0, List.mem_singleton] at hr
    exact ⟨_, _, hr⟩
  · exact .inl (by omega)
theorem i32L_wf (l : List Int) : ∀ x ∈ i32L l, (Lit.int .i32 x).wf = true := by
  intro x hx
  simp only [i32L, List.mem_map] at hx
  obtain ⟨y, _, rfl⟩ := hx
  rw [IntKind.wrap_i32]
  simp [Lit.wf, IntKind.min, IntKind.max, IntKind.signed, IntKind.bits]
  omega
theorem wideI_eq (x : Int) : wideI 32 x = x % 4294967296 := rfl
theorem wide_i32L (l : List Int) : wideL 32 (i32L (wideL 32 l)) = wideL 32 l := by
  unfold wideL i32L
  rw [List.map_map, List.map_map]
  refine List.map_congr_left fun x _ => ?_
  show wideI 32 (IntKind.i32.wrap (wideI 32 x)) = wideI 32 x
  rw [wideI_eq, wideI_eq]
  have : IntKind.i32.wrap (x % 4294967296) % 4294967296 = x % 4294967296 := by
    rw [IntKind.wrap_i32]; omega
  exact this
set_option maxHeartbeats 8000000 in
set_option maxRecDepth 100000 in
theorem indexBothLaw (a1 : Option Addr) (len1 cap1 : Nat) (z1 : List Int) (W : World) (w1 : IsRow .i32 W a1 len1 cap1 z1) (y1 : len1 * 4 ≤ 140737488351232) :
    Calls Tryd.prog 9 #[.slice a1 len1 cap1] W fun e w' => e = .returned (.bool true) ∧ Below W.heap.size W w' := by
  obtain ⟨l, hlen, hc, hC, hwf⟩ := isRow_open w1
  have HLN := Aside0.mk hlen
  have HC := Aside0.mk hC
  have HWF := Aside0.mk hwf
  clear w1 hC hwf hlen
  by_cases h1 : 100000 < len1
  · have q3 : decide (100000 < (len1 : Int)) = true := decide_eq_true (by omega)
    have q0 : ((len1 : Int) == 0) = false := by rw [beq_eq_false_iff_ne]; omega
    by_cases h2 : 2147483647 < len1
    · have q1 : decide (2147483647 < (len1 : Int)) = true := decide_eq_true (by omega)
      go_enter Tryd.func9, Tryd.ntmps9
      go_wp2
      go_ret
      exact ⟨rfl, Below.refl _ _⟩
    · have q1 : decide (2147483647 < (len1 : Int)) = false := decide_eq_false (by omega)
      go_enter Tryd.func9, Tryd.ntmps9
      go_wp2
      go_ret
      exact ⟨rfl, Below.refl _ _⟩
  have q1 : decide (2147483647 < (len1 : Int)) = false := decide_eq_false (by omega)
  by_cases h0 : len1 = 0
  · have q0 : ((len1 : Int) == 0) = true := by rw [beq_iff_eq]; omega
    go_enter Tryd.func9, Tryd.ntmps9
    go_wp2
    go_ret
    exact ⟨rfl, Below.refl _ _⟩
  have q0 : ((len1 : Int) == 0) = false := by rw [beq_eq_false_iff_ne]; omega
  have q3 : decide (100000 < (len1 : Int)) = false := decide_eq_false (by omega)
  have hn9 : len1 ≤ 100000 := by omega
  have hn0 : 0 < len1 := by omega
  obtain ⟨wl, hwl⟩ : ∃ wl, wideL 32 l = wl := ⟨_, rfl⟩
  have HWN : Aside0 (wl.length = len1) := ⟨by rw [← hwl]; unfold wideL; rw [List.length_map, HLN.out]⟩
  have HWI : Aside0 (∀ W1 : World, Below W.heap.size W W1 → Calls Tryd.prog 33 #[.int .i64 32, .slice a1 len1 cap1] W1 fun e w' => ∃ v, e = .returned v ∧ Own w' W1.heap.size 32 .u64 v wl ∧ Below W1.heap.size W1 w') := ⟨fun W1 hb => by
    have := wide_int32_calls a1 len1 cap1 l W1 (Kd.C_below HC.out hb) hc (by omega) HWF.out
    rw [hwl] at this
    exact this⟩
  have HWJ : Aside0 (∀ (A : Option Addr) (c : Nat) (W1 : World), (Kd.int .i32).C W1 A len1 (i32L wl) → len1 ≤ c → Calls Tryd.prog 33 #[.int .i64 32, .slice A len1 c] W1 fun e w' => ∃ v, e = .returned v ∧ Own w' W1.heap.size 32 .u64 v wl ∧ Below W1.heap.size W1 w') := ⟨fun A c W1 hA hcA => by
    have := wide_int32_calls A len1 c (i32L wl) W1 hA hcA (by omega) (i32L_wf wl)
    rw [← hwl, wide_i32L, hwl] at this
    exact this⟩
  have HENC := Aside0.mk (encodeInt32sDi_calls a1 len1 cap1 l W HC.out hc hn9 hn0 HWF.out)
  rw [hwl] at HENC
  obtain ⟨i8, h8⟩ := h8
  clear hwl h0 h1
  go_enter Tryd.func9, Tryd.ntmps9
  go_wp2_with (fail)
  go_loopg [4, 22] len1 (fun kq v4 v22 w' => ∃ (j : Nat), j ≤ len1 ∧ v22 = .int .i64 j ∧ W = w' ∧ Aside0 (len1 - j ≤ kq))
  case atStart => exact ⟨0, by omega, rfl, rfl, ⟨by omega⟩⟩
  case round =>
    obtain ⟨j, hj, rfl, rfl, HK⟩ := hrel
    by_cases cj : j < len1
    · have cjb : decide ((j : Int) < len1) = true := decide_eq_true (by omega)
      obtain ⟨ad, ead, hcell⟩ := Kd.at_int HC.out (j : Int) (by omega) (by omega)
      rw [Int.toNat_natCast] at hcell
      obtain ⟨y, hy⟩ : ∃ y, rd l (j : Int) = y := ⟨_, rfl⟩
      rw [hy] at hcell
      clear hy HENC HWI
      subst ead
      by_cases cy : y < 0
      · have cyb : decide (y < 0) = true := decide_eq_true cy
        go_wp2_with (fail)
        go_ret
        exact ⟨rfl, Below.refl _ _⟩
      · have cyb : decide (y < 0) = false := decide_eq_false cy
        go_wp2_with (fail)
        go_roundg (gk - 1)
        case measure => have := HK.out; omega
        case rel => exact ⟨j + 1, by omega, by go_num, rfl, ⟨by have := HK.out; omega⟩⟩
    · obtain rfl : j = len1 := by omega
      have cjb : decide ((j : Int) < j) = false := decide_eq_false (by omega)
      go_wp2_with (first
        | (go_at_call 32; go_loud (with_reducible refine HENC.out.mono ?_); rintro e w3 ⟨v3, b, rs, rfl, hb32, ho, hv, hk, hz, hb⟩; obtain ⟨X, hX⟩ : ∃ X, hyb b rs = X := ⟨_, rfl⟩; have hN9 : X.length ≤ 900000 := (by rw [← hX]; have := hyb_le b (by omega) rs hk (by rw [hv, HWN.out]; omega); rw [hv, HWN.out] at this; omega); rw [hX] at ho; obtain ⟨A3, c3, rfl, hc3, hr3⟩ := ho.read; rw [List.length_cons] at hc3 hr3; rw [List.length_cons]; obtain ⟨N, hN⟩ : ∃ N, X.length = N := ⟨_, rfl⟩; rw [hN] at hc3 hr3 hN9; rw [hN]; have HB3 := Aside0.mk hb; have HDE := Aside0.mk (decodeInt32sDiA_calls A3 N c3 b X rs w3 hr3 hX.symm hc3 (by omega) (rep_or hz) hb32 hk (by rw [hv, HWN.out]; omega)); rw [hv] at HDE; clear ho hb hr3 hv hk hz hX hN)
        | (go_at_call 29; go_loud (with_reducible refine HDE.out.mono ?_); rintro e w4 ⟨v4, rfl, ho, hb⟩; obtain ⟨A4, c4, rfl, hc4, hr4⟩ := ho.read; rw [i32L_length, HWN.out] at hc4 hr4; rw [i32L_length, HWN.out]; have HR4 := Aside0.mk hr4; have HB4 := Aside0.mk (HB3.out.trans (hb.mono HB3.out.size)); clear ho hb hr4)
        | (go_at_call 33; (first
          | ((with_reducible refine (HWJ.out A4 c4 w4 HR4.out hc4).mono ?_); rintro e w5 ⟨v5, rfl, ho, hb⟩; obtain ⟨A5, c5, rfl, hc5, hr5⟩ := ho.read; rw [HWN.out] at hc5 hr5; rw [HWN.out]; have HR5 := Aside0.mk hr5; have HB5 := Aside0.mk (HB4.out.trans (hb.mono HB4.out.size)); clear ho hb hr5)
          | ((with_reducible refine (HWI.out w5 HB5.out).mono ?_); rintro e w6 ⟨v6, rfl, ho, hb⟩; obtain ⟨A6, c6, rfl, hc6, hr6⟩ := ho.read; rw [HWN.out] at hc6 hr6; rw [HWN.out]; have HR6 := Aside0.mk hr6; have HR56 := Aside0.mk (Kd.C_below HR5.out hb); have HB6 := Aside0.mk (HB5.out.trans (hb.mono HB5.out.size)); clear ho hb hr6)))
        | (go_at_call 27; go_loud (with_reducible refine (padded_calls A5 A6 j c5 c6 wl w6 HR56.out HR6.out hc5 (by omega)).mono ?_); rintro e w7 ⟨rfl, hd⟩; have HB7 := Aside0.mk (below_drawn HB6.out hd); clear hd))
      go_ret
      exact ⟨rfl, HB7.out⟩
end Go.Proofs.YtoopljlbiifmfaaDoor.Lxb
