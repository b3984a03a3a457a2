import Derived.Test.YtoopljlbiifmfaaEnc
/-! Numbers of 32 bits in runs: the encoder. -/
namespace Go.Proofs.Ytoopljlbiifmfaa.End
open Go.Proofs.Ytoopljlbiifmfaa.Enc Go.Proofs.Ytoopljlbiifmfaa.Enb Go.Proofs.Ytoopljlbiifmfaa.Ena Go.Proofs.Ytoopljlbiifmfaa.Dec Go.Proofs.Ytoopljlbiifmfaa.Uva Go.Proofs.Ytoopljlbiifmfaa.Rle Go.Proofs.Ytoopljlbiifmfaa.Run Go.Proofs.Ytoopljlbiifmfaa.Rlp Go.Proofs.Ytoopljlbiifmfaa.Rlb Go.Proofs.Ytoopljlbiifmfaa.Buf Go.Proofs.Ytoopljlbiifmfaa.Fit Go.Proofs.Ytoopljlbiifmfaa.Bit Go.Proofs.Ytoopljlbiifmfaa.Wrd Go.Proofs.Ytoopljlbiifmfaa.Spl Go.Proofs.Ytoopljlbiifmfaa.Str Go.Proofs.Ytoopljlbiifmfaa.Flt Go.Proofs.Ytoopljlbiifmfaa.Owe Go.Proofs.Ytoopljlbiifmfaa.Num Go.Proofs.Ytoopljlbiifmfaa.Le Go.Proofs.Ytoopljlbiifmfaa.Lst Go.Proofs.Ytoopljlbiifmfaa.Aid Go.RowKit Go.Proofs.YtoopljlbiifmfaaW.PrintWords Go.Proofs.YtoopljlbiifmfaaW.PrintLast Go.Proofs.YtoopljlbiifmfaaW.PrintMore
set_option linter.unusedVariables false
set_option linter.unusedSimpArgs false
def ag8 (a0 a1 a2 a3 a4 a5 a6 a7 : Int) : Value := .agg #[.int .i32 a0, .int .i32 a1, .int .i32 a2, .int .i32 a3, .int .i32 a4, .int .i32 a5, .int .i32 a6, .int .i32 a7]
set_option maxHeartbeats 4000000 in
theorem eq8 (w : World) (d : Nat) (a0 a1 a2 a3 a4 a5 a6 a7 b0 b1 b2 b3 b4 b5 b6 b7 : Int) : (Op.equalIn (d + 2) 84 (ag8 a0 a1 a2 a3 a4 a5 a6 a7) (ag8 b0 b1 b2 b3 b4 b5 b6 b7)).run Try.prog w = .ok (a0 == b0 && (a1 == b1 && (a2 == b2 && (a3 == b3 && (a4 == b4 && (a5 == b5 && (a6 == b6 && a7 == b7))))))) w := by
  have hel : ∀ (w : World) d x y, (Op.equalIn (d+1) 21 (.int .i32 x) (.int .i32 y)).run Try.prog w = .ok (x == y) w := fun w d x y => by
    rw [run_equalIn_int w d 21 .i32 .i32 x y Try.underlying21]
  have hs : ∀ w : World, (sizeOf 21).run Try.prog w = .ok 1 w := fun w => by
    obtain ⟨i, hi, hz⟩ := Option.map_eq_some_iff.1 (show (Try.prog.info? 21).map (fun i => i.size) = some 1 by kernel_rfl)
    simp [sizeOf, typeInfo, hi, hz]
  have hp : ∀ (xs : Array Value) (off : Nat) v, xs[off]? = some v → ∀ w : World, (part 21 xs off).run Try.prog w = .ok v w := fun xs off v hx w => by
    simp [part, isAgg, run_underlying Try.underlying21, hx]
  have p0 := hp #[.int .i32 a0, .int .i32 a1, .int .i32 a2, .int .i32 a3, .int .i32 a4, .int .i32 a5, .int .i32 a6, .int .i32 a7] 0 (.int .i32 a0) rfl
  have q0 := hp #[.int .i32 b0, .int .i32 b1, .int .i32 b2, .int .i32 b3, .int .i32 b4, .int .i32 b5, .int .i32 b6, .int .i32 b7] 0 (.int .i32 b0) rfl
  have p1 := hp #[.int .i32 a0, .int .i32 a1, .int .i32 a2, .int .i32 a3, .int .i32 a4, .int .i32 a5, .int .i32 a6, .int .i32 a7] 1 (.int .i32 a1) rfl
  have q1 := hp #[.int .i32 b0, .int .i32 b1, .int .i32 b2, .int .i32 b3, .int .i32 b4, .int .i32 b5, .int .i32 b6, .int .i32 b7] 1 (.int .i32 b1) rfl
  have p2 := hp #[.int .i32 a0, .int .i32 a1, .int .i32 a2, .int .i32 a3, .int .i32 a4, .int .i32 a5, .int .i32 a6, .int .i32 a7] 2 (.int .i32 a2) rfl
  have q2 := hp #[.int .i32 b0, .int .i32 b1, .int .i32 b2, .int .i32 b3, .int .i32 b4, .int .i32 b5, .int .i32 b6, .int .i32 b7] 2 (.int .i32 b2) rfl
  have p3 := hp #[.int .i32 a0, .int .i32 a1, .int .i32 a2, .int .i32 a3, .int .i32 a4, .int .i32 a5, .int .i32 a6, .int .i32 a7] 3 (.int .i32 a3) rfl
  have q3 := hp #[.int .i32 b0, .int .i32 b1, .int .i32 b2, .int .i32 b3, .int .i32 b4, .int .i32 b5, .int .i32 b6, .int .i32 b7] 3 (.int .i32 b3) rfl
  have p4 := hp #[.int .i32 a0, .int .i32 a1, .int .i32 a2, .int .i32 a3, .int .i32 a4, .int .i32 a5, .int .i32 a6, .int .i32 a7] 4 (.int .i32 a4) rfl
  have q4 := hp #[.int .i32 b0, .int .i32 b1, .int .i32 b2, .int .i32 b3, .int .i32 b4, .int .i32 b5, .int .i32 b6, .int .i32 b7] 4 (.int .i32 b4) rfl
  have p5 := hp #[.int .i32 a0, .int .i32 a1, .int .i32 a2, .int .i32 a3, .int .i32 a4, .int .i32 a5, .int .i32 a6, .int .i32 a7] 5 (.int .i32 a5) rfl
  have q5 := hp #[.int .i32 b0, .int .i32 b1, .int .i32 b2, .int .i32 b3, .int .i32 b4, .int .i32 b5, .int .i32 b6, .int .i32 b7] 5 (.int .i32 b5) rfl
  have p6 := hp #[.int .i32 a0, .int .i32 a1, .int .i32 a2, .int .i32 a3, .int .i32 a4, .int .i32 a5, .int .i32 a6, .int .i32 a7] 6 (.int .i32 a6) rfl
  have q6 := hp #[.int .i32 b0, .int .i32 b1, .int .i32 b2, .int .i32 b3, .int .i32 b4, .int .i32 b5, .int .i32 b6, .int .i32 b7] 6 (.int .i32 b6) rfl
  have p7 := hp #[.int .i32 a0, .int .i32 a1, .int .i32 a2, .int .i32 a3, .int .i32 a4, .int .i32 a5, .int .i32 a6, .int .i32 a7] 7 (.int .i32 a7) rfl
  have q7 := hp #[.int .i32 b0, .int .i32 b1, .int .i32 b2, .int .i32 b3, .int .i32 b4, .int .i32 b5, .int .i32 b6, .int .i32 b7] 7 (.int .i32 b7) rfl
  clear hp
  unfold ag8
  rw [Op.equalIn]
  simp only [Sem.run_bind, run_underlying Try.underlying84, Result.andThen_ok, hs, Std.Legacy.Range.forIn_eq_forIn_range', Std.Legacy.Range.size, Nat.sub_zero, Nat.add_one_sub_one, Nat.div_one]
  simp only [List.range'_succ, List.range'_zero, List.forIn_cons, List.forIn_nil, Sem.run_bind, Result.andThen_ok, Nat.mul_one, Nat.zero_add, Nat.reduceAdd, hel, p0, q0]
  rcases Decidable.em (a0 = b0) with h0 | h0
  case inr => simp [h0, Sem.run_bind, hel, p0, q0, p1, q1, p2, q2, p3, q3, p4, q4, p5, q5, p6, q6, p7, q7]
  subst h0
  rcases Decidable.em (a1 = b1) with h1 | h1
  case inr => simp [h1, Sem.run_bind, hel, p0, q0, p1, q1, p2, q2, p3, q3, p4, q4, p5, q5, p6, q6, p7, q7]
  subst h1
  rcases Decidable.em (a2 = b2) with h2 | h2
  case inr => simp [h2, Sem.run_bind, hel, p0, q0, p1, q1, p2, q2, p3, q3, p4, q4, p5, q5, p6, q6, p7, q7]
  subst h2
  rcases Decidable.em (a3 = b3) with h3 | h3
  case inr => simp [h3, Sem.run_bind, hel, p0, q0, p1, q1, p2, q2, p3, q3, p4, q4, p5, q5, p6, q6, p7, q7]
  subst h3
  rcases Decidable.em (a4 = b4) with h4 | h4
  case inr => simp [h4, Sem.run_bind, hel, p0, q0, p1, q1, p2, q2, p3, q3, p4, q4, p5, q5, p6, q6, p7, q7]
  subst h4
  rcases Decidable.em (a5 = b5) with h5 | h5
  case inr => simp [h5, Sem.run_bind, hel, p0, q0, p1, q1, p2, q2, p3, q3, p4, q4, p5, q5, p6, q6, p7, q7]
  subst h5
  rcases Decidable.em (a6 = b6) with h6 | h6
  case inr => simp [h6, Sem.run_bind, hel, p0, q0, p1, q1, p2, q2, p3, q3, p4, q4, p5, q5, p6, q6, p7, q7]
  subst h6
  rcases Decidable.em (a7 = b7) with h7 | h7
  case inr => simp [h7, Sem.run_bind, hel, p0, q0, p1, q1, p2, q2, p3, q3, p4, q4, p5, q5, p6, q6, p7, q7]
  subst h7
  simp [Sem.run_bind, hel, p0, q0, p1, q1, p2, q2, p3, q3, p4, q4, p5, q5, p6, q6, p7, q7]
theorem eql8 (a0 a1 a2 a3 a4 a5 a6 a7 b0 b1 b2 b3 b4 b5 b6 b7 : Int) (w : World) : (binOp .eql 84 (.agg #[.int .i32 a0, .int .i32 a1, .int .i32 a2, .int .i32 a3, .int .i32 a4, .int .i32 a5, .int .i32 a6, .int .i32 a7]) (.agg #[.int .i32 b0, .int .i32 b1, .int .i32 b2, .int .i32 b3, .int .i32 b4, .int .i32 b5, .int .i32 b6, .int .i32 b7])).run Try.prog w = .ok (.bool (a0 == b0 && (a1 == b1 && (a2 == b2 && (a3 == b3 && (a4 == b4 && (a5 == b5 && (a6 == b6 && a7 == b7)))))))) w := by
  rw [run_eql_struct]
  have := eq8 w 9998 a0 a1 a2 a3 a4 a5 a6 a7 b0 b1 b2 b3 b4 b5 b6 b7
  unfold ag8 at this
  rw [this]; rfl
theorem neq8 (a0 a1 a2 a3 a4 a5 a6 a7 b0 b1 b2 b3 b4 b5 b6 b7 : Int) : ∃ B : Bool, ∀ w : World, (binOp .neq 84 (.agg #[.int .i32 a0, .int .i32 a1, .int .i32 a2, .int .i32 a3, .int .i32 a4, .int .i32 a5, .int .i32 a6, .int .i32 a7]) (.agg #[.int .i32 b0, .int .i32 b1, .int .i32 b2, .int .i32 b3, .int .i32 b4, .int .i32 b5, .int .i32 b6, .int .i32 b7])).run Try.prog w = .ok (.bool B) w := by
  refine ⟨!(a0 == b0 && (a1 == b1 && (a2 == b2 && (a3 == b3 && (a4 == b4 && (a5 == b5 && (a6 == b6 && a7 == b7))))))), fun w => ?_⟩
  rw [run_neq_struct]
  have := eq8 w 9998 a0 a1 a2 a3 a4 a5 a6 a7 b0 b1 b2 b3 b4 b5 b6 b7
  unfold ag8 at this
  rw [this]; rfl
/-- the eight cells of a word -/
def At8 (w : World) (a : Addr) (y : Nat → Int) : Prop := w.cell? a = some (.int .i32 (y 0)) ∧ w.cell? ⟨a.block, a.off + 1, none⟩ = some (.int .i32 (y 1)) ∧ w.cell? ⟨a.block, a.off + 2, none⟩ = some (.int .i32 (y 2)) ∧ w.cell? ⟨a.block, a.off + 3, none⟩ = some (.int .i32 (y 3)) ∧ w.cell? ⟨a.block, a.off + 4, none⟩ = some (.int .i32 (y 4)) ∧ w.cell? ⟨a.block, a.off + 5, none⟩ = some (.int .i32 (y 5)) ∧ w.cell? ⟨a.block, a.off + 6, none⟩ = some (.int .i32 (y 6)) ∧ w.cell? ⟨a.block, a.off + 7, none⟩ = some (.int .i32 (y 7))

set_option maxHeartbeats 8000000 in
set_option maxRecDepth 100000 in
theorem index8_calls (A : Option Addr) (m c : Nat) (l : List Int) (w : World) (hC : (Kd.int .i32).C w A (8 * m) l) (hc : m ≤ c) (hm : m ≤ 100000) :
    Calls Try.prog 49 #[.slice A m c] w fun e w' => ∃ n : Nat, e = .returned (.int .i64 n) ∧ n ≤ m ∧ Below w.heap.size w w' := by
  have HC := Aside0.mk hC
  have HB0 : Aside0 (Below w.heap.size w w) := ⟨Below.refl _ _⟩
  clear hC
  go_enter Try.func49, Try.ntmps49
  go_wp2_with (fail)
  go_loopg [2] m (fun kq v2 w' => ∃ (j : Nat), j ≤ m ∧ v2 = .int .i64 j ∧ Aside0 (Below w.heap.size w w') ∧ Aside0 (m - j ≤ kq))
  case atStart => exact ⟨0, by omega, rfl, HB0, ⟨by omega⟩⟩
  case round =>
    clear HB0
    obtain ⟨j, hj, rfl, HB, HK⟩ := hrel
    have HBd : Aside0 (Below w.heap.size w wr.drew) := ⟨HB.out.drew⟩
    by_cases cj : j < m
    · have cjb : decide ((j : Int) < (m : Int)) = true := decide_eq_true (by omega)
      have qi0 : (0 : Int) ≤ (j : Int) := by omega
      have qi1 : (j : Int) < (m : Int) := by omega
      obtain ⟨ad, ead, _, _⟩ := at8 HC.out j cj
      have HS : Aside0 (∀ W, Below w.heap.size w W → W.cell? (ad.add (j * 8)) = some (.int .i32 (rd l (8 * j : Nat))) ∧ ∀ q, 0 < q → q < 8 → W.cell? ⟨(ad.add (j * 8)).block, (ad.add (j * 8)).off + q, none⟩ = some (.int .i32 (rd l (8 * j + q : Nat)))) := ⟨fun W hW => by
        obtain ⟨ad2, e2, h0, h8⟩ := at8 (Kd.C_below HC.out hW) j cj
        rw [ead] at e2; injection e2 with e2; subst e2
        exact ⟨h0, h8⟩⟩
      obtain ⟨y0, hy0⟩ : ∃ y, rd l (8 * j : Nat) = y := ⟨_, rfl⟩
      obtain ⟨y1, hy1⟩ : ∃ y, rd l (8 * j + 1 : Nat) = y := ⟨_, rfl⟩
      obtain ⟨y2, hy2⟩ : ∃ y, rd l (8 * j + 2 : Nat) = y := ⟨_, rfl⟩
      obtain ⟨y3, hy3⟩ : ∃ y, rd l (8 * j + 3 : Nat) = y := ⟨_, rfl⟩
      obtain ⟨y4, hy4⟩ : ∃ y, rd l (8 * j + 4 : Nat) = y := ⟨_, rfl⟩
      obtain ⟨y5, hy5⟩ : ∃ y, rd l (8 * j + 5 : Nat) = y := ⟨_, rfl⟩
      obtain ⟨y6, hy6⟩ : ∃ y, rd l (8 * j + 6 : Nat) = y := ⟨_, rfl⟩
      obtain ⟨y7, hy7⟩ : ∃ y, rd l (8 * j + 7 : Nat) = y := ⟨_, rfl⟩
      have HS2 : Aside0 (∀ w9, Below w.heap.size w w9 → w9.cell? (ad.add (j * 8)) = some (.int .i32 y0) ∧ w9.cell? ⟨(ad.add (j * 8)).block, (ad.add (j * 8)).off + 1, none⟩ = some (.int .i32 y1) ∧ w9.cell? ⟨(ad.add (j * 8)).block, (ad.add (j * 8)).off + 2, none⟩ = some (.int .i32 y2) ∧ w9.cell? ⟨(ad.add (j * 8)).block, (ad.add (j * 8)).off + 3, none⟩ = some (.int .i32 y3) ∧ w9.cell? ⟨(ad.add (j * 8)).block, (ad.add (j * 8)).off + 4, none⟩ = some (.int .i32 y4) ∧ w9.cell? ⟨(ad.add (j * 8)).block, (ad.add (j * 8)).off + 5, none⟩ = some (.int .i32 y5) ∧ w9.cell? ⟨(ad.add (j * 8)).block, (ad.add (j * 8)).off + 6, none⟩ = some (.int .i32 y6) ∧ w9.cell? ⟨(ad.add (j * 8)).block, (ad.add (j * 8)).off + 7, none⟩ = some (.int .i32 y7)) := ⟨fun W hW => ⟨by rw [← hy0]; exact (HS.out W hW).1, by rw [← hy1]; exact (HS.out W hW).2 1 (by omega) (by omega), by rw [← hy2]; exact (HS.out W hW).2 2 (by omega) (by omega), by rw [← hy3]; exact (HS.out W hW).2 3 (by omega) (by omega), by rw [← hy4]; exact (HS.out W hW).2 4 (by omega) (by omega), by rw [← hy5]; exact (HS.out W hW).2 5 (by omega) (by omega), by rw [← hy6]; exact (HS.out W hW).2 6 (by omega) (by omega), by rw [← hy7]; exact (HS.out W hW).2 7 (by omega) (by omega)⟩⟩
      have HBC := Aside0.mk fun W => broadcast8x4_calls y0 W
      obtain ⟨B, hne⟩ := neq8 y0 y1 y2 y3 y4 y5 y6 y7 y0 y0 y0 y0 y0 y0 y0 y0
      clear HS hy0 hy1 hy2 hy3 hy4 hy5 hy6 hy7
      subst ead
      cases B
      all_goals
        go_wp2_with (fail)
        go_region_held3 (fun (w9 : World) => w9.cell? (ad.add (j * 8)) = some (.int .i32 y0) ∧ w9.cell? ⟨(ad.add (j * 8)).block, (ad.add (j * 8)).off + 1, none⟩ = some (.int .i32 y1) ∧ w9.cell? ⟨(ad.add (j * 8)).block, (ad.add (j * 8)).off + 2, none⟩ = some (.int .i32 y2) ∧ w9.cell? ⟨(ad.add (j * 8)).block, (ad.add (j * 8)).off + 3, none⟩ = some (.int .i32 y3) ∧ w9.cell? ⟨(ad.add (j * 8)).block, (ad.add (j * 8)).off + 4, none⟩ = some (.int .i32 y4) ∧ w9.cell? ⟨(ad.add (j * 8)).block, (ad.add (j * 8)).off + 5, none⟩ = some (.int .i32 y5) ∧ w9.cell? ⟨(ad.add (j * 8)).block, (ad.add (j * 8)).off + 6, none⟩ = some (.int .i32 y6) ∧ w9.cell? ⟨(ad.add (j * 8)).block, (ad.add (j * 8)).off + 7, none⟩ = some (.int .i32 y7))
          (first | exact HS2.out _ HB2.out | exact HS2.out _ HBd.out)
          ((first
            | (go_at_call 47; go_loud (with_reducible refine (HBC.out _).mono ?_); rintro e w2 ⟨rfl, hb⟩; have HB2 := Aside0.mk (HBd.out.trans (hb.mono HBd.out.size)); clear hb)
            | fail "no arm"))
      · go_wp2_with (fail)
        go_ret
        exact ⟨j, rfl, by omega, HB2.out⟩
      · go_wp2_with (fail)
        go_roundg (gk - 1)
        case measure => have := HK.out; omega
        case rel => exact ⟨j + 1, by omega, by go_num, HB2, ⟨by have := HK.out; omega⟩⟩
    · obtain rfl : j = m := by omega
      have cjb : decide ((j : Int) < (j : Int)) = false := decide_eq_false (by omega)
      go_wp2_with (first | (go_quiet (fail)))
      go_ret
      exact ⟨j, rfl, by omega, HB.out.trans ((drewN_below wr _).mono HB.out.size)⟩
end Go.Proofs.Ytoopljlbiifmfaa.End
