import Derived.Test.YtoopljlbiifmfaaFit
/-! Padded: a list against itself. -/
namespace Go.Proofs.Ytoopljlbiifmfaa.Pad
open Go.Proofs.Ytoopljlbiifmfaa.Fit Go.Proofs.Ytoopljlbiifmfaa.Bit Go.Proofs.Ytoopljlbiifmfaa.Wrd Go.Proofs.Ytoopljlbiifmfaa.Spl Go.Proofs.Ytoopljlbiifmfaa.Str Go.Proofs.Ytoopljlbiifmfaa.Flt Go.Proofs.Ytoopljlbiifmfaa.Owe Go.Proofs.Ytoopljlbiifmfaa.Num Go.Proofs.Ytoopljlbiifmfaa.Le Go.Proofs.Ytoopljlbiifmfaa.Lst Go.Proofs.Ytoopljlbiifmfaa.Aid Go.RowKit Go.Proofs.YtoopljlbiifmfaaW.PrintWords Go.Proofs.YtoopljlbiifmfaaW.PrintLast Go.Proofs.YtoopljlbiifmfaaW.PrintMore
set_option linter.unusedVariables false
set_option linter.unusedSimpArgs false
theorem infoU64p : (Try.prog.info? 37).map (fun i => i.size) = some 1 := by kernel_rfl
set_option maxHeartbeats 4000000 in
theorem padded_calls (A0 A1 : Option Addr) (n c0 c1 : Nat) (l : List Int) (w : World) (h0 : (Kd.int .u64).C w A0 n l) (h1 : (Kd.int .u64).C w A1 n l) (hc : n ≤ c0) (hn : n ≤ 2147483647) :
    Calls Try.prog 10 #[.slice A0 n c0, .slice A1 n c1] w fun e w' => e = .returned (.bool true) ∧ Drawn0 w w' := by
  obtain ⟨i64, h64, hs64⟩ := Option.map_eq_some_iff.1 infoU64p
  obtain ⟨cut1, hC1⟩ := cutHi (P := Try.prog) 25 37 Try.underlying25 h64 A0 n c0 .i64 (n : Int) n rfl (Nat.le_refl _) hc
  have h2 := hC1 (Kd.int .u64) w l h0
  rw [← h0.1, List.take_length, h0.1] at h2
  have HF := Aside0.mk (sameNumbers_uint64_calls A0 A1 n c0 c1 l w h2 h1 hn)
  have q1 : decide ((n : Int) < (n : Int)) = false := decide_eq_false (by omega)
  have q2 : decide ((n : Int) + 8 ≤ (n : Int)) = false := decide_eq_false (by omega)
  clear h0 h1 h2 hC1
  go_enter Try.func10, Try.ntmps10
  go_wp2_with (first | (go_at_call 19; (with_reducible refine HF.out.mono ?_); rintro e w' ⟨rfl, ⟨nd, rfl⟩⟩))
  go_ret
  exact ⟨rfl, ⟨nd, rfl⟩⟩
end Go.Proofs.Ytoopljlbiifmfaa.Pad
