import Derived.Test.YtoopljlbiifmfaaGreatDoorFit
/-! Padded: a list against itself. -/
namespace Go.Proofs.YtoopljlbiifmfaaGreatDoor.Pad
open Go.Proofs.YtoopljlbiifmfaaGreatDoor.Fit Go.Proofs.YtoopljlbiifmfaaGreatDoor.Bit Go.Proofs.YtoopljlbiifmfaaGreatDoor.Wrd Go.Proofs.YtoopljlbiifmfaaGreatDoor.Spl Go.Proofs.YtoopljlbiifmfaaGreatDoor.Str Go.Proofs.YtoopljlbiifmfaaGreatDoor.Flt Go.Proofs.YtoopljlbiifmfaaGreatDoor.Owe Go.Proofs.YtoopljlbiifmfaaGreatDoor.Num Go.Proofs.YtoopljlbiifmfaaGreatDoor.Le Go.Proofs.YtoopljlbiifmfaaGreatDoor.Lst Go.Proofs.YtoopljlbiifmfaaGreatDoor.Aid Go.RowKit Go.Proofs.YtoopljlbiifmfaaGreatDoorW.PrintWords Go.Proofs.YtoopljlbiifmfaaGreatDoorW.PrintLast Go.Proofs.YtoopljlbiifmfaaGreatDoorW.PrintMore
set_option linter.unusedVariables false
set_option linter.unusedSimpArgs false
theorem infoU64p : (Tryz.prog.info? 36).map (fun i => i.size) = some 1 := by kernel_rfl
set_option maxHeartbeats 4000000 in
theorem padded_calls (A0 A1 : Option Addr) (n c0 c1 : Nat) (l : List Int) (w : World) (h0 : (Kd.int .u64).C w A0 n l) (h1 : (Kd.int .u64).C w A1 n l) (hc : n ≤ c0) (hn : n ≤ 2147483647) :
    Calls Tryz.prog 10 #[.slice A0 n c0, .slice A1 n c1] w fun e w' => e = .returned (.bool true) ∧ Drawn0 w w' := by
  obtain ⟨i64, h64, hs64⟩ := Option.map_eq_some_iff.1 infoU64p
  obtain ⟨cut1, hC1⟩ := cutHi (P := Tryz.prog) 25 36 Tryz.underlying25 h64 A0 n c0 .i64 (n : Int) n rfl (Nat.le_refl _) hc
  have h2 := hC1 (Kd.int .u64) w l h0
  rw [← h0.1, List.take_length, h0.1] at h2
  have HF := Aside0.mk (sameNumbers_uint64_calls A0 A1 n c0 c1 l w h2 h1 hn)
  have q1 : decide ((n : Int) < (n : Int)) = false := decide_eq_false (by omega)
  have q2 : decide ((n : Int) + 8 ≤ (n : Int)) = false := decide_eq_false (by omega)
  clear h0 h1 h2 hC1
  go_enter Tryz.func10, Tryz.ntmps10
  go_wp2_with (first | (go_at_call 27; (with_reducible refine HF.out.mono ?_); rintro e w' ⟨rfl, ⟨nd, rfl⟩⟩))
  go_ret
  exact ⟨rfl, ⟨nd, rfl⟩⟩
end Go.Proofs.YtoopljlbiifmfaaGreatDoor.Pad
