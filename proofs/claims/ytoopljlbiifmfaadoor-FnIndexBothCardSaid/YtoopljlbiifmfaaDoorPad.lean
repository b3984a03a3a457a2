import Derived.Test.YtoopljlbiifmfaaDoorFit
/-! Padded: a list against itself. -/
namespace Go.Proofs.YtoopljlbiifmfaaDoor.Pad
open Go.Proofs.YtoopljlbiifmfaaDoor.Fit Go.Proofs.YtoopljlbiifmfaaDoor.Bit Go.Proofs.YtoopljlbiifmfaaDoor.Wrd Go.Proofs.YtoopljlbiifmfaaDoor.Spl Go.Proofs.YtoopljlbiifmfaaDoor.Str Go.Proofs.YtoopljlbiifmfaaDoor.Flt Go.Proofs.YtoopljlbiifmfaaDoor.Owe Go.Proofs.YtoopljlbiifmfaaDoor.Num Go.Proofs.YtoopljlbiifmfaaDoor.Le Go.Proofs.YtoopljlbiifmfaaDoor.Lst Go.Proofs.YtoopljlbiifmfaaDoor.Aid Go.RowKit Go.Proofs.YtoopljlbiifmfaaDoorW.PrintWords Go.Proofs.YtoopljlbiifmfaaDoorW.PrintLast Go.Proofs.YtoopljlbiifmfaaDoorW.PrintMore
set_option linter.unusedVariables false
set_option linter.unusedSimpArgs false
theorem infoU64p : (Tryd.prog.info? 32).map (fun i => i.size) = some 1 := by kernel_rfl
set_option maxHeartbeats 4000000 in
theorem padded_calls (A0 A1 : Option Addr) (n c0 c1 : Nat) (l : List Int) (w : World) (h0 : (Kd.int .u64).C w A0 n l) (h1 : (Kd.int .u64).C w A1 n l) (hc : n ≤ c0) (hn : n ≤ 2147483647) :
    Calls Tryd.prog 27 #[.slice A0 n c0, .slice A1 n c1] w fun e w' => e = .returned (.bool true) ∧ Drawn0 w w' := by
  obtain ⟨i64, h64, hs64⟩ := Option.map_eq_some_iff.1 infoU64p
  obtain ⟨cut1, hC1⟩ := cutHi (P := Tryd.prog) 27 32 Tryd.underlying27 h64 A0 n c0 .i64 (n : Int) n rfl (Nat.le_refl _) hc
  have h2 := hC1 (Kd.int .u64) w l h0
  rw [← h0.1, List.take_length, h0.1] at h2
  have HF := Aside0.mk (sameNumbers_uint64_calls A0 A1 n c0 c1 l w h2 h1 hn)
  have q1 : decide ((n : Int) < (n : Int)) = false := decide_eq_false (by omega)
  have q2 : decide ((n : Int) + 8 ≤ (n : Int)) = false := decide_eq_false (by omega)
  clear h0 h1 h2 hC1
  go_enter Tryd.func27, Tryd.ntmps27
  go_wp2_with (first | (go_at_call 18; (with_reducible refine HF.out.mono ?_); rintro e w' ⟨rfl, ⟨nd, rfl⟩⟩))
  go_ret
  exact ⟨rfl, ⟨nd, rfl⟩⟩
end Go.Proofs.YtoopljlbiifmfaaDoor.Pad
