-- Laid by a program of this session over the kit's print (stand-ins: functions proved by hand).
import Derived.Test.YtojoppondgnajaaPFnHashIntx0
import Derived.Test.YtojoppondgnajaaPFnHashIntx1
namespace Go.Proofs.Ytojoppondgnajaa.PFnHashInt
open Go.Proofs.Ytojoppondgnajaa.Aid Go.Proofs.Ytojoppondgnajaa.Xx
open Go.RowKit Go.Proofs.YtojoppondgnajaaW.PrintWords Go.Proofs.YtojoppondgnajaaW.PrintLast Go.Proofs.YtojoppondgnajaaW.PrintMore
attribute [local go_sem] max2_int min2_int max_two min_two max_three min_three max_four min_four   -- for this text's walks alone
set_option linter.unusedVariables false
set_option linter.unusedSimpArgs false

/-! ### spec_XX: function 11, by hand -/
theorem turn_eq (n : Int) (k : Nat) (hk : k ≤ 64) : spec_turn.f n k = some (rolI n k) := by
  unfold spec_turn.f rolI shl shr
  have h64 : (64 : Int) - (k : Int) = ((64 - k : Nat) : Int) := by omega
  rw [if_pos (by omega), IntWalk.wrap64_in _ (by omega), if_pos (by omega), h64]
  simp only [Int.toNat_natCast]
  rw [Nat.min_eq_left (show k ≤ IntKind.u64.bits from hk), Nat.min_eq_left (show 64 - k ≤ IntKind.u64.bits from by show 64 - k ≤ 64; omega)]
theorem turn_calls (n : Int) (j : Int) (k : Nat) (hj : j = k) (hk : k ≤ 64) (w : World) :
    Calls Try.prog 22 #[.int .u64 n, .int .i64 j] w fun e w' => e = .returned (.int .u64 (rolI n k)) ∧ Drawn0 w w' := by
  subst hj
  exact spec_turn.calls n k _ w (turn_eq n k hk)
theorem turn1_calls (n : Int) (w : World) : Calls Try.prog 22 #[.int .u64 n, .int .i64 1] w fun e w' => e = .returned (.int .u64 (rolI n 1)) ∧ Drawn0 w w' := turn_calls n 1 1 rfl (by omega) w
theorem turn7_calls (n : Int) (w : World) : Calls Try.prog 22 #[.int .u64 n, .int .i64 7] w fun e w' => e = .returned (.int .u64 (rolI n 7)) ∧ Drawn0 w w' := turn_calls n 7 7 rfl (by omega) w
theorem turn11_calls (n : Int) (w : World) : Calls Try.prog 22 #[.int .u64 n, .int .i64 11] w fun e w' => e = .returned (.int .u64 (rolI n 11)) ∧ Drawn0 w w' := turn_calls n 11 11 rfl (by omega) w
theorem turn12_calls (n : Int) (w : World) : Calls Try.prog 22 #[.int .u64 n, .int .i64 12] w fun e w' => e = .returned (.int .u64 (rolI n 12)) ∧ Drawn0 w w' := turn_calls n 12 12 rfl (by omega) w
theorem turn18_calls (n : Int) (w : World) : Calls Try.prog 22 #[.int .u64 n, .int .i64 18] w fun e w' => e = .returned (.int .u64 (rolI n 18)) ∧ Drawn0 w w' := turn_calls n 18 18 rfl (by omega) w
theorem turn23_calls (n : Int) (w : World) : Calls Try.prog 22 #[.int .u64 n, .int .i64 23] w fun e w' => e = .returned (.int .u64 (rolI n 23)) ∧ Drawn0 w w' := turn_calls n 23 23 rfl (by omega) w
theorem turn27_calls (n : Int) (w : World) : Calls Try.prog 22 #[.int .u64 n, .int .i64 27] w fun e w' => e = .returned (.int .u64 (rolI n 27)) ∧ Drawn0 w w' := turn_calls n 27 27 rfl (by omega) w
theorem fromLow_l (xs : List Int) (hl : xs.length ≤ 9223372036854775807) : ∀ (j k : Nat), j ≤ xs.length → j < k → spec_FromLow.l0 k xs (fromLowI (xs.drop j)) ((j : Int) - 1) = some (fromLowI xs) := by
  intro j
  induction j with
  | zero =>
    intro k hj hk
    obtain ⟨k, rfl⟩ : ∃ m, k = m + 1 := ⟨k - 1, by omega⟩
    simp only [spec_FromLow.l0]
    rw [if_neg (by omega)]
    simp
  | succ j ih =>
    intro k hj hk
    obtain ⟨k, rfl⟩ : ∃ m, k = m + 1 := ⟨k - 1, by omega⟩
    simp only [spec_FromLow.l0]
    have e : ((j + 1 : Nat) : Int) - 1 = (j : Int) := by omega
    rw [e, if_pos (by omega), if_pos (by omega), if_pos (by omega), IntWalk.wrap64_in _ (by omega)]
    have hd : xs.drop j = rd xs j :: xs.drop (j + 1) := by
      rw [List.drop_eq_getElem_cons (show j < xs.length by omega)]
      simp [rd, List.getD_eq_getElem?_getD, List.getElem?_eq_getElem (show j < xs.length by omega)]
    have hs : fromLowI (xs.drop j) = lowStep (rd xs j) (fromLowI (xs.drop (j + 1))) := by rw [hd]; rfl
    have := ih k (by omega) (by omega)
    rw [hs] at this
    exact this
theorem fromLow_eq (xs : List Int) (hl : xs.length ≤ 9223372036854775807) : ∃ k, spec_FromLow.f k xs = some (fromLowI xs) := by
  refine ⟨xs.length + 1, ?_⟩
  unfold spec_FromLow.f
  rw [IntWalk.wrap64_in _ (by omega)]
  have := fromLow_l xs hl xs.length (xs.length + 1) (Nat.le_refl _) (by omega)
  rwa [List.drop_length] at this
theorem fromLow_calls (A0 : Option Addr) (n c0 : Nat) (l0 : List Int) (w : World) (hn : l0.length = n) (hr : (Kd.int IntKind.u8).C w A0 l0.length l0) (hc : l0.length ≤ c0) (hl : l0.length ≤ 9223372036854775807) :
    Calls Try.prog 10 #[.slice A0 n c0] w fun e w' => e = .returned (.int .u64 (fromLowI l0)) ∧ Drawn0 w w' := by
  subst hn
  obtain ⟨k, hk⟩ := fromLow_eq l0 hl
  exact spec_FromLow.calls k A0 c0 l0 _ w hr hc hk
theorem round_calls (s v : Int) (w : World) :
    Calls Try.prog 21 #[.int .u64 s, .int .u64 v] w fun e w' => e = .returned (.int .u64 (rndI s v)) ∧ Drawn0 w w' := by
  refine spec_round.calls s v _ w ?_
  unfold spec_round.f
  have := turn_eq (IntKind.u64.wrap (s + IntKind.u64.wrap (v * 14029467366897019727))) 31 (by omega)
  rw [show ((31 : Nat) : Int) = 31 from rfl] at this
  rw [this]; rfl
theorem u8info : ∃ i, Try.prog.info? 5 = some i ∧ i.size = 1 := by
  obtain ⟨i, h, h2⟩ := Option.map_eq_some_iff.1 (show (Try.prog.info? 5).map (fun i => i.size) = some 1 by kernel_rfl)
  exact ⟨i, h, h2⟩

theorem fromLow_callsN (A0 : Option Addr) (n c0 : Nat) (l0 : List Int) (w : World) (hr : (Kd.int IntKind.u8).C w A0 n l0) (hc : n ≤ c0) (hl : n ≤ 9223372036854775807) :
    Calls Try.prog 10 #[.slice A0 n c0] w fun e w' => e = .returned (.int .u64 (fromLowI l0)) ∧ Drawn0 w w' := by
  have hn : l0.length = n := hr.1
  subst hn
  exact fromLow_calls A0 _ c0 l0 w rfl hr hc hl
set_option maxHeartbeats 4000000 in
set_option maxRecDepth 100000 in
theorem spec_XX.calls0 (A0 : Option Addr) (c0 : Nat) (l0 : List Int) (w : World) (hr : (Kd.int IntKind.u8).C w A0 l0.length l0) (hc : l0.length ≤ c0) :
    Calls Try.prog 11 #[.slice A0 l0.length c0] w fun e w' => e = .returned (.int .u64 (xxI l0)) ∧ Below w.heap.size w w' := by
  have HR := Aside0.mk hr
  have HC := Aside0.mk hc
  have hl : l0.length ≤ 9223372036854775807 := Kd.C_max hr
  have HS : SlB w (.slice A0 l0.length c0) l0 := ⟨A0, _, c0, rfl, rfl, hc, hl, hr⟩
  clear hr hc
  obtain ⟨i8, hi8, hs8⟩ := u8info
  go_enter Try.func11, Try.ntmps11
  go_upto_if 19 with (fail)
  go_cut [0, 4] (fun v0 v4 wx => ∃ (h : Int) (l : List Int), v4 = .int .u64 h ∧ SlB wx v0 l ∧ Aside0 (restI h l0.length l = xxI l0) ∧ Aside0 (Below w.heap.size w wx))
  case first =>
    by_cases c32 : 32 ≤ l0.length
    · have c1 : decide (32 ≤ (l0.length : Int)) = true := decide_eq_true (by omega)
      rw [c1]
      go_wp2_with (fail)
      rw [wrap_p12, wrap_np1]
      go_loopg [0] l0.length (fun kq v0 w' => ∃ (a b c d : Int) (l : List Int), SlB w v0 l ∧ Blk w' w.heap.size (quad a b c d) 43 ∧ Aside0 (str32 a b c d l (finK l0.length) = xxI l0) ∧ Aside0 (Below w.heap.size w w') ∧ Aside0 (l.length ≤ kq))
      case atStart =>
        refine ⟨_, _, _, _, l0, HS, Blk.new _ _ _, ⟨?_⟩, ⟨(Below.refl _ _).alloc (Nat.le_refl _) _⟩, ⟨Nat.le_refl _⟩⟩
        unfold xxI; rw [if_pos c32]; rfl
      case round =>
        clear HS
        obtain ⟨a, b, c', d, l, ⟨A, n, c, rfl, hn, hc, hm, hC⟩, HB4, HR, HB, HK⟩ := hrel
        have HN := Aside0.mk hn
        have HB4 := Aside0.mk HB4
        clear hn
        by_cases c32' : 32 ≤ n
        · have cb : decide (32 ≤ (n : Int)) = true := decide_eq_true (by omega)
          obtain ⟨A32, cut32, hC32⟩ := cutLo (P := Try.prog) 26 5 Try.underlying26 hi8 hs8 A n c .i64 32 32 rfl c32' hc
          have HC32 := Aside0.mk (hC32 _ _ _ rfl hC)
          have HCA := Aside0.mk hC
          have hR := HR.out
          rw [str32_ge (by rw [HN.out]; exact c32')] at hR
          have HR2 := Aside0.mk hR
          obtain ⟨gk0, hgk0⟩ : ∃ g : Nat, gk = g + 1 := ⟨gk - 1, by have := HK.out; have := HN.out; omega⟩
          subst hgk0
          clear hC32 hC hR HR
          go_wp2_with (fail)
          go_loopg [9, 31] 4 (fun kq v9 v31 w' => ∃ (k : Nat) (p q r s : Int), k ≤ 4 ∧ v31 = .int .i64 k ∧ Aside0 (Blk w' w.heap.size (quad p q r s) 43) ∧ Aside0 (upd k (lows l) 0 p = rndI a (lows l 0) ∧ upd k (lows l) 1 q = rndI b (lows l 1) ∧ upd k (lows l) 2 r = rndI c' (lows l 2) ∧ upd k (lows l) 3 s = rndI d (lows l 3)) ∧ Aside0 (Below w.heap.size w w') ∧ Aside0 (4 - k ≤ kq))
          case atStart => exact ⟨0, a, b, c', d, by omega, rfl, HB4, ⟨rfl, rfl, rfl, rfl⟩, HB, ⟨by omega⟩⟩
          case round =>
            clear HB4 HB
            obtain ⟨k, p, q, r, s, hk, rfl, HB4, HU, HB, HK4⟩ := hrel
            have HCr := Aside0.mk (Kd.C_below HCA.out HB.out)
            rcases (show k = 0 ∨ k = 1 ∨ k = 2 ∨ k = 3 ∨ k = 4 by omega) with rfl | rfl | rfl | rfl | rfl
            · obtain ⟨A0, cut0, hC0⟩ := cutMid (P := Try.prog) 26 5 Try.underlying26 hi8 hs8 A n c .i64 .i64 0 8 0 8 rfl rfl (by omega) (by omega) hc
              have HCk := Aside0.mk (hC0 _ _ _ rfl HCr.out)
              have x0 := HB4.out.cell (j := 0) (v := .int .u64 p) rfl
              have f0 := HB4.out.free 0
              have e0 := i64w0
              have e0' := i64w8
              clear hC0
              go_wp2_with (fail)
              refine region_tail 14 (by kernel_rfl) (by kernel_rfl) ?_
              simp only [List.take_succ_cons, List.take_zero, List.drop_succ_cons, List.drop_zero]
              repeat (quiet_step ((first
                | (go_at_call 10; exact quietCall (fromLow_callsN A0 _ _ ((l.take 8).drop 0) _ (Kd.C_drewN HCk.out _) (by omega) (by omega)))
                | (go_at_call 21; exact quietCall (round_calls _ _ _)))))
              refine wpQuiet_nil ?_
              rintro _ ⟨nq, rfl⟩
              go_wp2_with (fail)
              go_roundg (gk - 1)
              case measure => have := HK4.out; omega
              case rel =>
                obtain ⟨u0, u1, u2, u3⟩ := HU.out
                refine ⟨1, (rndI p (fromLowI ((l.take 8).drop 0))), q, r, s, by omega, rfl, ⟨?_⟩, ⟨?_⟩, ⟨?_⟩, ⟨by have := HK4.out; omega⟩⟩
                · exact (HB4.out.drewN nq).set 0 _
                · exact ⟨u0, u1, u2, u3⟩
                · exact (pw_below_drewN HB.out nq).setCell (p := ⟨w.heap.size, _, none⟩) (Nat.le_refl _) _
            · obtain ⟨A1, cut1, hC1⟩ := cutMid (P := Try.prog) 26 5 Try.underlying26 hi8 hs8 A n c .i64 .i64 8 16 8 16 rfl rfl (by omega) (by omega) hc
              have HCk := Aside0.mk (hC1 _ _ _ rfl HCr.out)
              have x1 := HB4.out.cell (j := 1) (v := .int .u64 q) rfl
              have f1 := HB4.out.free 1
              have e1 := i64w8
              have e1' := i64w16
              clear hC1
              go_wp2_with (fail)
              refine region_tail 14 (by kernel_rfl) (by kernel_rfl) ?_
              simp only [List.take_succ_cons, List.take_zero, List.drop_succ_cons, List.drop_zero]
              repeat (quiet_step ((first
                | (go_at_call 10; exact quietCall (fromLow_callsN A1 _ _ ((l.take 16).drop 8) _ (Kd.C_drewN HCk.out _) (by omega) (by omega)))
                | (go_at_call 21; exact quietCall (round_calls _ _ _)))))
              refine wpQuiet_nil ?_
              rintro _ ⟨nq, rfl⟩
              go_wp2_with (fail)
              go_roundg (gk - 1)
              case measure => have := HK4.out; omega
              case rel =>
                obtain ⟨u0, u1, u2, u3⟩ := HU.out
                refine ⟨2, p, (rndI q (fromLowI ((l.take 16).drop 8))), r, s, by omega, rfl, ⟨?_⟩, ⟨?_⟩, ⟨?_⟩, ⟨by have := HK4.out; omega⟩⟩
                · exact (HB4.out.drewN nq).set 1 _
                · exact ⟨u0, u1, u2, u3⟩
                · exact (pw_below_drewN HB.out nq).setCell (p := ⟨w.heap.size, _, none⟩) (Nat.le_refl _) _
            · obtain ⟨A2, cut2, hC2⟩ := cutMid (P := Try.prog) 26 5 Try.underlying26 hi8 hs8 A n c .i64 .i64 16 24 16 24 rfl rfl (by omega) (by omega) hc
              have HCk := Aside0.mk (hC2 _ _ _ rfl HCr.out)
              have x2 := HB4.out.cell (j := 2) (v := .int .u64 r) rfl
              have f2 := HB4.out.free 2
              have e2 := i64w16
              have e2' := i64w24
              clear hC2
              go_wp2_with (fail)
              refine region_tail 14 (by kernel_rfl) (by kernel_rfl) ?_
              simp only [List.take_succ_cons, List.take_zero, List.drop_succ_cons, List.drop_zero]
              repeat (quiet_step ((first
                | (go_at_call 10; exact quietCall (fromLow_callsN A2 _ _ ((l.take 24).drop 16) _ (Kd.C_drewN HCk.out _) (by omega) (by omega)))
                | (go_at_call 21; exact quietCall (round_calls _ _ _)))))
              refine wpQuiet_nil ?_
              rintro _ ⟨nq, rfl⟩
              go_wp2_with (fail)
              go_roundg (gk - 1)
              case measure => have := HK4.out; omega
              case rel =>
                obtain ⟨u0, u1, u2, u3⟩ := HU.out
                refine ⟨3, p, q, (rndI r (fromLowI ((l.take 24).drop 16))), s, by omega, rfl, ⟨?_⟩, ⟨?_⟩, ⟨?_⟩, ⟨by have := HK4.out; omega⟩⟩
                · exact (HB4.out.drewN nq).set 2 _
                · exact ⟨u0, u1, u2, u3⟩
                · exact (pw_below_drewN HB.out nq).setCell (p := ⟨w.heap.size, _, none⟩) (Nat.le_refl _) _
            · obtain ⟨A3, cut3, hC3⟩ := cutMid (P := Try.prog) 26 5 Try.underlying26 hi8 hs8 A n c .i64 .i64 24 32 24 32 rfl rfl (by omega) (by omega) hc
              have HCk := Aside0.mk (hC3 _ _ _ rfl HCr.out)
              have x3 := HB4.out.cell (j := 3) (v := .int .u64 s) rfl
              have f3 := HB4.out.free 3
              have e3 := i64w24
              have e3' := i64w32
              clear hC3
              go_wp2_with (fail)
              refine region_tail 14 (by kernel_rfl) (by kernel_rfl) ?_
              simp only [List.take_succ_cons, List.take_zero, List.drop_succ_cons, List.drop_zero]
              repeat (quiet_step ((first
                | (go_at_call 10; exact quietCall (fromLow_callsN A3 _ _ ((l.take 32).drop 24) _ (Kd.C_drewN HCk.out _) (by omega) (by omega)))
                | (go_at_call 21; exact quietCall (round_calls _ _ _)))))
              refine wpQuiet_nil ?_
              rintro _ ⟨nq, rfl⟩
              go_wp2_with (fail)
              go_roundg (gk - 1)
              case measure => have := HK4.out; omega
              case rel =>
                obtain ⟨u0, u1, u2, u3⟩ := HU.out
                refine ⟨4, p, q, r, (rndI s (fromLowI ((l.take 32).drop 24))), by omega, rfl, ⟨?_⟩, ⟨?_⟩, ⟨?_⟩, ⟨by have := HK4.out; omega⟩⟩
                · exact (HB4.out.drewN nq).set 3 _
                · exact ⟨u0, u1, u2, u3⟩
                · exact (pw_below_drewN HB.out nq).setCell (p := ⟨w.heap.size, _, none⟩) (Nat.le_refl _) _
            · go_wp2_with (fail)
              go_roundg gk0
              case measure => omega
              case rel =>
                obtain ⟨u0, u1, u2, u3⟩ := HU.out
                refine ⟨p, q, r, s, l.drop 32, ⟨A32, n - 32, c - 32, rfl, by rw [List.length_drop, HN.out], by omega, by omega, HC32.out⟩, HB4.out, ⟨?_⟩, HB, ⟨by rw [List.length_drop]; have := HK.out; have := HN.out; omega⟩⟩
                have hR := HR2.out
                have e0 : p = rndI a (fromLowI (l.take 8)) := u0
                have e1 : q = rndI b (fromLowI ((l.take 16).drop 8)) := u1
                have e2 : r = rndI c' (fromLowI ((l.take 24).drop 16)) := u2
                have e3 : s = rndI d (fromLowI ((l.take 32).drop 24)) := u3
                rw [e0, e1, e2, e3]
                exact hR
        · have cb : decide (32 ≤ (n : Int)) = false := decide_eq_false (by omega)
          have x0 := HB4.out.cell (j := 0) (v := .int .u64 a) rfl
          have x1 := HB4.out.cell (j := 1) (v := .int .u64 b) rfl
          have x2 := HB4.out.cell (j := 2) (v := .int .u64 c') rfl
          have x3 := HB4.out.cell (j := 3) (v := .int .u64 d) rfl
          go_wp2_with (fail)
          go_quiet (first
            | (go_at_call_of 22 (Value.int .u64 a); exact quietCall (turn1_calls _ _))
            | (go_at_call_of 22 (Value.int .u64 b); exact quietCall (turn7_calls _ _))
            | (go_at_call_of 22 (Value.int .u64 c'); exact quietCall (turn12_calls _ _))
            | (go_at_call_of 22 (Value.int .u64 d); exact quietCall (turn18_calls _ _)))
          go_wp2_with (fail)
          have i0 : ∀ w, (Instr.index 43 (.agg #[.int .u64 a, .int .u64 b, .int .u64 c', .int .u64 d]) (.int .i64 0)).run Try.prog w = .ok (.int .u64 a) w := fun _ => by kernel_rfl
          have i1 : ∀ w, (Instr.index 43 (.agg #[.int .u64 a, .int .u64 b, .int .u64 c', .int .u64 d]) (.int .i64 1)).run Try.prog w = .ok (.int .u64 b) w := fun _ => by kernel_rfl
          have i2 : ∀ w, (Instr.index 43 (.agg #[.int .u64 a, .int .u64 b, .int .u64 c', .int .u64 d]) (.int .i64 2)).run Try.prog w = .ok (.int .u64 c') w := fun _ => by kernel_rfl
          have i3 : ∀ w, (Instr.index 43 (.agg #[.int .u64 a, .int .u64 b, .int .u64 c', .int .u64 d]) (.int .i64 3)).run Try.prog w = .ok (.int .u64 d) w := fun _ => by kernel_rfl
          clear x0 x1 x2 x3
          go_loopg [4, 11, 67] 4 (fun kq v4 v11 v67 w' => ∃ (k : Nat) (h : Int), k ≤ 4 ∧ v67 = .int .i64 k ∧ v4 = .int .u64 h ∧ Aside0 (mrg a b c' d k h = mrg a b c' d 0 (sumsI a b c' d)) ∧ Aside0 (Below w.heap.size w w') ∧ Aside0 (4 - k ≤ kq))
          case atStart => exact ⟨0, _, by omega, rfl, rfl, ⟨rfl⟩, ⟨pw_below_drewN HB.out _⟩, ⟨by omega⟩⟩
          case round =>
            clear HB4
            obtain ⟨k, h, hk, rfl, rfl, HM, HBm, HK3⟩ := hrel
            rcases (show k = 0 ∨ k = 1 ∨ k = 2 ∨ k = 3 ∨ k = 4 by omega) with rfl | rfl | rfl | rfl | rfl
            · go_wp2_with (first
                | (go_at_call 21; (with_reducible refine (round_calls _ _ _).mono ?_); rintro e w' ⟨rfl, ⟨nd, rfl⟩⟩))
              go_roundg (gk - 1)
              case measure => have := HK3.out; omega
              case rel => exact ⟨1, _, by omega, rfl, rfl, HM, (by first | exact ⟨pw_below_drewN HBm.out _⟩ | exact HBm), ⟨by have := HK3.out; omega⟩⟩
            · go_wp2_with (first
                | (go_at_call 21; (with_reducible refine (round_calls _ _ _).mono ?_); rintro e w' ⟨rfl, ⟨nd, rfl⟩⟩))
              go_roundg (gk - 1)
              case measure => have := HK3.out; omega
              case rel => exact ⟨2, _, by omega, rfl, rfl, HM, (by first | exact ⟨pw_below_drewN HBm.out _⟩ | exact HBm), ⟨by have := HK3.out; omega⟩⟩
            · go_wp2_with (first
                | (go_at_call 21; (with_reducible refine (round_calls _ _ _).mono ?_); rintro e w' ⟨rfl, ⟨nd, rfl⟩⟩))
              go_roundg (gk - 1)
              case measure => have := HK3.out; omega
              case rel => exact ⟨3, _, by omega, rfl, rfl, HM, (by first | exact ⟨pw_below_drewN HBm.out _⟩ | exact HBm), ⟨by have := HK3.out; omega⟩⟩
            · go_wp2_with (first
                | (go_at_call 21; (with_reducible refine (round_calls _ _ _).mono ?_); rintro e w' ⟨rfl, ⟨nd, rfl⟩⟩))
              go_roundg (gk - 1)
              case measure => have := HK3.out; omega
              case rel => exact ⟨4, _, by omega, rfl, rfl, HM, (by first | exact ⟨pw_below_drewN HBm.out _⟩ | exact HBm), ⟨by have := HK3.out; omega⟩⟩
            · go_wp2_with (fail)
              go_meet
              have hR := HR.out
              rw [str32_lt (by rw [HN.out]; exact c32')] at hR
              have hM := HM.out
              refine ⟨h, l, rfl, ⟨A, n, c, rfl, HN.out, by omega, by omega, Kd.C_below hC HBm.out⟩, ⟨?_⟩, HBm⟩
              rw [show h = mrg a b c' d 0 (sumsI a b c' d) from hM]
              exact hR
    · have c1 : decide (32 ≤ (l0.length : Int)) = false := decide_eq_false (by omega)
      go_wp2_with (fail)
      go_meet
      refine ⟨_, l0, rfl, HS, ⟨?_⟩, ⟨Below.refl _ _⟩⟩
      unfold restI xxI; rw [if_neg (by omega)]
  case rest =>
    clear HS HR
    obtain ⟨h, l, rfl, HS, HR, HB⟩ := hcut
    go_wp2_with (fail)
    go_loopg [0, 4] l.length (fun kq v0 v4 w' => ∃ (h : Int) (l : List Int), v4 = .int .u64 h ∧ SlB w' v0 l ∧ Aside0 (tail8 h l = xxI l0) ∧ Aside0 (Below w.heap.size w w') ∧ Aside0 (l.length ≤ kq))
    case atStart => exact ⟨_, l, rfl, HS, HR, HB, ⟨Nat.le_refl _⟩⟩
    case round =>
      clear HS HR HB
      obtain ⟨h, l, rfl, ⟨A, n, c, rfl, hn, hc, hm, hC⟩, HR, HB, HK⟩ := hrel
      have HN := Aside0.mk hn
      clear hn
      by_cases c8 : 8 ≤ n
      · have c8b : decide (8 ≤ (n : Int)) = true := decide_eq_true (by omega)
        have c8n : decide (8 ≤ n) = true := decide_eq_true c8
        have hR' := HR.out
        rw [tail8_ge (by rw [HN.out]; exact c8)] at hR'
        have HR8 := Aside0.mk hR'
        clear hR' HR
        obtain ⟨A8, cut8, hC8⟩ := cutLo (P := Try.prog) 26 5 Try.underlying26 hi8 hs8 A n c .i64 8 8 rfl c8 hc
        have HC8 := Aside0.mk (hC8 _ _ _ rfl hC)
        have HCT := Aside0.mk (Kd.C_take (m := 8) (HN.out ▸ hC) (by rw [HN.out]; exact c8))
        have HT : (l.take 8).length = 8 := by rw [List.length_take, HN.out]; omega
        rw [HT] at HCT
        clear hC hC8 HT
        go_wp2_with (first
          | (go_at_call 10; ((with_reducible refine (fromLow_callsN A _ _ (l.take 8) _ HCT.out ?_ ?_).mono ?_); (case refine_1 => omega); (case refine_2 => omega); rintro e w' ⟨rfl, ⟨nd, rfl⟩⟩))
          | (go_at_call 21; (with_reducible refine (round_calls _ _ _).mono ?_); rintro e w' ⟨rfl, ⟨nd, rfl⟩⟩)
          | (go_at_call 22; (with_reducible refine (turn27_calls _ _).mono ?_); rintro e w' ⟨rfl, ⟨nd, rfl⟩⟩))
        go_roundg (gk - 1)
        case measure => have := HK.out; have := HN.out; omega
        case rel =>
          refine ⟨_, l.drop 8, rfl, ⟨A8, n - 8, c - 8, rfl, by rw [List.length_drop, HN.out], by omega, by omega, ?_⟩, HR8, ⟨HB.out.trans ⟨rfl, rfl, rfl, Nat.le_refl _, fun _ _ => rfl⟩⟩, ⟨?_⟩⟩
          · (with_reducible repeat (first | apply Kd.C_drewN | apply Kd.C_drew)); exact HC8.out
          · rw [List.length_drop]; have := HK.out; have := HN.out; omega
      · have c8b : decide (8 ≤ (n : Int)) = false := decide_eq_false (by omega)
        have c8n : decide (8 ≤ n) = false := decide_eq_false c8
        have hR' := HR.out
        rw [tail8_lt (by rw [HN.out]; exact c8)] at hR'
        have HR4 := Aside0.mk hR'
        clear hR' HR
        have HC := Aside0.mk hC
        clear hC
        go_upto_if 96 with (fail)
        go_cut [0, 4] (fun v0 v4 wx => ∃ (h : Int) (l : List Int), v4 = .int .u64 h ∧ SlB wx v0 l ∧ Aside0 (tail1 h l = xxI l0) ∧ Aside0 (Below w.heap.size w wx))
        case first =>
          by_cases c4 : 4 ≤ n
          · have c4b : decide (4 ≤ (n : Int)) = true := decide_eq_true (by omega)
            obtain ⟨A4, cut4, hC4⟩ := cutLo (P := Try.prog) 26 5 Try.underlying26 hi8 hs8 A n c .i64 4 4 rfl c4 hc
            have HC4 := Aside0.mk (hC4 _ _ _ rfl HC.out)
            have HCT := Aside0.mk (Kd.C_take (m := 4) (HN.out ▸ HC.out) (by rw [HN.out]; exact c4))
            have HT : (l.take 4).length = 4 := by rw [List.length_take, HN.out]; omega
            rw [HT] at HCT
            clear hC4 HT
            go_wp2_with (first
              | (go_at_call 10; ((with_reducible refine (fromLow_callsN A _ _ (l.take 4) _ HCT.out ?_ ?_).mono ?_); (case refine_1 => omega); (case refine_2 => omega); rintro e w' ⟨rfl, ⟨nd, rfl⟩⟩))
              | (go_at_call 22; (with_reducible refine (turn23_calls _ _).mono ?_); rintro e w' ⟨rfl, ⟨nd, rfl⟩⟩))
            go_meet
            have hR := HR4.out
            unfold tail4 at hR
            rw [if_pos (by rw [HN.out]; exact c4)] at hR
            refine ⟨_, l.drop 4, rfl, ⟨A4, n - 4, c - 4, rfl, by rw [List.length_drop, HN.out], by omega, by omega, ?_⟩, ⟨hR⟩, ⟨HB.out.trans ⟨rfl, rfl, rfl, Nat.le_refl _, fun _ _ => rfl⟩⟩⟩
            (with_reducible repeat (first | apply Kd.C_drewN | apply Kd.C_drew)); exact HC4.out
          · have c4b : decide (4 ≤ (n : Int)) = false := decide_eq_false (by omega)
            go_wp2_with (fail)
            go_meet
            have hR := HR4.out
            unfold tail4 at hR
            rw [if_neg (by rw [HN.out]; exact c4)] at hR
            exact ⟨_, l, rfl, ⟨A, n, c, rfl, HN.out, by omega, by omega, HC.out⟩, ⟨hR⟩, HB⟩
        case rest =>
          clear HR4 HB HC HN hc hm
          obtain ⟨h, l, rfl, ⟨A, n, c, rfl, hn, hc, hm, hC⟩, HR, HB⟩ := hcut
          have HN := Aside0.mk hn
          have HC := Aside0.mk hC
          clear hn hC
          go_wp2_with (fail)
          go_loopg [4, 13, 110] n (fun kq v4 v13 v110 w' => ∃ (h : Int) (k : Nat), v4 = .int .u64 h ∧ v110 = .int .i64 k ∧ k ≤ n ∧ Aside0 (tail1 h (l.drop k) = xxI l0) ∧ Aside0 (Below w.heap.size w w') ∧ Aside0 (n - k ≤ kq) ∧ Aside0 ((Kd.int IntKind.u8).C w' A n l))
          case atStart => exact ⟨h, 0, rfl, rfl, Nat.zero_le _, HR, HB, ⟨by omega⟩, HC⟩
          case round =>
            clear HR HB HC
            obtain ⟨h, k, rfl, rfl, hk, HR, HB, HK, HC⟩ := hrel
            by_cases ck : k < n
            · have ckb : decide ((k : Int) < (n : Int)) = true := decide_eq_true (by omega)
              obtain ⟨ad, rfl, x0⟩ := Kd.at_int HC.out k (by omega) (by omega)
              rw [Int.toNat_natCast] at x0
              go_wp2_with (first
              | (go_at_call 22; (with_reducible refine (turn11_calls _ _).mono ?_); rintro e w' ⟨rfl, ⟨nd, rfl⟩⟩))
              go_roundg (gk - 1)
              case measure => have := HK.out; omega
              case rel =>
                refine ⟨_, k + 1, rfl, by go_num, by omega, ?_, ⟨HB.out.trans ⟨rfl, rfl, rfl, Nat.le_refl _, fun _ _ => rfl⟩⟩, ⟨by have := HK.out; omega⟩, ⟨?_⟩⟩
                · have hR := HR.out
                  rw [drop_cons l k (by rw [HN.out]; exact ck)] at hR
                  exact ⟨hR⟩
                · (with_reducible repeat (first | apply Kd.C_drewN | apply Kd.C_drew)); exact HC.out
            · go_wp2_with (fail)
              go_ret
              refine ⟨?_, HB.out⟩
              have hR := HR.out
              rw [List.drop_of_length_le (by rw [HN.out]; omega)] at hR
              exact congrArg (fun x => Ending.returned (Value.int .u64 x)) hR

def spec_XX.f (l0 : List Int) : Option (Int) := some (xxI l0)
theorem spec_XX.calls (A0 : Option Addr) (c0 : Nat) (l0 : List Int) (r : Int) (w : World) (hr0 : Kd.C (Kd.int .u8) w A0 l0.length l0) (hc0 : l0.length ≤ c0) (h : spec_XX.f l0 = some r) :
    Calls Try.prog 11 #[.slice A0 l0.length c0] w fun e w' => e = .returned (.int .u64 r) ∧ Below w.heap.size w w' := by
  obtain rfl := Option.some.inj h
  exact spec_XX.calls0 A0 c0 l0 w hr0 hc0


/-! ### laws_FnHashInt: function 4 -/
def laws_FnHashInt.f (k : Nat) (a0 : Int) (a1 : Int) : Option (Bool) := if 0 ≤ (Go.bits .and .i64 a0 3) then ((spec_Low.f k (shl .i64 1 (Go.bits .and .i64 a0 3)) a1).bind fun t125 => ((spec_FromLow.f k t125).bind fun t128 => ((impl_HashInt.f (shl .i64 1 (Go.bits .and .i64 a0 3)) t128).bind fun t129 => ((spec_XX.f t125).bind fun t130 => (some (t129 == t130)))))) else (none)
theorem laws_FnHashInt.mono : ∀ a0 a1 k, LeO (laws_FnHashInt.f k a0 a1) (laws_FnHashInt.f (k + 1) a0 a1) := by
  intro a0 a1 k
  unfold laws_FnHashInt.f
  repeat' first
      | (with_reducible exact spec_FromLow.mono _ _)
      | (with_reducible exact spec_Low.mono _ _ _)
      | (with_reducible exact LeO.refl _)
      | (with_reducible exact LeO.none _)
      | (with_reducible refine LeO.ite ?_ ?_)
      | (with_reducible refine LeO.bind ?_ (fun _ => ?_))
      | exact spec_FromLow.mono _ _
      | exact spec_Low.mono _ _ _
      | exact LeO.none _
      | refine LeO.ite ?_ ?_
      | refine LeO.bind ?_ (fun _ => ?_)
set_option maxHeartbeats 8000000 in
set_option maxRecDepth 100000 in
theorem laws_FnHashInt.calls (k : Nat) (a0 : Int) (a1 : Int) (r : Bool) (w : World) (h : laws_FnHashInt.f k a0 a1 = some r) :
    Calls Try.prog 4 #[.int .i64 a0, .int .u64 a1] w fun e w' => e = .returned (.bool r) ∧ Below w.heap.size w w' := by
  have HB := Aside0.mk (Below.refl w.heap.size w)
  have H : (if 0 ≤ (Go.bits .and .i64 a0 3) then ((spec_Low.f k (shl .i64 1 (Go.bits .and .i64 a0 3)) a1).bind fun t125 => ((spec_FromLow.f k t125).bind fun t128 => ((impl_HashInt.f (shl .i64 1 (Go.bits .and .i64 a0 3)) t128).bind fun t129 => ((spec_XX.f t125).bind fun t130 => (some (t129 == t130)))))) else (none)) = some r := h
  clear h
  by_cases c3 : 0 ≤ (Go.bits .and .i64 a0 3)
  · rw [if_pos c3] at H
    have c3b0 := eq_true c3
    have c3b1 : decide (0 ≤ (Go.bits .and .i64 a0 3)) = true := decide_eq_true c3
    clear c3
    obtain ⟨ji4, hji4⟩ : ∃ j_ : Int, (shl .i64 1 (Go.bits .and .i64 a0 3)) = j_ := ⟨_, rfl⟩
    replace H : ((spec_Low.f k (ji4) a1).bind fun t125 => ((spec_FromLow.f k t125).bind fun t128 => ((impl_HashInt.f (ji4) t128).bind fun t129 => ((spec_XX.f t125).bind fun t130 => (some (t129 == t130)))))) = some r := by first | (rw [hji4] at H; exact H) | (simp only [hji4] at H ⊢; exact H)
    have hji4_ : (IntKind.i64.wrap (1 * 2 ^ min (Go.bits .and .i64 a0 3).toNat 64)) = ji4 := hji4
    have hji4z : (Go.bits .and .i64 a0 3) ≤ 64 → (IntKind.i64.wrap (1 * 2 ^ (Go.bits .and .i64 a0 3).toNat)) = ji4 := shl_small hji4
    have hji4u : (IntKind.i64.wrap (2 ^ min (Go.bits .and .i64 a0 3).toNat 64)) = ji4 := by have h_ := hji4_; rw [Int.one_mul] at h_; exact h_
    have hji4v : (Go.bits .and .i64 a0 3) ≤ 64 → (IntKind.i64.wrap (2 ^ (Go.bits .and .i64 a0 3).toNat)) = ji4 := fun hle_ => by have h_ := hji4z hle_; rw [Int.one_mul] at h_; exact h_
    have hji4y : (wrap64 (1 * 2 ^ min (Go.bits .and .i64 a0 3).toNat 64)) = ji4 := (i64_w _).symm.trans hji4_
    have hji4x : (Go.bits .and .i64 a0 3) ≤ 64 → (wrap64 (1 * 2 ^ (Go.bits .and .i64 a0 3).toNat)) = ji4 := fun h_ => (i64_w _).symm.trans (hji4z h_)
    replace H := Option.bind_eq_some_iff.mp H
    obtain ⟨t125, A50, H⟩ := H
    replace H : ((spec_FromLow.f k t125).bind fun t128 => ((impl_HashInt.f (ji4) t128).bind fun t129 => ((spec_XX.f t125).bind fun t130 => (some (t129 == t130))))) = some r := H
    have A5 := Aside0.mk A50
    clear A50
    replace H := Option.bind_eq_some_iff.mp H
    obtain ⟨t128, A60, H⟩ := H
    replace H : ((impl_HashInt.f (ji4) t128).bind fun t129 => ((spec_XX.f t125).bind fun t130 => (some (t129 == t130)))) = some r := H
    have A6 := Aside0.mk A60
    clear A60
    replace H := Option.bind_eq_some_iff.mp H
    obtain ⟨t129, A70, H⟩ := H
    replace H : ((spec_XX.f t125).bind fun t130 => (some (t129 == t130))) = some r := H
    have A7 := Aside0.mk A70
    clear A70
    replace H := Option.bind_eq_some_iff.mp H
    obtain ⟨t130, A80, H⟩ := H
    replace H : (some (t129 == t130)) = some r := H
    have A8 := Aside0.mk A80
    clear A80
    obtain rfl := Option.some.inj H
    go_enter Try.func4, Try.ntmps4
    go_wp2_with (first | ((with_reducible refine gate_callee (f := 8) rfl ?_); refine goesL_ (some 12) rfl rfl Try.func8 (by kernel_rfl) rfl #[.int .i64 ji4, .int .u64 a1] rfl (by (try simp only [List.map_toArray, List.map_cons, List.map_nil]); first | done | (simp only [hji4]; rfl) | rfl | (simp only [List.length_drop, List.length_take]; rfl)) ?_; (with_reducible refine (spec_Low.calls k ji4 a1 t125 _ A5.out).mono ?_); rintro e w9 ⟨v126, rfl, ho0, hb⟩; refine ⟨_, rfl, ?_⟩; have n0_ := Aside0.mk (Kd.R_lower ho0 (below_size (by repeat (first | (with_reducible first | exact HB.out | apply below_alloc | apply pw_below_drewN | apply below_drew1) | exact HB.out)))); have n1_ := Aside0.mk (below_step (by repeat (first | (with_reducible first | exact HB.out | apply below_alloc | apply pw_below_drewN | apply below_drew1) | exact HB.out)) hb); clear HB; have HO127 := n0_; have HB := n1_; clear n0_ n1_; (try clear hb); (try clear hb2); (try clear hk); (try clear hi); (try clear ho0); obtain ⟨Ao10, co10, eo10⟩ := Kd.R_slice HO127.out; subst eo10) | ((with_reducible refine gate_callee (f := 10) rfl ?_); refine goesL_ (some 15) rfl rfl Try.func10 (by kernel_rfl) rfl #[.slice Ao10 t125.length co10] rfl (by (try simp only [List.map_toArray, List.map_cons, List.map_nil]); first | done | rfl | (simp only [List.length_drop, List.length_take]; rfl)) ?_; (with_reducible refine (spec_FromLow.calls k _ _ t125 t128 _ ?side1 ?side2 A6.out).mono ?_); (case side1 => repeat (first | exact (Kd.R_reads' HO127.out).2.2 | (with_reducible refine Kd.C_alloc ?_ _) | (with_reducible refine Kd.C_drewN ?_ _) | (with_reducible refine Kd.C_drew ?_))); (case side2 => exact (Kd.R_reads' HO127.out).2.1); rintro e w' ⟨rfl, ⟨nd, rfl⟩⟩; refine ⟨_, rfl, ?_⟩) | ((with_reducible refine gate_callee (f := 9) rfl ?_); refine goesL_ (some 16) rfl rfl Try.func9 (by kernel_rfl) rfl #[.int .i64 ji4, .int .u64 t128] rfl (by (try simp only [List.map_toArray, List.map_cons, List.map_nil]); first | done | (simp only [hji4]; rfl) | rfl | (simp only [List.length_drop, List.length_take]; rfl)) ?_; (with_reducible refine (impl_HashInt.calls ji4 t128 t129 _ A7.out).mono ?_); rintro e w' ⟨rfl, ⟨nd, rfl⟩⟩; refine ⟨_, rfl, ?_⟩) | ((with_reducible refine gate_callee (f := 11) rfl ?_); refine goesL_ (some 18) rfl rfl Try.func11 (by kernel_rfl) rfl #[.slice Ao10 t125.length co10] rfl (by (try simp only [List.map_toArray, List.map_cons, List.map_nil]); first | done | rfl | (simp only [List.length_drop, List.length_take]; rfl)) ?_; (with_reducible refine (spec_XX.calls _ _ t125 t130 _ ?side1 ?side2 A8.out).mono ?_); (case side1 => repeat (first | exact (Kd.R_reads' HO127.out).2.2 | (with_reducible refine Kd.C_alloc ?_ _) | (with_reducible refine Kd.C_drewN ?_ _) | (with_reducible refine Kd.C_drew ?_))); (case side2 => exact (Kd.R_reads' HO127.out).2.1); rintro e w11 ⟨rfl, hb⟩; refine ⟨_, rfl, ?_⟩; have n0_ := Aside0.mk (Kd.R_below (by (with_reducible repeat (first | apply Kd.R_alloc | apply Kd.R_drewN | apply Kd.R_drew)); exact HO127.out) hb); have n1_ := Aside0.mk (below_step (by repeat (first | (with_reducible first | exact HB.out | apply below_alloc | apply pw_below_drewN | apply below_drew1) | exact HB.out)) hb); clear HO127; clear HB; have HO127 := n0_; have HB := n1_; clear n0_ n1_; (try clear hb); (try clear hb2); (try clear hk); (try clear hi)))
    go_ret
    exact ⟨by first | rfl | (simp [errW_none, errW_some] <;> rfl) | (simp only [← hji4]; first | rfl | (simp [errW_none, errW_some] <;> rfl)) | (simp [*, errW_none, errW_some] <;> rfl), by repeat (first | (with_reducible first | exact HB.out | apply below_alloc | apply pw_below_drewN | apply below_drew1) | exact HB.out)⟩
  · rw [if_neg c3] at H
    exact absurd H (by simp)

/-- THE ONE PURE STATEMENT of laws_FnHashInt: yours. -/
def laws_FnHashInt.Pure : Prop := ∀ (a0 : Int) (a1 : Int), (Lit.int .i64 a0).wf = true → (Lit.int .u64 a1).wf = true → ∃ k, laws_FnHashInt.f k a0 a1 = some true
theorem laws_FnHashInt.walk (P : laws_FnHashInt.Pure) (a0 : Int) (a1 : Int) (w : World) (w0 : (Lit.int .i64 a0).wf = true) (w1 : (Lit.int .u64 a1).wf = true) :
    Calls Try.prog 4 #[.int .i64 a0, .int .u64 a1] w fun e w' => e = .returned (.bool true) ∧ Below w.heap.size w w' := by
  obtain ⟨k, h⟩ := P a0 a1 w0 w1
  refine (laws_FnHashInt.calls k a0 a1 true w h).mono ?_
  rintro e w' ⟨rfl, hd⟩
  exact ⟨rfl, hd⟩

end Go.Proofs.Ytojoppondgnajaa.PFnHashInt
