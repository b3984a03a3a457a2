import Derived.Test.YtkefklemcoehmaaSpl
/-! Walks of the package of streams: numbers of 32 bits, read and written. -/
namespace Go.Proofs.Ytkefklemcoehmaa.Spd
open Go.Proofs.Ytkefklemcoehmaa.Spl Go.Proofs.Ytkefklemcoehmaa.Str Go.Proofs.Ytkefklemcoehmaa.Flt Go.Proofs.Ytkefklemcoehmaa.Owe Go.Proofs.Ytkefklemcoehmaa.Num Go.Proofs.Ytkefklemcoehmaa.Le Go.Proofs.Ytkefklemcoehmaa.Lst Go.Proofs.Ytkefklemcoehmaa.Aid Go.RowKit Go.Proofs.YtkefklemcoehmaaW.PrintWords Go.Proofs.YtkefklemcoehmaaW.PrintLast Go.Proofs.YtkefklemcoehmaaW.PrintMore
set_option linter.unusedVariables false
set_option linter.unusedSimpArgs false
/-- the words of streams -/
def sw4 (bs : List Int) (n : Nat) : List Int := (List.range n).map fun j => le4 (rd bs (j : Nat)) (rd bs (n + j : Nat)) (rd bs (2 * n + j : Nat)) (rd bs (3 * n + j : Nat))
theorem sw4_length (bs : List Int) (n : Nat) : (sw4 bs n).length = n := by simp [sw4]
theorem rd_sw4 (bs : List Int) (n j : Nat) (hj : j < n) : rd (sw4 bs n) (j : Nat) = le4 (rd bs (j : Nat)) (rd bs (n + j : Nat)) (rd bs (2 * n + j : Nat)) (rd bs (3 * n + j : Nat)) := by
  rw [rd_nat _ _ (by rw [sw4_length]; exact hj)]; simp [sw4]
theorem sw4_u32 {bs : List Int} (hb : bytesB bs = true) (n : Nat) (hn : bs.length = 4 * n) : u32L (sw4 bs n) := by
  intro x hx
  simp only [sw4, List.mem_map, List.mem_range] at hx
  obtain ⟨j, hj, rfl⟩ := hx
  exact le4_bd _ _ _ _ (bytesB_rd hb rfl (by omega)) (bytesB_rd hb rfl (by omega)) (bytesB_rd hb rfl (by omega)) (bytesB_rd hb rfl (by omega))
theorem rd_cut (bs : List Int) (l h j : Nat) (hj : l + j < h) : rd ((bs.take h).drop l) (j : Nat) = rd bs (l + j : Nat) := by
  rw [rd_drop]
  unfold rd
  rw [Int.toNat_natCast, List.getD_eq_getElem?_getD, List.getD_eq_getElem?_getD, List.getElem?_take, if_pos hj]
theorem le4_rawW (a b c d : Int) (ha : byt a) (hb : byt b) (hc : byt c) (hd : byt d) :
  (Go.bits BinOp.or IntKind.u32 (Go.bits BinOp.or IntKind.u32 (Go.bits BinOp.or IntKind.u32 (IntKind.u32.wrap a) (IntKind.u32.wrap (IntKind.u32.wrap b * 256)))
    (IntKind.u32.wrap (IntKind.u32.wrap c * 65536))) (IntKind.u32.wrap (IntKind.u32.wrap d * 16777216))) = le4 a b c d := by
  simp only [IntKind.wrap_u32]
  exact le4_raw a b c d ha hb hc hd
set_option maxHeartbeats 4000000 in
theorem decodeFloat_calls (g : Nat) (A : Option Addr) (N c n : Nat) (bs : List Int) (w : World) (hR : Row w g 5 .u8 (List.replicate (4 * n) 0)) (hC : ReadKeep w g .u8 A N bs) (hc : N ≤ c) (hN : N = 4 * n) (hn : n ≤ 100000) (hb : bytesB bs = true) :
    Calls Try.prog 44 #[.slice (some ⟨g, 0, none⟩) N N, .slice A N c] w fun e w' => e = .returned (.tuple #[]) ∧ w.grownBy w' (some g) ∧ Row w' g 5 .u8 (p4 (sw4 bs n) n n) := by
  have HLN : Aside0 (bs.length = N) := ⟨(hC w (grownRefl _ _)).1⟩
  have HC := Aside0.mk hC
  have HR : Aside0 (Row w g 5 .u8 (p4 (sw4 bs n) n 0)) := ⟨hR⟩
  have HBY := Aside0.mk hb
  have HGR : Aside0 (w.grownBy w (some g)) := ⟨grownRefl _ _⟩
  have h1N : N ≤ 4 * n := by omega
  have h2N : 4 * n ≤ N := by omega
  have hq : (N : Int) / 4 = (n : Int) := by omega
  obtain ⟨i8, h8⟩ := h8
  obtain ⟨A0, cut0, hC0⟩ := cutMid (P := Try.prog) 23 5 Try.underlying23 h8.1 h8.2 A N c .i64 .i64 0 (n : Int) 0 n rfl rfl (by omega) (by omega) hc
  obtain ⟨A1, cut1, hC1⟩ := cutMid (P := Try.prog) 23 5 Try.underlying23 h8.1 h8.2 A N c .i64 .i64 (n : Int) (2 * (n : Int)) n (2 * n) rfl (by omega) (by omega) (by omega) hc
  obtain ⟨A2, cut2, hC2⟩ := cutMid (P := Try.prog) 23 5 Try.underlying23 h8.1 h8.2 A N c .i64 .i64 (2 * (n : Int)) (3 * (n : Int)) (2 * n) (3 * n) (by omega) (by omega) (by omega) (by omega) hc
  obtain ⟨A3, cut3, hC3⟩ := cutMid (P := Try.prog) 23 5 Try.underlying23 h8.1 h8.2 A N c .i64 .i64 (3 * (n : Int)) (4 * (n : Int)) (3 * n) (4 * n) (by omega) (by omega) (by omega) (by omega) hc
  rw [Nat.sub_zero, Nat.sub_zero] at cut0
  rw [Nat.sub_zero] at hC0
  rw [show 2 * n - n = n by omega] at cut1 hC1
  rw [show 3 * n - 2 * n = n by omega] at cut2 hC2
  rw [show 4 * n - 3 * n = n by omega] at cut3 hC3
  have HC0 := Aside0.mk (hC0 (Kd.int .u8))
  have HC1 := Aside0.mk (hC1 (Kd.int .u8))
  have HC2 := Aside0.mk (hC2 (Kd.int .u8))
  have HC3 := Aside0.mk (hC3 (Kd.int .u8))
  have HSU : Aside0 (u32L (sw4 bs n)) := ⟨sw4_u32 hb n (by rw [HLN.out]; exact hN)⟩
  clear hC hb hN hR hC0 hC1 hC2 hC3
  go_enter Try.func44, Try.ntmps44
  go_wp2_with (fail)
  clear cut0 cut1 cut2 cut3 hq
  go_loopg [9, 38] n (fun kq v9 v38 w' => ∃ (j : Nat), j ≤ n ∧ v38 = .int .i64 j ∧ Aside0 (Row w' g 5 .u8 (p4 (sw4 bs n) n j)) ∧ Aside0 (w.grownBy w' (some g)) ∧ Aside0 (n - j ≤ kq))
  case atStart => exact ⟨0, by omega, rfl, HR, HGR, ⟨by omega⟩⟩
  case round =>
    clear HR HGR
    obtain ⟨j, hj, rfl, HR, HGR, HK⟩ := hrel
    by_cases cj : j < n
    · have cjb : decide ((j : Int) < n) = true := decide_eq_true (by omega)
      have cjn : decide (j < n) = true := decide_eq_true (by omega)
      obtain ⟨ad0, ead0, x0⟩ := Kd.at_int (HC0.out _ _ rfl (HC.out wr HGR.out)) (j : Int) (by omega) (by omega)
      obtain ⟨ad1, ead1, x1⟩ := Kd.at_int (HC1.out _ _ rfl (HC.out wr HGR.out)) (j : Int) (by omega) (by omega)
      obtain ⟨ad2, ead2, x2⟩ := Kd.at_int (HC2.out _ _ rfl (HC.out wr HGR.out)) (j : Int) (by omega) (by omega)
      obtain ⟨ad3, ead3, x3⟩ := Kd.at_int (HC3.out _ _ rfl (HC.out wr HGR.out)) (j : Int) (by omega) (by omega)
      rw [Int.toNat_natCast, rd_cut _ _ _ _ (by omega), Nat.zero_add] at x0
      rw [Int.toNat_natCast, rd_cut _ _ _ _ (by omega)] at x1 x2 x3
      have b0 : byt (rd bs (j : Nat)) := bytesB_rd HBY.out rfl (by rw [HLN.out]; omega)
      have b1 : byt (rd bs (n + j : Nat)) := bytesB_rd HBY.out rfl (by rw [HLN.out]; omega)
      have b2 : byt (rd bs (2 * n + j : Nat)) := bytesB_rd HBY.out rfl (by rw [HLN.out]; omega)
      have b3 : byt (rd bs (3 * n + j : Nat)) := bytesB_rd HBY.out rfl (by rw [HLN.out]; omega)
      have HS := Aside0.mk (rd_sw4 bs n j cj)
      generalize rd bs (j : Nat) = y0 at *
      generalize rd bs (n + j : Nat) = y1 at *
      generalize rd bs (2 * n + j : Nat) = y2 at *
      generalize rd bs (3 * n + j : Nat) = y3 at *
      have HV := Aside0.mk (le4_rawW y0 y1 y2 y3 b0 b1 b2 b3)
      have cutd := cutAt (P := Try.prog) 23 5 Try.underlying23 h8.1 h8.2 g N N .i64 (4 * (j : Int)) (4 * j) (by omega) (by omega) (by omega) (by omega)
      have hv := le4_bd y0 y1 y2 y3 b0 b1 b2 b3
      have HCALL := Aside0.mk fun nq => pqsplit_lePutUint32.calls g (4 * j) (N - 4 * j) (N - 4 * j) 5 (p4 (sw4 bs n) n j) (le4 y0 y1 y2 y3) (wr.drewN nq) (HR.out.drewN nq) (by omega) (by rw [p4_length]; omega) hv.1 hv.2
      have qw : IntKind.i64.wrap (4 * (j : Int)) = 4 * (j : Int) := IntWalk.i64_in _ (by omega)
      have qi1 : (j < n) = True := eq_true cj
      have qi2 : ((j : Int) < (n : Int)) = True := eq_true (by omega)
      have qi3 : (0 ≤ (j : Int)) = True := eq_true (by omega)
      clear hj hv b0 b1 b2 b3
      subst ead0 ead1 ead2 ead3
      go_wp2_with (fail)
      refine region_tail 30 (by kernel_rfl) (by kernel_rfl) ?_
      simp only [List.take_succ_cons, List.take_zero, List.drop_succ_cons, List.drop_zero]
      repeat (quiet_step ((fail)))
      refine wpQuiet_nil ?_
      rintro _ ⟨nq, rfl⟩
      rw [HV.out]
      go_wp2_with (first
        | (go_at_call 54; (with_reducible refine (HCALL.out nq).mono ?_); rintro e w2 ⟨rfl, hg, hrow⟩; have HG2 := Aside0.mk hg; have HM2 := Aside0.mk hrow; clear hg hrow))
      go_roundg (gk - 1)
      case measure => have := HK.out; omega
      case rel =>
        refine ⟨j + 1, by omega, by go_num, ⟨?_⟩, ⟨grownTrans (grownDrewN HGR.out nq) HG2.out⟩, ⟨by have := HK.out; omega⟩⟩
        have := HM2.out
        rw [← HS.out] at this
        exact this
    · obtain rfl : j = n := by omega
      have cjb : decide ((j : Int) < j) = false := decide_eq_false (by omega)
      go_wp2_with (fail)
      go_end0
      exact ⟨rfl, HGR.out, HR.out⟩
end Go.Proofs.Ytkefklemcoehmaa.Spd
