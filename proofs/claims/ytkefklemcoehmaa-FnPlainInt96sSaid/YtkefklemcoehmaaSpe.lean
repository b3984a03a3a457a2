import Derived.Test.YtkefklemcoehmaaSpd
/-! Walks of the package of streams: the encoding's methods for numbers of 32 bits. -/
namespace Go.Proofs.Ytkefklemcoehmaa.Spe
open Go.Proofs.Ytkefklemcoehmaa.Spd Go.Proofs.Ytkefklemcoehmaa.Spl Go.Proofs.Ytkefklemcoehmaa.Str Go.Proofs.Ytkefklemcoehmaa.Flt Go.Proofs.Ytkefklemcoehmaa.Owe Go.Proofs.Ytkefklemcoehmaa.Num Go.Proofs.Ytkefklemcoehmaa.Le Go.Proofs.Ytkefklemcoehmaa.Lst Go.Proofs.Ytkefklemcoehmaa.Aid Go.RowKit Go.Proofs.YtkefklemcoehmaaW.PrintWords Go.Proofs.YtkefklemcoehmaaW.PrintLast Go.Proofs.YtkefklemcoehmaaW.PrintMore
set_option linter.unusedVariables false
set_option linter.unusedSimpArgs false
set_option maxHeartbeats 4000000 in
theorem spResize_calls (x : Int) (m : Nat) (hx : x = m) (h0 : 0 < m) (h1 : m ≤ 1000000) (w : World) :
    Calls Try.prog 40 #[.slice none 0 0, .int .i64 x] w fun e w' => e = .returned (.slice (some ⟨w.heap.size, 0, none⟩) m (2 * m)) ∧ Row w' w.heap.size 5 .u8 (List.replicate (2 * m) 0) ∧ Below w.heap.size w w' := by
  have hc : decide (0 < x) = true := decide_eq_true (by omega)
  have hx1 : 0 ≤ x := by omega
  have hx2 : x ≤ 1000000 := by omega
  have hmk : ∀ W : World, (Instr.makeSlice 23 (.int .i64 x) (.int .i64 (2 * x))).run Try.prog W = .ok (.slice (some ⟨W.heap.size, 0, none⟩) m (2 * m)) (W.alloc (.cells (madeCells #[.int .u8 0] (2 * m)) 5)) := by
    rw [hx, show 2 * (m : Int) = ((2 * m : Nat) : Int) by omega]
    exact make1 (P := Try.prog) 23 5 (.int .u8 0) 1 Try.underlying23 infoU8 rfl m (2 * m) (by omega) (by omega) (by omega)
  clear hx
  go_enter Try.func40, Try.ntmps40
  go_wp2_with (fail)
  go_ret
  exact ⟨rfl, madeRow w 5 .u8 (2 * m), (Below.refl _ _).alloc (Nat.le_refl _) _⟩
set_option maxHeartbeats 4000000 in
theorem spResize0_calls (w : World) :
    Calls Try.prog 40 #[.slice none 0 0, .int .i64 0] w fun e w' => e = .returned (.slice none 0 0) ∧ w = w' := by
  obtain ⟨i8, h8⟩ := h8
  have ⟨cut, _⟩ := cutHi (P := Try.prog) 23 5 Try.underlying23 h8.1 none 0 0 .i64 0 0 rfl (by omega) (by omega)
  go_enter Try.func40, Try.ntmps40
  go_wp2_with (fail)
  go_ret
  exact ⟨rfl, rfl⟩
set_option maxHeartbeats 4000000 in
theorem encodeFloat0_calls (A : Option Addr) (c : Nat) (w : World) :
    Calls Try.prog 41 #[.slice none 0 0, .slice A 0 c] w fun e w' => e = .returned (.tuple #[]) ∧ Below w.heap.size w w' := by
  have HCALL := Aside0.mk (words32_calls A 0 c 0 [] w ⟨rfl, by omega, fun h => absurd h (by omega)⟩ (by omega) rfl (by omega) rfl)
  obtain ⟨i8, h8⟩ := h8
  have cut := cut_mid (P := Try.prog) 23 5 .i64 .i64 Try.underlying23 h8.1 1 h8.2 none 0 0 0 0 (by omega) (by omega) (by omega) (by omega)
  go_enter Try.func41, Try.ntmps41
  go_wp2_with (first
    | (go_at_call 53; (with_reducible refine HCALL.out.mono ?_); rintro e w1 ⟨rfl, hw, hb⟩; have HW1 := Aside0.mk hw; have HB1 := Aside0.mk hb; clear hw hb))
  refine wp_loop_rounds 1 ?_
  rw [rounds_succ]
  go_wp2_with (fail)
  go_end0
  exact ⟨rfl, HB1.out⟩
theorem streams_nil (k : Nat) : streamsL k (enLowL k []) = [] := by simp [streamsL, enLowL]
theorem streams_strP (l : List Int) (n : Nat) (hn : l.length = n) (h0 : 0 < n) (hu : u32L l) :
    (strP (fun j s => wd4 (p4 l n n) j / 256 ^ s % 256) n (8 * n) 4 n).take (4 * n) = streamsL 4 (enLowL 4 l) := by
  rw [strP_full _ _ _ _ h0 (by omega), streams_enLow 4 (by omega), hn]
  apply List.map_congr_left
  intro i hi
  have hi : i < 4 * n := by simpa using hi
  have h3 : i % n < n := Nat.mod_lt _ h0
  show wd4 (p4 l n n) (i % n) / 256 ^ (i / n) % 256 = _
  rw [wd4_p4 l n _ hu hn h3]
set_option maxHeartbeats 4000000 in
theorem spEncodeFloat_calls (p : Option Addr) (A : Option Addr) (n c : Nat) (l : List Int) (w : World) (hC : (Kd.scalar f32 f32_one).C w A n l) (hc : n ≤ c) (hn : n ≤ 100000) (hu : u32L l) :
    Calls Try.prog 26 #[.pointer p, .slice none 0 0, .slice A n c] w fun e w' => ∃ v, e = .returned (.tuple #[v, .nilIface]) ∧ Own w' w.heap.size 5 .u8 v (streamsL 4 (enLowL 4 l)) ∧ Below w.heap.size w w' := by
  have hln : l.length = n := hC.1
  have HC := Aside0.mk hC
  have HU := Aside0.mk hu
  by_cases h0 : n = 0
  · subst h0
    obtain rfl : l = [] := List.eq_nil_of_length_eq_zero hln
    have H1 := Aside0.mk (spResize0_calls w)
    have H2 := Aside0.mk (bytesOfFloat_calls A 0 c [] w hC hc hn hu)
    clear hC hu hln
    go_enter Try.func26, Try.ntmps26
    go_wp2_with (first
      | (go_at_call 40; (with_reducible refine H1.out.mono ?_); rintro e w1 ⟨rfl, rfl⟩)
      | (go_at_call 42; (with_reducible refine H2.out.mono ?_); rintro e w1 ⟨rfl, hw, hb⟩; have HB1 := Aside0.mk hb; clear hw hb)
      | (go_at_call 41; (with_reducible refine (encodeFloat0_calls _ _ _).mono ?_); rintro e w2 ⟨rfl, hb⟩; have HB2 := Aside0.mk (HB1.out.trans (hb.mono HB1.out.size)); clear hb))
    go_ret2
    exact ⟨_, rfl, by rw [streams_nil]; exact Own.nil _ _ _ _, HB2.out⟩
  · obtain ⟨m, hm⟩ : ∃ m, m = 4 * n := ⟨_, rfl⟩
    have H1 := Aside0.mk (spResize_calls (4 * (n : Int)) m (by omega) (by omega) (by omega) w)
    have HM := Aside0.mk hm
    have HLN := Aside0.mk hln
    have hm1 : m ≤ 4 * n := by omega
    have hm2 : 4 * n ≤ m := by omega
    have h1 : 0 < n := by omega
    clear hC hu hln hm h0
    go_enter Try.func26, Try.ntmps26
    go_wp2_with (first
      | (go_at_call 40; (with_reducible refine H1.out.mono ?_); rintro e w1 ⟨rfl, hr, hb⟩; have HR1 := Aside0.mk hr; have HB1 := Aside0.mk hb; clear hr hb)
      | (go_at_call 42; (with_reducible refine (bytesOfFloat_calls A n c l w1 (Kd.C_below HC.out HB1.out) hc hn HU.out).mono ?_); rintro e w2 ⟨rfl, hr, hb⟩; have HR2 := Aside0.mk hr; have HB2 := Aside0.mk hb; clear hr hb)
      | (go_at_call 41; rw [← HM.out]; (with_reducible refine (encodeFloat_calls w.heap.size (2 * m) (some ⟨w1.heap.size, 0, none⟩) m m n (p4 l n n) w2 ?hr ?hM ?hC (Nat.le_refl _) HM.out h1 hn (p4_bytes _ _ _ (Nat.le_refl _))).mono ?_); (case hr => have := HR1.out.below HB2.out HR1.out.lt; rw [HM.out, show 2 * (4 * n) = 8 * n by omega] at this; exact this); (case hM => omega); (case hC => exact rowC HR2.out (by rw [p4_length]; omega) (by omega)); rintro e w3 ⟨rfl, hg, hr⟩; have HG3 := Aside0.mk hg; have HR3 := Aside0.mk hr; clear hg hr))
    go_ret2
    refine ⟨_, rfl, ?_, belowGrown (HB1.out.trans (HB2.out.mono HB1.out.size)) HG3.out (Nat.le_refl _)⟩
    have := HR3.out.toOwn (base := w.heap.size) (n := 4 * n) (Nat.le_refl _) (by rw [strP_length]; omega) (by rw [strP_length]; omega)
    rw [strP_length, streams_strP l n HLN.out h1 HU.out] at this
    rw [show 2 * m = 8 * n by omega, HM.out]
    exact this
theorem partI_wd4 (ws : List Int) (n : Nat) (hn : ws.length = n) (hu : u32L ws) : partI (wd4 (p4 ws n n)) n n = ws := by
  rw [partI_full]
  apply List.ext_getElem
  · simp [hn]
  · intro i h1 h2
    simp only [List.getElem_map, List.getElem_range]
    rw [wd4_p4 ws n i hu hn (by omega), rd_nat _ _ h2]
set_option maxHeartbeats 4000000 in
theorem spDecodeFloat_calls (p : Option Addr) (A : Option Addr) (N c n : Nat) (bs : List Int) (w : World) (hC : (Kd.int .u8).C w A N bs) (hc : N ≤ c) (hN : N = 4 * n) (hn : n ≤ 100000) (hb : bytesB bs = true) :
    Calls Try.prog 28 #[.pointer p, .slice none 0 0, .slice A N c] w fun e w' => ∃ v, e = .returned (.tuple #[v, .nilIface]) ∧ OwnE f32 w' w.heap.size 64 v (sw4 bs n) ∧ Below w.heap.size w w' := by
  have hln : bs.length = N := hC.1
  have HC := Aside0.mk hC
  have HBY := Aside0.mk hb
  have HN := Aside0.mk hN
  have h1N : N ≤ 4 * n := by omega
  have h2N : 4 * n ≤ N := by omega
  have hq : (N : Int) % 4 = 0 := by omega
  have HSU : Aside0 (u32L (sw4 bs n)) := ⟨sw4_u32 hb n (by omega)⟩
  have hmk := print_make (P := Try.prog) 23 5 .u8 1 Try.underlying23 infoU8 (by decide) N (by omega)
  have HR : Aside0 (Row (w.alloc (.cells (madeCells #[.int .u8 0] N) 5)) w.heap.size 5 .u8 (List.replicate (4 * n) 0)) := ⟨by rw [← hN]; exact madeRow w 5 .u8 N⟩
  have HB : Aside0 (Below w.heap.size w (w.alloc (.cells (madeCells #[.int .u8 0] N) 5))) := ⟨(Below.refl _ _).alloc (Nat.le_refl _) _⟩
  clear hC hb hN hln
  go_enter Try.func28, Try.ntmps28
  go_wp2_with (first
    | (go_at_call 44; (with_reducible refine (decodeFloat_calls w.heap.size A N c n bs _ HR.out (readKeep_of HC.out HB.out (Nat.le_refl _)) hc HN.out hn HBY.out).mono ?_); rintro e w1 ⟨rfl, hg, hr⟩; have HG1 := Aside0.mk hg; have HR1 := Aside0.mk hr; clear hg hr)
    | (go_at_call 45; (with_reducible refine (ofFloat_calls (some ⟨w.heap.size, 0, none⟩) N N n (p4 (sw4 bs n) n n) w1 (rowC HR1.out (by rw [p4_length]; omega) (by omega)) (Nat.le_refl _) HN.out hn (p4_bytes _ _ _ (Nat.le_refl _))).mono ?_); rintro e w2 ⟨rfl, hr, hb⟩; have HR2 := Aside0.mk hr; have HB2 := Aside0.mk hb; clear hr hb))
  go_ret2
  have HB1 : Below w.heap.size w w1 := belowGrown HB.out HG1.out (Nat.le_refl _)
  refine ⟨_, rfl, ?_, HB1.trans (HB2.out.mono HB1.size)⟩
  have := HR2.out
  rw [partI_wd4 _ _ (sw4_length _ _) HSU.out] at this
  have := this.toOwn (base := w.heap.size) HB1.size (by rw [sw4_length]; omega)
  rw [sw4_length] at this
  exact this
end Go.Proofs.Ytkefklemcoehmaa.Spe
