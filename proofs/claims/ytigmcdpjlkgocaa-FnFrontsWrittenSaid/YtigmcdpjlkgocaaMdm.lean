import Derived.Test.YtigmcdpjlkgocaaMdt
import Derived.Test.YtigmcdpjlkgocaaMdb
import Derived.Test.YtigmcdpjlkgocaaMdl
/-! The statements' reader of differences. -/
namespace Go.Proofs.Ytigmcdpjlkgocaa.Dre
open Go.Proofs.Ytigmcdpjlkgocaa.Dun Go.Proofs.Ytigmcdpjlkgocaa.Duv Go.Proofs.Ytigmcdpjlkgocaa.Dst Go.Proofs.Ytigmcdpjlkgocaa.Deo Go.Proofs.Ytigmcdpjlkgocaa.Den Go.Proofs.Ytigmcdpjlkgocaa.Deb Go.Proofs.Ytigmcdpjlkgocaa.Drx Go.Proofs.Ytigmcdpjlkgocaa.Dds Go.Proofs.Ytigmcdpjlkgocaa.Dbw Go.Proofs.Ytigmcdpjlkgocaa.Dbk Go.Proofs.Ytigmcdpjlkgocaa.Dhd Go.Proofs.Ytigmcdpjlkgocaa.Dgr Go.Proofs.Ytigmcdpjlkgocaa.Dpu Go.Proofs.Ytigmcdpjlkgocaa.Pak Go.Proofs.Ytigmcdpjlkgocaa.Buf Go.Proofs.Ytigmcdpjlkgocaa.Fit Go.Proofs.Ytigmcdpjlkgocaa.Bit Go.Proofs.Ytigmcdpjlkgocaa.Wrd Go.Proofs.Ytigmcdpjlkgocaa.Spl Go.Proofs.Ytigmcdpjlkgocaa.Str Go.Proofs.Ytigmcdpjlkgocaa.Flt Go.Proofs.Ytigmcdpjlkgocaa.Owe Go.Proofs.Ytigmcdpjlkgocaa.Num Go.Proofs.Ytigmcdpjlkgocaa.Le Go.Proofs.Ytigmcdpjlkgocaa.Lst Go.Proofs.Ytigmcdpjlkgocaa.Aid Go.RowKit Go.Proofs.YtigmcdpjlkgocaaW.PrintWords Go.Proofs.YtigmcdpjlkgocaaW.PrintLast Go.Proofs.YtigmcdpjlkgocaaW.PrintMore
set_option linter.unusedVariables false
set_option linter.unusedSimpArgs false
theorem xor_i64_m1 (a : Nat) (ha : a < 9223372036854775808) : bits .xor .i64 (a : Int) (-1) = -1 - (a : Int) := by
  have h1 : (BitVec.ofInt 64 (a : Int)).toNat = a := by
    rw [BitVec.ofInt_natCast, BitVec.toNat_ofNat]; exact Nat.mod_eq_of_lt (by omega)
  have h2 : (BitVec.ofInt 64 (-1)).toNat = 2 ^ 64 - 1 := by decide
  show IntKind.i64.wrap ((BitVec.ofInt 64 (a : Int) ^^^ BitVec.ofInt 64 (-1)).toNat : Int) = _
  rw [BitVec.toNat_xor, h1, h2, Nat.xor_comm, xor_ones a (by omega), IntKind.wrap_i64]
  omega
theorem xor_i64_0 (a : Nat) (ha : a < 9223372036854775808) : bits .xor .i64 (a : Int) 0 = (a : Int) := by
  have h1 : (BitVec.ofInt 64 (a : Int)).toNat = a := by
    rw [BitVec.ofInt_natCast, BitVec.toNat_ofNat]; exact Nat.mod_eq_of_lt (by omega)
  have h2 : (BitVec.ofInt 64 0).toNat = 0 := by decide
  show IntKind.i64.wrap ((BitVec.ofInt 64 (a : Int) ^^^ BitVec.ofInt 64 0).toNat : Int) = _
  rw [BitVec.toNat_xor, h1, h2, Nat.xor_zero, IntKind.wrap_i64]
  omega
theorem grown_step {w wr w1 : World} {row row0 : Option Nat} (h : w.grownBy wr row) (k : wr.grownBy w1 row0) (hr : row0 = row ∨ ∃ b, row0 = some b ∧ w.heap.size ≤ b) : w.grownBy w1 row := by
  refine ⟨k.os.trans h.os, k.tape.trans h.tape, k.output.trans h.output, Nat.le_trans h.size k.size, fun i hi hne => (k.block i (Nat.lt_of_lt_of_le hi h.size) ?_).trans (h.block i hi hne)⟩
  rcases hr with e | ⟨b, e, hb⟩
  · rw [e]; exact hne
  · rw [e]; intro h2; injection h2 with h2; omega
theorem hat_step {w wr : World} {r r0 r1 : Option Nat} (hs : w.heap.size ≤ wr.heap.size) (h : r0 = r ∨ ∃ b, r0 = some b ∧ w.heap.size ≤ b) (k : r1 = r0 ∨ ∃ b, r1 = some b ∧ wr.heap.size ≤ b) : r1 = r ∨ ∃ b, r1 = some b ∧ w.heap.size ≤ b := by
  rcases k with e | ⟨b, e, hb⟩
  · rw [e]; exact h
  · exact .inr ⟨b, e, by omega⟩
theorem infoI64z : (Try.prog.info? 2).map (fun i => (i.zero, i.size, i.bytes)) = some (some (.int .i64 0), 1, 8) := by kernel_rfl
theorem unzigzag_calls (x : Int) (hx0 : -9223372036854775808 ≤ x) (hx1 : x ≤ 9223372036854775807) (w : World) :
    Calls Try.prog 22 #[.int .u64 (zz x : Int)] w fun e w' => e = .returned (.int .i64 x) ∧ w = w' := by
  by_cases c0 : x < 0
  · have hz := zz_half_neg x c0
    obtain ⟨Z, hZ⟩ : ∃ Z, zz x = Z := ⟨_, rfl⟩
    rw [hZ] at hz ⊢
    obtain ⟨a, ha⟩ : ∃ a : Nat, -x - 1 = (a : Int) := ⟨(-x - 1).toNat, by omega⟩
    have qand : bits .and .u64 (Z : Int) 1 = 1 := by
      rw [show (1 : Int) = ((2 ^ 1 - 1 : Nat) : Int) by decide, u64_and_nat _ _ (by omega) (by decide), Nat.and_two_pow_sub_one_eq_mod]; omega
    have qh : (Z : Int) / 2 = (a : Int) := by omega
    have qn := xor_i64_m1 a (by omega)
    rw [show -1 - (a : Int) = x by omega] at qn
    have ha9 : a < 9223372036854775808 := by omega
    clear hz hZ ha
    go_enter Try.func22, Try.ntmps22
    go_wp2_with (fail)
    go_ret
    exact ⟨rfl, rfl⟩
  · have hz := zz_half_pos x (by omega)
    obtain ⟨Z, hZ⟩ : ∃ Z, zz x = Z := ⟨_, rfl⟩
    rw [hZ] at hz ⊢
    obtain ⟨a, ha⟩ : ∃ a : Nat, x = (a : Int) := ⟨x.toNat, by omega⟩
    have qand : bits .and .u64 (Z : Int) 1 = 0 := by
      rw [show (1 : Int) = ((2 ^ 1 - 1 : Nat) : Int) by decide, u64_and_nat _ _ (by omega) (by decide), Nat.and_two_pow_sub_one_eq_mod]; omega
    have qh : (Z : Int) / 2 = (a : Int) := by omega
    have qn := xor_i64_0 a (by omega)
    have ha9 : a < 9223372036854775808 := by omega
    clear hz hZ
    subst ha
    go_enter Try.func22, Try.ntmps22
    go_wp2_with (fail)
    go_ret
    exact ⟨rfl, rfl⟩
theorem cutTo64_calls (n : Int) (h0 : 0 ≤ n) (h1 : n < 18446744073709551616) (w : World) :
    Calls Try.prog 24 #[.int .i64 64, .int .u64 n] w fun e w' => e = .returned (.int .i64 (IntKind.i64.wrap n)) ∧ w = w' := by
  obtain ⟨y, hy⟩ : ∃ y, IntKind.i64.wrap n = y := ⟨_, rfl⟩
  rw [hy]
  go_enter Try.func24, Try.ntmps24
  go_wp2_with (fail)
  go_ret
  exact ⟨rfl, rfl⟩
theorem cut32 (n : Int) (h0 : 0 ≤ n) (h1 : n < 18446744073709551616) : IntKind.i64.wrap (IntKind.u64.wrap (n * 4294967296)) / 4294967296 = IntKind.i32.wrap n := by
  rw [IntKind.wrap_u64, IntKind.wrap_i64, IntKind.wrap_i32]; omega
theorem cutTo32_calls (n : Int) (h0 : 0 ≤ n) (h1 : n < 18446744073709551616) (w : World) :
    Calls Try.prog 24 #[.int .i64 32, .int .u64 n] w fun e w' => e = .returned (.int .i64 (IntKind.i32.wrap n)) ∧ w = w' := by
  have HC := Aside0.mk (cut32 n h0 h1)
  obtain ⟨y, hy⟩ : ∃ y, IntKind.i32.wrap n = y := ⟨_, rfl⟩
  rw [hy] at HC ⊢
  obtain ⟨u, hu⟩ : ∃ u, IntKind.u64.wrap (n * 4294967296) = u := ⟨_, rfl⟩
  rw [hu] at HC
  obtain ⟨v, hv⟩ : ∃ v, IntKind.i64.wrap u = v := ⟨_, rfl⟩
  rw [hv] at HC
  have hq := HC.out
  go_enter Try.func24, Try.ntmps24
  go_wp2_with (fail)
  go_ret
  exact ⟨rfl, rfl⟩
set_option maxHeartbeats 16000000 in
set_option maxRecDepth 100000 in
theorem readDelta32_calls (A : Option Addr) (N c : Nat) (X : List Int) (B P S T : Nat) (f : Int) (bs : List DBlk) (rest : List Int) (W : World) (hC : (Kd.int .u8).C W A N X) (hX : X = hdG B P T f ++ (blksB bs ++ rest)) (hc : N ≤ c) (hN : N ≤ 268435455)
    (hB : B = P * S) (hB1 : B % 128 = 0) (hS : S % 32 = 0) (hP : 0 < P) (hPB : P ≤ B) (hB9 : B ≤ 1048576) (hT : T ≤ 200000) (hf0 : -9223372036854775808 ≤ f) (hf1 : f ≤ 9223372036854775807) (hst : strOk 32 P S (T - 1) bs) :
    Calls Try.prog 8 #[.int .i64 32, .slice A N c] W fun e w' => ∃ v A' c', e = .returned (.tuple #[v, .slice A' rest.length c', .bool true]) ∧ Own w' W.heap.size 2 .i64 v ((f :: blksV .i32 f bs).take T) ∧ rest.length ≤ c' ∧ (∀ W1, Below W.heap.size W W1 → (Kd.int .u8).C W1 A' rest.length rest) ∧ Below W.heap.size W w' := by
  obtain ⟨Z, hZ⟩ : ∃ Z, zz f = Z := ⟨_, rfl⟩
  have hZ9 := zz_lt f hf0 hf1
  rw [hZ] at hZ9
  obtain ⟨Y, hY⟩ : ∃ Y, blksB bs ++ rest = Y := ⟨_, rfl⟩
  obtain ⟨H, tl, h0, h1, h2, h3, t0, t4, hst4⟩ : ∃ (H : Nat → Nat) (tl : Nat → List Int), H 0 = B ∧ H 1 = P ∧ H 2 = T ∧ H 3 = Z ∧ tl 0 = X ∧ tl 4 = Y ∧ ∀ j, j < 4 → tl j = varL (H j) ++ tl (j + 1) ∧ H j < 18446744073709551616 := by
    refine ⟨fun j => if j = 0 then B else if j = 1 then P else if j = 2 then T else Z, fun j => if j = 0 then X else if j = 1 then varL P ++ (varL T ++ (varL Z ++ Y)) else if j = 2 then varL T ++ (varL Z ++ Y) else if j = 3 then varL Z ++ Y else Y, rfl, rfl, rfl, rfl, rfl, rfl, fun j hj => ?_⟩
    have e : X = varL B ++ (varL P ++ (varL T ++ (varL Z ++ Y))) := by rw [hX, hY]; unfold hdG; rw [hZ]; simp only [List.append_assoc]
    rcases (show j = 0 ∨ j = 1 ∨ j = 2 ∨ j = 3 by omega) with h | h | h | h <;> subst h
    · exact ⟨e, by show B < _; omega⟩
    · exact ⟨rfl, by show P < _; omega⟩
    · exact ⟨rfl, by show T < _; omega⟩
    · exact ⟨rfl, by show Z < _; omega⟩
  have HH := Aside0.mk h0
  have HH1 := Aside0.mk h1
  have HH2 := Aside0.mk h2
  have HH3 := Aside0.mk h3
  have HT4 := Aside0.mk t4
  have HTL := Aside0.mk hst4
  have HYQ := Aside0.mk hY
  have HZQ := Aside0.mk hZ
  have HST := Aside0.mk hst
  have HC0 : Aside0 ((Kd.int .u8).C W A N (tl 0)) := ⟨by rw [t0]; exact hC⟩
  obtain ⟨i8, h8⟩ := h8
  clear hC hX h0 h1 h2 h3 t0 t4 hst4 hY hZ hst
  go_enter Try.func8, Try.ntmps8
  go_wp2_with (fail)
  have HR : Aside0 (Row (W.alloc (.cells #[.int .u64 0, .int .u64 0, .int .u64 0, .int .u64 0] 53)) W.heap.size 53 .u64 (partI (fun i => (H i : Int)) 4 0)) := ⟨by rw [partI_zero]; exact ⟨Blk.new _ _ _⟩⟩
  have HB : Aside0 (Below W.heap.size W (W.alloc (.cells #[.int .u64 0, .int .u64 0, .int .u64 0, .int .u64 0] 53))) := ⟨(Below.refl _ _).alloc (Nat.le_refl _) _⟩
  generalize W.alloc (.cells #[.int .u64 0, .int .u64 0, .int .u64 0, .int .u64 0] 53) = wm at *
  go_loopg [1, 8, 9, 24] 4 (fun kq v1 v8 v9 v24 w' => ∃ (j n1 c1 : Nat) (A1 : Option Addr), j ≤ 4 ∧ v24 = .int .i64 j ∧ v1 = .slice A1 n1 c1 ∧ n1 ≤ c1 ∧ n1 ≤ 268435455 ∧ Aside0 (∀ W1, Below W.heap.size W W1 → (Kd.int .u8).C W1 A1 n1 (tl j)) ∧ Aside0 (Row w' W.heap.size 53 .u64 (partI (fun i => (H i : Int)) 4 j)) ∧ Aside0 (Below W.heap.size W w') ∧ Aside0 (4 - j ≤ kq))
  case atStart => exact ⟨0, N, c, A, by omega, rfl, rfl, hc, hN, ⟨fun W1 h => Kd.C_below HC0.out h⟩, HR, HB, ⟨by omega⟩⟩
  case round =>
    clear HR HB HC0 hc hN
    obtain ⟨j, n1, c1, A1, hj, rfl, rfl, hc1, hn1, HC1, HR, HB, HK⟩ := hrel
    by_cases cj : j < 4
    · have cjb : decide ((j : Int) < 4) = true := decide_eq_true (by omega)
      have cjn : decide (j < 4) = true := decide_eq_true (by omega)
      obtain ⟨e, hH9⟩ := HTL.out j cj
      have HUV := Aside0.mk (readVarint_calls A1 n1 c1 (tl j) (tl (j + 1)) (H j) wr (HC1.out wr HB.out) hc1 (by omega) e hH9)
      have hl := (HC1.out wr HB.out).1
      rw [e, List.length_append] at hl
      have hL0 := varL_pos (H j)
      obtain ⟨x, hx⟩ : ∃ x, H j = x := ⟨_, rfl⟩
      rw [hx] at HUV
      have HXQ := Aside0.mk hx
      obtain ⟨rl, hrl⟩ : ∃ rl, (tl (j + 1)).length = rl := ⟨_, rfl⟩
      have HRL := Aside0.mk hrl
      rw [hrl] at HUV hl
      have hrl9 : rl ≤ 268435455 := by omega
      have rc := HR.out.cell (j := j) (by rw [partI_length]; omega)
      have rf := HR.out.free j
      obtain ⟨z, hz⟩ : ∃ z, rd (partI (fun i => (H i : Int)) 4 j) (j : Nat) = z := ⟨_, rfl⟩
      rw [hz] at rc
      have qi0 : (0 : Int) ≤ (j : Int) := by omega
      have qi1 : (j : Int) < 4 := by omega
      clear e hH9 hl hL0 hx hrl hz
      go_wp2_with (first
        | (go_at_call 21; go_loud (with_reducible refine HUV.out.mono ?_); rintro e w1 ⟨A2, c2, rfl, hc2, hCC, ⟨nd, rfl⟩⟩; have HCC := Aside0.mk hCC; have HRd := Aside0.mk (HR.out.drewN nd); have rcd := HRd.out.cell (j := j) (by rw [partI_length]; omega); have rfd := HRd.out.free j; clear hCC))
      go_roundg (gk - 1)
      case measure => have := HK.out; omega
      case rel =>
        refine ⟨j + 1, rl, c2, A2, by omega, by go_num, rfl, by omega, hrl9, ⟨fun W1 h => by have := HCC.out W1 (HC1.out W1 h); rw [← HRL.out]; rw [← HRL.out] at this; exact this⟩, ⟨?_⟩, ⟨Below.setCell (p := ⟨W.heap.size, j, none⟩) (HB.out.trans ((drewN_below wr nd).mono HB.out.size)) (Nat.le_refl _) _⟩, ⟨by have := HK.out; omega⟩⟩
        have h := HRd.out.set j (x : Int)
        rw [← HXQ.out, partI_set (fun i => (H i : Int)) 4 j] at h
        rw [← HXQ.out]
        exact h
    · obtain rfl : j = 4 := by omega
      have cjb : decide (((4 : Nat) : Int) < 4) = false := by decide
      have e4 := HTL.out 0 (by omega)
      have p0 := HR.out.cell (j := 0) (by rw [partI_length]; omega)
      have p1 := HR.out.cell (j := 1) (by rw [partI_length]; omega)
      have p2 := HR.out.cell (j := 2) (by rw [partI_length]; omega)
      have p3 := HR.out.cell (j := 3) (by rw [partI_length]; omega)
      rw [rd_partI _ _ _ _ (by omega), if_pos (by omega), HH.out] at p0
      rw [rd_partI _ _ _ _ (by omega), if_pos (by omega), HH1.out] at p1
      rw [rd_partI _ _ _ _ (by omega), if_pos (by omega), HH2.out] at p2
      rw [rd_partI _ _ _ _ (by omega), if_pos (by omega), HH3.out] at p3
      have hPS : P * S / P = S := Nat.mul_div_cancel_left S hP
      have hP9 : P ≤ 1048576 := by omega
      have hS9 : S ≤ 1048576 := by
        have := Nat.le_mul_of_pos_left S hP
        omega
      have d1 : (B : Int) / (P : Int) = (S : Int) := by rw [← hPS, ← hB]; push_cast; rfl
      have d2 : (B : Int) % (P : Int) = 0 := by
        have : B % P = 0 := by rw [hB]; exact Nat.mul_mod_right P S
        exact_mod_cast this
      have d3 : (B : Int).tdiv (P : Int) = (S : Int) := by rw [Int.tdiv_eq_ediv_of_nonneg (by omega)]; exact d1
      have d4 : (B : Int).tmod (P : Int) = 0 := by rw [Int.tmod_eq_emod_of_nonneg (by omega)]; exact d2
      have d5 : (S : Int) % 32 = 0 := by omega
      have d6 : (S : Int).tmod 32 = 0 := by rw [Int.tmod_eq_emod_of_nonneg (by omega)]; exact d5
      have d7 : (B : Int) % 128 = 0 := by omega
      have d8 : (B : Int).tmod 128 = 0 := by rw [Int.tmod_eq_emod_of_nonneg (by omega)]; exact d7
      have wB : IntKind.i64.wrap (B : Int) = (B : Int) := IntWalk.i64_in _ (by omega)
      have wP : IntKind.i64.wrap (P : Int) = (P : Int) := IntWalk.i64_in _ (by omega)
      have wT : IntKind.i64.wrap (T : Int) = (T : Int) := IntWalk.i64_in _ (by omega)
      have wS : IntKind.i64.wrap (S : Int) = (S : Int) := IntWalk.i64_in _ (by omega)
      have q1 : decide (1048576 < (B : Int)) = false := decide_eq_false (by omega)
      have q2 : ((P : Int) == 0) = false := by rw [beq_eq_false_iff_ne]; omega
      have q3 : decide ((B : Int) < (P : Int)) = false := decide_eq_false (by omega)
      have q4 : decide (200000 < (T : Int)) = false := decide_eq_false (by omega)
      have q1n : decide (1048576 < B) = false := decide_eq_false (by omega)
      have q3n : decide (B < P) = false := decide_eq_false (by omega)
      have q4n : decide (200000 < T) = false := decide_eq_false (by omega)
      have qP : ¬ (P : Int) = 0 := by omega
      have HBQ := Aside0.mk hB
      have HC4 : Aside0 (∀ W1, Below W.heap.size W W1 → (Kd.int .u8).C W1 A1 n1 (blksB bs ++ rest)) := ⟨fun W1 h => by rw [HYQ.out, ← HT4.out]; exact HC1.out W1 h⟩
      clear e4 hPS HH HH1 HH2 HH3 HTL HT4 HC1 hB
      by_cases c0 : T = 0
      · have q5 : ((T : Int) == 0) = true := by rw [beq_iff_eq]; omega
        go_wp2_with (first | (go_quiet (fail)))
        go_ret3
        have hbs : bs = [] := by have := HST.out; rw [c0] at this; exact strOk_nil this
        have hn := (HC4.out W (Below.refl _ _)).1
        rw [hbs] at hn HC4
        have hn : rest.length = n1 := hn
        subst hn
        exact ⟨_, A1, c1, rfl, by rw [c0]; exact Own.nil _ _ _ _, hc1, HC4.out, HB.out.trans ((drewN_below wr nq).mono HB.out.size)⟩
      · have q5 : ((T : Int) == 0) = false := by rw [beq_eq_false_iff_ne]; omega
        have HZZ : Aside0 (∀ W1, Calls Try.prog 22 #[.int .u64 (Z : Int)] W1 fun e w' => e = .returned (.int .i64 f) ∧ W1 = w') := ⟨fun W1 => by have := unzigzag_calls f hf0 hf1 W1; rw [HZQ.out] at this; exact this⟩
        go_wp2_with (first
          | (go_quiet (fail))
          | (go_at_call 22; go_loud (with_reducible refine (HZZ.out _).mono ?_); rintro e w5 ⟨rfl, rfl⟩))
        obtain ⟨V, hV⟩ : ∃ V, (f :: blksV .i32 f bs).take T = V := ⟨_, rfl⟩
        have HV0 : Aside0 ([f] ++ (blksV .i32 f bs).take (T - 1) = V) := ⟨by rw [← hV]; obtain ⟨T', rfl⟩ : ∃ T', T = T' + 1 := ⟨T - 1, by omega⟩; rfl⟩
        have HO0 : Aside0 (Own ((wr.drewN nq).alloc (.cells #[.int .i64 f] 2)) W.heap.size 2 .i64 (.slice (some ⟨wr.heap.size, 0, none⟩) 1 1) [f]) := ⟨(show Row ((wr.drewN nq).alloc (.cells #[.int .i64 f] 2)) wr.heap.size 2 .i64 [f] from ⟨Blk.new (wr.drewN nq) _ _⟩).toOwn (n := 1) HB.out.size (Nat.le_refl _) (by simp)⟩
        have HB0 : Aside0 (Below W.heap.size W ((wr.drewN nq).alloc (.cells #[.int .i64 f] 2))) := ⟨(HB.out.trans ((drewN_below wr nq).mono HB.out.size)).alloc HB.out.size _⟩
        generalize (wr.drewN nq).alloc (.cells #[.int .i64 f] 2) = wa at *
        generalize wr.heap.size = ga at *
        have HVQ := Aside0.mk hV
        have HCT : Aside0 (∀ (n : Int) (W1 : World), 0 ≤ n → n < 18446744073709551616 → Calls Try.prog 24 #[.int .i64 32, .int .u64 n] W1 fun e w' => e = .returned (.int .i64 (IntKind.i32.wrap n)) ∧ W1 = w') := ⟨fun n W1 h0 h1 => cutTo32_calls n h0 h1 W1⟩
        clear hV HR HB HK p0 p1 p2 p3 q1 q3 q4 q1n q3n q4n HZZ wB wP wT d2 d4 d5 d6 d7 d8
        go_loopg [1, 13, 14, 15, 16, 17, 18, 20, 21, 23] bs.length (fun kq v1 v13 v14 v15 v16 v17 v18 v20 v21 v23 w' => ∃ (bb : List DBlk) (R : Nat) (last : Int) (o : List Int) (n1 c1 : Nat) (A1 : Option Addr), v1 = .slice A1 n1 c1 ∧ n1 ≤ c1 ∧ n1 ≤ 268435455 ∧ v13 = .int .i64 last ∧ Aside0 (o.length + R = T) ∧ Aside0 (1 ≤ o.length) ∧ Aside0 (strOk 32 P S R bb) ∧ Aside0 (o ++ (blksV .i32 last bb).take R = V) ∧ Aside0 (∀ W1, Below W.heap.size W W1 → (Kd.int .u8).C W1 A1 n1 (blksB bb ++ rest)) ∧ Aside0 (Own w' W.heap.size 2 .i64 v14 o) ∧ Aside0 (Below W.heap.size W w') ∧ Aside0 (bb.length ≤ kq))
        case atStart => exact ⟨bs, T - 1, f, [f], n1, c1, A1, rfl, hc1, hn1, rfl, ⟨by show 1 + (T - 1) = T; omega⟩, ⟨by simp⟩, HST, HV0, HC4, HO0, HB0, ⟨Nat.le_refl _⟩⟩
        case round =>
          clear HO0 HB0 HV0 HC4 HST hc1 hn1
          obtain ⟨bb, R, last, o, n1, c1, A1, rfl, hc1, hn1, rfl, HOL, HO1, HST, HV, HC1, HO, HB, HK⟩ := hrel
          obtain ⟨g14, C14, rfl, hg14, hC14, hF14⟩ : ∃ g C, u14 = .slice (some ⟨g, 0, none⟩) o.length C ∧ W.heap.size ≤ g ∧ C ≤ 9223372036854775807 ∧ Front wr g C 2 .i64 o := by
            rcases own_front HO.out with ⟨_, e⟩ | h
            · have := HO1.out; rw [e] at this; simp at this
            · exact h
          obtain ⟨ol, hol⟩ : ∃ ol, o.length = ol := ⟨_, rfl⟩
          have HOLQ := Aside0.mk hol
          rw [hol] at HOL HO HO1 ⊢
          have hTI := HOL.out
          clear hol hF14
          by_cases cR : R = 0
          · have qlt : decide ((ol : Int) < (T : Int)) = false := decide_eq_false (by omega)
            have qltn : decide (ol < T) = false := decide_eq_false (by omega)
            have hbb : bb = [] := by have := HST.out; rw [cR] at this; exact strOk_nil this
            have hn := (HC1.out W (Below.refl _ _)).1
            rw [hbb] at hn HC1
            have hn : rest.length = n1 := hn
            have hoV := HV.out
            rw [cR, List.take_zero, List.append_nil] at hoV
            have HOV := Aside0.mk hoV
            subst hn
            clear hoV hbb
            go_wp2_with (fail)
            go_ret3
            refine ⟨_, A1, c1, rfl, ?_, hc1, HC1.out, HB.out⟩
            rw [HVQ.out, ← HOV.out]; exact HO.out
          · have qlt : decide ((ol : Int) < (T : Int)) = true := decide_eq_true (by omega)
            have qltn : decide (ol < T) = true := decide_eq_true (by omega)
            obtain ⟨gk0, rfl⟩ : ∃ gk0, gk = gk0 + 1 := ⟨gk - 1, by
              have h1 := HK.out; have h2 := HST.out
              cases bb with
              | nil => exact absurd h2 cR
              | cons b bb => simp at h1; omega⟩
            cases bb with
            | nil => exact absurd HST.out cR
            | cons b bb =>
              obtain ⟨m, ps⟩ := b
              have HBE := Aside0.mk fun i q hi hq he => blk_end (P := P) (S := S) .i32 o V i q HST.out HV.out hi hq he
              obtain ⟨h0, ⟨hpl, hps⟩, htl, hm, hst'⟩ := HST.out
              have hpl : ps.length = P := hpl
              have hps : ∀ p ∈ ps, p.1 ≤ 32 ∧ p.2.length = S ∧ fitL p.1 p.2 := hps
              have hm : -9223372036854775808 ≤ m ∧ m ≤ 9223372036854775807 := hm
              have hzm := zz_lt m hm.1 hm.2
              obtain ⟨Y2, hY2⟩ : ∃ Y2, blksB bb ++ rest = Y2 := ⟨_, rfl⟩
              have hstr : blksB ((m, ps) :: bb) ++ rest = varL (zz m) ++ (natsI (ps.map (·.1)) ++ (partsB ps ++ Y2)) := by
                rw [blksB_cons, ← hY2]; unfold blkB; simp only [List.append_assoc]
              have HY2 := Aside0.mk hY2
              rw [hstr] at HC1
              have hnl : (natsI (ps.map (·.1))).length = P := by rw [natsI_length, List.length_map, hpl]
              have HUV := Aside0.mk (readVarint_calls A1 n1 c1 _ _ (zz m) wr (HC1.out wr HB.out) hc1 (by omega) rfl hzm)
              have HUZ := Aside0.mk fun W1 => unzigzag_calls m hm.1 hm.2 W1
              obtain ⟨zm, hzmq⟩ : ∃ zm, zz m = zm := ⟨_, rfl⟩
              rw [hzmq] at HUV HUZ
              have hn1l := (HC1.out wr HB.out).1
              have hL0 := varL_pos (zz m)
              rw [List.length_append] at hn1l
              obtain ⟨tl1, htl1⟩ : ∃ tl1, natsI (ps.map (·.1)) ++ (partsB ps ++ Y2) = tl1 := ⟨_, rfl⟩
              have HTL1 := Aside0.mk htl1
              have HZM := Aside0.mk hzmq
              rw [htl1] at HUV hn1l
              obtain ⟨rl, hrl⟩ : ∃ rl, tl1.length = rl := ⟨_, rfl⟩
              rw [hrl] at HUV hn1l
              have hPr : P + (partsB ps ++ Y2).length = rl := by have h := congrArg List.length htl1; rw [List.length_append, hnl] at h; omega
              have qPr : decide ((rl : Int) < (P : Int)) = false := decide_eq_false (by omega)
              have qPrn : decide (rl < P) = false := decide_eq_false (by omega)
              have hrl9 : rl ≤ 268435455 := by omega
              have hPr2 : P ≤ rl := by omega
              have HTLQ := Aside0.mk htl
              have HPS := Aside0.mk hps
              have HPL := Aside0.mk hpl
              have HNL := Aside0.mk hnl
              have hVBL : (walkV .i32 m last (blkN (m, ps))).length = P * S := by rw [walkV_length, blkN_length (W := 32) ⟨hpl, hps⟩]
              have HRV := Aside0.mk fun j hj => rd_walkV .i32 m (blkN (m, ps)) last j hj
              have HKr := Aside0.mk (show bb.length + 1 ≤ gk0 + 1 from HK.out)
              clear htl hps hpl hnl hst' hstr hY2 hzmq hn1l hL0 htl1 hrl hPr
              go_wp2_with (first
                | (go_at_call 21; go_loud (with_reducible refine HUV.out.mono ?_); rintro e w1 ⟨A2, c2, rfl, hc2, hCC, ⟨nd, rfl⟩⟩; have HCC := Aside0.mk hCC; obtain ⟨cutw, hCw⟩ := cutHi (P := Try.prog) 23 5 Try.underlying23 h8.1 A2 rl c2 .i64 (P : Int) P rfl hPr2 hc2; obtain ⟨A3, cutb, hCb⟩ := cutLo (P := Try.prog) 23 5 Try.underlying23 h8.1 h8.2 A2 rl c2 .i64 (P : Int) P rfl hPr2 hc2; have HCw := Aside0.mk hCw; have HCb := Aside0.mk hCb; clear hCC hCw hCb))
              have HCS : Aside0 (∀ W1, Below W.heap.size W W1 → (Kd.int .u8).C W1 A2 rl tl1) := ⟨fun W1 h => HCC.out W1 (by rw [← HZM.out, ← HTL1.out]; exact HC1.out W1 h)⟩
              have HCWd : Aside0 (∀ W1, Below W.heap.size W W1 → (Kd.int .u8).C W1 A2 P (natsI (ps.map (·.1)))) := ⟨fun W1 h => by have := HCw.out _ W1 _ (HCS.out W1 h); rw [← HTL1.out, List.take_left' HNL.out] at this; exact this⟩
              have HCP : Aside0 (∀ W1, Below W.heap.size W W1 → (Kd.int .u8).C W1 A3 (rl - P) (partsB (ps.drop 0) ++ Y2)) := ⟨fun W1 h => by have := HCb.out (Kd.int .u8) W1 _ rfl (HCS.out W1 h); rw [← HTL1.out, List.drop_left' HNL.out] at this; exact this⟩
              have HO2 := Aside0.mk (HO.out.drewN nd)
              have HB2 := Aside0.mk (HB.out.trans ((drewN_below wr nd).mono HB.out.size))
              obtain ⟨VB, hVB⟩ : ∃ VB, walkV .i32 m last (blkN (m, ps)) = VB := ⟨_, rfl⟩
              rw [hVB] at hVBL HRV HBE
              have HVBL := Aside0.mk hVBL
              generalize wr.drewN nd = wq at *
              have hrlP : rl - P ≤ c2 - P := by omega
              clear HO HB HCC HCw HCb HCS HUV hVBL hVB cutw cutb HC1
              go_loopg [1, 13, 14, 20, 21, 23, 119] P (fun kq v1 v13 v14 v20 v21 v23 v119 w' => ∃ (i q n3 c3 : Nat) (A3 : Option Addr), i ≤ P ∧ v119 = .int .i64 i ∧ v1 = .slice A3 n3 c3 ∧ n3 ≤ c3 ∧ n3 ≤ 268435455 ∧ v13 = .int .i64 (prv last VB q) ∧ q ≤ R ∧ Aside0 (q = min (i * S) R) ∧ Aside0 (∀ W1, Below W.heap.size W W1 → (Kd.int .u8).C W1 A3 n3 (partsB (ps.drop i) ++ Y2)) ∧ Aside0 (Own w' W.heap.size 2 .i64 v14 (o ++ VB.take q)) ∧ Aside0 (Below W.heap.size W w') ∧ Aside0 (P - i ≤ kq))
              case atStart => exact ⟨0, 0, rl - P, c2 - P, A3, by omega, rfl, rfl, hrlP, by omega, rfl, by omega, ⟨by simp⟩, HCP, ⟨by rw [List.take_zero, List.append_nil]; exact HO2.out⟩, HB2, ⟨by omega⟩⟩
              case round =>
                clear HO2 HB2 HCP hrlP hc1 hn1
                obtain ⟨i, q, n3, c3, A3, hi, rfl, rfl, hc3, hn3, rfl, hqR, HQ, HCP, HO, HB, HK3⟩ := hrel
                obtain ⟨z, hz⟩ : ∃ z, (o ++ VB.take q).length = z := ⟨_, rfl⟩
                have hiS : i * S ≤ P * S := Nat.mul_le_mul_right S hi
                have hzq : z = ol + q := by
                  rw [← hz, List.length_append, List.length_take, HVBL.out, HOLQ.out]; have := HQ.out; omega
                obtain ⟨g14, C14, rfl, hg14, hC14, hF14⟩ : ∃ g C, u14 = .slice (some ⟨g, 0, none⟩) (o ++ VB.take q).length C ∧ W.heap.size ≤ g ∧ C ≤ 9223372036854775807 ∧ Front wr g C 2 .i64 (o ++ VB.take q) := by
                  rcases own_front HO.out with ⟨_, e⟩ | h
                  · have h1 := HO1.out; rw [e] at hz; simp at hz; omega
                  · exact h
                rw [hz] at HO ⊢
                have HZQ := Aside0.mk hz
                clear hz hF14
                by_cases ci : i < P
                · have cib : decide ((i : Int) < (P : Int)) = true := decide_eq_true (by omega)
                  have cibn : decide (i < P) = true := decide_eq_true (by omega)
                  have hmem := getD_mem ps i (by rw [HPL.out]; exact ci)
                  obtain ⟨hw64, hnsl, hfit⟩ := HPS.out _ hmem
                  obtain ⟨ad, ead, hcell⟩ := Kd.at_int (HCWd.out wr HB.out) (i : Int) (by omega) (by omega)
                  rw [Int.toNat_natCast, fst_rd ps i (by rw [HPL.out]; exact ci)] at hcell
                  obtain ⟨w, hw⟩ : ∃ w, (ps.getD i (0, [])).1 = w := ⟨_, rfl⟩
                  obtain ⟨ns, hns⟩ : ∃ ns, (ps.getD i (0, [])).2 = ns := ⟨_, rfl⟩
                  rw [hw] at hcell hw64 hfit
                  rw [hns] at hnsl hfit
                  have hdr := partsB_drop ps i (by rw [HPL.out]; exact ci)
                  rw [hw, hns] at hdr
                  subst ead
                  have HNS := Aside0.mk hns
                  have HDR := Aside0.mk hdr
                  have HFIT := Aside0.mk hfit
                  have HNSL := Aside0.mk hnsl
                  clear hmem hw hns hdr hfit
                  by_cases cq : q = R
                  · have q6 : ((z : Int) == (T : Int)) = true := by rw [beq_iff_eq]; omega
                    have HE := Aside0.mk (HBE.out i q hi HQ.out (.inr cq))
                    go_wp2_with (fail)
                    go_roundg gk0
                    case measure => omega
                    case rel =>
                      obtain ⟨e1, e2, e3, e4, e5⟩ := HE.out
                      refine ⟨bb, R - P * S, prv last VB q, o ++ VB.take q, n3, c3, A3, rfl, hc3, hn3, rfl, ⟨by rw [HZQ.out]; omega⟩, ⟨by rw [HZQ.out]; have := HO1.out; omega⟩, ⟨e2⟩, ⟨e5⟩, ⟨fun W1 h => ?_⟩, HO, HB, ⟨by have := HKr.out; omega⟩⟩
                      have := HCP.out W1 h
                      rw [e1, ← HY2.out, List.nil_append] at this
                      exact this
                  · have q6 : ((z : Int) == (T : Int)) = false := by rw [beq_eq_false_iff_ne]; omega
                    have hqi : q = i * S := by have := HQ.out; omega
                    have hqS : q + S ≤ P * S := by
                      have := Nat.mul_le_mul_right S (show i + 1 ≤ P from ci)
                      rw [Nat.succ_mul] at this; omega
                    obtain ⟨gk1, rfl⟩ : ∃ gk1, gk = gk1 + 1 := ⟨gk - 1, by have := HK3.out; omega⟩
                    obtain ⟨sz, hsz⟩ : ∃ sz, S * w / 8 = sz := ⟨_, rfl⟩
                    have hsz8 : S * w = 8 * sz := by
                      obtain ⟨s8, hs8⟩ : ∃ s8, S = 8 * s8 := ⟨S / 8, by omega⟩
                      rw [← hsz, hs8, Nat.mul_assoc]; omega
                    have hszI : (S : Int) * (w : Int) = ((8 * sz : Nat) : Int) := by rw [← hsz8]; push_cast; rfl
                    have hsw : S * w ≤ 67108864 := Nat.le_trans (Nat.mul_le_mul hS9 hw64) (by omega)
                    obtain ⟨sw, hswq⟩ : ∃ sw, 8 * sz = sw := ⟨_, rfl⟩
                    rw [hswq] at hszI
                    have hq1 : (sw : Int) / 8 = (sz : Int) := by omega
                    have hq2 : (sw : Int).tdiv 8 = (sz : Int) := by rw [Int.tdiv_eq_ediv_of_nonneg (by omega)]; exact hq1
                    have hqw : IntKind.i64.wrap (sz : Int) = (sz : Int) := IntWalk.i64_in _ (by omega)
                    have hqw2 : IntKind.i64.wrap (sw : Int) = (sw : Int) := IntWalk.i64_in _ (by omega)
                    have hpk : (packLo w ns).length = sz := by unfold packLo; rw [bytesLo_length, HNSL.out, hsz]
                    have hn3l := (HCP.out wr HB.out).1
                    rw [HDR.out, List.append_assoc, List.length_append, hpk] at hn3l
                    have qw64 : decide (64 < (w : Int)) = false := decide_eq_false (by omega)
                    have qw64n : decide (64 < w) = false := decide_eq_false (by omega)
                    have qn3 : decide ((n3 : Int) < (sz : Int)) = false := decide_eq_false (by omega)
                    have qn3n : decide (n3 < sz) = false := decide_eq_false (by omega)
                    have hsz3 : sz ≤ n3 := by omega
                    obtain ⟨cutw, hCw⟩ := cutHi (P := Try.prog) 23 5 Try.underlying23 h8.1 A3 n3 c3 .i64 (sz : Int) sz rfl hsz3 hc3
                    obtain ⟨A5, cutb, hCb⟩ := cutLo (P := Try.prog) 23 5 Try.underlying23 h8.1 h8.2 A3 n3 c3 .i64 (sz : Int) sz rfl hsz3 hc3
                    have HCPk : Aside0 (∀ W1, Below W.heap.size W W1 → (Kd.int .u8).C W1 A3 sz (packLo w ns)) := ⟨fun W1 h => by have := hCw _ W1 _ (HCP.out W1 h); rw [HDR.out, List.append_assoc, List.take_left' hpk] at this; exact this⟩
                    have HCN : Aside0 (∀ W1, Below W.heap.size W W1 → (Kd.int .u8).C W1 A5 (n3 - sz) (partsB (ps.drop (i + 1)) ++ Y2)) := ⟨fun W1 h => by have := hCb (Kd.int .u8) W1 _ rfl (HCP.out W1 h); rw [HDR.out, List.append_assoc, List.drop_left' hpk] at this; exact this⟩
                    have HUN : Aside0 (∀ W1, Below W.heap.size W W1 → Calls Try.prog 23 #[.int .i64 w, .int .i64 S, .slice A3 sz c3] W1 fun e w' => ∃ v, e = .returned v ∧ Own w' W1.heap.size 52 .u64 v ns ∧ Below W1.heap.size W1 w') := ⟨fun W1 h => by
                      have := unpackLow_calls A3 sz c3 w S (packLo w ns) W1 (HCPk.out W1 h) (by omega) (by omega) (packLo_bytes w ns) (by omega) (by omega) (by omega)
                      have e := unpL_pack w ns (by rw [HNSL.out]; omega) HFIT.out
                      rw [HNSL.out] at e
                      rw [e] at this; exact this⟩
                    have HQI := Aside0.mk hqi
                    have qPF : ((P : Int) = 0) = False := eq_false (by omega)
                    have qPN : (P = 0) = False := eq_false (by omega)
                    have qww : IntKind.i64.wrap (w : Int) = (w : Int) := IntWalk.i64_in _ (by omega)
                    have qSF : (0 ≤ (sz : Int)) = True := eq_true (by omega)
                    have qSF2 : ((sz : Int) ≤ (n3 : Int)) = True := eq_true (by omega)
                    have qSF3 : (sz ≤ n3) = True := eq_true hsz3
                    have HZL := Aside0.mk hzq
                    have hq9 : q ≤ 200000 := by omega
                    have hqR2 : q < R := by omega
                    have hz9 : z ≤ 200000 := by omega
                    have hle53 : n3 - sz ≤ c3 - sz := by omega
                    have hle59 : n3 - sz ≤ 268435455 := by omega
                    clear hsz hsz8 hsw hswq hpk hn3l hCw hCb HCP HQ hqi hzq
                    go_wp2_with (fail)
                    go_region_held3 (fun (w9 : World) => True) (trivial)
                      ((first
                        | (go_at_call 23; go_loud (with_reducible refine (HUN.out _ HB.out.drew).mono ?_); rintro e w5 ⟨v5, rfl, ho, hb⟩; obtain ⟨A4, c4, rfl, hc4, hk4⟩ := ho.keep (g := g14) (by have := own_lt (HO.out.drewN 1).out g14 rfl; exact this); rw [HNSL.out] at hc4 hk4 ⊢; have HK4 := Aside0.mk hk4; have HBq := Aside0.mk hb; clear ho hb hk4)
                        | fail "no arm"))
                    have HO6 : Aside0 (Own w5 W.heap.size 2 .i64 (.slice (some ⟨g14, 0, none⟩) z C14) (o ++ VB.take (q + 0))) := ⟨by rw [Nat.add_zero]; exact (HO.out.drewN 1).below HBq.out⟩
                    have HB6 : Aside0 (Below W.heap.size W w5) := ⟨HB.out.drew.trans (HBq.out.mono HB.out.drew.size)⟩
                    clear HO HB HBq HUN
                    have HG6 : Aside0 (w5.grownBy w5 (some g14)) := ⟨grownRefl _ _⟩
                    go_wp2_with (fail)
                    go_loopg [13, 14, 23, 153] S (fun kq v13 v14 v23 v153 w' => ∃ j : Nat, j ≤ S ∧ v153 = .int .i64 j ∧ v13 = .int .i64 (prv last VB (q + j)) ∧ q + j ≤ R ∧ Aside0 (Own w' W.heap.size 2 .i64 v14 (o ++ VB.take (q + j))) ∧ Aside0 (Below W.heap.size W w') ∧ Aside0 (w5.grownBy w' (some g14)) ∧ Aside0 (v14.ownBlock = some g14 ∨ ∃ b, v14.ownBlock = some b ∧ w5.heap.size ≤ b) ∧ Aside0 (S - j ≤ kq))
                    case atStart => exact ⟨0, by omega, rfl, rfl, by omega, HO6, HB6, HG6, ⟨.inl rfl⟩, ⟨by omega⟩⟩
                    case round =>
                      clear HO6 HB6 HG6 hg14 hC14
                      obtain ⟨j, hj, rfl, rfl, hqj, HO, HB, HG, HHT, HK4r⟩ := hrel
                      obtain ⟨z2, hz2⟩ : ∃ z2, (o ++ VB.take (q + j)).length = z2 := ⟨_, rfl⟩
                      have hz2q : z2 = ol + (q + j) := by
                        rw [← hz2, List.length_append, List.length_take, HVBL.out, HOLQ.out]; omega
                      obtain ⟨g15, C15, rfl, hg15, hC15, hF15⟩ : ∃ g C, u14 = .slice (some ⟨g, 0, none⟩) (o ++ VB.take (q + j)).length C ∧ W.heap.size ≤ g ∧ C ≤ 9223372036854775807 ∧ Front wr g C 2 .i64 (o ++ VB.take (q + j)) := by
                        rcases own_front HO.out with ⟨_, e⟩ | h
                        · have h1 := HO1.out; rw [e] at hz2; simp at hz2; omega
                        · exact h
                      rw [hz2] at HO ⊢
                      have HZ2 := Aside0.mk hz2
                      clear hz2 hF15
                      by_cases cj : j < S
                      · have cjb : decide ((j : Int) < (S : Int)) = true := decide_eq_true (by omega)
                        have cjbn : decide (j < S) = true := decide_eq_true (by omega)
                        obtain ⟨ad4, ead4, hcell4⟩ := Kd.at_int (HK4.out wr HG.out) (j : Int) (by omega) (by omega)
                        rw [Int.toNat_natCast] at hcell4
                        obtain ⟨x, hx⟩ : ∃ x, rd ns (j : Nat) = x := ⟨_, rfl⟩
                        rw [hx] at hcell4
                        subst ead4
                        by_cases cR2 : q + j = R
                        · have q7 : ((z2 : Int) == (T : Int)) = true := by rw [beq_iff_eq]; omega
                          have HQJ : Aside0 (q + j = min ((i + 1) * S) R) := ⟨by rw [Nat.succ_mul, ← HQI.out]; omega⟩
                          clear hx
                          go_wp2_with (fail)
                          go_roundg gk1
                          case measure => have := HK3.out; omega
                          case rel => exact ⟨i + 1, q + j, n3 - sz, c3 - sz, A5, by omega, by go_num, rfl, hle53, hle59, rfl, hqj, HQJ, HCN, HO, HB, ⟨by have := HK3.out; omega⟩⟩
                        · have q7 : ((z2 : Int) == (T : Int)) = false := by rw [beq_eq_false_iff_ne]; omega
                          have hrv := HRV.out (q + j) (by rw [blkN_length (W := 32) ⟨HPL.out, HPS.out⟩]; omega)
                          have hfr : rd (blkN (m, ps)) ((q + j : Nat) : Int) = x := by
                            have h1 := flat_rd S ps i j (fun p hp => (HPS.out p hp).2.1) (by rw [HPL.out]; exact ci) cj
                            rw [HNS.out, hx] at h1
                            rw [HQI.out]; exact h1
                          rw [hfr] at hrv
                          have hx2 := HFIT.out x (by rw [← hx]; exact rd_mem (by rw [HNSL.out]; exact cj))
                          have hx9 : x < 18446744073709551616 := by
                            have h1 := two_pow_le hw64
                            have h3 : (2 : Int) ^ w = ((2 ^ w : Nat) : Int) := by push_cast; rfl
                            have h4 : (2 : Nat) ^ 32 = 4294967296 := by decide
                            rw [h3] at hx2; omega
                          obtain ⟨lv, hlv⟩ : ∃ lv, prv last VB (q + j) = lv := ⟨_, rfl⟩
                          rw [hlv] at hrv ⊢
                          obtain ⟨y, hy⟩ : ∃ y, rd VB ((q + j : Nat) : Int) = y := ⟨_, rfl⟩
                          rw [hy] at hrv
                          obtain ⟨u1, hu1⟩ : ∃ u, IntKind.u64.wrap lv = u := ⟨_, rfl⟩
                          obtain ⟨u2, hu2⟩ : ∃ u, IntKind.u64.wrap m = u := ⟨_, rfl⟩
                          obtain ⟨u3, hu3⟩ : ∃ u, IntKind.u64.wrap (u1 + u2) = u := ⟨_, rfl⟩
                          obtain ⟨u4, hu4⟩ : ∃ u, IntKind.u64.wrap (u3 + x) = u := ⟨_, rfl⟩
                          have hu49 : 0 ≤ u4 ∧ u4 < 18446744073709551616 := by rw [← hu4, IntKind.wrap_u64]; omega
                          have hky : IntKind.i32.wrap u4 = y := by
                            rw [hrv, ← hu4, ← hu3, ← hu2, ← hu1, IntKind.wrap_u64, IntKind.wrap_u64, IntKind.wrap_u64, IntKind.wrap_u64, IntKind.wrap_i32, IntKind.wrap_i32]; omega
                          have HCT2 := Aside0.mk fun W1 => HCT.out u4 W1 hu49.1 hu49.2
                          rw [hky] at HCT2
                          have HVS : Aside0 (o ++ VB.take (q + j) ++ [y] = o ++ VB.take (q + (j + 1))) := ⟨by rw [List.append_assoc, ← Nat.add_assoc, take_rd VB (q + j) (by rw [HVBL.out]; omega), hy]⟩
                          have HPV : Aside0 (y = prv last VB (q + (j + 1))) := ⟨by rw [← Nat.add_assoc, prv_succ, hy]⟩
                          have HU1 := Aside0.mk hu1
                          have hz29 : z2 ≤ 200000 := by omega
                          clear hrv hfr hx hlv hy hky hu49 hx2 hz2q
                          go_wp2_with (first
                            | (go_at_call 22; go_loud (with_reducible refine (HUZ.out _).mono ?_); rintro e w7 ⟨rfl, rfl⟩)
                            | (go_at_call 24; go_loud (with_reducible refine (HCT2.out _).mono ?_); rintro e w8 ⟨rfl, rfl⟩)
                            | (at_builtin; go_loud (refine print_append_num (w0 := W) W.heap.size rfl (.tmp 171) (.tmp 173) 22 2 .i64 8 rfl Try.underlying22 infoI64z (by decide) (.slice (some ⟨g15, 0, none⟩) z2 C15) (o ++ VB.take (q + j)) y rfl rfl HO.out.out HB.out HB.out.size ?hl ?_); (case hl => rw [HZ2.out]; omega); intro v9 w9 ho hb hg hat; have HO9 : Aside0 (Own w9 W.heap.size 2 .i64 v9 (o ++ VB.take (q + j) ++ [y])) := ⟨⟨ho⟩⟩; have HG9 := Aside0.mk (grown_step HG.out hg HHT.out); have HH9 := Aside0.mk (hat_step HG.out.size HHT.out hat); have HB9 := Aside0.mk hb; clear ho hb hg hat))
                          go_roundg (gk - 1)
                          case measure => have := HK4r.out; omega
                          case rel => exact ⟨j + 1, by omega, by go_num, by rw [HPV.out], by omega, ⟨by rw [← HVS.out]; exact HO9.out⟩, HB9, HG9, HH9, ⟨by have := HK4r.out; omega⟩⟩
                      · obtain rfl : j = S := by omega
                        have cjb : decide ((j : Int) < (j : Int)) = false := decide_eq_false (by omega)
                        have HQJ : Aside0 (q + j = min ((i + 1) * j) R) := ⟨by rw [Nat.succ_mul, ← HQI.out]; omega⟩
                        go_wp2_with (fail)
                        go_roundg gk1
                        case measure => have := HK3.out; omega
                        case rel => exact ⟨i + 1, q + j, n3 - sz, c3 - sz, A5, by omega, by go_num, rfl, hle53, hle59, rfl, hqj, HQJ, HCN, HO, HB, ⟨by have := HK3.out; omega⟩⟩
                · obtain rfl : i = P := by omega
                  have cib : decide ((i : Int) < (i : Int)) = false := decide_eq_false (by omega)
                  have HE := Aside0.mk (HBE.out i q hi HQ.out (.inl rfl))
                  go_wp2_with (fail)
                  go_roundg gk0
                  case measure => omega
                  case rel =>
                    obtain ⟨e1, e2, e3, e4, e5⟩ := HE.out
                    refine ⟨bb, R - i * S, prv last VB q, o ++ VB.take q, n3, c3, A3, rfl, hc3, hn3, rfl, ⟨by rw [HZQ.out]; omega⟩, ⟨by rw [HZQ.out]; have := HO1.out; omega⟩, ⟨e2⟩, ⟨e5⟩, ⟨fun W1 h => ?_⟩, HO, HB, ⟨by have := HKr.out; omega⟩⟩
                    have := HCP.out W1 h
                    rw [e1, ← HY2.out, List.nil_append] at this
                    exact this
end Go.Proofs.Ytigmcdpjlkgocaa.Dre

/-! Lengths of texts: the statements' reader. -/
namespace Go.Proofs.Ytigmcdpjlkgocaa.Dlp
open Go.Proofs.Ytigmcdpjlkgocaa.Dre Go.Proofs.Ytigmcdpjlkgocaa.Dle Go.Proofs.Ytigmcdpjlkgocaa.Dib Go.Proofs.Ytigmcdpjlkgocaa.Dew Go.Proofs.Ytigmcdpjlkgocaa.Dtx Go.Proofs.Ytigmcdpjlkgocaa.Ddc Go.Proofs.Ytigmcdpjlkgocaa.Dct Go.Proofs.Ytigmcdpjlkgocaa.Dst Go.Proofs.Ytigmcdpjlkgocaa.Deo Go.Proofs.Ytigmcdpjlkgocaa.Den Go.Proofs.Ytigmcdpjlkgocaa.Deb Go.Proofs.Ytigmcdpjlkgocaa.Dml Go.Proofs.Ytigmcdpjlkgocaa.Dhd Go.Proofs.Ytigmcdpjlkgocaa.Dgr Go.Proofs.Ytigmcdpjlkgocaa.Dpu Go.Proofs.Ytigmcdpjlkgocaa.Dds Go.Proofs.Ytigmcdpjlkgocaa.Pak Go.Proofs.Ytigmcdpjlkgocaa.Buf Go.Proofs.Ytigmcdpjlkgocaa.Fit Go.Proofs.Ytigmcdpjlkgocaa.Bit Go.Proofs.Ytigmcdpjlkgocaa.Wrd Go.Proofs.Ytigmcdpjlkgocaa.Spl Go.Proofs.Ytigmcdpjlkgocaa.Str Go.Proofs.Ytigmcdpjlkgocaa.Flt Go.Proofs.Ytigmcdpjlkgocaa.Owe Go.Proofs.Ytigmcdpjlkgocaa.Num Go.Proofs.Ytigmcdpjlkgocaa.Le Go.Proofs.Ytigmcdpjlkgocaa.Lst Go.Proofs.Ytigmcdpjlkgocaa.Aid Go.RowKit Go.Proofs.YtigmcdpjlkgocaaW.PrintWords Go.Proofs.YtigmcdpjlkgocaaW.PrintLast Go.Proofs.YtigmcdpjlkgocaaW.PrintMore
set_option linter.unusedVariables false
set_option linter.unusedSimpArgs false
/-! ### texts that lie in other bytes -/
def encS (z : Option Addr × Nat × Nat) : Value := .slice z.1 z.2.1 z.2.2
/-- slices that show texts -/
structure Views (w : World) (ls : List (List Int)) (zs : List (Option Addr × Nat × Nat)) : Prop where
  len : zs.length = ls.length
  at' : ∀ (j : Nat) (l : List Int), ls[j]? = some l → ∃ A c, zs[j]? = some (A, l.length, c) ∧ l.length ≤ c ∧ (Kd.int .u8).C w A l.length l
theorem Views.snoc {w : World} {ls : List (List Int)} {zs : List (Option Addr × Nat × Nat)} (h : Views w ls zs) {l : List Int} {A : Option Addr} {c : Nat} (hc : l.length ≤ c) (hC : (Kd.int .u8).C w A l.length l) : Views w (ls ++ [l]) (zs ++ [(A, l.length, c)]) := by
  refine ⟨by simp [h.len], fun j l' hj => ?_⟩
  by_cases e : j < ls.length
  · rw [List.getElem?_append_left e] at hj
    obtain ⟨A', c', h1, h2, h3⟩ := h.at' j l' hj
    exact ⟨A', c', by rw [List.getElem?_append_left (by rw [h.len]; exact e)]; exact h1, h2, h3⟩
  · rw [List.getElem?_append_right (by omega)] at hj
    have e0 : j - ls.length = 0 := by
      have := (List.getElem?_eq_some_iff.1 hj).1
      simp at this; omega
    rw [e0] at hj
    have : l = l' := by simpa using hj
    subst this
    exact ⟨A, c, by rw [List.getElem?_append_right (by rw [h.len]; omega), h.len, e0]; rfl, hc, hC⟩
theorem Views.below {w w1 : World} {ls : List (List Int)} {zs : List (Option Addr × Nat × Nat)} (h : Views w ls zs) (hb : Below w.heap.size w w1) : Views w1 ls zs :=
  ⟨h.len, fun j l hj => by obtain ⟨A, c, h1, h2, h3⟩ := h.at' j l hj; exact ⟨A, c, h1, h2, Kd.C_below h3 hb⟩⟩
theorem one_encS (z : Option Addr × Nat × Nat) : (encS z).oneCell' = true := rfl
theorem views_C {w : World} {base t : Nat} {v : Value} {ls : List (List Int)} {zs : List (Option Addr × Nat × Nat)} (h : OwnE encS w base t v zs) (hv : Views w ls zs) (t' : Nat) : ∃ A c, v = .slice A ls.length c ∧ ls.length ≤ c ∧ (Kd.slice t' (Kd.int .u8)).C w A ls.length ls := by
  obtain ⟨A, c, e, hc, hC⟩ := h.read one_encS
  rw [hv.len] at e hc hC
  refine ⟨A, c, e, hc, rfl, hC.2.1, fun hp => ?_⟩
  obtain ⟨ad, e1, h1⟩ := hC.2.2 hp
  refine ⟨ad, e1, fun j p hj => ?_⟩
  obtain ⟨A', c', g1, g2, g3⟩ := hv.at' j p hj
  obtain ⟨vs, f1, f2, f3⟩ := h1 j _ g1
  have f4 : vs = [encS (A', p.length, c')] := f2
  subst f4
  exact ⟨[.slice A' p.length c'], rfl, ⟨A', c', rfl, g2, g3⟩, fun i u hu => f3 i u hu⟩
theorem ownE_lower {w : World} {base base' t : Nat} {v : Value} {zs : List (Option Addr × Nat × Nat)} (h : OwnE encS w base t v zs) (hb : base' ≤ base) : OwnE encS w base' t v zs := by
  obtain ⟨h1, h2 | ⟨g, c, cur, e, hg, r⟩⟩ := h.out
  · exact ⟨⟨h1, .inl h2⟩⟩
  · exact ⟨⟨h1, .inr ⟨g, c, cur, e, Nat.le_trans hb hg, r⟩⟩⟩
theorem infoSl2 : (Try.prog.info? 23).map (fun i => (i.zero, i.size, i.bytes)) = some (some (.slice none 0 0), 1, 24) := by kernel_rfl
theorem join_drop (ls : List (List Int)) (j : Nat) (hj : j < ls.length) : (joinL ls).drop (sumLen (ls.take j)) = ls.getD j [] ++ (joinL ls).drop (sumLen (ls.take (j + 1))) := by
  have h1 : joinL ls = joinL (ls.take (j + 1)) ++ joinL (ls.drop (j + 1)) := by
    unfold joinL; rw [← List.flatten_append, List.take_append_drop]
  have h2 : (joinL ls).drop (sumLen (ls.take (j + 1))) = joinL (ls.drop (j + 1)) := by
    conv => lhs; rw [h1, ← joinL_length (ls.take (j + 1)), List.drop_left]
  rw [h2]
  conv => lhs; rw [h1, joinL_take ls j hj, ← joinL_length (ls.take j), List.append_assoc, List.drop_left]
set_option maxHeartbeats 16000000 in
set_option maxRecDepth 100000 in
theorem readLengths_calls (A : Option Addr) (N c : Nat) (X : List Int) (ls : List (List Int)) (B P S : Nat) (bs : List DBlk) (w : World) (hC : (Kd.int .u8).C w A N X) (hX : NumStr (lenL ls) X (joinL ls) B P S bs) (hPB : P ≤ B) (hc : N ≤ c) (hN : N ≤ 268435455) (hk9 : ls.length ≤ 100000) (hs : sumLen ls ≤ 100000) :
    Calls Try.prog 15 #[.slice A N c] w fun e w' => ∃ v zs, e = .returned (.tuple #[v, .bool true]) ∧ OwnE encS w' w.heap.size 23 v zs ∧ Views w' ls zs ∧ Below w.heap.size w w' := by
  obtain ⟨n, hn⟩ : ∃ n, ls.length = n := ⟨_, rfl⟩
  have HLN := Aside0.mk hn
  have HLL : Aside0 ((lenL ls).length = n) := ⟨by rw [lenL_length]; exact hn⟩
  obtain ⟨M, hM⟩ : ∃ M, sumLen ls = M := ⟨_, rfl⟩
  have HJL : Aside0 ((joinL ls).length = M) := ⟨by rw [joinL_length]; exact hM⟩
  have HMQ := Aside0.mk hM
  have HSM := Aside0.mk (sumLen_le ls)
  have hb := fstI_bd hX.bd
  have hvv := hX.vals
  have HRD := Aside0.mk (readDelta32_calls A N c X B P S (lenL ls).length (fstI (lenL ls)) bs (joinL ls) w hC hX.eq hc hN hX.hB hX.hB1 hX.hS hX.hP hPB (by have := hX.hB9; omega) (by rw [lenL_length]; omega) (by omega) (by omega) hX.ok)
  rw [hvv, HJL.out] at HRD
  have hM9 : M ≤ 100000 := by omega
  have hn9 : n ≤ 100000 := by omega
  obtain ⟨i8, h8⟩ := h8
  clear hC hX hn hM hb hvv hs hk9
  go_enter Try.func15, Try.ntmps15
  go_wp2_with (first
    | (go_at_call 8; go_loud (with_reducible refine HRD.out.mono ?_); rintro e w2 ⟨v2, A2, c2, rfl, ho, hc2, hr, hb⟩; obtain ⟨A1, c1, rfl, hc1, hr1⟩ := ho.read; rw [HLL.out] at hc1 hr1; rw [HLL.out]; have HR1 := Aside0.mk hr1; have HR2 : Aside0 (∀ W1, Below w2.heap.size w2 W1 → (Kd.int .u8).C W1 A2 M ((joinL ls).drop (sumLen (ls.take 0)))) := (Aside0.mk (fun W1 h => by rw [List.take_zero, show sumLen ([] : List (List Int)) = 0 from rfl, List.drop_zero]; exact hr W1 (hb.trans (h.mono hb.size)))); have HB2 := Aside0.mk hb; clear ho hr hb hr1))
  have HO0 : Aside0 (OwnE encS w2 w2.heap.size 23 (.slice none 0 0) []) := ⟨OwnE.nil _ _ _ _⟩
  have HB0 : Aside0 (Below w2.heap.size w2 w2) := ⟨Below.refl _ _⟩
  have HV0 : Aside0 (∀ W1, Below w2.heap.size w2 W1 → Views W1 (ls.take 0) []) := ⟨fun W1 _ => ⟨by simp, fun j l h => by simp at h⟩⟩
  go_loopg [5, 7, 9, 20] n (fun kq v5 v7 v9 v20 w' => ∃ (j o r : Nat) (Ar : Option Addr) (cr : Nat) (zs : List (Option Addr × Nat × Nat)), j ≤ n ∧ v20 = .int .i64 j ∧ v5 = .slice Ar r cr ∧ r ≤ cr ∧ Aside0 (o = sumLen (ls.take j)) ∧ o + r = M ∧ Aside0 (∀ W1, Below w2.heap.size w2 W1 → (Kd.int .u8).C W1 Ar r ((joinL ls).drop (sumLen (ls.take j)))) ∧ Aside0 (OwnE encS w' w2.heap.size 23 v7 zs) ∧ Aside0 (∀ W1, Below w2.heap.size w2 W1 → Views W1 (ls.take j) zs) ∧ Aside0 (Below w2.heap.size w2 w') ∧ Aside0 (n - j ≤ kq))
  case atStart => exact ⟨0, 0, M, A2, c2, [], by omega, rfl, rfl, hc2, ⟨by simp [sumLen]⟩, by omega, HR2, HO0, HV0, HB0, ⟨by omega⟩⟩
  case round =>
    clear HO0 HB0 HV0 HR2 hc2
    obtain ⟨j, o, r, Ar, cr, zs, hj, rfl, rfl, hrc, HQ, hor, HR, HO, HV, HB, HK⟩ := hrel
    by_cases cj : j < n
    · have cjb : decide ((j : Int) < n) = true := decide_eq_true (by omega)
      have cjn : decide (j < n) = true := decide_eq_true cj
      obtain ⟨ad, ead, x0⟩ := Kd.at_int (Kd.C_below HR1.out HB.out) (j : Int) (by omega) (by omega)
      rw [Int.toNat_natCast, rd_lenL ls j (by rw [HLN.out]; exact cj)] at x0
      have hst := sumLen_take ls j (by rw [HLN.out]; exact cj)
      have hq9 := HSM.out (j + 1)
      rw [HMQ.out] at hq9
      have hjd := join_drop ls j (by rw [HLN.out]; exact cj)
      have HTK : Aside0 (ls.take (j + 1) = ls.take j ++ [ls.getD j []]) := ⟨by rw [List.take_succ_eq_append_getElem (by rw [HLN.out]; exact cj)]; simp [List.getD_eq_getElem?_getD, (show j < ls.length by rw [HLN.out]; exact cj)]⟩
      obtain ⟨l, hl⟩ : ∃ l, ls.getD j [] = l := ⟨_, rfl⟩
      rw [hl] at x0 hst hjd HTK
      obtain ⟨d, hd⟩ : ∃ d, l.length = d := ⟨_, rfl⟩
      rw [hd] at x0 hst
      have hdr : d ≤ r := by have := HQ.out; omega
      obtain ⟨r', hr'⟩ : ∃ r', r - d = r' := ⟨_, rfl⟩
      have HR' := HR.out
      rw [hjd] at HR'
      obtain ⟨cutH, hCH⟩ := cutHi (P := Try.prog) 23 5 Try.underlying23 h8.1 Ar r cr .i64 (d : Int) d rfl hdr hrc
      obtain ⟨Ac, cutL, hCL⟩ := cutLo (P := Try.prog) 23 5 Try.underlying23 h8.1 h8.2 Ar r cr .i64 (d : Int) d rfl hdr hrc
      have HRC : Aside0 (∀ W1, Below w2.heap.size w2 W1 → (Kd.int .u8).C W1 Ar l.length l) := ⟨fun W1 hW => by have h := hCH (Kd.int .u8) W1 _ (HR' W1 hW); rw [← hd, List.take_left] at h; exact h⟩
      have HRN : Aside0 (∀ W1, Below w2.heap.size w2 W1 → (Kd.int .u8).C W1 Ac r' ((joinL ls).drop (sumLen (ls.take (j + 1))))) := ⟨fun W1 hW => by have h := hCL (Kd.int .u8) W1 _ rfl (HR' W1 hW); rw [← hd, List.drop_left] at h; rw [← hr', ← hd]; exact h⟩
      rw [hr'] at cutL
      have HQ1 : Aside0 (o + d = sumLen (ls.take (j + 1))) := ⟨by have := HQ.out; omega⟩
      have HZL : Aside0 (zs.length = j) := ⟨by rw [(HV.out wr HB.out).len, List.length_take, HLN.out]; omega⟩
      have HDL := Aside0.mk hd
      have qd : decide ((d : Int) < 0) = false := decide_eq_false (by omega)
      have qd2 : decide ((r : Int) < (d : Int)) = false := decide_eq_false (by omega)
      have qd3 : ¬ r < d := by omega
      have hrc' : r' ≤ cr - d := by omega
      have hor' : o + d + r' = M := by omega
      have hdc : l.length ≤ cr := by omega
      have b0 := World.block_lt_of_cell? wr _ x0
      have qi1 : (j : Int) < (n : Int) := by omega
      clear hl hst hq9 hjd hr' HR' hCH hCL hd
      subst ead
      go_wp2_with (first
        | (at_builtin; go_loud (refine appendOneE (w0 := w2) encS w2.heap.size rfl (.tmp 32) (.tmp 36) 30 23 (.slice none 0 0) 24 rfl Try.underlying30 infoSl2 rfl (by decide) u7 zs (Ar, d, cr) rfl rfl rfl HO.out HB.out ?hb ?hl ?_); (case hb => exact HB.out.size); (case hl => rw [HZL.out]; omega); intro v3 w3 ho hb hg; have HO3 := Aside0.mk ho; have HB3 := Aside0.mk hb; have HG3 := Aside0.mk hg; clear ho hb hg))
      go_roundg (gk - 1)
      case measure => have := HK.out; omega
      case rel =>
        refine ⟨j + 1, o + d, r', Ac, cr - d, zs ++ [(Ar, d, cr)], by omega, by go_num, rfl, hrc', HQ1, hor', HRN, HO3, ⟨fun W1 hW => ?_⟩, HB3, ⟨by have := HK.out; omega⟩⟩
        rw [HTK.out]
        have h := (HV.out W1 hW).snoc hdc (HRC.out W1 hW)
        rw [HDL.out] at h
        exact h
    · obtain rfl : j = n := by omega
      have cjb : decide ((j : Int) < j) = false := decide_eq_false (by omega)
      have HTA : Aside0 (ls.take j = ls) := ⟨by rw [← HLN.out, List.take_length]⟩
      have hr0 : r = 0 := by have := HQ.out; rw [HTA.out, HMQ.out] at this; omega
      subst hr0
      rw [HTA.out] at HV
      go_wp2_with (fail)
      go_ret2
      have HO9 := HO.out
      exact ⟨u7, zs, rfl, ownE_lower HO9 HB2.out.size, HV.out wr HB.out, HB2.out.trans (HB.out.mono HB2.out.size)⟩
end Go.Proofs.Ytigmcdpjlkgocaa.Dlp

/-! Texts behind their lengths: the contracts in the laws' own words. -/
namespace Go.Proofs.Ytigmcdpjlkgocaa.Dls
open Go.Proofs.Ytigmcdpjlkgocaa.Dlp Go.Proofs.Ytigmcdpjlkgocaa.Dre Go.Proofs.Ytigmcdpjlkgocaa.Dle Go.Proofs.Ytigmcdpjlkgocaa.Dib Go.Proofs.Ytigmcdpjlkgocaa.Dew Go.Proofs.Ytigmcdpjlkgocaa.Dtx Go.Proofs.Ytigmcdpjlkgocaa.Dct Go.Proofs.Ytigmcdpjlkgocaa.Dst Go.Proofs.Ytigmcdpjlkgocaa.Deo Go.Proofs.Ytigmcdpjlkgocaa.Den Go.Proofs.Ytigmcdpjlkgocaa.Deb Go.Proofs.Ytigmcdpjlkgocaa.Dds Go.Proofs.Ytigmcdpjlkgocaa.Dpu Go.Proofs.Ytigmcdpjlkgocaa.Pak Go.Proofs.Ytigmcdpjlkgocaa.Buf Go.Proofs.Ytigmcdpjlkgocaa.Fit Go.Proofs.Ytigmcdpjlkgocaa.Bit Go.Proofs.Ytigmcdpjlkgocaa.Wrd Go.Proofs.Ytigmcdpjlkgocaa.Spl Go.Proofs.Ytigmcdpjlkgocaa.Str Go.Proofs.Ytigmcdpjlkgocaa.Flt Go.Proofs.Ytigmcdpjlkgocaa.Owe Go.Proofs.Ytigmcdpjlkgocaa.Num Go.Proofs.Ytigmcdpjlkgocaa.Le Go.Proofs.Ytigmcdpjlkgocaa.Lst Go.Proofs.Ytigmcdpjlkgocaa.Aid Go.RowKit Go.Proofs.YtigmcdpjlkgocaaW.PrintWords Go.Proofs.YtigmcdpjlkgocaaW.PrintLast Go.Proofs.YtigmcdpjlkgocaaW.PrintMore
set_option linter.unusedVariables false
set_option linter.unusedSimpArgs false
theorem fits2_true {ls : List (List Int)} (h : fits2 ls = true) : ls.length ≤ 2147483647 ∧ ∀ j, j < ls.length → (ls.getD j []).length ≤ 2147483647 := by
  have := of_decide_eq_true h
  exact ⟨this.1, fun j hj => this.2 _ (getD_mem hj)⟩
/-- bytes that are texts behind their lengths -/
def LenStr (ls : List (List Int)) (X : List Int) (B P S : Nat) : Prop := ∃ bs, NumStr (lenL ls) X (joinL ls) B P S bs
theorem leEncodeS_calls (p0 : Option Addr) (A : Option Addr) (N c : Nat) (B : Option Addr) (m mc k : Nat) (ls : List (List Int)) (w : World) (hC : (Kd.int .u8).C w A N (joinL ls)) (hc : N ≤ c) (hN : N ≤ 100000) (hO : (Kd.int .u32).C w B m (offsL ls m)) (hmc : m ≤ mc) (hm : m = k + 1) (hk : ls.length = k) (hk9 : k ≤ 100000) :
    Calls Try.prog 26 #[.pointer p0, .slice none 0 0, .slice A N c, .slice B m mc] w fun e w' => ∃ v X, e = .returned (.tuple #[v, .nilIface]) ∧ Own w' w.heap.size 5 .u8 v X ∧ (fun X => LenStr ls X 128 4 32 ∧ X.length ≤ 5000000) X ∧ Below w.heap.size w w' := by
  refine (leEncode_calls p0 A N c B m mc k ls w hC hc hN hO hmc hm hk hk9).mono ?_
  rintro e w' ⟨v, X, e1, ho, ⟨hx, hl⟩, hb⟩
  exact ⟨v, X, e1, ho, ⟨hx, by omega⟩, hb⟩
theorem readLengthsV_calls (A : Option Addr) (N c : Nat) (X : List Int) (ls : List (List Int)) (B P S : Nat) (w : World) (hC : (Kd.int .u8).C w A N X) (hX : LenStr ls X B P S) (hPB : P ≤ B) (hc : N ≤ c) (hN : N ≤ 268435455) (hk9 : ls.length ≤ 100000) (hs : sumLen ls ≤ 100000) :
    Calls Try.prog 15 #[.slice A N c] w fun e w' => ∃ v, e = .returned (.tuple #[v, .bool true]) ∧ (∀ t', ∃ A c, v = .slice A ls.length c ∧ ls.length ≤ c ∧ (Kd.slice t' (Kd.int .u8)).C w' A ls.length ls) ∧ Below w.heap.size w w' := by
  obtain ⟨bs, hX⟩ := hX
  refine (readLengths_calls A N c X ls B P S bs w hC hX hPB hc hN hk9 hs).mono ?_
  rintro e w' ⟨v, zs, e1, ho, hv, hb⟩
  exact ⟨v, e1, fun t' => views_C ho hv t', hb⟩
end Go.Proofs.Ytigmcdpjlkgocaa.Dls
