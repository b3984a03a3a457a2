import Derived.Test.YtigmcdpjlkgocaaDoorDun
import Derived.Test.YtigmcdpjlkgocaaDoorMdb
/-! The decoder of differences: heads, sums. -/
namespace Go.Proofs.YtigmcdpjlkgocaaDoor.Dhr
open Go.Proofs.YtigmcdpjlkgocaaDoor.Dun Go.Proofs.YtigmcdpjlkgocaaDoor.Duv Go.Proofs.YtigmcdpjlkgocaaDoor.Dst Go.Proofs.YtigmcdpjlkgocaaDoor.Deo Go.Proofs.YtigmcdpjlkgocaaDoor.Den Go.Proofs.YtigmcdpjlkgocaaDoor.Deb Go.Proofs.YtigmcdpjlkgocaaDoor.Drx Go.Proofs.YtigmcdpjlkgocaaDoor.Dds Go.Proofs.YtigmcdpjlkgocaaDoor.Dbw Go.Proofs.YtigmcdpjlkgocaaDoor.Dbk Go.Proofs.YtigmcdpjlkgocaaDoor.Dhd Go.Proofs.YtigmcdpjlkgocaaDoor.Dgr Go.Proofs.YtigmcdpjlkgocaaDoor.Dpu Go.Proofs.YtigmcdpjlkgocaaDoor.Pak Go.Proofs.YtigmcdpjlkgocaaDoor.Buf Go.Proofs.YtigmcdpjlkgocaaDoor.Fit Go.Proofs.YtigmcdpjlkgocaaDoor.Bit Go.Proofs.YtigmcdpjlkgocaaDoor.Wrd Go.Proofs.YtigmcdpjlkgocaaDoor.Spl Go.Proofs.YtigmcdpjlkgocaaDoor.Str Go.Proofs.YtigmcdpjlkgocaaDoor.Flt Go.Proofs.YtigmcdpjlkgocaaDoor.Owe Go.Proofs.YtigmcdpjlkgocaaDoor.Num Go.Proofs.YtigmcdpjlkgocaaDoor.Le Go.Proofs.YtigmcdpjlkgocaaDoor.Lst Go.Proofs.YtigmcdpjlkgocaaDoor.Aid Go.RowKit Go.Proofs.YtigmcdpjlkgocaaDoorW.PrintWords Go.Proofs.YtigmcdpjlkgocaaDoorW.PrintLast Go.Proofs.YtigmcdpjlkgocaaDoorW.PrintMore
set_option linter.unusedVariables false
set_option linter.unusedSimpArgs false
theorem infoI64d : (Tryd.prog.info? 2).map (fun i => (i.zero, i.size, i.bytes)) = some (some (.int .i64 0), 1, 8) := by kernel_rfl
theorem infoI32d : (Tryd.prog.info? 21).map (fun i => (i.zero, i.size, i.bytes)) = some (some (.int .i32 0), 1, 4) := by kernel_rfl
theorem walkV_wrap32 (m : Int) : ∀ (ns : List Int) (last : Int), walkV .i32 (IntKind.i32.wrap m) last (ns.map IntKind.i32.wrap) = walkV .i32 m last ns
  | [], _ => rfl
  | n :: ns, last => by
    have e : IntKind.i32.wrap (last + IntKind.i32.wrap m + IntKind.i32.wrap n) = IntKind.i32.wrap (last + m + n) := by
      rw [IntKind.wrap_i32, IntKind.wrap_i32, IntKind.wrap_i32, IntKind.wrap_i32]; omega
    show IntKind.i32.wrap _ :: _ = _ :: _
    rw [e, walkV_wrap32 m ns]
theorem walkV_wrap64 (m : Int) : ∀ (ns : List Int) (last : Int), walkV .i64 m last (ns.map IntKind.i64.wrap) = walkV .i64 m last ns
  | [], _ => rfl
  | n :: ns, last => by
    have e : IntKind.i64.wrap (last + m + IntKind.i64.wrap n) = IntKind.i64.wrap (last + m + n) := by
      rw [IntKind.wrap_i64, IntKind.wrap_i64, IntKind.wrap_i64]; omega
    show IntKind.i64.wrap _ :: _ = _ :: _
    rw [e, walkV_wrap64 m ns]
theorem results_tmp4 {fn : Func} {t u v x : Tmp} (h : fn.results = #[.tmp t, .tmp u, .tmp v, .tmp x]) (tmps : Array Value) (P : Program) (w : World) :
    (results fn tmps).run P w = .ok (.tuple #[tmps.getD t undef, tmps.getD u undef, tmps.getD v undef, tmps.getD x undef]) w := by
  simp [results, h]
theorem results_tmp6 {fn : Func} {t u v x y z : Tmp} (h : fn.results = #[.tmp t, .tmp u, .tmp v, .tmp x, .tmp y, .tmp z]) (tmps : Array Value) (P : Program) (w : World) :
    (results fn tmps).run P w = .ok (.tuple #[tmps.getD t undef, tmps.getD u undef, tmps.getD v undef, tmps.getD x undef, tmps.getD y undef, tmps.getD z undef]) w := by
  simp [results, h]
theorem decUv_calls (A : Option Addr) (n c : Nat) (bs rest : List Int) (x : Nat) (s : Value) (w : World) (hC : (Kd.int .u8).C w A n bs) (hc : n ≤ c) (hn : n ≤ 2147483647) (hb : bs = varL x ++ rest) (hx : x < 18446744073709551616) :
    Calls Tryd.prog 135 #[.slice A n c, s] w fun e w' => e = .returned (.tuple #[.int .u64 x, .int .i64 ((varL x).length : Int), .nilIface]) ∧ w = w' := by
  have HPU := Aside0.mk (uvarint_calls A n c bs rest x w hC hc hn hb hx)
  have hL0 := varL_pos x
  have hL1 := varL_len10 x hx
  obtain ⟨L, hL⟩ : ∃ L, (varL x).length = L := ⟨_, rfl⟩
  rw [hL] at HPU hL0 hL1 ⊢
  have q1 : ((L : Int) == 0) = false := by rw [beq_eq_false_iff_ne]; omega
  have q2 : decide ((L : Int) < 0) = false := decide_eq_false (by omega)
  clear hC hb hL
  go_enter Tryd.func135, Tryd.ntmps135
  go_wp2_with (first
    | (go_at_call 117; go_loud (with_reducible refine HPU.out.mono ?_); rintro e w2 ⟨rfl, rfl⟩))
  go_ret3
  exact ⟨rfl, rfl⟩
theorem decV_calls (A : Option Addr) (n c : Nat) (bs rest : List Int) (x : Int) (s : Value) (w : World) (hC : (Kd.int .u8).C w A n bs) (hc : n ≤ c) (hn : n ≤ 2147483647) (hb : bs = varL (zz x) ++ rest) (hx0 : -9223372036854775808 ≤ x) (hx1 : x ≤ 9223372036854775807) :
    Calls Tryd.prog 136 #[.slice A n c, s] w fun e w' => e = .returned (.tuple #[.int .i64 x, .int .i64 ((varL (zz x)).length : Int), .nilIface]) ∧ w = w' := by
  have HPU := Aside0.mk (varint_calls' A n c bs rest x w hC hc hn hb hx0 hx1)
  have hL0 := varL_pos (zz x)
  have hL1 := varL_len10 (zz x) (zz_lt x hx0 hx1)
  obtain ⟨L, hL⟩ : ∃ L, (varL (zz x)).length = L := ⟨_, rfl⟩
  rw [hL] at HPU hL0 hL1 ⊢
  have q1 : ((L : Int) == 0) = false := by rw [beq_eq_false_iff_ne]; omega
  have q2 : decide ((L : Int) < 0) = false := decide_eq_false (by omega)
  clear hC hb hL
  go_enter Tryd.func136, Tryd.ntmps136
  go_wp2_with (first
    | (go_at_call 152; go_loud (with_reducible refine HPU.out.mono ?_); rintro e w2 ⟨rfl, rfl⟩))
  go_ret3
  exact ⟨rfl, rfl⟩
theorem dropC {k : IntKind} {W : World} {A A' : Option Addr} {n c : Nat} {a b : List Int} (hC : ∀ (k : Kd Int) (w : World) (xs : List Int), k.sz = 1 → k.C w A n xs → k.C w A' (n - a.length) (xs.drop a.length)) (h : (Kd.int k).C W A n (a ++ b)) : (Kd.int k).C W A' (n - a.length) b := by
  have := hC (Kd.int k) W _ rfl h
  rwa [List.drop_left] at this
set_option maxHeartbeats 8000000 in
set_option maxRecDepth 100000 in
theorem decHead_calls (A : Option Addr) (N c : Nat) (X : List Int) (B P S T : Nat) (f : Int) (Y : List Int) (W : World) (hC : (Kd.int .u8).C W A N X) (hX : X = hdG B P T f ++ Y) (hc : N ≤ c) (hN : N ≤ 268435455)
    (hB : B = P * S) (hB1 : B % 128 = 0) (hS : S % 32 = 0) (hP : 0 < P) (hB0 : 0 < B) (hB9 : B ≤ 65536) (hP9 : P ≤ 65536) (hT : T ≤ 2147483647) (hf0 : -9223372036854775808 ≤ f) (hf1 : f ≤ 9223372036854775807) :
    Calls Tryd.prog 107 #[.slice A N c] W fun e w' => ∃ A' c', e = .returned (.tuple #[.int .i64 B, .int .i64 P, .int .i64 T, .int .i64 f, .slice A' Y.length c', .nilIface]) ∧ Y.length ≤ c' ∧ (∀ W1, (Kd.int .u8).C W1 A N X → (Kd.int .u8).C W1 A' Y.length Y) ∧ Drawn0 W w' := by
  have hZ9 := zz_lt f hf0 hf1
  have HXL : Aside0 (N = (varL B).length + (varL P).length + (varL T).length + (varL (zz f)).length + Y.length) := ⟨by
    have := hC.1; rw [hX] at this; unfold hdG at this; simp only [List.length_append] at this; omega⟩
  obtain ⟨i8, h8⟩ := h8
  obtain ⟨l1, hl1⟩ : ∃ l, (varL B).length = l := ⟨_, rfl⟩
  obtain ⟨l2, hl2⟩ : ∃ l, (varL P).length = l := ⟨_, rfl⟩
  obtain ⟨l3, hl3⟩ : ∃ l, (varL T).length = l := ⟨_, rfl⟩
  obtain ⟨l4, hl4⟩ : ∃ l, (varL (zz f)).length = l := ⟨_, rfl⟩
  obtain ⟨Yl, hYl⟩ : ∃ l, Y.length = l := ⟨_, rfl⟩
  have HL := HXL.out
  rw [hl1, hl2, hl3, hl4, hYl] at HL
  have b1 : l1 ≤ N := by omega
  obtain ⟨o2, ho2⟩ : ∃ o, l1 + l2 = o := ⟨_, rfl⟩
  obtain ⟨o3, ho3⟩ : ∃ o, o2 + l3 = o := ⟨_, rfl⟩
  obtain ⟨o4, ho4⟩ : ∃ o, o3 + l4 = o := ⟨_, rfl⟩
  have b2 : o2 ≤ N := by omega
  have b3 : o3 ≤ N := by omega
  have b4 : o4 ≤ N := by omega
  have i2 : (l1 : Int) + (l2 : Int) = (o2 : Int) := by omega
  have i3 : (o2 : Int) + (l3 : Int) = (o3 : Int) := by omega
  have i4 : (o3 : Int) + (l4 : Int) = (o4 : Int) := by omega
  obtain ⟨A0, cut0, hC0⟩ := cutLo (P := Tryd.prog) 29 5 Tryd.underlying29 h8.1 h8.2 A N c .i64 0 0 rfl (by omega) hc
  obtain ⟨A1, cut1, hC1⟩ := cutLo (P := Tryd.prog) 29 5 Tryd.underlying29 h8.1 h8.2 A N c .i64 (l1 : Int) l1 rfl (by omega) hc
  obtain ⟨A2, cut2, hC2⟩ := cutLo (P := Tryd.prog) 29 5 Tryd.underlying29 h8.1 h8.2 A N c .i64 (o2 : Int) o2 rfl (by omega) hc
  obtain ⟨A3, cut3, hC3⟩ := cutLo (P := Tryd.prog) 29 5 Tryd.underlying29 h8.1 h8.2 A N c .i64 (o3 : Int) o3 rfl (by omega) hc
  obtain ⟨A4, cut4, hC4⟩ := cutLo (P := Tryd.prog) 29 5 Tryd.underlying29 h8.1 h8.2 A N c .i64 (o4 : Int) o4 rfl (by omega) hc
  have e0 : X = varL B ++ (varL P ++ (varL T ++ (varL (zz f) ++ Y))) := by rw [hX]; unfold hdG; simp only [List.append_assoc]
  have e1 : X = (varL B) ++ (varL P ++ (varL T ++ (varL (zz f) ++ Y))) := e0
  have e2 : X = (varL B ++ varL P) ++ (varL T ++ (varL (zz f) ++ Y)) := by rw [e0]; simp only [List.append_assoc]
  have e3 : X = (varL B ++ varL P ++ varL T) ++ (varL (zz f) ++ Y) := by rw [e0]; simp only [List.append_assoc]
  have e4 : X = (varL B ++ varL P ++ varL T ++ varL (zz f)) ++ Y := by rw [e0]; simp only [List.append_assoc]
  have g1 : ∀ W1, (Kd.int .u8).C W1 A N X → (Kd.int .u8).C W1 A1 (N - l1) (varL P ++ (varL T ++ (varL (zz f) ++ Y))) := fun W1 h => by
    have := hC1 (Kd.int .u8) W1 _ rfl h; rw [e1, List.drop_left' hl1] at this; exact this
  have g2 : ∀ W1, (Kd.int .u8).C W1 A N X → (Kd.int .u8).C W1 A2 (N - o2) (varL T ++ (varL (zz f) ++ Y)) := fun W1 h => by
    have := hC2 (Kd.int .u8) W1 _ rfl h; rw [e2, List.drop_left' (by rw [List.length_append]; omega)] at this; exact this
  have g3 : ∀ W1, (Kd.int .u8).C W1 A N X → (Kd.int .u8).C W1 A3 (N - o3) (varL (zz f) ++ Y) := fun W1 h => by
    have := hC3 (Kd.int .u8) W1 _ rfl h; rw [e3, List.drop_left' (by rw [List.length_append, List.length_append]; omega)] at this; exact this
  have g4 : ∀ W1, (Kd.int .u8).C W1 A N X → (Kd.int .u8).C W1 A4 (N - o4) Y := fun W1 h => by
    have := hC4 (Kd.int .u8) W1 _ rfl h; rw [e4, List.drop_left' (by rw [List.length_append, List.length_append, List.length_append]; omega)] at this; exact this
  have g0 : (Kd.int .u8).C W A0 (N - 0) X := by have := hC0 (Kd.int .u8) W _ rfl hC; rwa [List.drop_zero] at this
  rw [Nat.sub_zero] at g0
  rw [Nat.sub_zero, Nat.sub_zero] at cut0
  have U1 := Aside0.mk fun s => decUv_calls A0 N c X _ B s W g0 (by omega) (by omega) e0 (by omega)
  have U2 := Aside0.mk fun s => decUv_calls A1 (N - l1) (c - l1) _ _ P s W (g1 W hC) (by omega) (by omega) rfl (by omega)
  have U3 := Aside0.mk fun s => decUv_calls A2 (N - o2) (c - o2) _ _ T s W (g2 W hC) (by omega) (by omega) rfl (by omega)
  have U4 := Aside0.mk fun s => decV_calls A3 (N - o3) (c - o3) _ _ f s W (g3 W hC) (by omega) (by omega) rfl hf0 hf1
  rw [hl1] at U1
  rw [hl2] at U2
  rw [hl3] at U3
  rw [hl4] at U4
  have G4 := Aside0.mk g4
  have hY4 : N - o4 = Yl := by omega
  have hYc : Yl ≤ c - o4 := by omega
  rw [hY4] at cut4 G4
  rw [hYl]
  have hPS : P * S / P = S := Nat.mul_div_cancel_left S hP
  have d1 : (B : Int) / (P : Int) = (S : Int) := by rw [← hPS, ← hB]; push_cast; rfl
  have d3 : (B : Int).tdiv (P : Int) = (S : Int) := by rw [Int.tdiv_eq_ediv_of_nonneg (by omega)]; exact d1
  have hS9 : S ≤ B := by rw [hB]; exact Nat.le_mul_of_pos_left S hP
  have d5 : (S : Int) % 32 = 0 := by omega
  have d6 : (S : Int).tmod 32 = 0 := by rw [Int.tmod_eq_emod_of_nonneg (by omega)]; exact d5
  have d7 : (B : Int) % 128 = 0 := by omega
  have d8 : (B : Int).tmod 128 = 0 := by rw [Int.tmod_eq_emod_of_nonneg (by omega)]; exact d7
  have wB : IntKind.i64.wrap (B : Int) = (B : Int) := IntWalk.i64_in _ (by omega)
  have wP : IntKind.i64.wrap (P : Int) = (P : Int) := IntWalk.i64_in _ (by omega)
  have wT : IntKind.i64.wrap (T : Int) = (T : Int) := IntWalk.i64_in _ (by omega)
  have wS : IntKind.i64.wrap (S : Int) = (S : Int) := IntWalk.i64_in _ (by omega)
  have q1 : decide ((B : Int) ≤ 0) = false := decide_eq_false (by omega)
  have q2 : ((P : Int) == 0) = false := by rw [beq_eq_false_iff_ne]; omega
  have q3 : decide (65536 < (B : Int)) = false := decide_eq_false (by omega)
  have q4 : decide ((P : Int) ≤ 0) = false := decide_eq_false (by omega)
  have q5 : decide ((T : Int) < 0) = false := decide_eq_false (by omega)
  have q6 : decide (2147483647 < (T : Int)) = false := decide_eq_false (by omega)
  have q3n : decide (65536 < B) = false := decide_eq_false (by omega)
  have q6n : decide (2147483647 < T) = false := decide_eq_false (by omega)
  have q1n : decide (B ≤ 0) = false := decide_eq_false (by omega)
  have q4n : decide (P ≤ 0) = false := decide_eq_false (by omega)
  have qP : ¬ (P : Int) = 0 := by omega
  clear hC hX hl1 hl2 hl3 hl4 hYl HL ho2 ho3 ho4 hC0 hC1 hC2 hC3 hC4 e0 e1 e2 e3 e4 g0 g1 g2 g3 g4 hPS hB hY4
  go_enter Tryd.func107, Tryd.ntmps107
  go_wp2_with (first
    | (go_at_call 135; (first
      | (go_loud (with_reducible refine (U1.out _).mono ?_); rintro e w1 ⟨rfl, rfl⟩)
      | (go_loud (with_reducible refine (U2.out _).mono ?_); rintro e w1 ⟨rfl, rfl⟩)
      | (go_loud (with_reducible refine (U3.out _).mono ?_); rintro e w1 ⟨rfl, rfl⟩)))
    | (go_at_call 136; go_loud (with_reducible refine (U4.out _).mono ?_); rintro e w1 ⟨rfl, rfl⟩)
    | (go_quiet (fail)))
  (try simp only [Exit.inBlock, Exit.then])
  refine bodyPost_ret (results_tmp6 rfl _ _ _) rfl ?_
  exact ⟨A4, c - o4, rfl, hYc, G4.out, ⟨nq, rfl⟩⟩
set_option maxHeartbeats 4000000 in
theorem decBlk_calls (A : Option Addr) (N c : Nat) (m : Int) (ws Y : List Int) (P : Nat) (W : World) (hC : (Kd.int .u8).C W A N (varL (zz m) ++ (ws ++ Y))) (hc : N ≤ c) (hN : N ≤ 268435455) (hw : ws.length = P) (hm0 : -9223372036854775808 ≤ m) (hm1 : m ≤ 9223372036854775807) :
    Calls Tryd.prog 109 #[.slice A N c, .int .i64 P] W fun e w' => ∃ Aw cw A' c', e = .returned (.tuple #[.int .i64 m, .slice Aw P cw, .slice A' Y.length c', .nilIface]) ∧ P ≤ cw ∧ Y.length ≤ c' ∧ (∀ W1, (Kd.int .u8).C W1 A N (varL (zz m) ++ (ws ++ Y)) → (Kd.int .u8).C W1 Aw P ws ∧ (Kd.int .u8).C W1 A' Y.length Y) ∧ Drawn0 W w' := by
  have HL := hC.1
  simp only [List.length_append] at HL
  rw [hw] at HL
  have U1 := Aside0.mk fun s => decV_calls A N c _ _ m s W hC hc (by omega) rfl hm0 hm1
  obtain ⟨l1, hl1⟩ : ∃ l, (varL (zz m)).length = l := ⟨_, rfl⟩
  obtain ⟨Yl, hYl⟩ : ∃ l, Y.length = l := ⟨_, rfl⟩
  rw [hl1] at U1 HL
  rw [hYl] at HL ⊢
  obtain ⟨i8, h8⟩ := h8
  obtain ⟨A1, cut1, hC1⟩ := cutLo (P := Tryd.prog) 29 5 Tryd.underlying29 h8.1 h8.2 A N c .i64 (l1 : Int) l1 rfl (by omega) hc
  obtain ⟨R, hR⟩ : ∃ R, N - l1 = R := ⟨_, rfl⟩
  obtain ⟨K, hK⟩ : ∃ K, c - l1 = K := ⟨_, rfl⟩
  rw [hR, hK] at cut1
  obtain ⟨cut2, hC2⟩ := cutHi (P := Tryd.prog) 29 5 Tryd.underlying29 h8.1 A1 R K .i64 (P : Int) P rfl (by omega) (by omega)
  obtain ⟨A3, cut3, hC3⟩ := cutLo (P := Tryd.prog) 29 5 Tryd.underlying29 h8.1 h8.2 A1 R K .i64 (P : Int) P rfl (by omega) (by omega)
  have G : Aside0 (∀ W1, (Kd.int .u8).C W1 A N (varL (zz m) ++ (ws ++ Y)) → (Kd.int .u8).C W1 A1 P ws ∧ (Kd.int .u8).C W1 A3 Yl Y) := ⟨fun W1 h => by
    have h1 := hC1 (Kd.int .u8) W1 _ rfl h
    rw [List.drop_left' hl1, hR] at h1
    have h2 := hC2 (Kd.int .u8) W1 _ h1
    have h3 := hC3 (Kd.int .u8) W1 _ rfl h1
    rw [List.take_left' hw] at h2
    rw [List.drop_left' hw, show R - P = Yl by omega] at h3
    exact ⟨h2, h3⟩⟩
  have hRP : R - P = Yl := by omega
  rw [hRP] at cut3
  have q1 : decide ((R : Int) < (P : Int)) = false := decide_eq_false (by omega)
  have q2 : decide (R < P) = false := decide_eq_false (by omega)
  have hPK : P ≤ K := by omega
  have hYK : Yl ≤ K - P := by omega
  clear hC hl1 hYl hC1 hC2 hC3 hRP hR hK HL hw
  go_enter Tryd.func109, Tryd.ntmps109
  go_wp2_with (first
    | (go_at_call 136; go_loud (with_reducible refine (U1.out _).mono ?_); rintro e w1 ⟨rfl, rfl⟩)
    | (go_quiet (fail)))
  (try simp only [Exit.inBlock, Exit.then])
  refine bodyPost_ret (results_tmp4 rfl _ _ _) rfl ?_
  exact ⟨A1, K, A3, K - P, rfl, hPK, hYK, G.out, ⟨nq, rfl⟩⟩
theorem sum_step (xs V ns zs : List Int) (o j : Nat) (y : Int) (ho : xs.length = o) (hV : V.length = ns.length) (hj : j < ns.length) (hy : y = rd V (j : Nat)) : (xs ++ (V.take j ++ (ns.drop j ++ zs))).set (o + j) y = xs ++ (V.take (j + 1) ++ (ns.drop (j + 1) ++ zs)) := by
  have h1 : (V.take j).length = j := by rw [List.length_take]; omega
  rw [List.set_append_right _ _ (by omega), ho, show o + j - o = j by omega, List.set_append_right _ _ (by omega), h1, Nat.sub_self, List.drop_eq_getElem_cons hj, List.cons_append, List.set_cons_zero, take_rd V j (by omega), hy, List.append_assoc]
  rfl
set_option maxHeartbeats 8000000 in
theorem decSumInt64_calls (g C t n c : Nat) (xs ns zs : List Int) (m last : Int) (W : World) (hF : Front W g C t .i64 (xs ++ (ns ++ zs))) (hn : ns.length = n) (hn9 : n ≤ 2147483647) :
    Calls Tryd.prog 111 #[.slice (some ⟨g, xs.length, none⟩) n c, .int .i64 m, .int .i64 last] W fun e w' => e = .returned (.int .i64 (prv last (walkV .i64 m last ns) n)) ∧ Front w' g C t .i64 (xs ++ (walkV .i64 m last ns ++ zs)) ∧ W.grownBy w' (some g) := by
  have HRV := Aside0.mk fun j hj => rd_walkV .i64 m ns last j hj
  have hVl := walkV_length .i64 m ns last
  obtain ⟨V, hV⟩ : ∃ V, walkV .i64 m last ns = V := ⟨_, rfl⟩
  rw [hV] at HRV hVl ⊢
  obtain ⟨o, ho⟩ : ∃ o, xs.length = o := ⟨_, rfl⟩
  have HO := Aside0.mk ho
  rw [ho]
  have HF0 : Aside0 (Front W g C t .i64 (xs ++ (V.take 0 ++ (ns.drop 0 ++ zs)))) := ⟨by simpa using hF⟩
  have HN := Aside0.mk hn
  have HVL := Aside0.mk hVl
  clear hF hV ho hn hVl
  go_enter Tryd.func111, Tryd.ntmps111
  go_wp2_with (fail)
  go_loopg [2, 7, 10] n (fun kq v2 v7 v10 w' => ∃ (j : Nat), j ≤ n ∧ v10 = .int .i64 j ∧ v2 = .int .i64 (prv last V j) ∧ Aside0 (Front w' g C t .i64 (xs ++ (V.take j ++ (ns.drop j ++ zs)))) ∧ Aside0 (W.grownBy w' (some g)) ∧ Aside0 (n - j ≤ kq))
  case atStart => exact ⟨0, by omega, rfl, rfl, HF0, ⟨grownRefl _ _⟩, ⟨by omega⟩⟩
  case round =>
    clear HF0
    obtain ⟨j, hj, rfl, rfl, HF, HG, HK⟩ := hrel
    by_cases cj : j < n
    · have cjb : decide ((j : Int) < (n : Int)) = true := decide_eq_true (by omega)
      have cjn : decide (j < n) = true := decide_eq_true cj
      have h1 : (V.take j).length = j := by rw [List.length_take, HVL.out, HN.out]; omega
      have rc := HF.out.at' (o + j) (by rw [List.length_append, HO.out, List.length_append, List.length_append, h1, List.length_drop, HN.out]; omega)
      have rf := HF.out.free (o + j)
      rw [rd_append, if_neg (by rw [HO.out]; omega), HO.out, show o + j - o = j by omega, rd_append, if_neg (by rw [h1]; omega), h1, Nat.sub_self, rd_append, if_pos (by rw [List.length_drop, HN.out]; omega), rd_drop, Nat.add_zero] at rc
      have hv := HRV.out j (by rw [HN.out]; exact cj)
      obtain ⟨x, hx⟩ : ∃ x, rd ns (j : Nat) = x := ⟨_, rfl⟩
      rw [hx] at rc hv
      obtain ⟨lv, hlv⟩ : ∃ lv, prv last V j = lv := ⟨_, rfl⟩
      rw [hlv] at hv ⊢
      obtain ⟨y1, hy1⟩ : ∃ y, IntKind.i64.wrap (x + m) = y := ⟨_, rfl⟩
      obtain ⟨y2, hy2⟩ : ∃ y, IntKind.i64.wrap (y1 + lv) = y := ⟨_, rfl⟩
      have HY : Aside0 (y2 = rd V (j : Nat)) := ⟨by
        rw [hv, ← hy2, ← hy1, IntKind.wrap_i64, IntKind.wrap_i64, IntKind.wrap_i64]; omega⟩
      have HPV : Aside0 (prv last V (j + 1) = y2) := ⟨by rw [prv_succ, HY.out]⟩
      clear hv hx hlv h1
      go_wp2_with (fail)
      go_roundg (gk - 1)
      case measure => have := HK.out; omega
      case rel =>
        refine ⟨j + 1, by omega, by go_num, by rw [HPV.out], ⟨?_⟩, ⟨grownSet (grownSet HG.out _ _) _ _⟩, ⟨by have := HK.out; omega⟩⟩
        have h := setF (setF HF.out (o + j) (by rw [List.length_append, HO.out, List.length_append, List.length_append, List.length_take, List.length_drop, HVL.out, HN.out]; omega) y1) (o + j) (by rw [List.length_set, List.length_append, HO.out, List.length_append, List.length_append, List.length_take, List.length_drop, HVL.out, HN.out]; omega) y2
        rw [List.set_set, sum_step xs V ns zs o j y2 HO.out HVL.out (by rw [HN.out]; exact cj) HY.out] at h
        exact h
    · obtain rfl : j = n := by omega
      have cjb : decide ((j : Int) < (j : Int)) = false := decide_eq_false (by omega)
      have cjn : decide (j < j) = false := decide_eq_false (by omega)
      go_wp2_with (fail)
      go_ret
      refine ⟨rfl, ?_, HG.out⟩
      have h := HF.out
      rw [List.take_of_length_le (by rw [HVL.out, HN.out]; exact Nat.le_refl _), List.drop_eq_nil_of_le (by rw [HN.out]; exact Nat.le_refl _), List.nil_append] at h
      exact h
set_option maxHeartbeats 4000000 in
set_option maxRecDepth 100000 in
theorem freshInt64_calls (D : Option Addr) (K T : Nat) (hT : T ≤ 2147483647) (w : World) :
    Calls Tryd.prog 108 #[.slice D 0 K, .int .i64 T] w fun e w' => e = .returned (.slice (some ⟨w.heap.size, 0, none⟩) T T) ∧ Front w' w.heap.size T 2 .i64 (List.replicate T 0) ∧ Below w.heap.size w w' ∧ w.heap.size < w'.heap.size := by
  have hmk := print_make (P := Tryd.prog) 22 2 .i64 8 Tryd.underlying22 infoI64d (by decide) T (by omega)
  have HR : Aside0 (Row (w.alloc (.cells (madeCells #[.int .i64 0] T) 2)) w.heap.size 2 .i64 (List.replicate T 0)) := ⟨madeRow w 2 .i64 T⟩
  have HB : Aside0 (Below w.heap.size w (w.alloc (.cells (madeCells #[.int .i64 0] T) 2))) := ⟨(Below.refl _ _).alloc (Nat.le_refl _) _⟩
  have hlt : w.heap.size < (w.alloc (.cells (madeCells #[.int .i64 0] T) 2)).heap.size := by simp
  have hcp := fun W => run_copy_none (P := Tryd.prog) W 22 22 3 2 (some ⟨w.heap.size, 0, none⟩) D T T 0 K Tryd.underlying22 (by kernel_rfl) (Nat.min_eq_left (Nat.zero_le _))
  go_enter Tryd.func108, Tryd.ntmps108
  go_wp2_with (fail)
  go_ret
  refine ⟨rfl, ?_, HB.out, hlt⟩
  have := Front.ofRow HR.out T (by simp)
  rw [List.length_replicate, List.take_of_length_le (by simp)] at this
  exact this
set_option maxHeartbeats 8000000 in
theorem decSumInt32_calls (g C t n c : Nat) (xs ns zs : List Int) (m last : Int) (W : World) (hF : Front W g C t .i32 (xs ++ (ns ++ zs))) (hn : ns.length = n) (hn9 : n ≤ 2147483647) :
    Calls Tryd.prog 126 #[.slice (some ⟨g, xs.length, none⟩) n c, .int .i32 m, .int .i32 last] W fun e w' => e = .returned (.int .i32 (prv last (walkV .i32 m last ns) n)) ∧ Front w' g C t .i32 (xs ++ (walkV .i32 m last ns ++ zs)) ∧ W.grownBy w' (some g) := by
  have HRV := Aside0.mk fun j hj => rd_walkV .i32 m ns last j hj
  have hVl := walkV_length .i32 m ns last
  obtain ⟨V, hV⟩ : ∃ V, walkV .i32 m last ns = V := ⟨_, rfl⟩
  rw [hV] at HRV hVl ⊢
  obtain ⟨o, ho⟩ : ∃ o, xs.length = o := ⟨_, rfl⟩
  have HO := Aside0.mk ho
  rw [ho]
  have HF0 : Aside0 (Front W g C t .i32 (xs ++ (V.take 0 ++ (ns.drop 0 ++ zs)))) := ⟨by simpa using hF⟩
  have HN := Aside0.mk hn
  have HVL := Aside0.mk hVl
  clear hF hV ho hn hVl
  go_enter Tryd.func126, Tryd.ntmps126
  go_wp2_with (fail)
  go_loopg [2, 7, 10] n (fun kq v2 v7 v10 w' => ∃ (j : Nat), j ≤ n ∧ v10 = .int .i64 j ∧ v2 = .int .i32 (prv last V j) ∧ Aside0 (Front w' g C t .i32 (xs ++ (V.take j ++ (ns.drop j ++ zs)))) ∧ Aside0 (W.grownBy w' (some g)) ∧ Aside0 (n - j ≤ kq))
  case atStart => exact ⟨0, by omega, rfl, rfl, HF0, ⟨grownRefl _ _⟩, ⟨by omega⟩⟩
  case round =>
    clear HF0
    obtain ⟨j, hj, rfl, rfl, HF, HG, HK⟩ := hrel
    by_cases cj : j < n
    · have cjb : decide ((j : Int) < (n : Int)) = true := decide_eq_true (by omega)
      have cjn : decide (j < n) = true := decide_eq_true cj
      have h1 : (V.take j).length = j := by rw [List.length_take, HVL.out, HN.out]; omega
      have rc := HF.out.at' (o + j) (by rw [List.length_append, HO.out, List.length_append, List.length_append, h1, List.length_drop, HN.out]; omega)
      have rf := HF.out.free (o + j)
      rw [rd_append, if_neg (by rw [HO.out]; omega), HO.out, show o + j - o = j by omega, rd_append, if_neg (by rw [h1]; omega), h1, Nat.sub_self, rd_append, if_pos (by rw [List.length_drop, HN.out]; omega), rd_drop, Nat.add_zero] at rc
      have hv := HRV.out j (by rw [HN.out]; exact cj)
      obtain ⟨x, hx⟩ : ∃ x, rd ns (j : Nat) = x := ⟨_, rfl⟩
      rw [hx] at rc hv
      obtain ⟨lv, hlv⟩ : ∃ lv, prv last V j = lv := ⟨_, rfl⟩
      rw [hlv] at hv ⊢
      obtain ⟨y1, hy1⟩ : ∃ y, IntKind.i32.wrap (x + m) = y := ⟨_, rfl⟩
      obtain ⟨y2, hy2⟩ : ∃ y, IntKind.i32.wrap (y1 + lv) = y := ⟨_, rfl⟩
      have HY : Aside0 (y2 = rd V (j : Nat)) := ⟨by
        rw [hv, ← hy2, ← hy1, IntKind.wrap_i32, IntKind.wrap_i32, IntKind.wrap_i32]; omega⟩
      have HPV : Aside0 (prv last V (j + 1) = y2) := ⟨by rw [prv_succ, HY.out]⟩
      clear hv hx hlv h1
      go_wp2_with (fail)
      go_roundg (gk - 1)
      case measure => have := HK.out; omega
      case rel =>
        refine ⟨j + 1, by omega, by go_num, by rw [HPV.out], ⟨?_⟩, ⟨grownSet (grownSet HG.out _ _) _ _⟩, ⟨by have := HK.out; omega⟩⟩
        have h := setF (setF HF.out (o + j) (by rw [List.length_append, HO.out, List.length_append, List.length_append, List.length_take, List.length_drop, HVL.out, HN.out]; omega) y1) (o + j) (by rw [List.length_set, List.length_append, HO.out, List.length_append, List.length_append, List.length_take, List.length_drop, HVL.out, HN.out]; omega) y2
        rw [List.set_set, sum_step xs V ns zs o j y2 HO.out HVL.out (by rw [HN.out]; exact cj) HY.out] at h
        exact h
    · obtain rfl : j = n := by omega
      have cjb : decide ((j : Int) < (j : Int)) = false := decide_eq_false (by omega)
      have cjn : decide (j < j) = false := decide_eq_false (by omega)
      go_wp2_with (fail)
      go_ret
      refine ⟨rfl, ?_, HG.out⟩
      have h := HF.out
      rw [List.take_of_length_le (by rw [HVL.out, HN.out]; exact Nat.le_refl _), List.drop_eq_nil_of_le (by rw [HN.out]; exact Nat.le_refl _), List.nil_append] at h
      exact h
set_option maxHeartbeats 4000000 in
set_option maxRecDepth 100000 in
theorem freshInt32_calls (D : Option Addr) (K T : Nat) (hT : T ≤ 2147483647) (w : World) :
    Calls Tryd.prog 124 #[.slice D 0 K, .int .i64 T] w fun e w' => e = .returned (.slice (some ⟨w.heap.size, 0, none⟩) T T) ∧ Front w' w.heap.size T 21 .i32 (List.replicate T 0) ∧ Below w.heap.size w w' ∧ w.heap.size < w'.heap.size := by
  have hmk := print_make (P := Tryd.prog) 45 21 .i32 4 Tryd.underlying45 infoI32d (by decide) T (by omega)
  have HR : Aside0 (Row (w.alloc (.cells (madeCells #[.int .i32 0] T) 21)) w.heap.size 21 .i32 (List.replicate T 0)) := ⟨madeRow w 21 .i32 T⟩
  have HB : Aside0 (Below w.heap.size w (w.alloc (.cells (madeCells #[.int .i32 0] T) 21))) := ⟨(Below.refl _ _).alloc (Nat.le_refl _) _⟩
  have hlt : w.heap.size < (w.alloc (.cells (madeCells #[.int .i32 0] T) 21)).heap.size := by simp
  have hcp := fun W => run_copy_none (P := Tryd.prog) W 45 45 3 21 (some ⟨w.heap.size, 0, none⟩) D T T 0 K Tryd.underlying45 (by kernel_rfl) (Nat.min_eq_left (Nat.zero_le _))
  go_enter Tryd.func124, Tryd.ntmps124
  go_wp2_with (fail)
  go_ret
  refine ⟨rfl, ?_, HB.out, hlt⟩
  have := Front.ofRow HR.out T (by simp)
  rw [List.length_replicate, List.take_of_length_le (by simp)] at this
  exact this
end Go.Proofs.YtigmcdpjlkgocaaDoor.Dhr
