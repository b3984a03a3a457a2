import Derived.Test.YtigmcdpjlkgocaaDoorDdc
import Derived.Test.YtigmcdpjlkgocaaDoorDhr
/-! Heads that break off: what needs no program. -/
namespace Go.Proofs.YtigmcdpjlkgocaaDoor.Dhk
open Go.Proofs.YtigmcdpjlkgocaaDoor.Ddc Go.Proofs.YtigmcdpjlkgocaaDoor.Drx Go.Proofs.YtigmcdpjlkgocaaDoor.Deb Go.Proofs.YtigmcdpjlkgocaaDoor.Den Go.Proofs.YtigmcdpjlkgocaaDoor.Dml Go.Proofs.YtigmcdpjlkgocaaDoor.Dst Go.Proofs.YtigmcdpjlkgocaaDoor.Deo Go.Proofs.YtigmcdpjlkgocaaDoor.Dds Go.Proofs.YtigmcdpjlkgocaaDoor.Dhd Go.Proofs.YtigmcdpjlkgocaaDoor.Dgr Go.Proofs.YtigmcdpjlkgocaaDoor.Dpu Go.Proofs.YtigmcdpjlkgocaaDoor.Pak Go.Proofs.YtigmcdpjlkgocaaDoor.Buf Go.Proofs.YtigmcdpjlkgocaaDoor.Fit Go.Proofs.YtigmcdpjlkgocaaDoor.Bit Go.Proofs.YtigmcdpjlkgocaaDoor.Wrd Go.Proofs.YtigmcdpjlkgocaaDoor.Spl Go.Proofs.YtigmcdpjlkgocaaDoor.Str Go.Proofs.YtigmcdpjlkgocaaDoor.Num Go.Proofs.YtigmcdpjlkgocaaDoor.Lst Go.Proofs.YtigmcdpjlkgocaaDoor.Aid Go.RowKit Go.Proofs.YtigmcdpjlkgocaaDoorW.PrintWords Go.Proofs.YtigmcdpjlkgocaaDoorW.PrintLast Go.Proofs.YtigmcdpjlkgocaaDoorW.PrintMore
set_option linter.unusedVariables false
set_option linter.unusedSimpArgs false
/-- every byte but the last one has its high bit -/
theorem varL_cut : ∀ (m n : Nat), n < m → ∀ j : Nat, j + 1 < (varL n).length → 128 ≤ rd (varL n) (j : Nat) ∧ rd (varL n) (j : Nat) < 256
  | 0, n, h => by omega
  | m + 1, n, h => by
    intro j hj
    by_cases c : n < 128
    · rw [varL_lo c] at hj
      simp at hj
    · rw [varL_hi (by omega)] at hj ⊢
      cases j with
      | zero =>
        simp [rd]
        omega
      | succ j =>
        have h1 : rd (((n % 128 + 128 : Nat) : Int) :: varL (n / 128)) ((j + 1 : Nat) : Int) = rd (varL (n / 128)) (j : Nat) := by
          simp [rd, List.getD_eq_getElem?_getD]
        first
          | rw [h1]; exact varL_cut m (n / 128) (by omega) j (by simp at hj; omega)
          | (have h2 := varL_cut m (n / 128) (by omega) j (by simp at hj; omega)
             simpa [rd, List.getD_eq_getElem?_getD] using h2)
/-- the bytes of a varint that breaks off -/
theorem cut_bytes (n k : Nat) (h : k < (varL n).length) : ∀ j : Nat, j < k → 128 ≤ rd ((varL n).take k) (j : Nat) ∧ rd ((varL n).take k) (j : Nat) < 256 := by
  intro j hj
  rw [rd_take _ _ _ hj]
  exact varL_cut (n + 1) n (by omega) j (by omega)
/-- where a head breaks off -/
theorem head_cut (B P T : Nat) (f : Int) (Y : List Int) (k : Nat) (h : k < (hdG B P T f).length) :
    (k < (varL B).length ∧ (hdG B P T f ++ Y).take k = (varL B).take k) ∨
    (∃ r, r < (varL P).length ∧ k = (varL B).length + r ∧ (hdG B P T f ++ Y).take k = varL B ++ (varL P).take r) ∨
    (∃ r, r < (varL T).length ∧ k = (varL B).length + (varL P).length + r ∧ (hdG B P T f ++ Y).take k = varL B ++ (varL P ++ (varL T).take r)) ∨
    (∃ r, r < (varL (zz f)).length ∧ k = (varL B).length + (varL P).length + (varL T).length + r ∧ (hdG B P T f ++ Y).take k = varL B ++ (varL P ++ (varL T ++ (varL (zz f)).take r))) := by
  have e : hdG B P T f ++ Y = varL B ++ (varL P ++ (varL T ++ (varL (zz f) ++ Y))) := by unfold hdG; simp
  have hl : (hdG B P T f).length = (varL B).length + (varL P).length + (varL T).length + (varL (zz f)).length := by unfold hdG; simp [Nat.add_assoc]
  rw [hl] at h
  by_cases c1 : k < (varL B).length
  · left
    exact ⟨c1, by rw [e, List.take_append_of_le_length (by omega)]⟩
  right
  by_cases c2 : k < (varL B).length + (varL P).length
  · left
    refine ⟨k - (varL B).length, by omega, by omega, ?_⟩
    rw [e, List.take_append, List.take_of_length_le (by omega), List.take_append_of_le_length (by omega)]
  right
  by_cases c3 : k < (varL B).length + (varL P).length + (varL T).length
  · left
    refine ⟨k - (varL B).length - (varL P).length, by omega, by omega, ?_⟩
    rw [e, List.take_append, List.take_of_length_le (by omega), List.take_append, List.take_of_length_le (by omega), List.take_append_of_le_length (by omega)]
  right
  refine ⟨k - (varL B).length - (varL P).length - (varL T).length, by omega, by omega, ?_⟩
  rw [e, List.take_append, List.take_of_length_le (by omega), List.take_append, List.take_of_length_le (by omega), List.take_append, List.take_of_length_le (by omega), List.take_append_of_le_length (by omega)]
end Go.Proofs.YtigmcdpjlkgocaaDoor.Dhk

/-! Heads that break off: the decoder. -/
namespace Go.Proofs.YtigmcdpjlkgocaaDoor.Dhx
open Go.Proofs.YtigmcdpjlkgocaaDoor.Dhk Go.Proofs.YtigmcdpjlkgocaaDoor.Dhr Go.Proofs.YtigmcdpjlkgocaaDoor.Duv Go.Proofs.YtigmcdpjlkgocaaDoor.Dst Go.Proofs.YtigmcdpjlkgocaaDoor.Deo Go.Proofs.YtigmcdpjlkgocaaDoor.Dds Go.Proofs.YtigmcdpjlkgocaaDoor.Dhd Go.Proofs.YtigmcdpjlkgocaaDoor.Dgr Go.Proofs.YtigmcdpjlkgocaaDoor.Dpu Go.Proofs.YtigmcdpjlkgocaaDoor.Pak Go.Proofs.YtigmcdpjlkgocaaDoor.Buf Go.Proofs.YtigmcdpjlkgocaaDoor.Fit Go.Proofs.YtigmcdpjlkgocaaDoor.Bit Go.Proofs.YtigmcdpjlkgocaaDoor.Wrd Go.Proofs.YtigmcdpjlkgocaaDoor.Spl Go.Proofs.YtigmcdpjlkgocaaDoor.Str Go.Proofs.YtigmcdpjlkgocaaDoor.Num Go.Proofs.YtigmcdpjlkgocaaDoor.Lst Go.Proofs.YtigmcdpjlkgocaaDoor.Aid Go.RowKit Go.Proofs.YtigmcdpjlkgocaaDoorW.PrintWords Go.Proofs.YtigmcdpjlkgocaaDoorW.PrintLast Go.Proofs.YtigmcdpjlkgocaaDoorW.PrintMore
set_option linter.unusedVariables false
set_option linter.unusedSimpArgs false
theorem decUvCut_calls (A : Option Addr) (n c : Nat) (bs : List Int) (s : Value) (w : World) (u0 : TypeId) (e0 : Value) (hE : w.cell? ⟨3, 0, none⟩ = some (.iface u0 e0)) (hC : (Kd.int .u8).C w A n bs) (hc : n ≤ c) (hn : n ≤ 9) (hb : ∀ j : Nat, j < n → 128 ≤ rd bs (j : Nat) ∧ rd bs (j : Nat) < 256) :
    Calls Tryd.prog 135 #[.slice A n c, s] w fun e w' => e = .returned (.tuple #[.int .u64 0, .int .i64 0, .iface u0 e0]) ∧ Drawn0 w w' := by
  have HPU := Aside0.mk (uvarintCut_calls A n c bs w hC hc hn hb)
  clear hC hb
  go_enter Tryd.func135, Tryd.ntmps135
  go_wp2_with (first
    | (go_at_call 117; go_loud (with_reducible refine HPU.out.mono ?_); rintro e w2 ⟨rfl, rfl⟩)
    | go_quiet (fail))
  go_ret3
  exact ⟨rfl, ⟨_, rfl⟩⟩
theorem decVCut_calls (A : Option Addr) (n c : Nat) (bs : List Int) (s : Value) (w : World) (u0 : TypeId) (e0 : Value) (hE : w.cell? ⟨3, 0, none⟩ = some (.iface u0 e0)) (hC : (Kd.int .u8).C w A n bs) (hc : n ≤ c) (hn : n ≤ 9) (hb : ∀ j : Nat, j < n → 128 ≤ rd bs (j : Nat) ∧ rd bs (j : Nat) < 256) :
    Calls Tryd.prog 136 #[.slice A n c, s] w fun e w' => e = .returned (.tuple #[.int .i64 0, .int .i64 0, .iface u0 e0]) ∧ Drawn0 w w' := by
  have HPU := Aside0.mk (varintCut_calls A n c bs w hC hc hn hb)
  clear hC hb
  go_enter Tryd.func136, Tryd.ntmps136
  go_wp2_with (first
    | (go_at_call 152; go_loud (with_reducible refine HPU.out.mono ?_); rintro e w2 ⟨rfl, rfl⟩)
    | go_quiet (fail))
  go_ret3
  exact ⟨rfl, ⟨_, rfl⟩⟩
end Go.Proofs.YtigmcdpjlkgocaaDoor.Dhx

/-! Heads that break off: the head's decoder. -/
namespace Go.Proofs.YtigmcdpjlkgocaaDoor.Dhy
open Go.Proofs.YtigmcdpjlkgocaaDoor.Le Go.Proofs.YtigmcdpjlkgocaaDoor.Dhx Go.Proofs.YtigmcdpjlkgocaaDoor.Dhk Go.Proofs.YtigmcdpjlkgocaaDoor.Dhr Go.Proofs.YtigmcdpjlkgocaaDoor.Duv Go.Proofs.YtigmcdpjlkgocaaDoor.Dst Go.Proofs.YtigmcdpjlkgocaaDoor.Deo Go.Proofs.YtigmcdpjlkgocaaDoor.Dds Go.Proofs.YtigmcdpjlkgocaaDoor.Dbk Go.Proofs.YtigmcdpjlkgocaaDoor.Dhd Go.Proofs.YtigmcdpjlkgocaaDoor.Dgr Go.Proofs.YtigmcdpjlkgocaaDoor.Dpu Go.Proofs.YtigmcdpjlkgocaaDoor.Pak Go.Proofs.YtigmcdpjlkgocaaDoor.Buf Go.Proofs.YtigmcdpjlkgocaaDoor.Fit Go.Proofs.YtigmcdpjlkgocaaDoor.Bit Go.Proofs.YtigmcdpjlkgocaaDoor.Wrd Go.Proofs.YtigmcdpjlkgocaaDoor.Spl Go.Proofs.YtigmcdpjlkgocaaDoor.Str Go.Proofs.YtigmcdpjlkgocaaDoor.Num Go.Proofs.YtigmcdpjlkgocaaDoor.Lst Go.Proofs.YtigmcdpjlkgocaaDoor.Aid Go.RowKit Go.Proofs.YtigmcdpjlkgocaaDoorW.PrintWords Go.Proofs.YtigmcdpjlkgocaaDoorW.PrintLast Go.Proofs.YtigmcdpjlkgocaaDoorW.PrintMore
set_option linter.unusedVariables false
set_option linter.unusedSimpArgs false
set_option maxHeartbeats 8000000 in
set_option maxRecDepth 100000 in
theorem headCut1_calls (A : Option Addr) (N c : Nat) (B P T : Nat) (f : Int) (r : Nat) (Z : List Int) (W : World) (u0 : TypeId) (e0 : Value) (hE : W.cell? ⟨3, 0, none⟩ = some (.iface u0 e0)) (hC : (Kd.int .u8).C W A N (Z)) (hZ : Z.length = r) (hr : r ≤ 9) (hz : ∀ j : Nat, j < r → 128 ≤ rd Z (j : Nat) ∧ rd Z (j : Nat) < 256) (hc : N ≤ c) (hN : N ≤ 268435455) (hB9 : B ≤ 65536) (hP9 : P ≤ 65536) (hT : T ≤ 2147483647) :
    Calls Tryd.prog 107 #[.slice A N c] W fun e w' => ∃ a b t f' v, e = .returned (.tuple #[.int .i64 a, .int .i64 b, .int .i64 t, .int .i64 f', v, .iface u0 e0]) ∧ Drawn0 W w' := by
  obtain ⟨i8, h8⟩ := h8
  have HN := hC.1
  simp only [List.length_append, hZ] at HN
  obtain ⟨A0, cut0, hC0⟩ := cutLo (P := Tryd.prog) 29 5 Tryd.underlying29 h8.1 h8.2 A N c .i64 0 0 rfl (by omega) hc
  have g0 := hC0 (Kd.int .u8) W _ rfl hC
  rw [List.drop_zero] at g0
  rw [Nat.sub_zero] at g0
  rw [Nat.sub_zero, Nat.sub_zero] at cut0
  have hrN : N = r := by omega
  have U1 := Aside0.mk fun s => decUvCut_calls A0 N c Z s W u0 e0 hE g0 (by omega) (by omega) (by rw [hrN]; exact hz)
  have wB : IntKind.i64.wrap (B : Int) = (B : Int) := IntWalk.i64_in _ (by omega)
  have wP : IntKind.i64.wrap (P : Int) = (P : Int) := IntWalk.i64_in _ (by omega)
  have wT : IntKind.i64.wrap (T : Int) = (T : Int) := IntWalk.i64_in _ (by omega)
  clear hE hC hZ hz HN hrN hC0 g0
  go_enter Tryd.func107, Tryd.ntmps107
  go_wp2_with (first
    | (go_at_call 135; (first
      | ((with_reducible refine (U1.out _).mono ?_); rintro e w1 ⟨rfl, ⟨nc, rfl⟩⟩)))
    | (go_quiet (fail)))
  (try simp only [Exit.inBlock, Exit.then])
  refine bodyPost_ret (results_tmp6 rfl _ _ _) rfl ?_
  exact ⟨_, _, _, _, _, rfl, ⟨_, rfl⟩⟩
set_option maxHeartbeats 8000000 in
set_option maxRecDepth 100000 in
theorem headCut2_calls (A : Option Addr) (N c : Nat) (B P T : Nat) (f : Int) (r : Nat) (Z : List Int) (W : World) (u0 : TypeId) (e0 : Value) (hE : W.cell? ⟨3, 0, none⟩ = some (.iface u0 e0)) (hC : (Kd.int .u8).C W A N (varL B ++ (Z))) (hZ : Z.length = r) (hr : r ≤ 9) (hz : ∀ j : Nat, j < r → 128 ≤ rd Z (j : Nat) ∧ rd Z (j : Nat) < 256) (hc : N ≤ c) (hN : N ≤ 268435455) (hB9 : B ≤ 65536) (hP9 : P ≤ 65536) (hT : T ≤ 2147483647) :
    Calls Tryd.prog 107 #[.slice A N c] W fun e w' => ∃ a b t f' v, e = .returned (.tuple #[.int .i64 a, .int .i64 b, .int .i64 t, .int .i64 f', v, .iface u0 e0]) ∧ Drawn0 W w' := by
  obtain ⟨i8, h8⟩ := h8
  have HN := hC.1
  simp only [List.length_append, hZ] at HN
  obtain ⟨l1, hl1⟩ : ∃ l, (varL B).length = l := ⟨_, rfl⟩
  rw [hl1] at HN
  have o1l : l1 ≤ N := by omega
  obtain ⟨A0, cut0, hC0⟩ := cutLo (P := Tryd.prog) 29 5 Tryd.underlying29 h8.1 h8.2 A N c .i64 0 0 rfl (by omega) hc
  have g0 := hC0 (Kd.int .u8) W _ rfl hC
  rw [List.drop_zero] at g0
  obtain ⟨A1, cut1, hC1⟩ := cutLo (P := Tryd.prog) 29 5 Tryd.underlying29 h8.1 h8.2 A N c .i64 (l1 : Int) l1 rfl (by omega) hc
  have g1 : (Kd.int .u8).C W A1 (N - l1) (Z) := by
    have h := hC1 (Kd.int .u8) W _ rfl hC
    rw [show varL B ++ (Z) = (varL B) ++ (Z) by (try simp only [List.append_assoc]), List.drop_left' (by (try simp only [List.length_append]); omega)] at h; exact h
  rw [Nat.sub_zero] at g0
  rw [Nat.sub_zero, Nat.sub_zero] at cut0
  have U1 := Aside0.mk fun s => decUv_calls A0 N c _ _ B s W g0 (by omega) (by omega) rfl (by omega)
  rw [hl1] at U1
  have hrN : (N - l1) = r := by omega
  have U2 := Aside0.mk fun s => decUvCut_calls A1 (N - l1) (c - l1) Z s W u0 e0 hE g1 (by omega) (by omega) (by rw [hrN]; exact hz)
  have wB : IntKind.i64.wrap (B : Int) = (B : Int) := IntWalk.i64_in _ (by omega)
  have wP : IntKind.i64.wrap (P : Int) = (P : Int) := IntWalk.i64_in _ (by omega)
  have wT : IntKind.i64.wrap (T : Int) = (T : Int) := IntWalk.i64_in _ (by omega)
  clear hE hC hZ hz HN hrN hC0 g0 hl1 hC1 g1
  go_enter Tryd.func107, Tryd.ntmps107
  go_wp2_with (first
    | (go_at_call 135; (first
      | ((with_reducible refine (U1.out _).mono ?_); rintro e w1 ⟨rfl, rfl⟩)
      | ((with_reducible refine (U2.out _).mono ?_); rintro e w1 ⟨rfl, ⟨nc, rfl⟩⟩)))
    | (go_quiet (fail)))
  (try simp only [Exit.inBlock, Exit.then])
  refine bodyPost_ret (results_tmp6 rfl _ _ _) rfl ?_
  exact ⟨_, _, _, _, _, rfl, ⟨_, rfl⟩⟩
set_option maxHeartbeats 8000000 in
set_option maxRecDepth 100000 in
theorem headCut3_calls (A : Option Addr) (N c : Nat) (B P T : Nat) (f : Int) (r : Nat) (Z : List Int) (W : World) (u0 : TypeId) (e0 : Value) (hE : W.cell? ⟨3, 0, none⟩ = some (.iface u0 e0)) (hC : (Kd.int .u8).C W A N (varL B ++ (varL P ++ (Z)))) (hZ : Z.length = r) (hr : r ≤ 9) (hz : ∀ j : Nat, j < r → 128 ≤ rd Z (j : Nat) ∧ rd Z (j : Nat) < 256) (hc : N ≤ c) (hN : N ≤ 268435455) (hB9 : B ≤ 65536) (hP9 : P ≤ 65536) (hT : T ≤ 2147483647) :
    Calls Tryd.prog 107 #[.slice A N c] W fun e w' => ∃ a b t f' v, e = .returned (.tuple #[.int .i64 a, .int .i64 b, .int .i64 t, .int .i64 f', v, .iface u0 e0]) ∧ Drawn0 W w' := by
  obtain ⟨i8, h8⟩ := h8
  have HN := hC.1
  simp only [List.length_append, hZ] at HN
  obtain ⟨l1, hl1⟩ : ∃ l, (varL B).length = l := ⟨_, rfl⟩
  rw [hl1] at HN
  obtain ⟨l2, hl2⟩ : ∃ l, (varL P).length = l := ⟨_, rfl⟩
  rw [hl2] at HN
  have o1l : l1 ≤ N := by omega
  obtain ⟨o2, ho2⟩ : ∃ o, l1 + l2 = o := ⟨_, rfl⟩
  have b2 : o2 ≤ N := by omega
  have i2 : (l1 : Int) + (l2 : Int) = (o2 : Int) := by omega
  obtain ⟨A0, cut0, hC0⟩ := cutLo (P := Tryd.prog) 29 5 Tryd.underlying29 h8.1 h8.2 A N c .i64 0 0 rfl (by omega) hc
  have g0 := hC0 (Kd.int .u8) W _ rfl hC
  rw [List.drop_zero] at g0
  obtain ⟨A1, cut1, hC1⟩ := cutLo (P := Tryd.prog) 29 5 Tryd.underlying29 h8.1 h8.2 A N c .i64 (l1 : Int) l1 rfl (by omega) hc
  have g1 : (Kd.int .u8).C W A1 (N - l1) (varL P ++ (Z)) := by
    have h := hC1 (Kd.int .u8) W _ rfl hC
    rw [show varL B ++ (varL P ++ (Z)) = (varL B) ++ (varL P ++ (Z)) by (try simp only [List.append_assoc]), List.drop_left' (by (try simp only [List.length_append]); omega)] at h; exact h
  obtain ⟨A2, cut2, hC2⟩ := cutLo (P := Tryd.prog) 29 5 Tryd.underlying29 h8.1 h8.2 A N c .i64 (o2 : Int) o2 rfl (by omega) hc
  have g2 : (Kd.int .u8).C W A2 (N - o2) (Z) := by
    have h := hC2 (Kd.int .u8) W _ rfl hC
    rw [show varL B ++ (varL P ++ (Z)) = (varL B ++ varL P) ++ (Z) by (try simp only [List.append_assoc]), List.drop_left' (by (try simp only [List.length_append]); omega)] at h; exact h
  rw [Nat.sub_zero] at g0
  rw [Nat.sub_zero, Nat.sub_zero] at cut0
  have U1 := Aside0.mk fun s => decUv_calls A0 N c _ _ B s W g0 (by omega) (by omega) rfl (by omega)
  rw [hl1] at U1
  have U2 := Aside0.mk fun s => decUv_calls A1 (N - l1) (c - l1) _ _ P s W g1 (by omega) (by omega) rfl (by omega)
  rw [hl2] at U2
  have hrN : (N - o2) = r := by omega
  have U3 := Aside0.mk fun s => decUvCut_calls A2 (N - o2) (c - o2) Z s W u0 e0 hE g2 (by omega) (by omega) (by rw [hrN]; exact hz)
  have wB : IntKind.i64.wrap (B : Int) = (B : Int) := IntWalk.i64_in _ (by omega)
  have wP : IntKind.i64.wrap (P : Int) = (P : Int) := IntWalk.i64_in _ (by omega)
  have wT : IntKind.i64.wrap (T : Int) = (T : Int) := IntWalk.i64_in _ (by omega)
  clear hE hC hZ hz HN hrN hC0 g0 hl1 hC1 g1 hl2 hC2 g2 ho2
  go_enter Tryd.func107, Tryd.ntmps107
  go_wp2_with (first
    | (go_at_call 135; (first
      | ((with_reducible refine (U1.out _).mono ?_); rintro e w1 ⟨rfl, rfl⟩)
      | ((with_reducible refine (U2.out _).mono ?_); rintro e w1 ⟨rfl, rfl⟩)
      | ((with_reducible refine (U3.out _).mono ?_); rintro e w1 ⟨rfl, ⟨nc, rfl⟩⟩)))
    | (go_quiet (fail)))
  (try simp only [Exit.inBlock, Exit.then])
  refine bodyPost_ret (results_tmp6 rfl _ _ _) rfl ?_
  exact ⟨_, _, _, _, _, rfl, ⟨_, rfl⟩⟩
set_option maxHeartbeats 8000000 in
set_option maxRecDepth 100000 in
theorem headCut4_calls (A : Option Addr) (N c : Nat) (B P T : Nat) (f : Int) (r : Nat) (Z : List Int) (W : World) (u0 : TypeId) (e0 : Value) (hE : W.cell? ⟨3, 0, none⟩ = some (.iface u0 e0)) (hC : (Kd.int .u8).C W A N (varL B ++ (varL P ++ (varL T ++ (Z))))) (hZ : Z.length = r) (hr : r ≤ 9) (hz : ∀ j : Nat, j < r → 128 ≤ rd Z (j : Nat) ∧ rd Z (j : Nat) < 256) (hc : N ≤ c) (hN : N ≤ 268435455) (hB9 : B ≤ 65536) (hP9 : P ≤ 65536) (hT : T ≤ 2147483647) :
    Calls Tryd.prog 107 #[.slice A N c] W fun e w' => ∃ a b t f' v, e = .returned (.tuple #[.int .i64 a, .int .i64 b, .int .i64 t, .int .i64 f', v, .iface u0 e0]) ∧ Drawn0 W w' := by
  obtain ⟨i8, h8⟩ := h8
  have HN := hC.1
  simp only [List.length_append, hZ] at HN
  obtain ⟨l1, hl1⟩ : ∃ l, (varL B).length = l := ⟨_, rfl⟩
  rw [hl1] at HN
  obtain ⟨l2, hl2⟩ : ∃ l, (varL P).length = l := ⟨_, rfl⟩
  rw [hl2] at HN
  obtain ⟨l3, hl3⟩ : ∃ l, (varL T).length = l := ⟨_, rfl⟩
  rw [hl3] at HN
  have o1l : l1 ≤ N := by omega
  obtain ⟨o2, ho2⟩ : ∃ o, l1 + l2 = o := ⟨_, rfl⟩
  have b2 : o2 ≤ N := by omega
  have i2 : (l1 : Int) + (l2 : Int) = (o2 : Int) := by omega
  obtain ⟨o3, ho3⟩ : ∃ o, o2 + l3 = o := ⟨_, rfl⟩
  have b3 : o3 ≤ N := by omega
  have i3 : (o2 : Int) + (l3 : Int) = (o3 : Int) := by omega
  obtain ⟨A0, cut0, hC0⟩ := cutLo (P := Tryd.prog) 29 5 Tryd.underlying29 h8.1 h8.2 A N c .i64 0 0 rfl (by omega) hc
  have g0 := hC0 (Kd.int .u8) W _ rfl hC
  rw [List.drop_zero] at g0
  obtain ⟨A1, cut1, hC1⟩ := cutLo (P := Tryd.prog) 29 5 Tryd.underlying29 h8.1 h8.2 A N c .i64 (l1 : Int) l1 rfl (by omega) hc
  have g1 : (Kd.int .u8).C W A1 (N - l1) (varL P ++ (varL T ++ (Z))) := by
    have h := hC1 (Kd.int .u8) W _ rfl hC
    rw [show varL B ++ (varL P ++ (varL T ++ (Z))) = (varL B) ++ (varL P ++ (varL T ++ (Z))) by (try simp only [List.append_assoc]), List.drop_left' (by (try simp only [List.length_append]); omega)] at h; exact h
  obtain ⟨A2, cut2, hC2⟩ := cutLo (P := Tryd.prog) 29 5 Tryd.underlying29 h8.1 h8.2 A N c .i64 (o2 : Int) o2 rfl (by omega) hc
  have g2 : (Kd.int .u8).C W A2 (N - o2) (varL T ++ (Z)) := by
    have h := hC2 (Kd.int .u8) W _ rfl hC
    rw [show varL B ++ (varL P ++ (varL T ++ (Z))) = (varL B ++ varL P) ++ (varL T ++ (Z)) by (try simp only [List.append_assoc]), List.drop_left' (by (try simp only [List.length_append]); omega)] at h; exact h
  obtain ⟨A3, cut3, hC3⟩ := cutLo (P := Tryd.prog) 29 5 Tryd.underlying29 h8.1 h8.2 A N c .i64 (o3 : Int) o3 rfl (by omega) hc
  have g3 : (Kd.int .u8).C W A3 (N - o3) (Z) := by
    have h := hC3 (Kd.int .u8) W _ rfl hC
    rw [show varL B ++ (varL P ++ (varL T ++ (Z))) = (varL B ++ varL P ++ varL T) ++ (Z) by (try simp only [List.append_assoc]), List.drop_left' (by (try simp only [List.length_append]); omega)] at h; exact h
  rw [Nat.sub_zero] at g0
  rw [Nat.sub_zero, Nat.sub_zero] at cut0
  have U1 := Aside0.mk fun s => decUv_calls A0 N c _ _ B s W g0 (by omega) (by omega) rfl (by omega)
  rw [hl1] at U1
  have U2 := Aside0.mk fun s => decUv_calls A1 (N - l1) (c - l1) _ _ P s W g1 (by omega) (by omega) rfl (by omega)
  rw [hl2] at U2
  have U3 := Aside0.mk fun s => decUv_calls A2 (N - o2) (c - o2) _ _ T s W g2 (by omega) (by omega) rfl (by omega)
  rw [hl3] at U3
  have hrN : (N - o3) = r := by omega
  have U4 := Aside0.mk fun s => decVCut_calls A3 (N - o3) (c - o3) Z s W u0 e0 hE g3 (by omega) (by omega) (by rw [hrN]; exact hz)
  have wB : IntKind.i64.wrap (B : Int) = (B : Int) := IntWalk.i64_in _ (by omega)
  have wP : IntKind.i64.wrap (P : Int) = (P : Int) := IntWalk.i64_in _ (by omega)
  have wT : IntKind.i64.wrap (T : Int) = (T : Int) := IntWalk.i64_in _ (by omega)
  clear hE hC hZ hz HN hrN hC0 g0 hl1 hC1 g1 hl2 hC2 g2 hl3 hC3 g3 ho2 ho3
  go_enter Tryd.func107, Tryd.ntmps107
  go_wp2_with (first
    | (go_at_call 135; (first
      | ((with_reducible refine (U1.out _).mono ?_); rintro e w1 ⟨rfl, rfl⟩)
      | ((with_reducible refine (U2.out _).mono ?_); rintro e w1 ⟨rfl, rfl⟩)
      | ((with_reducible refine (U3.out _).mono ?_); rintro e w1 ⟨rfl, rfl⟩)))
    | (go_at_call 136; go_loud (with_reducible refine (U4.out _).mono ?_); rintro e w1 ⟨rfl, ⟨nc, rfl⟩⟩)
    | (go_quiet (fail)))
  (try simp only [Exit.inBlock, Exit.then])
  refine bodyPost_ret (results_tmp6 rfl _ _ _) rfl ?_
  exact ⟨_, _, _, _, _, rfl, ⟨_, rfl⟩⟩
end Go.Proofs.YtigmcdpjlkgocaaDoor.Dhy

/-! Heads that break off: the decoder gives the error on. -/
namespace Go.Proofs.YtigmcdpjlkgocaaDoor.Dhz
open Go.Proofs.YtigmcdpjlkgocaaDoor.Dhy Go.Proofs.YtigmcdpjlkgocaaDoor.Dhx Go.Proofs.YtigmcdpjlkgocaaDoor.Dhk Go.Proofs.YtigmcdpjlkgocaaDoor.Dhr Go.Proofs.YtigmcdpjlkgocaaDoor.Dst Go.Proofs.YtigmcdpjlkgocaaDoor.Pak Go.Proofs.YtigmcdpjlkgocaaDoor.Buf Go.Proofs.YtigmcdpjlkgocaaDoor.Fit Go.Proofs.YtigmcdpjlkgocaaDoor.Bit Go.Proofs.YtigmcdpjlkgocaaDoor.Wrd Go.Proofs.YtigmcdpjlkgocaaDoor.Spl Go.Proofs.YtigmcdpjlkgocaaDoor.Str Go.Proofs.YtigmcdpjlkgocaaDoor.Num Go.Proofs.YtigmcdpjlkgocaaDoor.Le Go.Proofs.YtigmcdpjlkgocaaDoor.Lst Go.Proofs.YtigmcdpjlkgocaaDoor.Aid Go.RowKit Go.Proofs.YtigmcdpjlkgocaaDoorW.PrintWords Go.Proofs.YtigmcdpjlkgocaaDoorW.PrintLast Go.Proofs.YtigmcdpjlkgocaaDoorW.PrintMore
set_option linter.unusedVariables false
set_option linter.unusedSimpArgs false
theorem bpWrapErr_calls (p : Value) (u0 : TypeId) (e0 : Value) (w : World) :
    Calls Tryd.prog 68 #[p, .iface u0 e0] w fun e w' => e = .returned (.iface u0 e0) ∧ w = w' := by
  go_enter Tryd.func68, Tryd.ntmps68
  go_wp2_with (fail)
  go_ret
  exact ⟨rfl, rfl⟩
set_option maxHeartbeats 4000000 in
set_option maxRecDepth 100000 in
theorem decInt64Cut_calls (dst : Value) (A : Option Addr) (N c : Nat) (W : World) (u0 : TypeId) (e0 : Value)
    (hH : Calls Tryd.prog 107 #[.slice A N c] W fun e w' => ∃ a b t f' v, e = .returned (.tuple #[.int .i64 a, .int .i64 b, .int .i64 t, .int .i64 f', v, .iface u0 e0]) ∧ Drawn0 W w') :
    Calls Tryd.prog 67 #[dst, .slice A N c] W fun e w' => ∃ v x, e = .returned (.tuple #[v, x, .iface u0 e0]) ∧ Drawn0 W w' := by
  have HH := Aside0.mk hH
  clear hH
  go_enter Tryd.func67, Tryd.ntmps67
  go_wp2_with (first
    | (go_at_call 107; go_loud (with_reducible refine HH.out.mono ?_); rintro e w2 ⟨a, b, t, f', v, rfl, ⟨nc, rfl⟩⟩)
    | (go_quiet (fail)))
  go_ret3
  exact ⟨_, _, rfl, ⟨_, rfl⟩⟩
set_option maxHeartbeats 4000000 in
theorem bpDecInt64Cut_calls (p : Value) (A : Option Addr) (N c : Nat) (w : World) (u0 : TypeId) (e0 : Value)
    (hH : Calls Tryd.prog 107 #[.slice A N c] w fun e w' => ∃ a b t f' v, e = .returned (.tuple #[.int .i64 a, .int .i64 b, .int .i64 t, .int .i64 f', v, .iface u0 e0]) ∧ Drawn0 w w') :
    Calls Tryd.prog 34 #[p, .slice none 0 0, .slice A N c] w fun e w' => ∃ v, e = .returned (.tuple #[v, .iface u0 e0]) ∧ Drawn0 w w' := by
  have HCALL := Aside0.mk (decInt64Cut_calls (.slice none 0 0) A N c w u0 e0 hH)
  obtain ⟨iE, hE⟩ : ∃ i, (Tryd.prog.info? 2) = some i ∧ i.size = 1 := Option.map_eq_some_iff.1 (show (Tryd.prog.info? 2).map (fun i => i.size) = some 1 by kernel_rfl)
  obtain ⟨cutz, _⟩ := cutHi (P := Tryd.prog) 22 2 Tryd.underlying22 hE.1 none 0 0 .i64 0 0 rfl (by omega) (by omega)
  clear hH
  go_enter Tryd.func34, Tryd.ntmps34
  go_wp2_with (first
    | (go_at_call 67; go_loud (with_reducible refine HCALL.out.mono ?_); rintro e w2 ⟨v2, x2, rfl, ⟨nc, rfl⟩⟩)
    | (go_at_call 68; (with_reducible refine (bpWrapErr_calls _ _ _ _).mono ?_); rintro e w3 ⟨rfl, rfl⟩))
  go_ret2
  exact ⟨v2, rfl, ⟨_, rfl⟩⟩
end Go.Proofs.YtigmcdpjlkgocaaDoor.Dhz

/-! Heads that break off: the thin package says no. -/
namespace Go.Proofs.YtigmcdpjlkgocaaDoor.Dhw
open Go.Proofs.YtigmcdpjlkgocaaDoor.Dhz Go.Proofs.YtigmcdpjlkgocaaDoor.Dhy Go.Proofs.YtigmcdpjlkgocaaDoor.Dhx Go.Proofs.YtigmcdpjlkgocaaDoor.Dhk Go.Proofs.YtigmcdpjlkgocaaDoor.Dhr Go.Proofs.YtigmcdpjlkgocaaDoor.Dst Go.Proofs.YtigmcdpjlkgocaaDoor.Dpu Go.Proofs.YtigmcdpjlkgocaaDoor.Dds Go.Proofs.YtigmcdpjlkgocaaDoor.Pak Go.Proofs.YtigmcdpjlkgocaaDoor.Buf Go.Proofs.YtigmcdpjlkgocaaDoor.Fit Go.Proofs.YtigmcdpjlkgocaaDoor.Bit Go.Proofs.YtigmcdpjlkgocaaDoor.Wrd Go.Proofs.YtigmcdpjlkgocaaDoor.Spl Go.Proofs.YtigmcdpjlkgocaaDoor.Str Go.Proofs.YtigmcdpjlkgocaaDoor.Flt Go.Proofs.YtigmcdpjlkgocaaDoor.Owe Go.Proofs.YtigmcdpjlkgocaaDoor.Num Go.Proofs.YtigmcdpjlkgocaaDoor.Le Go.Proofs.YtigmcdpjlkgocaaDoor.Lst Go.Proofs.YtigmcdpjlkgocaaDoor.Aid Go.RowKit Go.Proofs.YtigmcdpjlkgocaaDoorW.PrintWords Go.Proofs.YtigmcdpjlkgocaaDoorW.PrintLast Go.Proofs.YtigmcdpjlkgocaaDoorW.PrintMore
set_option linter.unusedVariables false
set_option linter.unusedSimpArgs false
theorem headCut_calls (A : Option Addr) (k c : Nat) (B P T : Nat) (f : Int) (Y : List Int) (W : World) (u0 : TypeId) (e0 : Value) (hE : W.cell? ⟨3, 0, none⟩ = some (.iface u0 e0)) (hC : (Kd.int .u8).C W A k ((hdG B P T f ++ Y).take k)) (hk : k < (hdG B P T f).length) (hc : k ≤ c) (hk9 : k ≤ 268435455) (hB9 : B ≤ 65536) (hP9 : P ≤ 65536) (hT : T ≤ 2147483647) (h0 : -9223372036854775808 ≤ f) (h1 : f ≤ 9223372036854775807) :
    Calls Tryd.prog 107 #[.slice A k c] W fun e w' => ∃ a b t f' v, e = .returned (.tuple #[.int .i64 a, .int .i64 b, .int .i64 t, .int .i64 f', v, .iface u0 e0]) ∧ Drawn0 W w' := by
  have lB := varL_len10 B (by omega)
  have lP := varL_len10 P (by omega)
  have lT := varL_len10 T (by omega)
  have lf := varL_len10 (zz f) (zz_lt f h0 h1)
  rcases head_cut B P T f Y k hk with ⟨h, e⟩ | ⟨r, h, _, e⟩ | ⟨r, h, _, e⟩ | ⟨r, h, _, e⟩
  · rw [e] at hC
    exact headCut1_calls A k c B P T f k _ W u0 e0 hE hC (by rw [List.length_take]; omega) (by omega) (cut_bytes _ _ h) hc hk9 hB9 hP9 hT
  · rw [e] at hC
    exact headCut2_calls A k c B P T f r _ W u0 e0 hE hC (by rw [List.length_take]; omega) (by omega) (cut_bytes _ _ h) hc hk9 hB9 hP9 hT
  · rw [e] at hC
    exact headCut3_calls A k c B P T f r _ W u0 e0 hE hC (by rw [List.length_take]; omega) (by omega) (cut_bytes _ _ h) hc hk9 hB9 hP9 hT
  · rw [e] at hC
    exact headCut4_calls A k c B P T f r _ W u0 e0 hE hC (by rw [List.length_take]; omega) (by omega) (cut_bytes _ _ h) hc hk9 hB9 hP9 hT
set_option maxHeartbeats 4000000 in
theorem decodeInt64sCut_calls (A : Option Addr) (N c : Nat) (X : List Int) (w0 : World) (u0 : TypeId) (e0 : Value) (hEE : w0.cell? ⟨3, 0, none⟩ = some (.iface u0 e0)) (hC : (Kd.int .u8).C w0 A N X) (hc : N ≤ c) (hN : N ≤ 268435455)
    (hH : ∀ A1 c1 W1, (Kd.int .u8).C W1 A1 N X → N ≤ c1 → W1.cell? ⟨3, 0, none⟩ = some (.iface u0 e0) → Calls Tryd.prog 107 #[.slice A1 N c1] W1 fun e w' => ∃ a b t f' v, e = .returned (.tuple #[.int .i64 a, .int .i64 b, .int .i64 t, .int .i64 f', v, .iface u0 e0]) ∧ Drawn0 W1 w') :
    Calls Tryd.prog 13 #[.string ⟨#[100, 101, 108, 116, 97]⟩, .slice A N c] w0 fun e w' => ∃ v, e = .returned (.tuple #[v, .bool false]) ∧ Below w0.heap.size w0 w' := by
  have HLN : Aside0 (X.length = N) := ⟨hC.1⟩
  have HH := Aside0.mk hH
  have HE0 := Aside0.mk hEE
  have HEL := Aside0.mk (World.block_lt_of_cell? w0 _ hEE)
  have HC2 : Aside0 ((Kd.int .u8).C (w0.alloc (.cells #[] 5)) A N X) := ⟨Kd.C_alloc hC _⟩
  have HE := Aside0.mk (Own.empty w0 w0.heap.size 5 .u8 (Nat.le_refl _))
  have HEB : Aside0 (Below w0.heap.size w0 (w0.alloc (.cells #[] 5))) := ⟨(Below.refl _ _).alloc (Nat.le_refl _) _⟩
  clear hC hH hEE
  go_enter Tryd.func13, Tryd.ntmps13
  go_wp2_with (first
    | (at_builtin; go_loud (refine appendRead (w0 := w0) w0.heap.size rfl (.tmp 9) (.tmp 10) 29 5 .u8 1 rfl Tryd.underlying29 infoU8 (by decide) _ [] A N c X rfl rfl HE.out HEB.out ?hb HC2.out ?hl ?_); (case hb => exact HEB.out.size); (case hl => simp; omega); intro v1 w1 ho hb hg; rw [List.nil_append] at ho; obtain ⟨A1, c1, rfl, hc1, hr1⟩ := ho.read; rw [HLN.out] at hc1 hr1; rw [HLN.out]; have HR1 := Aside0.mk (Kd.C_alloc hr1 (.cells #[] 67)); have HBA : Aside0 (Below w0.heap.size w0 (w1.alloc (.cells #[] 67))) := ⟨hb.alloc hb.size _⟩; have HHH := Aside0.mk (HH.out A1 c1 _ HR1.out hc1 ((HBA.out.cell (p := ⟨3, 0, none⟩) HEL.out).trans HE0.out)); clear ho hb hg hr1)
    | (go_at_call 34; go_loud (with_reducible refine (bpDecInt64Cut_calls _ A1 N c1 _ u0 e0 HHH.out).mono ?_); rintro e w2 ⟨v2, rfl, ⟨nc, rfl⟩⟩; have HB2 := Aside0.mk (HBA.out.trans ((drewN_below _ nc).mono HBA.out.size)))
    | go_quiet (fail))
  go_ret2
  exact ⟨v2, rfl, HB2.out.trans ((drewN_below _ _).mono HB2.out.size)⟩
end Go.Proofs.YtigmcdpjlkgocaaDoor.Dhw
