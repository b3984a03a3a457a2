import Derived.Test.YtoopljlbiifmfaaDoorEnb
/-! Numbers of 32 bits in runs: the encoder's appends. -/
namespace Go.Proofs.YtoopljlbiifmfaaDoor.Enc
open Go.Proofs.YtoopljlbiifmfaaDoor.Enb Go.Proofs.YtoopljlbiifmfaaDoor.Ena Go.Proofs.YtoopljlbiifmfaaDoor.Dec Go.Proofs.YtoopljlbiifmfaaDoor.Uva Go.Proofs.YtoopljlbiifmfaaDoor.Rle Go.Proofs.YtoopljlbiifmfaaDoor.Run Go.Proofs.YtoopljlbiifmfaaDoor.Rlp Go.Proofs.YtoopljlbiifmfaaDoor.Rlb Go.Proofs.YtoopljlbiifmfaaDoor.Buf Go.Proofs.YtoopljlbiifmfaaDoor.Fit Go.Proofs.YtoopljlbiifmfaaDoor.Bit Go.Proofs.YtoopljlbiifmfaaDoor.Wrd Go.Proofs.YtoopljlbiifmfaaDoor.Spl Go.Proofs.YtoopljlbiifmfaaDoor.Str Go.Proofs.YtoopljlbiifmfaaDoor.Flt Go.Proofs.YtoopljlbiifmfaaDoor.Owe Go.Proofs.YtoopljlbiifmfaaDoor.Num Go.Proofs.YtoopljlbiifmfaaDoor.Le Go.Proofs.YtoopljlbiifmfaaDoor.Lst Go.Proofs.YtoopljlbiifmfaaDoor.Aid Go.RowKit Go.Proofs.YtoopljlbiifmfaaDoorW.PrintWords Go.Proofs.YtoopljlbiifmfaaDoorW.PrintLast Go.Proofs.YtoopljlbiifmfaaDoorW.PrintMore
set_option linter.unusedVariables false
set_option linter.unusedSimpArgs false
theorem low_take (sz : Nat) (u : Int) (h : sz ≤ 4) : (lowL 4 u).take sz = lowL sz u := by
  unfold lowL
  rw [← List.map_take, List.take_range, Nat.min_eq_left h]
theorem packLo_len (b m : Nat) (ws : List Int) (h : ws.length = 8 * m) : (packLo b (wideL 32 ws)).length = m * b := by
  unfold packLo
  rw [bytesLo_length]
  unfold wideL
  rw [List.length_map, h, Nat.mul_assoc, Nat.mul_div_cancel_left _ (by omega)]
theorem grow_own {w w2 w3 : World} {g : Nat} {row : Option Nat} (h4 : w.heap.size ≤ g ∨ row = some g) (hb : Below w.heap.size w w2) (hg : w2.grownBy w3 (some g)) : w.grownBy w3 row :=
  ⟨hg.os.trans hb.os, hg.tape.trans hb.tape, hg.output.trans hb.output, Nat.le_trans hb.size hg.size, fun k hk hne => (hg.block k (Nat.lt_of_lt_of_le hk hb.size) (fun e => by
    injection e with e
    subst e
    rcases h4 with h | h
    · omega
    · exact hne h.symm)).trans (hb.block k hk)⟩
/-- the block that a step leaves: the one it had, or a new one -/
structure Hat (w : World) (v v1 : Value) : Prop where
  mk :: (out : v1.ownBlock = v.ownBlock ∨ ∃ g, v1.ownBlock = some g ∧ w.heap.size ≤ g)
set_option maxHeartbeats 4000000 in
theorem encodeInt32BitpackD_calls (g C n c : Nat) (xs : List Int) (A : Option Addr) (m mc b M : Nat) (ws : List Int) (w0 : World) (hF : Front w0 g C 5 .u8 xs) (hA : ∀ W, w0.grownBy W (some g) → (Kd.int .i32).C W A (8 * m) ws) (hm : m ≤ mc) (hm9 : m ≤ 100000)
    (hw1 : 1 ≤ b) (hw8 : b ≤ 32) (hu : ∀ x ∈ ws, (Lit.int .i32 x).wf = true) (hM : m * b = M) (hn : M ≤ n) (hnc : n ≤ c) (hC : xs.length + n ≤ C) (hcC : c ≤ 9223372036854775807) :
    Calls Tryd.prog 139 #[.slice (some ⟨g, xs.length, none⟩) n c, .slice A m mc, .int .u64 b] w0 fun e w' => e = .returned (.int .i64 (M : Int)) ∧ Front w' g C 5 .u8 (xs ++ packLo b (wideL 32 ws)) ∧ w0.grownBy w' (some g) := by
  have HF := Aside0.mk hF
  have HLM : Aside0 (ws.length = 8 * m) := ⟨(hA w0 (grownRefl _ _)).1⟩
  have HFL := Aside0.mk (flat_calls A m mc ws w0 (hA w0 (grownRefl _ _)) hm (by omega))
  have HU := Aside0.mk hu
  obtain ⟨m8, hm8⟩ : ∃ m8, 8 * m = m8 := ⟨_, rfl⟩
  have hm8I : (m : Int) * 8 = (m8 : Int) := by omega
  obtain ⟨Z, hZ⟩ : ∃ Z, m8 * b = Z := ⟨_, rfl⟩
  have hZI : (m8 : Int) * (b : Int) = (Z : Int) := by rw [← hZ]; push_cast; rfl
  have hZm : Z = 8 * M := by rw [← hZ, ← hm8, Nat.mul_assoc, hM]
  have hZ9 : Z ≤ 32000000 := by rw [hZm, ← hM]; have := Nat.mul_le_mul hm9 hw8; omega
  have HBC := Aside0.mk fun W => byteCount_calls Z W (by omega)
  rw [show (Z + 7) / 8 = M by omega] at HBC
  have hpk : bytesLo (upTo (bitsLo b (wideL 32 ws)) (m8 * b)) M = packLo b (wideL 32 ws) := by
    have hl : (wideL 32 ws).length = m8 := by unfold wideL; rw [List.length_map, HLM.out, hm8]
    have := packLo_upTo b (wideL 32 ws) (by rw [hl, hZ, hZm]; omega)
    rw [hl, hZ, hZm, show (8 * M + 7) / 8 = M by omega] at this
    rw [hZ, hZm]; exact this
  have HPI : Aside0 (∀ (W : World) (A1 : Option Addr) (c1 : Nat), Front W g C 5 .u8 xs → ReadKeep W g .i32 A1 m8 ws → Calls Tryd.prog 145 #[.slice (some ⟨g, xs.length, none⟩) n c, .slice A1 m8 c1, .int .u64 b] W fun e w' => e = .returned (.tuple #[]) ∧ Front w' g C 5 .u8 (xs ++ packLo b (wideL 32 ws)) ∧ W.grownBy w' (some g)) := ⟨fun W A1 c1 hf hk => by
    have := packInt32_calls g C 5 n c xs A1 m8 c1 b M ws W hf hk (by omega) HU.out hw8 (by rw [hZ]; omega) hn hnc hC hcC
    rw [hpk] at this; exact this⟩
  have hgl := hF.lt
  rw [hm8] at HLM
  have hw64 : IntKind.u64.wrap (m8 : Int) = (m8 : Int) := IntWalk.u64_in _ (by omega)
  clear hF hA hu hZm hZ hpk hm8
  go_enter Tryd.func139, Tryd.ntmps139
  go_wp2_with (first
    | (go_at_call 144; go_loud (with_reducible refine HFL.out.mono ?_); rintro e w1 ⟨v1, rfl, ho, hb⟩; obtain ⟨A1, c1, rfl, hc1, hk1⟩ := ho.keep hgl; rw [HLM.out] at hc1 hk1; rw [HLM.out]; have HK1 := Aside0.mk hk1; have HF1 := Aside0.mk (HF.out.below hb hgl); have HG1 : Aside0 (w0.grownBy w1 (some g)) := ⟨grownOfBelow hb rfl _⟩; clear ho hb hk1)
    | (go_at_call 145; go_loud (with_reducible refine (HPI.out w1 A1 c1 HF1.out HK1.out).mono ?_); rintro e w2 ⟨rfl, hf, hg⟩; have HF2 := Aside0.mk hf; have HG2 := Aside0.mk (HG1.out.trans hg); clear hf hg)
    | (go_at_call 82; go_loud (with_reducible refine (HBC.out _).mono ?_); rintro e w3 ⟨rfl, rfl⟩))
  go_ret
  exact ⟨rfl, HF2.out, HG2.out⟩
set_option maxHeartbeats 4000000 in
theorem encodeInt32Bitpack_calls (g C n c : Nat) (xs : List Int) (A : Option Addr) (m mc b M : Nat) (ws : List Int) (w0 : World) (hF : Front w0 g C 5 .u8 xs) (hA : ∀ W, w0.grownBy W (some g) → (Kd.int .i32).C W A (8 * m) ws) (hm : m ≤ mc) (hm9 : m ≤ 100000)
    (hw1 : 1 ≤ b) (hw8 : b ≤ 32) (hu : ∀ x ∈ ws, (Lit.int .i32 x).wf = true) (hM : m * b = M) (hn : M ≤ n) (hnc : n ≤ c) (hC : xs.length + n ≤ C) (hcC : c ≤ 9223372036854775807) :
    Calls Tryd.prog 127 #[.slice (some ⟨g, xs.length, none⟩) n c, .slice A m mc, .int .u64 b] w0 fun e w' => e = .returned (.int .i64 (M : Int)) ∧ Front w' g C 5 .u8 (xs ++ packLo b (wideL 32 ws)) ∧ w0.grownBy w' (some g) := by
  have HCALL := Aside0.mk (encodeInt32BitpackD_calls g C n c xs A m mc b M ws w0 hF hA hm hm9 hw1 hw8 hu hM hn hnc hC hcC)
  clear hF hA hu hM
  go_enter Tryd.func127, Tryd.ntmps127
  go_wp2_with (first
    | (go_at_call 139; go_loud (with_reducible refine HCALL.out.mono ?_); rintro e w2 ⟨rfl, hf, hg⟩; have HF2 := Aside0.mk hf; have HG2 := Aside0.mk hg; clear hf hg))
  go_ret
  exact ⟨rfl, HF2.out, HG2.out⟩
set_option maxHeartbeats 4000000 in
set_option maxRecDepth 100000 in
theorem appendRunLengthInt32_calls (w0 : World) (base : Nat) (v : Value) (xs : List Int) (k : Nat) (y : Int) (u b sz : Nat) (w : World) (hO : Own w base 5 .u8 v xs) (hB : Below base w0 w) (hb : base ≤ w.heap.size) (hx : xs.length ≤ 536870912) (hk : k ≤ 16777216) (hy : y % 4294967296 = (u : Int)) (hb1 : 1 ≤ b) (hb32 : b ≤ 32) (hsz : (b + 7) / 8 = sz) :
    Calls Tryd.prog 108 #[v, .int .i64 k, .int .i32 y, .int .u64 b] w fun e w' => ∃ v1, e = .returned v1 ∧ Own w' base 5 .u8 v1 (xs ++ (varL (2 * k) ++ lowL sz (u : Int))) ∧ Below base w0 w' ∧ w.grownBy w' v.ownBlock ∧ Hat w v v1 := by
  obtain ⟨A0, c0, rfl, hc0, _⟩ := hO.read
  have HB := Aside0.mk hB
  obtain ⟨n, hn⟩ : ∃ n, xs.length = n := ⟨_, rfl⟩
  have HN := Aside0.mk hn
  rw [hn] at hO hc0 hx ⊢
  have HRS := Aside0.mk (resize_calls base _ xs (n + 14) w hO hb (by omega) (by omega) (by omega))
  rw [show ((n + 14 : Nat) : Int) = (n : Int) + 10 + 4 by omega] at HRS
  have HPU : Aside0 (∀ (W : World) (g M : Nat), Front W g M 5 .u8 xs → n + 14 ≤ M → Calls Tryd.prog 119 #[.slice (some ⟨g, n, none⟩) 14 (M - n), .int .u64 ((k : Int) * 2)] W fun e w' => e = .returned (.int .i64 ((varL (2 * k)).length : Int)) ∧ Front w' g M 5 .u8 (xs ++ varL (2 * k)) ∧ W.grownBy w' (some g)) := ⟨fun W g M hf hM => by
    have := putUvarint_calls g M 5 (n + 14 - n) (M - n) xs (2 * k) W hf (by omega) (by have := varL_len5 (2 * k) (by omega); omega) (by omega)
    rw [hn, show n + 14 - n = 14 by omega, show ((2 * k : Nat) : Int) = (k : Int) * 2 by omega] at this
    exact this⟩
  have hL5 := varL_len5 (2 * k) (by omega)
  have hL0 := varL_pos (2 * k)
  obtain ⟨L, hL⟩ : ∃ L, (varL (2 * k)).length = L := ⟨_, rfl⟩
  rw [hL] at hL5 hL0
  have HL := Aside0.mk hL
  have HP4 : Aside0 (∀ (W : World) (g M : Nat), Front W g M 5 .u8 (xs ++ varL (2 * k)) → n + 14 ≤ M → Calls Tryd.prog 126 #[.slice (some ⟨g, n + L, none⟩) (n + 14 - (n + L)) (M - (n + L)), .int .u32 (u : Int)] W fun e w' => e = .returned (.tuple #[]) ∧ Front w' g M 5 .u8 (xs ++ varL (2 * k) ++ lowL 4 (u : Int)) ∧ W.grownBy w' (some g)) := ⟨fun W g M hf hM => by
    have := put32F_calls g M 5 (n + 14 - (n + L)) (M - (n + L)) (xs ++ varL (2 * k)) (u : Int) W hf (by omega) (by rw [List.length_append, HN.out, HL.out]; omega) (by omega) (by omega)
    rw [List.length_append, HN.out, HL.out] at this
    exact this⟩
  have HBC := Aside0.mk fun W => byteCount_calls b W (by omega)
  rw [hsz] at HBC
  have hsz4 : sz ≤ 4 := by omega
  have hyw : IntKind.u32.wrap y = (u : Int) := by rw [IntKind.wrap_u32]; exact hy
  obtain ⟨i8, h8⟩ := h8
  clear hO hB hL hn
  go_enter Tryd.func108, Tryd.ntmps108
  go_wp2_with (first
    | (go_at_call 83; (with_reducible refine HRS.out.mono ?_); rintro e w2 ⟨g, M, rfl, hf, h1, h2, h3, h4, hb2⟩; have HF2 := Aside0.mk hf; have HB2 := Aside0.mk hb2; have cut1 := cutFrom0 (P := Tryd.prog) 25 5 Tryd.underlying25 h8.1 h8.2 g (n + 14) M n (by omega) h1 (by omega); clear hf hb2)
    | (go_at_call 119; (with_reducible refine (HPU.out w2 g M HF2.out h1).mono ?_); rintro e w3 ⟨rfl, hf, hg⟩; rw [HL.out]; have HF3 := Aside0.mk hf; have HG3 := Aside0.mk hg; have cut2 := cutFrom0 (P := Tryd.prog) 25 5 Tryd.underlying25 h8.1 h8.2 g (n + 14) M (n + L) (by omega) h1 (by omega); rw [show ((n + L : Nat) : Int) = (n : Int) + (L : Int) by omega] at cut2; have cut3 := cutAtMid0 (P := Tryd.prog) 25 5 Tryd.underlying25 h8.1 h8.2 g (n + 14) M (n + L + sz) (by omega); rw [show ((n + L + sz : Nat) : Int) = (n : Int) + (L : Int) + (sz : Int) by omega] at cut3; clear hf hg)
    | (go_at_call 126; go_loud (with_reducible refine (HP4.out w3 g M HF3.out h1).mono ?_); rintro e w4 ⟨rfl, hf, hg⟩; have HF4 := Aside0.mk hf; have HG4 := Aside0.mk hg; clear hf hg)
    | (go_at_call 82; go_loud (with_reducible refine (HBC.out _).mono ?_); rintro e w5 ⟨rfl, rfl⟩))
  go_ret
  refine ⟨_, rfl, ?_, ?_, grow_own h4 HB2.out (HG3.out.trans HG4.out), ⟨h4.symm.imp (fun h => h.symm) (fun h => ⟨g, rfl, h⟩)⟩⟩
  · have h := (HF4.out.take (n + L + sz)).toOwn (base := base) h3 h2
    have e : (xs ++ varL (2 * k) ++ lowL 4 (u : Int)).take (n + L + sz) = xs ++ (varL (2 * k) ++ lowL sz (u : Int)) := by
      have h1 : (xs ++ varL (2 * k)).length = n + L := by rw [List.length_append, HN.out, HL.out]
      rw [← h1, List.take_length_add_append, low_take sz (u : Int) hsz4, List.append_assoc]
    rw [e, List.length_append, List.length_append, HN.out, HL.out, lowL_length, ← Nat.add_assoc] at h
    exact h
  · exact (((HB.out.trans (HB2.out.mono hb)).grown HG3.out (by have := HB2.out.size; omega) (fun j hj => by injection hj with hj; omega)).grown HG4.out (by have := HB2.out.size; have := HG3.out.size; omega) (fun j hj => by injection hj with hj; omega))
set_option maxHeartbeats 4000000 in
set_option maxRecDepth 100000 in
theorem appendBitPackedInt32_calls (w0 : World) (base : Nat) (v : Value) (xs : List Int) (A : Option Addr) (m mc : Nat) (b : Nat) (ws : List Int) (w : World) (hO : Own w base 5 .u8 v xs) (hB : Below base w0 w) (hb : base ≤ w.heap.size) (hx : xs.length ≤ 268435456)
    (hA : ∀ W, w.grownBy W v.ownBlock → (Kd.int .i32).C W A (8 * m) ws) (hm : m ≤ mc) (hm9 : m ≤ 100000) (hw1 : 1 ≤ b) (hw8 : b ≤ 32) (hu : ∀ x ∈ ws, (Lit.int .i32 x).wf = true) :
    Calls Tryd.prog 110 #[v, .slice A m mc, .int .u64 b] w fun e w' => ∃ v1, e = .returned v1 ∧ Own w' base 5 .u8 v1 (xs ++ (varL (2 * m + 1) ++ packLo b (wideL 32 ws))) ∧ Below base w0 w' ∧ w.grownBy w' v.ownBlock ∧ Hat w v v1 := by
  obtain ⟨A0, c0, rfl, hc0, _⟩ := hO.read
  have HB := Aside0.mk hB
  have HU := Aside0.mk hu
  obtain ⟨n, hn⟩ : ∃ n, xs.length = n := ⟨_, rfl⟩
  have HN := Aside0.mk hn
  have HLM : Aside0 (ws.length = 8 * m) := ⟨(hA w (grownRefl _ _)).1⟩
  rw [hn] at hO hc0 hx hA ⊢
  have HA := Aside0.mk hA
  obtain ⟨M2, hM2⟩ : ∃ M2, m * b = M2 := ⟨_, rfl⟩
  have hMI : (m : Int) * (b : Int) = (M2 : Int) := by rw [← hM2]; push_cast; rfl
  have hM9 : M2 ≤ 3200000 := by rw [← hM2]; exact Nat.le_trans (Nat.mul_le_mul hm9 hw8) (by omega)
  have HMQ := Aside0.mk hM2
  have HRS := Aside0.mk (resize_calls base _ xs (n + 10 + M2 + 32) w hO hb (by omega) (by omega) (by omega))
  rw [show ((n + 10 + M2 + 32 : Nat) : Int) = (n : Int) + 10 + (M2 : Int) + 32 by omega] at HRS
  obtain ⟨S, hS⟩ : ∃ S, n + 10 + M2 + 32 = S := ⟨_, rfl⟩
  rw [hS] at HRS
  have hor : bits BinOp.or IntKind.u64 ((m : Int) * 2) 1 = ((2 * m + 1 : Nat) : Int) := by
    rw [show (m : Int) * 2 = ((2 * m : Nat) : Int) by omega, show (1 : Int) = ((1 : Nat) : Int) from rfl, u64_or_nat _ _ (by omega) (by omega)]
    congr 1
    apply Nat.eq_of_testBit_eq
    intro q
    rw [Nat.testBit_or]
    cases q with
    | zero => simp [Nat.testBit_zero]
    | succ q => simp [Nat.testBit_succ, show (2 * m + 1) / 2 = m by omega]
  have HPU : Aside0 (∀ (W : World) (g M : Nat), Front W g M 5 .u8 xs → S ≤ M → Calls Tryd.prog 119 #[.slice (some ⟨g, n, none⟩) (S - n) (M - n), .int .u64 (2 * (m : Int) + 1)] W fun e w' => e = .returned (.int .i64 ((varL (2 * m + 1)).length : Int)) ∧ Front w' g M 5 .u8 (xs ++ varL (2 * m + 1)) ∧ W.grownBy w' (some g)) := ⟨fun W g M hf hM => by
    have := putUvarint_calls g M 5 (S - n) (M - n) xs (2 * m + 1) W hf (by omega) (by have := varL_len5 (2 * m + 1) (by omega); omega) (by omega)
    rw [hn, show ((2 * m + 1 : Nat) : Int) = 2 * (m : Int) + 1 by omega] at this
    exact this⟩
  have hL5 := varL_len5 (2 * m + 1) (by omega)
  have hL0 := varL_pos (2 * m + 1)
  obtain ⟨L, hL⟩ : ∃ L, (varL (2 * m + 1)).length = L := ⟨_, rfl⟩
  rw [hL] at hL5 hL0
  have HL := Aside0.mk hL
  obtain ⟨i8, h8⟩ := h8
  have HPB : Aside0 (∀ (W : World) (g M : Nat), Front W g M 5 .u8 (xs ++ varL (2 * m + 1)) → S ≤ M → M ≤ 9223372036854775807 → (∀ W2, W.grownBy W2 (some g) → (Kd.int .i32).C W2 A (8 * m) ws) → Calls Tryd.prog 127 #[.slice (some ⟨g, n + L, none⟩) (S - (n + L)) (M - (n + L)), .slice A m mc, .int .u64 b] W fun e w' => e = .returned (.int .i64 (M2 : Int)) ∧ Front w' g M 5 .u8 (xs ++ varL (2 * m + 1) ++ packLo b (wideL 32 ws)) ∧ W.grownBy w' (some g)) := ⟨fun W g M hf hM hM9' hAA => by
    have := encodeInt32Bitpack_calls g M (S - (n + L)) (M - (n + L)) (xs ++ varL (2 * m + 1)) A m mc b M2 ws W hf hAA hm (by omega) hw1 hw8 HU.out HMQ.out (by omega) (by omega) (by rw [List.length_append, HN.out, HL.out]; omega) (by omega)
    rw [List.length_append, HN.out, HL.out] at this
    exact this⟩
  clear hO hB hA hu hL hn hM2
  go_enter Tryd.func110, Tryd.ntmps110
  go_wp2_with (first
    | (go_at_call 83; (with_reducible refine HRS.out.mono ?_); rintro e w2 ⟨g, M, rfl, hf, h1, h2, h3, h4, hb2⟩; have HF2 := Aside0.mk hf; have HB2 := Aside0.mk hb2; have cut1 := cutFrom0 (P := Tryd.prog) 25 5 Tryd.underlying25 h8.1 h8.2 g S M n (by omega) h1 (by omega); clear hf hb2)
    | (go_at_call 119; (with_reducible refine (HPU.out w2 g M HF2.out h1).mono ?_); rintro e w3 ⟨rfl, hf, hg⟩; rw [HL.out]; have HF3 := Aside0.mk hf; have HG3 := Aside0.mk hg; have HB3 : Aside0 (Below base w0 w3) := ⟨(HB.out.trans (HB2.out.mono hb)).grown hg (by have := HB2.out.size; omega) (fun j hj => by injection hj with hj; omega)⟩; have HA3 : Aside0 (∀ W2, w3.grownBy W2 (some g) → (Kd.int .i32).C W2 A (8 * m) ws) := ⟨fun W2 hg2 => HA.out W2 (grow_own h4 HB2.out (hg.trans hg2))⟩; have cut2 := cutFrom0 (P := Tryd.prog) 25 5 Tryd.underlying25 h8.1 h8.2 g S M (n + L) (by omega) h1 (by omega); rw [show ((n + L : Nat) : Int) = (n : Int) + (L : Int) by omega] at cut2; clear hf hg)
    | (go_at_call 127; (with_reducible refine (HPB.out w3 g M HF3.out h1 h2 HA3.out).mono ?_); rintro e w4 ⟨rfl, hf, hg⟩; have HF4 := Aside0.mk hf; have HG4 : Aside0 (w.grownBy w4 (Value.slice A0 n c0).ownBlock) := ⟨grow_own h4 HB2.out (HG3.out.trans hg)⟩; have HB4 : Aside0 (Below base w0 w4) := ⟨HB3.out.grown hg (by have := HB2.out.size; have := HG3.out.size; omega) (fun j hj => by injection hj with hj; omega)⟩; have cut3 := cutAtMid0 (P := Tryd.prog) 25 5 Tryd.underlying25 h8.1 h8.2 g S M (n + L + M2) (by omega); rw [show ((n + L + M2 : Nat) : Int) = (n : Int) + (L : Int) + (M2 : Int) by omega] at cut3; clear hf hg))
  go_ret
  refine ⟨_, rfl, ?_, HB4.out, HG4.out, ⟨h4.symm.imp (fun h => h.symm) (fun h => ⟨g, rfl, h⟩)⟩⟩
  have h := HF4.out.toOwn (base := base) h3 h2
  rw [List.length_append, List.length_append, HN.out, HL.out, packLo_len b m ws HLM.out, HMQ.out, List.append_assoc] at h
  exact h
end Go.Proofs.YtoopljlbiifmfaaDoor.Enc
