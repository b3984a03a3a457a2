import Derived.Test.YtoopljlbiifmfaaDoorRlb
/-! Groups of bytes: packing. -/
namespace Go.Proofs.YtoopljlbiifmfaaDoor.Rlp
open Go.Proofs.YtoopljlbiifmfaaDoor.Rlb Go.Proofs.YtoopljlbiifmfaaDoor.Buf Go.Proofs.YtoopljlbiifmfaaDoor.Fit Go.Proofs.YtoopljlbiifmfaaDoor.Bit Go.Proofs.YtoopljlbiifmfaaDoor.Wrd Go.Proofs.YtoopljlbiifmfaaDoor.Spl Go.Proofs.YtoopljlbiifmfaaDoor.Str Go.Proofs.YtoopljlbiifmfaaDoor.Flt Go.Proofs.YtoopljlbiifmfaaDoor.Owe Go.Proofs.YtoopljlbiifmfaaDoor.Num Go.Proofs.YtoopljlbiifmfaaDoor.Le Go.Proofs.YtoopljlbiifmfaaDoor.Lst Go.Proofs.YtoopljlbiifmfaaDoor.Aid Go.RowKit Go.Proofs.YtoopljlbiifmfaaDoorW.PrintWords Go.Proofs.YtoopljlbiifmfaaDoorW.PrintLast Go.Proofs.YtoopljlbiifmfaaDoorW.PrintMore
set_option linter.unusedVariables false
set_option linter.unusedSimpArgs false
/-- eight bytes of a word, so many bits of each, side by side -/
def pk (w X : Nat) : Nat := bitsN (fun p => X.testBit (8 * (p / w) + p % w)) (8 * w)
def packW (w : Nat) (ws : List Int) : List Int := ws.flatMap fun X => (lowL 8 ((pk w X.toNat : Nat) : Int)).take w
theorem packW_take (w : Nat) (ws : List Int) (j : Nat) (hj : j < ws.length) : packW w (ws.take (j + 1)) = packW w (ws.take j) ++ (lowL 8 ((pk w (rd ws (j : Nat)).toNat : Nat) : Int)).take w := by
  have e : ws.take (j + 1) = ws.take j ++ [rd ws (j : Nat)] := by
    rw [List.take_succ_eq_append_getElem hj, rd_nat _ _ hj]
  rw [e]; simp [packW]
theorem packW_length (w : Nat) (hw : w ≤ 8) (ws : List Int) : (packW w ws).length = ws.length * w := by
  induction ws with
  | nil => simp [packW]
  | cons x xs ih =>
    have : packW w (x :: xs) = (lowL 8 ((pk w x.toNat : Nat) : Int)).take w ++ packW w xs := by simp [packW]
    rw [this, List.length_append, ih, List.length_take, lowL_length, List.length_cons, Nat.succ_mul]; omega
/-- step by step, as the program does it -/
def pkTo (w X : Nat) : Nat → Nat
  | 0 => X % 2 ^ w
  | c + 1 => pkTo w X c ||| (X / 2 ^ (8 * (c + 1)) % 2 ^ w) * 2 ^ ((c + 1) * w)
theorem pkTo_bit (w X : Nat) (hw : 0 < w) (c : Nat) : ∀ p, (pkTo w X c).testBit p = (decide (p < (c + 1) * w) && X.testBit (8 * (p / w) + p % w)) := by
  induction c with
  | zero =>
    intro p
    simp only [pkTo, Nat.testBit_mod_two_pow, Nat.zero_add, Nat.one_mul]
    by_cases h : p < w
    · simp [h, Nat.div_eq_of_lt h, Nat.mod_eq_of_lt h]
    · simp [h]
  | succ c ih =>
    intro p
    simp only [pkTo, Nat.testBit_or, ih, Nat.testBit_mul_two_pow, Nat.testBit_mod_two_pow, Nat.testBit_div_two_pow]
    by_cases h1 : p < (c + 1) * w
    · have h2 : p < (c + 1 + 1) * w := by rw [Nat.succ_mul (c + 1)]; omega
      simp [h1, h2, show ¬ (c + 1) * w ≤ p by omega]
    · by_cases h2 : p < (c + 1 + 1) * w
      · rw [Nat.succ_mul (c + 1)] at h2
        have hd : p / w = c + 1 := by
          rw [Nat.div_eq_iff hw]
          constructor
          · omega
          · rw [Nat.mul_comm] at *; omega
        have hm : p % w = p - (c + 1) * w := by
          have := Nat.div_add_mod p w
          rw [hd, Nat.mul_comm] at this
          omega
        rw [hd, hm]
        rw [decide_eq_false h1, decide_eq_true (show p < (c + 1 + 1) * w by rw [Nat.succ_mul (c + 1)]; omega), decide_eq_true (show (c + 1) * w ≤ p by omega), decide_eq_true (show p - (c + 1) * w < w by omega), Nat.add_comm (8 * (c + 1))]
        simp
      · simp [h1, h2, show ¬ p - (c + 1) * w < w by rw [Nat.succ_mul (c + 1)] at h2; omega]
theorem pkTo_lt (w X : Nat) (hw : 0 < w) (c : Nat) : pkTo w X c < 2 ^ ((c + 1) * w) := by
  apply Nat.lt_pow_two_of_testBit
  intro i hi
  rw [pkTo_bit w X hw, decide_eq_false (by omega)]; rfl
theorem pkTo_pk (w X : Nat) (hw : 0 < w) : pkTo w X 7 = pk w X := by
  apply Nat.eq_of_testBit_eq
  intro q
  rw [pkTo_bit w X hw]
  unfold pk
  rw [bitsN_testBit]
theorem two_pow_le {a b : Nat} (h : a ≤ b) : 2 ^ a ≤ 2 ^ b := Nat.pow_le_pow_right (by omega) h
theorem mask64 (w : Nat) (hw : w ≤ 8) : IntKind.u64.wrap (IntKind.u64.wrap ((2 : Int) ^ w) - 1) = ((2 ^ w - 1 : Nat) : Int) := by
  have h1 : 2 ^ w ≤ 2 ^ 8 := two_pow_le hw
  have h0 : 0 < 2 ^ w := Nat.two_pow_pos w
  have e : (2 : Int) ^ w = ((2 ^ w : Nat) : Int) := by push_cast; rfl
  have a : IntKind.u64.wrap ((2 ^ w : Nat) : Int) = ((2 ^ w : Nat) : Int) := IntWalk.u64_in _ (by omega)
  rw [e, a, IntWalk.u64_in _ (by omega)]
  omega
theorem and64 (x w : Nat) (hx : x < 18446744073709551616) (hw : w ≤ 8) : bits .and .u64 (x : Int) ((2 ^ w - 1 : Nat) : Int) = ((x % 2 ^ w : Nat) : Int) := by
  have h1 : 2 ^ w ≤ 2 ^ 8 := two_pow_le hw
  rw [u64_and_nat x (2 ^ w - 1) hx (by omega), Nat.and_two_pow_sub_one_eq_mod]
theorem pkStep (w X c e : Nat) (K : Int) (hX : X < 18446744073709551616) (hw1 : 1 ≤ w) (hw : w ≤ 8) (hc : c < 7) (hK : K = ((2 ^ (8 * (c + 1)) : Nat) : Int)) (he : e = (c + 1) * w) :
    bits .or .u64 ((pkTo w X c : Nat) : Int) (IntKind.u64.wrap (bits .and .u64 ((X : Int) / K) ((2 ^ w - 1 : Nat) : Int) * 2 ^ e)) = ((pkTo w X (c + 1) : Nat) : Int) := by
  have hcw : (c + 1) * w + w ≤ 64 := by
    have h1 : (c + 1) * w ≤ 7 * w := Nat.mul_le_mul_right w (by omega)
    omega
  have hd : (X : Int) / K = ((X / 2 ^ (8 * (c + 1)) : Nat) : Int) := by rw [hK]; push_cast; rfl
  rw [hd, and64 _ w (Nat.lt_of_le_of_lt (Nat.div_le_self _ _) hX) hw]
  have ht : X / 2 ^ (8 * (c + 1)) % 2 ^ w < 2 ^ w := Nat.mod_lt _ (Nat.two_pow_pos w)
  have h2 : X / 2 ^ (8 * (c + 1)) % 2 ^ w * 2 ^ ((c + 1) * w) < 2 ^ w * 2 ^ ((c + 1) * w) := Nat.mul_lt_mul_of_pos_right ht (Nat.two_pow_pos _)
  rw [← Nat.pow_add] at h2
  have h3 : 2 ^ (w + (c + 1) * w) ≤ 2 ^ 64 := two_pow_le (by omega)
  have h4 : (2 : Nat) ^ 64 = 18446744073709551616 := by decide
  have e2 : ((X / 2 ^ (8 * (c + 1)) % 2 ^ w : Nat) : Int) * 2 ^ e = ((X / 2 ^ (8 * (c + 1)) % 2 ^ w * 2 ^ ((c + 1) * w) : Nat) : Int) := by rw [he]; push_cast; rfl
  rw [e2, IntWalk.u64_in _ (by omega)]
  have h5 := pkTo_lt w X (by omega) c
  have h6 : 2 ^ ((c + 1) * w) ≤ 2 ^ 64 := two_pow_le (by omega)
  rw [u64_or_nat _ _ (by omega) (by omega)]
  rfl
theorem pkAll (w X : Nat) (hX : X < 18446744073709551616) (hw1 : 1 ≤ w) (hw : w ≤ 8) :
    bits BinOp.or IntKind.u64 (bits BinOp.or IntKind.u64 (bits BinOp.or IntKind.u64 (bits BinOp.or IntKind.u64 (bits BinOp.or IntKind.u64 (bits BinOp.or IntKind.u64 (bits BinOp.or IntKind.u64
      (bits BinOp.and IntKind.u64 (X : Int) ((2 ^ w - 1 : Nat) : Int))
      (IntKind.u64.wrap (bits BinOp.and IntKind.u64 ((X : Int) / 256) ((2 ^ w - 1 : Nat) : Int) * 2 ^ w)))
      (IntKind.u64.wrap (bits BinOp.and IntKind.u64 ((X : Int) / 65536) ((2 ^ w - 1 : Nat) : Int) * 2 ^ (2 * w))))
      (IntKind.u64.wrap (bits BinOp.and IntKind.u64 ((X : Int) / 16777216) ((2 ^ w - 1 : Nat) : Int) * 2 ^ (3 * w))))
      (IntKind.u64.wrap (bits BinOp.and IntKind.u64 ((X : Int) / 4294967296) ((2 ^ w - 1 : Nat) : Int) * 2 ^ (4 * w))))
      (IntKind.u64.wrap (bits BinOp.and IntKind.u64 ((X : Int) / 1099511627776) ((2 ^ w - 1 : Nat) : Int) * 2 ^ (5 * w))))
      (IntKind.u64.wrap (bits BinOp.and IntKind.u64 ((X : Int) / 281474976710656) ((2 ^ w - 1 : Nat) : Int) * 2 ^ (6 * w))))
      (IntKind.u64.wrap (bits BinOp.and IntKind.u64 ((X : Int) / 72057594037927936) ((2 ^ w - 1 : Nat) : Int) * 2 ^ (7 * w))) = ((pk w X : Nat) : Int) := by
  rw [and64 X w hX hw, show ((X % 2 ^ w : Nat) : Int) = ((pkTo w X 0 : Nat) : Int) from rfl,
    pkStep w X 0 w 256 hX hw1 hw (by omega) (by decide) (by omega),
    pkStep w X 1 (2 * w) 65536 hX hw1 hw (by omega) (by decide) (by omega),
    pkStep w X 2 (3 * w) 16777216 hX hw1 hw (by omega) (by decide) (by omega),
    pkStep w X 3 (4 * w) 4294967296 hX hw1 hw (by omega) (by decide) (by omega),
    pkStep w X 4 (5 * w) 1099511627776 hX hw1 hw (by omega) (by decide) (by omega),
    pkStep w X 5 (6 * w) 281474976710656 hX hw1 hw (by omega) (by decide) (by omega),
    pkStep w X 6 (7 * w) 72057594037927936 hX hw1 hw (by omega) (by decide) (by omega), pkTo_pk w X hw1]
set_option maxHeartbeats 8000000 in
set_option maxRecDepth 100000 in
theorem packBytes_calls (g C t n c : Nat) (xs : List Int) (A : Option Addr) (m mc : Nat) (w : Nat) (ws : List Int) (w0 : World) (hF : Front w0 g C t .u8 xs) (hA : ∀ W, w0.grownBy W (some g) → (Kd.int .u64).C W A m ws) (hm : m ≤ mc) (hm9 : m ≤ 16777216)
    (hw1 : 1 ≤ w) (hw8 : w ≤ 8) (hu : u64L ws) (hn : m * w + 8 ≤ n) (hnc : n ≤ c) (hC : xs.length + n ≤ C) (hcC : c ≤ 9223372036854775807) :
    Calls Tryd.prog 137 #[.slice (some ⟨g, xs.length, none⟩) n c, .slice A m mc, .int .u64 w] w0 fun e w' => e = .returned (.int .i64 ((m * w : Nat) : Int)) ∧ Front w' g C t .u8 (xs ++ packW w ws) ∧ w0.grownBy w' (some g) := by
  have HF := Aside0.mk hF
  have HA := Aside0.mk hA
  have HLM : Aside0 (ws.length = m) := ⟨(hA w0 (grownRefl _ _)).1⟩
  have HU := Aside0.mk hu
  obtain ⟨o, ho⟩ : ∃ o, xs.length = o := ⟨_, rfl⟩
  have HO := Aside0.mk ho
  rw [ho] at hC ⊢
  obtain ⟨mk, hmk⟩ : ∃ mk, 2 ^ w - 1 = mk := ⟨_, rfl⟩
  have hmI := mask64 w hw8
  rw [hmk] at hmI
  have HPK : Aside0 (∀ X : Nat, X < 18446744073709551616 → _) := ⟨fun X hX => pkAll w X hX hw1 hw8⟩
  rw [hmk] at HPK
  obtain ⟨i8, h8⟩ := h8
  clear hF hA hu ho
  go_enter Tryd.func137, Tryd.ntmps137
  go_wp2_with (fail)
  go_loopg [8, 10, 16] m (fun kq v8 v10 v16 w' => ∃ (j s : Nat), j ≤ m ∧ v16 = .int .i64 j ∧ v8 = .int .i64 s ∧ Aside0 (s = j * w) ∧ Aside0 (Front w' g C t .u8 (xs ++ packW w (ws.take j))) ∧ Aside0 (w0.grownBy w' (some g)) ∧ Aside0 (m - j ≤ kq))
  case atStart => exact ⟨0, 0, by omega, rfl, rfl, ⟨by simp⟩, ⟨by simp [packW]; exact HF.out⟩, ⟨grownRefl _ _⟩, ⟨by omega⟩⟩
  case round =>
    obtain ⟨j, s, hj, rfl, rfl, HS, HR, HG, HK⟩ := hrel
    by_cases cj : j < m
    · have cjb : decide ((j : Int) < m) = true := decide_eq_true (by omega)
      obtain ⟨ad, ead, hcell⟩ := Kd.at_int (HA.out wr HG.out) (j : Int) (by omega) (by omega)
      rw [Int.toNat_natCast] at hcell
      have hxu := HU.out _ (rd_mem (l := ws) (i := j) (by rw [HLM.out]; exact cj))
      obtain ⟨X, hX⟩ : ∃ X : Nat, rd ws (j : Int) = (X : Int) := ⟨(rd ws (j : Int)).toNat, by unfold u64B at hxu; omega⟩
      rw [hX] at hcell
      have hX9 : X < 18446744073709551616 := by rw [hX] at hxu; unfold u64B at hxu; omega
      have HE := Aside0.mk (HPK.out X hX9)
      have HXX := Aside0.mk hX
      have HP := Aside0.mk (packW_take w ws j (by rw [HLM.out]; exact cj))
      have hsb : s + w ≤ m * w := by rw [HS.out, ← Nat.succ_mul]; exact Nat.mul_le_mul_right w cj
      have hlen : (xs ++ packW w (ws.take j)).length = o + s := by rw [List.length_append, HO.out, packW_length w hw8, List.length_take, HLM.out, HS.out, Nat.min_eq_left (by omega)]
      have HCALL := Aside0.mk (put64F_calls g C t (n - s) (c - s) (xs ++ packW w (ws.take j)) ((pk w X : Nat) : Int) wr HR.out (by omega) (by rw [hlen]; omega) (by omega) (by omega) (by omega) (by
        have h1 := pkTo_lt w X hw1 7
        rw [pkTo_pk w X hw1] at h1
        have h2 := two_pow_le (show (7 + 1) * w ≤ 64 by omega)
        have h3 : (2 : Nat) ^ 64 = 18446744073709551616 := by decide
        omega))
      rw [hlen] at HCALL
      have cut1 := cutOff (P := Tryd.prog) 25 5 Tryd.underlying25 h8.1 h8.2 g o n c .i64 (s : Int) s rfl (by omega) hnc (by omega)
      have HLEN := Aside0.mk hlen
      have HNX : Aside0 (s + w = (j + 1) * w) := ⟨by rw [HS.out, Nat.succ_mul]⟩
      clear hxu hX hlen
      subst ead
      go_wp2_with (first
        | (go_at_call 143; rw [HE.out]; (with_reducible refine HCALL.out.mono ?_); rintro e w2 ⟨rfl, hf, hg⟩; have HF2 := Aside0.mk hf; have HG2 := Aside0.mk hg; clear hf hg))
      go_roundg (gk - 1)
      case measure => have := HK.out; omega
      case rel =>
        refine ⟨j + 1, s + w, by omega, by go_num, by go_num, HNX, ⟨?_⟩, ⟨HG.out.trans HG2.out⟩, ⟨by have := HK.out; omega⟩⟩
        have h := HF2.out.take (o + s + w)
        rw [HP.out, show (rd ws (j : Nat)).toNat = X by rw [HXX.out]; rfl, ← List.append_assoc]
        have e : (xs ++ packW w (ws.take j) ++ lowL 8 ((pk w X : Nat) : Int)).take (o + s + w) = xs ++ packW w (ws.take j) ++ (lowL 8 ((pk w X : Nat) : Int)).take w := by
          rw [← HLEN.out, List.take_length_add_append]
        rw [e] at h
        exact h
    · obtain rfl : j = m := by omega
      have cjb : decide ((j : Int) < j) = false := decide_eq_false (by omega)
      go_wp2_with (fail)
      go_ret
      refine ⟨by rw [HS.out]; rfl, ?_, HG.out⟩
      have := HR.out
      rw [← HLM.out, List.take_length] at this
      exact this
set_option maxHeartbeats 4000000 in
theorem packBytes2_calls (g C t n c : Nat) (xs : List Int) (A : Option Addr) (m mc : Nat) (w : Nat) (ws : List Int) (w0 : World) (hF : Front w0 g C t .u8 xs) (hA : ∀ W, w0.grownBy W (some g) → (Kd.int .u64).C W A m ws) (hm : m ≤ mc) (hm9 : m ≤ 16777216)
    (hw1 : 1 ≤ w) (hw8 : w ≤ 8) (hu : u64L ws) (hn : m * w + 8 ≤ n) (hnc : n ≤ c) (hC : xs.length + n ≤ C) (hcC : c ≤ 9223372036854775807) :
    Calls Tryd.prog 120 #[.slice (some ⟨g, xs.length, none⟩) n c, .slice A m mc, .int .u64 w] w0 fun e w' => e = .returned (.int .i64 ((m * w : Nat) : Int)) ∧ Front w' g C t .u8 (xs ++ packW w ws) ∧ w0.grownBy w' (some g) := by
  have HCALL := Aside0.mk (packBytes_calls g C t n c xs A m mc w ws w0 hF hA hm hm9 hw1 hw8 hu hn hnc hC hcC)
  clear hF hA hu
  go_enter Tryd.func120, Tryd.ntmps120
  go_wp2_with (first
    | (go_at_call 137; (with_reducible refine HCALL.out.mono ?_); rintro e w2 ⟨rfl, hf, hg⟩; have HF2 := Aside0.mk hf; have HG2 := Aside0.mk hg; clear hf hg))
  go_ret
  exact ⟨rfl, HF2.out, HG2.out⟩
set_option maxHeartbeats 4000000 in
set_option maxRecDepth 100000 in
theorem appendBitPackedBytes_calls (w0 : World) (base : Nat) (v : Value) (xs : List Int) (A : Option Addr) (m mc : Nat) (b : Nat) (ws : List Int) (w : World) (hO : Own w base 5 .u8 v xs) (hB : Below base w0 w) (hb : base ≤ w.heap.size) (hx : xs.length ≤ 268435456)
    (hA : ∀ W, Below base w0 W → (Kd.int .u64).C W A m ws) (hm : m ≤ mc) (hm9 : m ≤ 1048576) (hw1 : 1 ≤ b) (hw8 : b ≤ 8) (hu : u64L ws) :
    Calls Tryd.prog 93 #[v, .slice A m mc, .int .u64 b] w fun e w' => ∃ v1, e = .returned v1 ∧ Own w' base 5 .u8 v1 (xs ++ (varL (2 * m + 1) ++ packW b ws)) ∧ Below base w0 w' := by
  obtain ⟨A0, c0, rfl, hc0, _⟩ := hO.read
  have HB := Aside0.mk hB
  have HA := Aside0.mk hA
  have HU := Aside0.mk hu
  obtain ⟨n, hn⟩ : ∃ n, xs.length = n := ⟨_, rfl⟩
  have HN := Aside0.mk hn
  have HLM : Aside0 (ws.length = m) := ⟨(hA w hB).1⟩
  rw [hn] at hO hc0 hx ⊢
  obtain ⟨M2, hM2⟩ : ∃ M2, m * b = M2 := ⟨_, rfl⟩
  have hMI : (m : Int) * (b : Int) = (M2 : Int) := by rw [← hM2]; push_cast; rfl
  have hM9 : M2 ≤ 8388608 := by rw [← hM2]; exact Nat.le_trans (Nat.mul_le_mul hm9 hw8) (by omega)
  have HMQ := Aside0.mk hM2
  have HRS := Aside0.mk (resize_calls base _ xs (n + 10 + M2 + 8) w hO hb (by omega) (by omega) (by omega))
  rw [show ((n + 10 + M2 + 8 : Nat) : Int) = (n : Int) + 10 + (M2 : Int) + 8 by omega] at HRS
  obtain ⟨S, hS⟩ : ∃ S, n + 10 + M2 + 8 = S := ⟨_, rfl⟩
  rw [hS] at HRS
  have hor : bits BinOp.or IntKind.u64 ((m : Int) * 2) 1 = ((2 * m + 1 : Nat) : Int) := by
    rw [show (m : Int) * 2 = ((2 * m : Nat) : Int) by omega, show (1 : Int) = ((1 : Nat) : Int) from rfl, u64_or_nat _ _ (by omega) (by omega)]
    congr 1
    apply Nat.eq_of_testBit_eq
    intro q
    rw [Nat.testBit_or]
    cases q with
    | zero => simp [Nat.testBit_zero]
    | succ q => simp [Nat.testBit_succ, show (2 * m + 1) / 2 = m by omega]
  have HPU : Aside0 (∀ (W : World) (g M : Nat), Front W g M 5 .u8 xs → S ≤ M → Calls Tryd.prog 119 #[.slice (some ⟨g, n, none⟩) (S - n) (M - n), .int .u64 (2 * (m : Int) + 1)] W fun e w' => e = .returned (.int .i64 ((varL (2 * m + 1)).length : Int)) ∧ Front w' g M 5 .u8 (xs ++ varL (2 * m + 1)) ∧ W.grownBy w' (some g)) := ⟨fun W g M hf hM => by
    have := putUvarint_calls g M 5 (S - n) (M - n) xs (2 * m + 1) W hf (by omega) (by have := varL_len5 (2 * m + 1) (by omega); omega) (by omega)
    rw [hn, show ((2 * m + 1 : Nat) : Int) = 2 * (m : Int) + 1 by omega] at this
    exact this⟩
  have hL5 := varL_len5 (2 * m + 1) (by omega)
  have hL0 := varL_pos (2 * m + 1)
  obtain ⟨L, hL⟩ : ∃ L, (varL (2 * m + 1)).length = L := ⟨_, rfl⟩
  rw [hL] at hL5 hL0
  have HL := Aside0.mk hL
  obtain ⟨i8, h8⟩ := h8
  have HPB : Aside0 (∀ (W : World) (g M : Nat), Front W g M 5 .u8 (xs ++ varL (2 * m + 1)) → S ≤ M → M ≤ 9223372036854775807 → (∀ W2, W.grownBy W2 (some g) → (Kd.int .u64).C W2 A m ws) → Calls Tryd.prog 120 #[.slice (some ⟨g, n + L, none⟩) (S - (n + L)) (M - (n + L)), .slice A m mc, .int .u64 b] W fun e w' => e = .returned (.int .i64 (M2 : Int)) ∧ Front w' g M 5 .u8 (xs ++ varL (2 * m + 1) ++ packW b ws) ∧ W.grownBy w' (some g)) := ⟨fun W g M hf hM hM9' hAA => by
    have := packBytes2_calls g M 5 (S - (n + L)) (M - (n + L)) (xs ++ varL (2 * m + 1)) A m mc b ws W hf hAA hm (by omega) hw1 hw8 HU.out (by rw [HMQ.out]; omega) (by omega) (by rw [List.length_append, HN.out, HL.out]; omega) (by omega)
    rw [List.length_append, HN.out, HL.out, HMQ.out] at this
    exact this⟩
  clear hO hB hA hu hL hn hM2
  go_enter Tryd.func93, Tryd.ntmps93
  go_wp2_with (first
    | (go_at_call 83; (with_reducible refine HRS.out.mono ?_); rintro e w2 ⟨g, M, rfl, hf, h1, h2, h3, h4, hb2⟩; have HF2 := Aside0.mk hf; have HB2 := Aside0.mk hb2; have cut1 := cutFrom0 (P := Tryd.prog) 25 5 Tryd.underlying25 h8.1 h8.2 g S M n (by omega) h1 (by omega); clear hf hb2)
    | (go_at_call 119; (with_reducible refine (HPU.out w2 g M HF2.out h1).mono ?_); rintro e w3 ⟨rfl, hf, hg⟩; rw [HL.out]; have HF3 := Aside0.mk hf; have HG3 := Aside0.mk hg; have HB3 : Aside0 (Below base w0 w3) := ⟨(HB.out.trans (HB2.out.mono hb)).grown hg (by have := HB2.out.size; omega) (fun j hj => by injection hj with hj; omega)⟩; have HA3 : Aside0 (∀ W2, w3.grownBy W2 (some g) → (Kd.int .u64).C W2 A m ws) := ⟨fun W2 hg2 => HA.out W2 (HB3.out.grown hg2 (by have := HB2.out.size; have := hg.size; omega) (fun j hj => by injection hj with hj; omega))⟩; have cut2 := cutFrom0 (P := Tryd.prog) 25 5 Tryd.underlying25 h8.1 h8.2 g S M (n + L) (by omega) h1 (by omega); rw [show ((n + L : Nat) : Int) = (n : Int) + (L : Int) by omega] at cut2; clear hf hg)
    | (go_at_call 120; (with_reducible refine (HPB.out w3 g M HF3.out h1 h2 HA3.out).mono ?_); rintro e w4 ⟨rfl, hf, hg⟩; have HF4 := Aside0.mk hf; have HB4 : Aside0 (Below base w0 w4) := ⟨HB3.out.grown hg (by have := HB2.out.size; have := HG3.out.size; omega) (fun j hj => by injection hj with hj; omega)⟩; have cut3 := cutAtMid0 (P := Tryd.prog) 25 5 Tryd.underlying25 h8.1 h8.2 g S M (n + L + M2) (by omega); rw [show ((n + L + M2 : Nat) : Int) = (n : Int) + (L : Int) + (M2 : Int) by omega] at cut3; clear hf hg))
  go_ret
  refine ⟨_, rfl, ?_, HB4.out⟩
  have h := HF4.out.toOwn (base := base) h3 h2
  rw [List.length_append, List.length_append, HN.out, HL.out, packW_length b hw8, HLM.out, HMQ.out, List.append_assoc] at h
  exact h
end Go.Proofs.YtoopljlbiifmfaaDoor.Rlp
