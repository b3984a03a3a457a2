import Derived.Test.YtoopljlbiifmfaaDoorFit
/-! Packed levels, the high bits first: writing and reading. -/
namespace Go.Proofs.YtoopljlbiifmfaaDoor.Bpk
open Go.Proofs.YtoopljlbiifmfaaDoor.Fit Go.Proofs.YtoopljlbiifmfaaDoor.Bit Go.Proofs.YtoopljlbiifmfaaDoor.Wrd Go.Proofs.YtoopljlbiifmfaaDoor.Spl Go.Proofs.YtoopljlbiifmfaaDoor.Str Go.Proofs.YtoopljlbiifmfaaDoor.Flt Go.Proofs.YtoopljlbiifmfaaDoor.Owe Go.Proofs.YtoopljlbiifmfaaDoor.Num Go.Proofs.YtoopljlbiifmfaaDoor.Le Go.Proofs.YtoopljlbiifmfaaDoor.Lst Go.Proofs.YtoopljlbiifmfaaDoor.Aid Go.RowKit Go.Proofs.YtoopljlbiifmfaaDoorW.PrintWords Go.Proofs.YtoopljlbiifmfaaDoorW.PrintLast Go.Proofs.YtoopljlbiifmfaaDoorW.PrintMore
set_option linter.unusedVariables false
set_option linter.unusedSimpArgs false
/-- the bits of numbers of so many bits, the high ones first -/
def bitsOf (w : Nat) (l : List Int) (p : Nat) : Bool := (rd l (p / w : Nat)).toNat.testBit (w - 1 - p % w)
theorem bitsOf_at (w : Nat) (l : List Int) (j o y : Nat) (hw : 0 < w) (ho : o = j * w) (hy : rd l (j : Nat) = (y : Int)) (r : Nat) (hr : r < w) : bitsOf w l (o + r) = y.testBit (w - 1 - r) := by
  unfold bitsOf
  rw [ho, Nat.mul_comm, Nat.mul_add_div hw, Nat.div_eq_of_lt hr, Nat.mul_add_mod, Nat.mod_eq_of_lt hr, Nat.add_zero, hy, Int.toNat_natCast]
set_option maxHeartbeats 8000000 in
set_option maxRecDepth 100000 in
theorem bpEncode_calls (A : Option Addr) (n c : Nat) (w : Nat) (l : List Int) (w0 : World) (hC : (Kd.int .u8).C w0 A n l) (hc : n ≤ c) (hn : n ≤ 100000) (hn0 : 0 < n) (hw1 : 1 ≤ w) (hw8 : w ≤ 8) (hu : fitL w l) :
    Calls Tryd.prog 63 #[.slice none 0 0, .slice A n c, .int .u64 w] w0 fun e w' => ∃ v, e = .returned (.tuple #[v, .nilIface]) ∧ Own w' w0.heap.size 5 .u8 v (bytesH (upTo (bitsOf w l) (n * w)) ((n * w + 7) / 8)) ∧ Below w0.heap.size w0 w' := by
  have HLN : Aside0 (l.length = n) := ⟨hC.1⟩
  have HC := Aside0.mk hC
  have HU := Aside0.mk hu
  obtain ⟨i8, h8⟩ := h8
  obtain ⟨M, hM⟩ : ∃ M, n * w = M := ⟨_, rfl⟩
  have hMi : (w : Int) * (n : Int) = (M : Int) := by rw [← hM]; push_cast; exact Int.mul_comm _ _
  have hMb : M ≤ 800000 := by
    rw [← hM]
    exact Nat.le_trans (Nat.mul_le_mul hn hw8) (by omega)
  have HMQ := Aside0.mk hM
  obtain ⟨N, hN⟩ : ∃ N, (M + 7) / 8 = N := ⟨_, rfl⟩
  have hNi2 : ((M : Int) + 7) / 8 = (N : Int) := by rw [← hN]; omega
  have hmk : ∀ W : World, (Instr.makeSlice 25 (.int .i64 ((N : Int) + 1)) (.int .i64 (2 * ((N : Int) + 1)))).run Tryd.prog W = .ok (.slice (some ⟨W.heap.size, 0, none⟩) (N + 1) (2 * (N + 1))) (W.alloc (.cells (madeCells #[.int .u8 0] (2 * (N + 1))) 5)) := by
    have := make1 (P := Tryd.prog) 25 5 (.int .u8 0) 1 Tryd.underlying25 infoU8 rfl (N + 1) (2 * (N + 1)) (by omega) (by omega) (by omega)
    intro W
    have h := this W
    push_cast at h
    exact h
  have qw0 : ((w : Int) == 0) = false := by rw [beq_eq_false_iff_ne]; omega
  have qn0 : ((n : Int) == 0) = false := by rw [beq_eq_false_iff_ne]; omega
  have hNb : N ≤ 100001 := by omega
  clear hC hu hM
  go_enter Tryd.func63, Tryd.ntmps63
  go_wp2_with (fail)
  have HM : Aside0 (Row (w0.alloc (.cells (madeCells #[.int .u8 0] (2 * (N + 1))) 5)) w0.heap.size 5 .u8 (bytesH (upTo (bitsOf w l) 0) (2 * (N + 1)))) := ⟨by rw [bytesH_zero]; exact madeRow w0 5 .u8 (2 * (N + 1))⟩
  have HB : Aside0 (Below w0.heap.size w0 (w0.alloc (.cells (madeCells #[.int .u8 0] (2 * (N + 1))) 5))) := ⟨(Below.refl _ _).alloc (Nat.le_refl _) _⟩
  generalize w0.alloc (.cells (madeCells #[.int .u8 0] (2 * (N + 1))) 5) = wm at *
  obtain ⟨C, hC2⟩ : ∃ C, 2 * (N + 1) = C := ⟨_, rfl⟩
  rw [hC2] at HM ⊢
  clear hmk hMi hNi2
  go_loopg [11, 59] n (fun kq v11 v59 w' => ∃ (j o : Nat), j ≤ n ∧ v59 = .int .i64 j ∧ v11 = .int .u64 o ∧ o ≤ M ∧ Aside0 (o = j * w) ∧ Aside0 (Row w' w0.heap.size 5 .u8 (bytesH (upTo (bitsOf w l) o) C)) ∧ Aside0 (Below w0.heap.size w0 w') ∧ Aside0 (n - j ≤ kq))
  case atStart => exact ⟨0, 0, by omega, rfl, rfl, by omega, ⟨by simp⟩, HM, HB, ⟨by omega⟩⟩
  case round =>
    clear HM HB
    obtain ⟨j, o, hj, rfl, rfl, ho, HOQ, HR, HB, HK⟩ := hrel
    by_cases cj : j < n
    · have cjb : decide ((j : Int) < n) = true := decide_eq_true (by omega)
      obtain ⟨ad, ead, hcell⟩ := Kd.at_int (Kd.C_below HC.out HB.out) (j : Int) (by omega) (by omega)
      rw [Int.toNat_natCast] at hcell
      have hfit := HU.out _ (rd_mem (l := l) (i := j) (by rw [HLN.out]; exact cj))
      obtain ⟨y, hy⟩ : ∃ y : Nat, rd l (j : Int) = (y : Int) := ⟨(rd l (j : Int)).toNat, by omega⟩
      rw [hy] at hcell hfit
      have hyw : y < 2 ^ w := by have := hfit.2; exact_mod_cast this
      have hy8 : y < 256 := Nat.lt_of_lt_of_le hyw (Nat.pow_le_pow_right (j := 8) (by omega) hw8)
      have HH := Aside0.mk (bitsOf_at w l j o y (by omega) HOQ.out hy)
      have HNX : Aside0 (o + w = (j + 1) * w) := ⟨by rw [HOQ.out, Nat.succ_mul]⟩
      have hoM : o + w ≤ M := by rw [HNX.out, ← HMQ.out]; exact Nat.mul_le_mul_right w cj
      have HYW := Aside0.mk hyw
      obtain ⟨i, hi⟩ : ∃ i, o / 8 = i := ⟨_, rfl⟩
      obtain ⟨b, hb⟩ : ∃ b, o % 8 = b := ⟨_, rfl⟩
      have hiI : (o : Int) / 8 = (i : Int) := by omega
      have hbI : (o : Int) % 8 = (b : Int) := by omega
      have hb8 : b < 8 := by omega
      have hiC : i + 1 < C := by omega
      have rc := HR.out.cell (j := i) (by rw [bytesH_length]; omega)
      have rf := HR.out.free i
      rw [rd_bytesH _ _ _ (by omega)] at rc
      obtain ⟨z, hz⟩ : ∃ z, byteH (upTo (bitsOf w l) o) i = z := ⟨_, rfl⟩
      have hz8 : z < 256 := by rw [← hz]; exact byteH_lt _ _
      have HZ := Aside0.mk hz
      rw [hz] at rc
      have HI := Aside0.mk hi
      have HBQ := Aside0.mk hb
      subst ead
      clear hfit hy hyw hz hi hb hj
      by_cases cs : b + w ≤ 8
      · obtain ⟨s, hs⟩ : ∃ s, b + w + s = 8 := ⟨8 - (b + w), by omega⟩
        have haI : (8 : Int) - (b : Int) = (w : Int) + (s : Int) := by omega
        have qd : decide ((w : Int) ≤ (w : Int) + (s : Int)) = true := decide_eq_true (by omega)
        have hsI : (w : Int) + (s : Int) - (w : Int) = (s : Int) := by omega
        have hs7 : s < 8 := by omega
        go_wp2_with (fail)
        go_roundg (gk - 1)
        case measure => have := HK.out; omega
        case rel =>
          refine ⟨j + 1, o + w, by omega, by go_num, by go_num, hoM, HNX, ⟨?_⟩, ⟨Below.setCell (p := ⟨w0.heap.size, i, none⟩) HB.out (Nat.le_refl _) _⟩, ⟨by have := HK.out; omega⟩⟩
          have := HR.out.set i ((z ||| (y * 2 ^ s % 256) : Nat) : Int)
          rw [← HZ.out, ← HI.out, bytesH_fit (bitsOf w l) C o w y s (by rw [HI.out]; omega) (by rw [HBQ.out]; omega) HYW.out HH.out] at this
          rw [show bits BinOp.or IntKind.u8 (z : Int) ((y : Int) * 2 ^ s % 256) = ((z ||| (y * 2 ^ s % 256) : Nat) : Int) by
            rw [← u8_or_nat z (y * 2 ^ s % 256) hz8 (Nat.mod_lt _ (by omega))]; push_cast; rfl]
          rw [← HZ.out, ← HI.out]
          exact this
      · obtain ⟨s, hs⟩ : ∃ s, b + w = 8 + s := ⟨b + w - 8, by omega⟩
        have hs0 : 0 < s := by omega
        have hs7 : s < 8 := by omega
        obtain ⟨a, ha⟩ : ∃ a, b + a = 8 := ⟨8 - b, by omega⟩
        have haI : (8 : Int) - (b : Int) = (a : Int) := by omega
        have qd : decide ((w : Int) ≤ (a : Int)) = false := decide_eq_false (by omega)
        have qd2 : decide (w ≤ a) = false := decide_eq_false (by omega)
        have hsI : (w : Int) - (a : Int) = (s : Int) := by omega
        obtain ⟨t, ht⟩ : ∃ t, t + s = 8 := ⟨8 - s, by omega⟩
        have htI : (8 : Int) - (s : Int) = (t : Int) := by omega
        have ht7 : t < 8 := by omega
        have rc1 := HR.out.cell (j := i + 1) (by rw [bytesH_length]; omega)
        have rf1 := HR.out.free (i + 1)
        rw [rd_bytesH _ _ _ (by omega)] at rc1
        obtain ⟨z1, hz1⟩ : ∃ z, byteH (upTo (bitsOf w l) o) (i + 1) = z := ⟨_, rfl⟩
        have hz18 : z1 < 256 := by rw [← hz1]; exact byteH_lt _ _
        have HZ1 := Aside0.mk hz1
        rw [hz1] at rc1
        clear hz1
        go_wp2_with (fail)
        go_roundg (gk - 1)
        case measure => have := HK.out; omega
        case rel =>
          refine ⟨j + 1, o + w, by omega, by go_num, by go_num, hoM, HNX, ⟨?_⟩, ⟨Below.setCell (p := ⟨w0.heap.size, i + 1, none⟩) (Below.setCell (p := ⟨w0.heap.size, i, none⟩) HB.out (Nat.le_refl _) _) (Nat.le_refl _) _⟩, ⟨by have := HK.out; omega⟩⟩
          have := (HR.out.set i ((z ||| (y / 2 ^ s) : Nat) : Int)).set (i + 1) ((z1 ||| (y * 2 ^ t % 256) : Nat) : Int)
          rw [← HZ.out, ← HZ1.out, ← HI.out, show t = 8 - s by omega, bytesH_split (bitsOf w l) C o w y s (by rw [HI.out]; omega) (by rw [HBQ.out]; omega) (by omega) hs0 hs7 HYW.out hy8 HH.out] at this
          rw [show bits BinOp.or IntKind.u8 (z : Int) ((y : Int) / 2 ^ s) = ((z ||| (y / 2 ^ s) : Nat) : Int) by
            rw [← u8_or_nat z (y / 2 ^ s) hz8 (Nat.lt_of_le_of_lt (Nat.div_le_self _ _) hy8)]; push_cast; rfl]
          rw [show bits BinOp.or IntKind.u8 (z1 : Int) ((y : Int) * 2 ^ t % 256) = ((z1 ||| (y * 2 ^ t % 256) : Nat) : Int) by
            rw [← u8_or_nat z1 (y * 2 ^ t % 256) hz18 (Nat.mod_lt _ (by omega))]; push_cast; rfl]
          rw [← HZ.out, ← HZ1.out, ← HI.out, show t = 8 - s by omega]
          exact this
    · obtain rfl : j = n := by omega
      have cjb : decide ((j : Int) < j) = false := decide_eq_false (by omega)
      have HOM : Aside0 (o = M) := ⟨by rw [HOQ.out]; exact HMQ.out⟩
      obtain ⟨cut1, _⟩ := cutHi (P := Tryd.prog) 25 5 Tryd.underlying25 h8.1 (some ⟨w0.heap.size, 0, none⟩) (N + 1) C .i64 (N : Int) N rfl (by omega) (by omega)
      go_wp2_with (fail)
      go_ret2
      refine ⟨_, rfl, ?_, HB.out⟩
      have h := HR.out.toOwn (base := w0.heap.size) (n := N) (Nat.le_refl _) (by rw [bytesH_length]; omega) (by rw [bytesH_length]; omega)
      rw [bytesH_take _ _ _ (by omega), bytesH_length, HOM.out] at h
      rw [HMQ.out, hN]
      exact h
theorem maskI (w : Nat) (h1 : 1 ≤ w) (h8 : w ≤ 8) : ((2 : Int) ^ w % 256 - 1) % 256 = ((2 ^ w - 1 : Nat) : Int) := by
  rcases (show w = 1 ∨ w = 2 ∨ w = 3 ∨ w = 4 ∨ w = 5 ∨ w = 6 ∨ w = 7 ∨ w = 8 by omega) with h | h | h | h | h | h | h | h <;> subst h <;> decide
theorem mask_lt (w : Nat) (h8 : w ≤ 8) : 2 ^ w - 1 < 256 := by
  have : 2 ^ w ≤ 2 ^ 8 := Nat.pow_le_pow_right (by omega) h8
  omega
theorem partI_take (f : Nat → Int) (n m : Nat) (hm : m ≤ n) : (partI f n m).take m = (List.range m).map f := by
  apply List.ext_getElem
  · simp [partI, hm]
  · intro i h1 h2
    have : i < m := by simp at h2; exact h2
    simp [partI, this]
set_option maxHeartbeats 8000000 in
set_option maxRecDepth 100000 in
theorem bpDecode_calls (A : Option Addr) (N c : Nat) (w V : Nat) (bs : List Int) (w0 : World) (hC : (Kd.int .u8).C w0 A N bs) (hc : N ≤ c) (hn : N ≤ 100001) (hn0 : 0 < N) (hw1 : 1 ≤ w) (hw8 : w ≤ 8) (hu : bytesB bs = true)
    (hV : V = 8 * N / w + if 8 * N % w = 0 then 0 else 1) :
    Calls Tryd.prog 60 #[.slice none 0 0, .slice A N c, .int .u64 w] w0 fun e w' => ∃ v, e = .returned (.tuple #[v, .nilIface]) ∧ Own w' w0.heap.size 5 .u8 v ((List.range V).map fun k => (valH bs w (k * w) : Int)) ∧ Below w0.heap.size w0 w' := by
  have HLN : Aside0 (bs.length = N) := ⟨hC.1⟩
  have HC := Aside0.mk hC
  have HU := Aside0.mk hu
  obtain ⟨i8, h8⟩ := h8
  obtain ⟨Q, hQ⟩ : ∃ Q, 8 * N / w = Q := ⟨_, rfl⟩
  obtain ⟨R, hR⟩ : ∃ R, 8 * N % w = R := ⟨_, rfl⟩
  have hQI : (8 : Int) * (N : Int) / (w : Int) = (Q : Int) := by rw [← hQ]; push_cast; rfl
  have hRI : (8 : Int) * (N : Int) % (w : Int) = (R : Int) := by rw [← hR]; push_cast; rfl
  have hQb : Q ≤ 800008 := by rw [← hQ]; exact Nat.le_trans (Nat.div_le_self _ _) (by omega)
  rw [hQ, hR] at hV
  have HVW : Aside0 (∀ j, j < V → j * w < 8 * N) := ⟨fun j hj => by
    have e := Nat.div_add_mod (8 * N) w
    rw [hQ, hR] at e
    have h1 : j * w ≤ w * Q ∧ (R = 0 → j * w < w * Q) := by
      rw [Nat.mul_comm w Q]
      refine ⟨Nat.mul_le_mul_right w (by split at hV <;> omega), fun h => ?_⟩
      rw [if_pos h] at hV
      exact Nat.mul_lt_mul_of_pos_right (by omega) (by omega)
    rcases Nat.eq_zero_or_pos R with h | h
    · have := h1.2 h; omega
    · have := h1.1; omega⟩
  have qw0 : ((w : Int) == 0) = false := by rw [beq_eq_false_iff_ne]; omega
  have qn0 : ((N : Int) == 0) = false := by rw [beq_eq_false_iff_ne]; omega
  have qwz : ¬ (w : Int) = 0 := by omega
  clear hC hu
  go_enter Tryd.func60, Tryd.ntmps60
  go_upto_if 43 with (fail)
  go_cut [9] from 21 (fun v9 wx => v9 = .int .i64 V ∧ w0 = wx)
  case first =>
    by_cases cR : R = 0
    · have qR : ((R : Int) != 0) = false := by rw [cR]; rfl
      go_wp2_with (fail)
      go_meet
      exact ⟨by rw [hV, if_pos cR]; rfl, rfl⟩
    · have qR : ((R : Int) != 0) = true := by rw [bne_iff_ne]; omega
      go_wp2_with (fail)
      go_meet
      exact ⟨by rw [hV, if_neg cR]; go_num, rfl⟩
  case rest =>
    obtain ⟨rfl, rfl⟩ := hcut
    have hV0 : 0 < V := by
      rw [hV]
      rcases Nat.eq_zero_or_pos Q with h | h
      · have e := Nat.div_add_mod (8 * N) w
        rw [hQ, hR, h] at e
        rw [if_neg (by omega)]; omega
      · omega
    have hVb : V ≤ 800009 := by rw [hV]; split <;> omega
    clear hQI hRI hV hQ hR hQb
    have hmk : ∀ W : World, (Instr.makeSlice 25 (.int .i64 (V : Int)) (.int .i64 (2 * (V : Int)))).run Tryd.prog W = .ok (.slice (some ⟨W.heap.size, 0, none⟩) V (2 * V)) (W.alloc (.cells (madeCells #[.int .u8 0] (2 * V)) 5)) := by
      have := make1 (P := Tryd.prog) 25 5 (.int .u8 0) 1 Tryd.underlying25 infoU8 rfl V (2 * V) (by omega) (by omega) (by omega)
      intro W
      have h := this W
      push_cast at h
      exact h
    have qv : decide (0 < (V : Int)) = true := decide_eq_true (by omega)
    have qv2 : decide (0 < V) = true := decide_eq_true hV0
    obtain ⟨m, hm⟩ : ∃ m, 2 ^ w - 1 = m := ⟨_, rfl⟩
    have hmI : ((2 : Int) ^ w % 256 - 1) % 256 = (m : Int) := by rw [← hm]; exact maskI w hw1 hw8
    have hm8 : m < 256 := by rw [← hm]; exact mask_lt w hw8
    have HM2 := Aside0.mk hm
    clear hm
    go_wp2_with (fail)
    obtain ⟨f, hf⟩ : ∃ f : Nat → Int, (fun k => (valH bs w (k * w) : Int)) = f := ⟨_, rfl⟩
    have HF : Aside0 (∀ k, f k = (valH bs w (k * w) : Int)) := ⟨fun k => by rw [← hf]⟩
    have HFF := Aside0.mk hf
    have HM : Aside0 (Row (w0.alloc (.cells (madeCells #[.int .u8 0] (2 * V)) 5)) w0.heap.size 5 .u8 (partI f (2 * V) 0)) := ⟨by rw [partI_zero]; exact madeRow w0 5 .u8 (2 * V)⟩
    have HB : Aside0 (Below w0.heap.size w0 (w0.alloc (.cells (madeCells #[.int .u8 0] (2 * V)) 5))) := ⟨(Below.refl _ _).alloc (Nat.le_refl _) _⟩
    generalize w0.alloc (.cells (madeCells #[.int .u8 0] (2 * V)) 5) = wm at *
    obtain ⟨C, hC2⟩ : ∃ C, 2 * V = C := ⟨_, rfl⟩
    rw [hC2] at HM ⊢
    rw [hmI]
    clear hmk hf hmI
    go_loopg [12, 71] V (fun kq v12 v71 w' => ∃ (j o : Nat), j ≤ V ∧ v71 = .int .i64 j ∧ v12 = .int .u64 o ∧ o ≤ 8 * N + 8 ∧ Aside0 (o = j * w) ∧ Aside0 (Row w' w0.heap.size 5 .u8 (partI f C j)) ∧ Aside0 (Below w0.heap.size w0 w') ∧ Aside0 (V - j ≤ kq))
    case atStart => exact ⟨0, 0, by omega, rfl, rfl, by omega, ⟨by simp⟩, HM, HB, ⟨by omega⟩⟩
    case round =>
      clear HM HB
      obtain ⟨j, o, hj, rfl, rfl, ho, HOQ, HR, HB, HK⟩ := hrel
      by_cases cj : j < V
      · have cjb : decide ((j : Int) < V) = true := decide_eq_true (by omega)
        have hoN : o < 8 * N := by rw [HOQ.out]; exact HVW.out j cj
        have HNX : Aside0 (o + w = (j + 1) * w) := ⟨by rw [HOQ.out, Nat.succ_mul]⟩
        obtain ⟨i, hi⟩ : ∃ i, o / 8 = i := ⟨_, rfl⟩
        obtain ⟨b, hb⟩ : ∃ b, o % 8 = b := ⟨_, rfl⟩
        have hiI : (o : Int) / 8 = (i : Int) := by omega
        have hbI : (o : Int) % 8 = (b : Int) := by omega
        have hb8 : b < 8 := by omega
        have hiN : i < N := by omega
        obtain ⟨ad, ead, hcell⟩ := Kd.at_int (Kd.C_below HC.out HB.out) (i : Int) (by omega) (by omega)
        rw [Int.toNat_natCast] at hcell
        have hby := bytesB_mem HU.out _ (rd_mem (l := bs) (i := i) (by rw [HLN.out]; exact hiN))
        obtain ⟨y, hy⟩ : ∃ y : Nat, rd bs (i : Int) = (y : Int) := ⟨(rd bs (i : Int)).toNat, by unfold byt at hby; omega⟩
        rw [hy] at hcell hby
        have hy8 : y < 256 := by unfold byt at hby; omega
        have HYY := Aside0.mk hy
        have rc := HR.out.cell (j := j) (by rw [partI_length]; omega)
        have rf := HR.out.free j
        rw [rd_partI _ _ _ _ (by omega), if_neg (by omega)] at rc
        have HI := Aside0.mk hi
        have HBQ := Aside0.mk hb
        have HSET : Aside0 (∀ x : Nat, x = valH bs w o → Row (wr.setCell ⟨w0.heap.size, j, none⟩ (.int .u8 (x : Int))) w0.heap.size 5 .u8 (partI f C (j + 1))) := ⟨fun x hx => by
          have := HR.out.set j (f j)
          rw [partI_set, HF.out, ← HOQ.out, ← hx] at this
          exact this⟩
        obtain ⟨x, hx⟩ : ∃ x, valH bs w o = x := ⟨_, rfl⟩
        have HX := Aside0.mk hx
        subst ead
        clear hby hy hi hb hj hx
        by_cases cs : b + w ≤ 8
        · obtain ⟨s, hs⟩ : ∃ s, b + w + s = 8 := ⟨8 - (b + w), by omega⟩
          have haI : (8 : Int) - (b : Int) = (w : Int) + (s : Int) := by omega
          have qd : decide ((w : Int) ≤ (w : Int) + (s : Int)) = true := decide_eq_true (by omega)
          have hsI : (w : Int) + (s : Int) - (w : Int) = (s : Int) := by omega
          have hs7 : s < 8 := by omega
          have hand : bits BinOp.and IntKind.u8 ((y : Int) / 2 ^ s) (m : Int) = (x : Int) := by
            have h := u8_and_nat (y / 2 ^ s) m (Nat.lt_of_le_of_lt (Nat.div_le_self _ _) hy8) hm8
            push_cast at h
            rw [h, ← HM2.out, Nat.and_two_pow_sub_one_eq_mod, dec_fit bs o w s y (by rw [HI.out]; exact HYY.out) (by rw [HBQ.out]; omega), HX.out]
          go_wp2_with (fail)
          go_roundg (gk - 1)
          case measure => have := HK.out; omega
          case rel => exact ⟨j + 1, o + w, by omega, by go_num, by go_num, by omega, HNX, ⟨HSET.out x HX.out.symm⟩, ⟨Below.setCell (p := ⟨w0.heap.size, j, none⟩) HB.out (Nat.le_refl _) _⟩, ⟨by have := HK.out; omega⟩⟩
        · obtain ⟨s, hs⟩ : ∃ s, b + w = 8 + s := ⟨b + w - 8, by omega⟩
          have hs0 : 0 < s := by omega
          have hs7 : s < 8 := by omega
          obtain ⟨a, ha⟩ : ∃ a, b + a = 8 := ⟨8 - b, by omega⟩
          have haI : (8 : Int) - (b : Int) = (a : Int) := by omega
          have qd : decide ((w : Int) ≤ (a : Int)) = false := decide_eq_false (by omega)
          have qd2 : decide (w ≤ a) = false := decide_eq_false (by omega)
          have hsI : (w : Int) - (a : Int) = (s : Int) := by omega
          obtain ⟨t, ht⟩ : ∃ t, t + s = 8 := ⟨8 - s, by omega⟩
          have htI : (8 : Int) - (s : Int) = (t : Int) := by omega
          have ht7 : t < 8 := by omega
          have ha8 : a < 8 := by omega
          obtain ⟨m2, hm2⟩ : ∃ m2, 2 ^ a - 1 = m2 := ⟨_, rfl⟩
          have hmI2 : ((2 : Int) ^ a % 256 - 1) % 256 = (m2 : Int) := by rw [← hm2]; exact maskI a (by omega) (by omega)
          have hm28 : m2 < 256 := by rw [← hm2]; exact mask_lt a (by omega)
          obtain ⟨tt, htt⟩ : ∃ tt, y % 2 ^ a = tt := ⟨_, rfl⟩
          have hand : bits BinOp.and IntKind.u8 (y : Int) (m2 : Int) = (tt : Int) := by
            rw [u8_and_nat y m2 hy8 hm28, ← hm2, Nat.and_two_pow_sub_one_eq_mod, htt]
          have HTT := Aside0.mk htt
          clear hm2 htt
          by_cases cn : i + 1 < N
          · have qn : decide ((i : Int) + 1 < (N : Int)) = true := decide_eq_true (by omega)
            have qn2 : decide (i + 1 < N) = true := decide_eq_true cn
            obtain ⟨ad', ead', hcell'⟩ := Kd.at_int (Kd.C_below HC.out HB.out) ((i + 1 : Nat) : Int) (by omega) (by omega)
            injection ead' with ead'
            subst ead'
            rw [Int.toNat_natCast] at hcell'
            have eadd : ad.add (i + 1) = ⟨ad.block, ad.off + (i + 1), none⟩ := by simp [Addr.add]
            rw [eadd] at hcell'
            clear eadd
            have hby := bytesB_mem HU.out _ (rd_mem (l := bs) (i := i + 1) (by rw [HLN.out]; exact cn))
            obtain ⟨y1, hy1⟩ : ∃ y : Nat, rd bs ((i + 1 : Nat) : Int) = (y : Int) := ⟨(rd bs ((i + 1 : Nat) : Int)).toNat, by unfold byt at hby; omega⟩
            rw [hy1] at hcell' hby
            have hy18 : y1 < 256 := by unfold byt at hby; omega
            have hor : bits BinOp.or IntKind.u8 ((tt : Int) * 2 ^ s % 256) ((y1 : Int) / 2 ^ t) = (x : Int) := by
              have h := u8_or_nat (tt * 2 ^ s % 256) (y1 / 2 ^ t) (Nat.mod_lt _ (by omega)) (Nat.lt_of_le_of_lt (Nat.div_le_self _ _) hy18)
              have hd := dec_split bs o w s y y1 (by rw [HI.out]; exact HYY.out) (by rw [HI.out]; exact hy1) (by rw [HBQ.out]; omega) (by omega) hs0 hs7 hw8 hy18
              rw [show w - s = a by omega, show 8 - s = t by omega, HTT.out, HX.out] at hd
              rw [hd] at h
              push_cast at h
              exact h
            clear hby hy1
            go_wp2_with (fail)
            go_roundg (gk - 1)
            case measure => have := HK.out; omega
            case rel => exact ⟨j + 1, o + w, by omega, by go_num, by go_num, by omega, HNX, ⟨HSET.out x HX.out.symm⟩, ⟨Below.setCell (p := ⟨w0.heap.size, j, none⟩) HB.out (Nat.le_refl _) _⟩, ⟨by have := HK.out; omega⟩⟩
          · have qn : decide ((i : Int) + 1 < (N : Int)) = false := decide_eq_false (by omega)
            have qn2 : decide (i + 1 < N) = false := decide_eq_false cn
            have hor : bits BinOp.or IntKind.u8 ((tt : Int) * 2 ^ s % 256) 0 = (x : Int) := by
              have h := u8_or_nat (tt * 2 ^ s % 256) 0 (Nat.mod_lt _ (by omega)) (by omega)
              have hd := dec_split bs o w s y 0 (by rw [HI.out]; exact HYY.out) (by rw [HI.out]; unfold rd; rw [Int.toNat_natCast, List.getD_eq_getElem?_getD, List.getElem?_eq_none (by rw [HLN.out]; omega)]; rfl) (by rw [HBQ.out]; omega) (by omega) hs0 hs7 hw8 (by omega)
              rw [show w - s = a by omega, HTT.out, HX.out, Nat.zero_div] at hd
              rw [hd] at h
              push_cast at h
              exact h
            go_wp2_with (fail)
            go_roundg (gk - 1)
            case measure => have := HK.out; omega
            case rel => exact ⟨j + 1, o + w, by omega, by go_num, by go_num, by omega, HNX, ⟨HSET.out x HX.out.symm⟩, ⟨Below.setCell (p := ⟨w0.heap.size, j, none⟩) HB.out (Nat.le_refl _) _⟩, ⟨by have := HK.out; omega⟩⟩
      · obtain rfl : j = V := by omega
        have cjb : decide ((j : Int) < j) = false := decide_eq_false (by omega)
        go_wp2_with (fail)
        go_ret2
        refine ⟨_, rfl, ?_, HB.out⟩
        have h := HR.out.toOwn (base := w0.heap.size) (n := j) (Nat.le_refl _) (by rw [partI_length]; omega) (by rw [partI_length]; omega)
        rw [partI_take _ _ _ (by omega), partI_length] at h
        rw [HFF.out]
        exact h
end Go.Proofs.YtoopljlbiifmfaaDoor.Bpk
