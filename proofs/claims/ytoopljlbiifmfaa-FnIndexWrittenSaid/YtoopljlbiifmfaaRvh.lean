import Derived.Test.YtoopljlbiifmfaaUva
/-! The reader of runs that the statements have: numbers in groups of 7 bits, low bytes, low bits. -/
namespace Go.Proofs.Ytoopljlbiifmfaa.Rvh
open Go.Proofs.Ytoopljlbiifmfaa.Uva Go.Proofs.Ytoopljlbiifmfaa.Rle Go.Proofs.Ytoopljlbiifmfaa.Run Go.Proofs.Ytoopljlbiifmfaa.Rlp Go.Proofs.Ytoopljlbiifmfaa.Rlb Go.Proofs.Ytoopljlbiifmfaa.Buf Go.Proofs.Ytoopljlbiifmfaa.Fit Go.Proofs.Ytoopljlbiifmfaa.Bit Go.Proofs.Ytoopljlbiifmfaa.Wrd Go.Proofs.Ytoopljlbiifmfaa.Spl Go.Proofs.Ytoopljlbiifmfaa.Str Go.Proofs.Ytoopljlbiifmfaa.Flt Go.Proofs.Ytoopljlbiifmfaa.Owe Go.Proofs.Ytoopljlbiifmfaa.Num Go.Proofs.Ytoopljlbiifmfaa.Le Go.Proofs.Ytoopljlbiifmfaa.Lst Go.Proofs.Ytoopljlbiifmfaa.Aid Go.RowKit Go.Proofs.YtoopljlbiifmfaaW.PrintWords Go.Proofs.YtoopljlbiifmfaaW.PrintLast Go.Proofs.YtoopljlbiifmfaaW.PrintMore
set_option linter.unusedVariables false
set_option linter.unusedSimpArgs false
theorem bitsN_high (g : Nat → Bool) (k : Nat) : bitsN g (k + 1) = bitsN g k + (g k).toNat * 2 ^ k := by
  symm
  have hlt := bitsN_lt k g
  refine eq_bitsN ?_ fun q hq => ?_
  · rw [Nat.pow_succ]; cases g k <;> simp <;> omega
  · rw [Nat.add_comm, Nat.mul_comm, Nat.testBit_two_pow_mul_add _ hlt]
    by_cases h : q < k
    · rw [if_pos h, bitsN_testBit, decide_eq_true h, Bool.true_and]
    · rw [if_neg h]
      obtain rfl : q = k := by omega
      rw [Nat.sub_self]
      cases g q <;> simp
theorem bit_and1 (y r : Nat) (hy : y < 256) : bits .and .u8 ((y : Int) / 2 ^ r) 1 = (((y.testBit r).toNat : Nat) : Int) := by
  have e : (y : Int) / 2 ^ r = ((y / 2 ^ r : Nat) : Int) := by push_cast; rfl
  rw [e, show (1 : Int) = ((2 ^ 1 - 1 : Nat) : Int) by decide, u8_and_nat _ _ (Nat.lt_of_le_of_lt (Nat.div_le_self _ _) hy) (by decide), Nat.and_two_pow_sub_one_eq_mod]
  congr 1
  rw [Nat.testBit_eq_decide_div_mod_eq]
  have := Nat.mod_lt (y / 2 ^ r) (show 0 < 2 by omega)
  rw [Nat.pow_one]
  rcases (show y / 2 ^ r % 2 = 0 ∨ y / 2 ^ r % 2 = 1 by omega) with h | h <;> simp [h]
theorem byteN' (bs : List Int) (hb : bytesB bs = true) (i : Nat) : ∃ a : Nat, rd bs (i : Nat) = (a : Int) ∧ a < 256 := byteN bs hb i
set_option maxHeartbeats 4000000 in
set_option maxRecDepth 100000 in
theorem readVarint_calls (A : Option Addr) (n c : Nat) (bs rest : List Int) (x : Nat) (w : World) (hC : (Kd.int .u8).C w A n bs) (hc : n ≤ c) (hn : n ≤ 2147483647) (hb : bs = varL x ++ rest) (hx : x < 34359738368) :
    Calls Try.prog 16 #[.slice A n c] w fun e w' => ∃ A' c', e = .returned (.tuple #[.int .u64 x, .slice A' rest.length c', .bool true]) ∧ rest.length ≤ c' ∧ (∀ W, (Kd.int .u8).C W A n bs → (Kd.int .u8).C W A' rest.length rest) ∧ Drawn0 w w' := by
  have HLN : Aside0 (bs.length = n) := ⟨hC.1⟩
  have HLB : Aside0 ((varL x).length + rest.length = n) := ⟨by rw [← hC.1, hb, List.length_append]⟩
  have HC := Aside0.mk hC
  have HBB := Aside0.mk hb
  obtain ⟨i8, h8⟩ := h8
  clear hC hb
  go_enter Try.func16, Try.ntmps16
  go_wp2_with (fail)
  go_loopg [5, 6, 7, 10] n (fun kq v5 v6 v7 v10 w' => ∃ (y i acc : Nat), v5 = .int .u64 acc ∧ v10 = .int .i64 i ∧ i ≤ 4 ∧ Aside0 (acc + y * 2 ^ (7 * i) = x) ∧ Aside0 (acc < 2 ^ (7 * i)) ∧ Aside0 (bs.drop i = varL y ++ rest) ∧ Aside0 (i + (varL y).length = (varL x).length) ∧ w = w' ∧ Aside0 (n - i ≤ kq))
  case atStart => exact ⟨x, 0, 0, rfl, rfl, by omega, ⟨by simp⟩, ⟨by simp⟩, ⟨by rw [List.drop_zero]; exact HBB.out⟩, ⟨by omega⟩, rfl, ⟨by omega⟩⟩
  case round =>
    obtain ⟨y, i, acc, rfl, rfl, hi4, HX, HAC, HD, HL, rfl, HK⟩ := hrel
    have hpos := varL_pos y
    have hin : i < n := by have h1 := HL.out; have h2 := HLB.out; omega
    have qin : decide ((i : Int) < n) = true := decide_eq_true (by omega)
    obtain ⟨ad, ead, hcell⟩ := Kd.at_int HC.out (i : Int) (by omega) (by omega)
    rw [Int.toNat_natCast, varL_head bs rest i y HD.out] at hcell
    have qi10 : ((i : Int) == 10) = false := by rw [beq_eq_false_iff_ne]; omega
    have qi9 : ((i : Int) == 9) = false := by rw [beq_eq_false_iff_ne]; omega
    subst ead
    have hp4 : 2 ^ (7 * i) ≤ 268435456 := by
      have := two_pow_le (show 7 * i ≤ 28 by omega)
      have e : (2 : Nat) ^ 28 = 268435456 := by decide
      omega
    have hacc := HAC.out
    have hy9 : y * 2 ^ (7 * i) ≤ x := by have := HX.out; omega
    obtain ⟨s, hs⟩ : ∃ s, 7 * i = s := ⟨_, rfl⟩
    have hsI : (7 : Int) * (i : Int) = (s : Int) := by omega
    have hs28 : s ≤ 28 := by omega
    by_cases cy : y < 128
    · rw [if_pos cy] at hcell
      have qy : decide ((y : Int) < 128) = true := decide_eq_true (by omega)
      have qy2 : decide (y < 128) = true := decide_eq_true cy
      have hand : bits .and .u8 (y : Int) 127 = (y : Int) := by
        rw [show (127 : Int) = ((2 ^ 7 - 1 : Nat) : Int) by decide, u8_and_nat _ _ (by omega) (by decide), Nat.and_two_pow_sub_one_eq_mod]
        congr 1; omega
      have HOR := or_high' acc y (7 * i) hacc (by omega) (by omega)
      rw [hs] at HOR
      have HLY : Aside0 ((varL x).length = i + 1) := ⟨by rw [← HL.out, varL_lo cy]; rfl⟩
      have hR : n - (i + 1) = rest.length := by have h1 := HLB.out; have h2 := HLY.out; omega
      obtain ⟨A1, cut1, hC1⟩ := cutLo (P := Try.prog) 22 5 Try.underlying22 h8.1 h8.2 (some ad) n c .i64 ((i : Int) + 1) (i + 1) (by omega) (by omega) hc
      have hdr : bs.drop (i + 1) = rest := by
        rw [HBB.out, List.drop_left' HLY.out]
      have HC1 : Aside0 (∀ W, (Kd.int .u8).C W (some ad) n bs → (Kd.int .u8).C W A1 rest.length rest) := ⟨fun W h => by have := hC1 _ W bs rfl h; rw [hdr, hR] at this; exact this⟩
      rw [hR] at cut1
      have HXX : Aside0 (((acc + y * 2 ^ s : Nat) : Int) = (x : Int)) := ⟨by rw [← hs, HX.out]⟩
      have hrc : rest.length ≤ c - (i + 1) := by omega
      clear hC1 hdr hR
      go_wp2_with (first | (go_quiet (fail)))
      go_ret3
      refine ⟨A1, c - (i + 1), ?_, hrc, HC1.out, ⟨nq, rfl⟩⟩
      show Ending.returned (Value.tuple #[Value.int IntKind.u64 ((acc : Int) + (y : Int) * 2 ^ s), Value.slice A1 rest.length (c - (i + 1)), Value.bool true]) = _
      rw [← HXX.out]; push_cast; rfl
    · rw [if_neg cy] at hcell
      have qy : decide (((y % 128 + 128 : Nat) : Int) < 128) = false := decide_eq_false (by omega)
      have qy2 : decide (y % 128 + 128 < 128) = false := decide_eq_false (by omega)
      have hand := and127 y
      have ht := varL_tail bs rest i y HD.out cy
      have hs5 := small5 acc y i x hx HX.out hi4 cy
      have hlz : (varL y).length = (varL (y / 128)).length + 1 := by rw [varL_hi cy]; rfl
      obtain ⟨z, hz⟩ : ∃ z, y % 128 = z := ⟨_, rfl⟩
      have hzy : y = 128 * (y / 128) + z := by omega
      have hz9 : z < 128 := by omega
      rw [hz] at hcell qy qy2 hand
      obtain ⟨t, ht2⟩ : ∃ t, z + 128 = t := ⟨_, rfl⟩
      rw [ht2] at hcell qy qy2 hand
      have hzx : z * 2 ^ (7 * i) ≤ 127 * 268435456 := Nat.mul_le_mul (by omega) hp4
      have HOR := Aside0.mk (or_high' acc z (7 * i) hacc (by omega) (by omega))
      rw [hs] at HOR
      have HT := Aside0.mk ht
      have HLZ := Aside0.mk hlz
      have HZY := Aside0.mk hzy
      clear ht hlz hzy hzx hz
      go_wp2_with (fail)
      rw [HOR.out]
      go_roundg (gk - 1)
      case measure => have := HK.out; omega
      case rel =>
        have e1 : 2 ^ (7 * (i + 1)) = 128 * 2 ^ (7 * i) := by rw [Nat.mul_add, Nat.pow_add]; omega
        have e2 : z * 2 ^ (7 * i) + 2 ^ (7 * i) ≤ 128 * 2 ^ (7 * i) := by rw [← Nat.succ_mul]; exact Nat.mul_le_mul_right _ hz9
        refine ⟨y / 128, i + 1, acc + z * 2 ^ s, rfl, by go_num, by omega, ⟨?_⟩, ⟨by rw [e1, ← hs]; omega⟩, HT, ⟨by have := HL.out; have := HLZ.out; omega⟩, rfl, ⟨by have := HK.out; omega⟩⟩
        have h := HX.out
        conv at h => lhs; rw [HZY.out]
        rw [e1, ← hs, ← h, Nat.add_mul, ← Nat.mul_assoc, Nat.mul_comm (y / 128) 128]
        omega
set_option maxHeartbeats 4000000 in
theorem fromLow_calls (A : Option Addr) (n c v : Nat) (w : World) (hC : (Kd.int .u8).C w A n (lowL n (v : Int))) (hc : n ≤ c) (hn : n ≤ 8) (hv : v < 256 ^ n) :
    Calls Try.prog 17 #[.slice A n c] w fun e w' => e = .returned (.int .u64 v) ∧ w = w' := by
  have HC := Aside0.mk hC
  have HV := Aside0.mk hv
  clear hC hv
  go_enter Try.func17, Try.ntmps17
  go_wp2_with (fail)
  go_loopg [3, 4] n (fun kq v3 v4 w' => ∃ (j acc : Nat), v3 = .int .u64 acc ∧ v4 = .int .i64 ((j : Int) - 1) ∧ j ≤ n ∧ Aside0 (acc = v / 256 ^ j) ∧ w = w' ∧ Aside0 (j ≤ kq))
  case atStart => exact ⟨n, 0, rfl, by go_num, by omega, ⟨by rw [Nat.div_eq_of_lt HV.out]⟩, rfl, ⟨by omega⟩⟩
  case round =>
    obtain ⟨j, acc, rfl, rfl, hj, HA, rfl, HK⟩ := hrel
    cases j with
    | zero =>
      have HAV : Aside0 (acc = v) := ⟨by rw [HA.out]; simp⟩
      go_wp2_with (fail)
      go_ret
      exact ⟨by rw [HAV.out]; rfl, rfl⟩
    | succ j =>
      have hq : ((j + 1 : Nat) : Int) - 1 = (j : Int) := by omega
      have qj : decide (0 ≤ (j : Int)) = true := decide_eq_true (by omega)
      obtain ⟨ad, ead, hcell⟩ := Kd.at_int HC.out (j : Int) (by omega) (by omega)
      have hlow : rd (lowL n (v : Int)) (j : Nat) = ((v / 256 ^ j % 256 : Nat) : Int) := by
        rw [rd_nat _ _ (by rw [lowL_length]; omega)]
        simp [lowL]
      rw [Int.toNat_natCast, hlow] at hcell
      obtain ⟨z, hz⟩ : ∃ z, v / 256 ^ j % 256 = z := ⟨_, rfl⟩
      have hz9 : z < 256 := by omega
      rw [hz] at hcell
      have hst : v / 256 ^ j = acc * 256 + z := by
        rw [HA.out, Nat.pow_succ, ← Nat.div_div_eq_div_mul]; omega
      have hv64 : v / 256 ^ j < 18446744073709551616 := by
        have h1 := HV.out
        have h2 : 256 ^ n ≤ 256 ^ 8 := Nat.pow_le_pow_right (by omega) hn
        have h3 : (256 : Nat) ^ 8 = 18446744073709551616 := by decide
        have h4 := Nat.div_le_self v (256 ^ j)
        omega
      have hacc : acc < 72057594037927936 := by omega
      have hor : bits .or .u64 ((acc : Int) * 256) (z : Int) = ((acc * 256 + z : Nat) : Int) := by
        rw [show (acc : Int) * 256 = ((acc * 256 : Nat) : Int) by omega, u64_or_nat _ _ (by omega) (by omega)]
        congr 1
        rw [Nat.mul_comm, show (256 : Nat) = 2 ^ 8 by decide, ← Nat.two_pow_add_eq_or_of_lt (by omega)]
      subst ead
      have HST := Aside0.mk hst
      clear hlow hz hst
      go_wp2_with (fail)
      go_roundg (gk - 1)
      case measure => have := HK.out; omega
      case rel => exact ⟨j, acc * 256 + z, by first | rfl | (congr 1; omega), by go_num, by omega, ⟨HST.out.symm⟩, rfl, ⟨by have := HK.out; omega⟩⟩
def unpL (w cnt : Nat) (bs : List Int) : List Int := (List.range cnt).map fun i => (valLo bs w (i * w) : Int)
set_option maxHeartbeats 8000000 in
set_option maxRecDepth 100000 in
theorem unpackLow_calls (A : Option Addr) (n c w cnt : Nat) (bs : List Int) (W : World) (hC : (Kd.int .u8).C W A n bs) (hc : n ≤ c) (hn : n ≤ 268435455) (hb : bytesB bs = true) (hw : w ≤ 32) (hcw : cnt * w ≤ 8 * n) (hcnt : cnt ≤ 2147483647) :
    Calls Try.prog 18 #[.int .i64 w, .int .i64 cnt, .slice A n c] W fun e w' => ∃ v, e = .returned v ∧ Own w' W.heap.size 37 .u64 v (unpL w cnt bs) ∧ Below W.heap.size W w' := by
  have HC := Aside0.mk hC
  have HU := Aside0.mk hb
  have HCW := Aside0.mk hcw
  have hmk := print_make (P := Try.prog) 25 37 .u64 8 Try.underlying25 infoU64 (by decide) cnt (by omega)
  clear hC hb hcw
  go_enter Try.func18, Try.ntmps18
  go_wp2_with (fail)
  obtain ⟨f, hf⟩ : ∃ f : Nat → Int, (fun i => (valLo bs w (i * w) : Int)) = f := ⟨_, rfl⟩
  have HF := Aside0.mk hf
  have HR : Aside0 (Row (W.alloc (.cells (madeCells #[.int .u64 0] cnt) 37)) W.heap.size 37 .u64 (partI f cnt 0)) := ⟨by rw [partI_zero]; exact madeRow W 37 .u64 cnt⟩
  have HB : Aside0 (Below W.heap.size W (W.alloc (.cells (madeCells #[.int .u64 0] cnt) 37))) := ⟨(Below.refl _ _).alloc (Nat.le_refl _) _⟩
  generalize W.alloc (.cells (madeCells #[.int .u64 0] cnt) 37) = wm at *
  clear hmk hf
  go_loopg [8, 15] cnt (fun kq v8 v15 w' => ∃ (j : Nat), j ≤ cnt ∧ v15 = .int .i64 j ∧ Aside0 (Row w' W.heap.size 37 .u64 (partI f cnt j)) ∧ Aside0 (Below W.heap.size W w') ∧ Aside0 (cnt - j ≤ kq))
  case atStart => exact ⟨0, by omega, rfl, HR, HB, ⟨by omega⟩⟩
  case round =>
    clear HR HB
    obtain ⟨j, hj, rfl, HR, HB, HK⟩ := hrel
    by_cases cj : j < cnt
    · have cjb : decide ((j : Int) < cnt) = true := decide_eq_true (by omega)
      obtain ⟨gk0, rfl⟩ : ∃ gk0, gk = gk0 + 1 := ⟨gk - 1, by have := HK.out; omega⟩
      obtain ⟨jw, hjw⟩ : ∃ jw, j * w = jw := ⟨_, rfl⟩
      have hjwI : (j : Int) * (w : Int) = (jw : Int) := by rw [← hjw]; push_cast; rfl
      have hjw9 : jw + w ≤ 8 * n := by
        have h1 : (j + 1) * w ≤ cnt * w := Nat.mul_le_mul_right w cj
        rw [Nat.succ_mul] at h1
        have := HCW.out; omega
      have HJW := Aside0.mk hjw
      have HR0 : Aside0 (Row wr W.heap.size 37 .u64 ((partI f cnt j).set j ((bitsN (fun r => bitLo bs (jw + r)) 0 : Nat) : Int))) := ⟨by
        have e : (partI f cnt j).set j ((bitsN (fun r => bitLo bs (jw + r)) 0 : Nat) : Int) = partI f cnt j := by
          apply rd_ext
          · simp
          · intro i hi
            rw [List.length_set, partI_length] at hi
            rw [rd_set _ _ _ _ (by rw [partI_length]; omega)]
            by_cases h : i = j
            · subst h; rw [if_pos rfl, rd_partI _ _ _ _ hi, if_neg (by omega)]; rfl
            · rw [if_neg h]
        rw [e]; exact HR.out⟩
      clear hjw
      go_wp2_with (fail)
      go_loopg [9, 10, 19] w (fun kq v9 v10 v19 w' => ∃ (k : Nat), k ≤ w ∧ v19 = .int .i64 k ∧ Aside0 (Row w' W.heap.size 37 .u64 ((partI f cnt j).set j ((bitsN (fun r => bitLo bs (jw + r)) k : Nat) : Int))) ∧ Aside0 (Below W.heap.size W w') ∧ Aside0 (w - k ≤ kq))
      case atStart => exact ⟨0, by omega, rfl, HR0, HB, ⟨by omega⟩⟩
      case round =>
        clear HR HB HR0
        obtain ⟨k, hk, rfl, HR, HB, HK2⟩ := hrel
        by_cases ck : k < w
        · have ckb : decide ((k : Int) < w) = true := decide_eq_true (by omega)
          obtain ⟨o, ho⟩ : ∃ o, jw + k = o := ⟨_, rfl⟩
          have hoI : (jw : Int) + (k : Int) = (o : Int) := by omega
          obtain ⟨q, hq⟩ : ∃ q, o / 8 = q := ⟨_, rfl⟩
          obtain ⟨r, hr⟩ : ∃ r, o % 8 = r := ⟨_, rfl⟩
          have hq1 : (o : Int) / 8 = (q : Int) := by omega
          have hq2 : (o : Int).tdiv 8 = (q : Int) := by rw [Int.tdiv_eq_ediv_of_nonneg (by omega)]; exact hq1
          have hr1 : (o : Int) % 8 = (r : Int) := by omega
          have hr2 : (o : Int).tmod 8 = (r : Int) := by rw [Int.tmod_eq_emod_of_nonneg (by omega)]; exact hr1
          have hr8 : r < 8 := by omega
          have hqw : IntKind.i64.wrap (q : Int) = (q : Int) := IntWalk.i64_in _ (by omega)
          have hqn : q < n := by omega
          obtain ⟨ad, ead, hcell⟩ := Kd.at_int (Kd.C_below HC.out HB.out) (q : Int) (by omega) (by omega)
          obtain ⟨y, hy, hy8⟩ := byteN bs HU.out q
          rw [Int.toNat_natCast, hy] at hcell
          have hand := bit_and1 y r hy8
          have hbit : bitLo bs o = y.testBit r := by unfold bitLo; rw [hq, hr, hy, Int.toNat_natCast]
          obtain ⟨z, hz⟩ : ∃ z, (y.testBit r).toNat = z := ⟨_, rfl⟩
          rw [hz] at hand
          have hz2 : z < 2 := by rw [← hz]; cases y.testBit r <;> simp
          have hsum := bitsN_high (fun r => bitLo bs (jw + r)) k
          have hlt := bitsN_lt k (fun r => bitLo bs (jw + r))
          rw [ho, hbit, hz] at hsum
          have rc := HR.out.cell (j := j) (by rw [List.length_set, partI_length]; exact cj)
          have rf := HR.out.free j
          rw [rd_set _ _ _ _ (by rw [partI_length]; exact cj), if_pos rfl] at rc
          obtain ⟨acc, hacc⟩ : ∃ acc, bitsN (fun r => bitLo bs (jw + r)) k = acc := ⟨_, rfl⟩
          rw [hacc] at rc hsum hlt
          have hp := two_pow_le (show k ≤ 31 by omega)
          have e31 : (2 : Nat) ^ 31 = 2147483648 := by decide
          have hzk : z * 2 ^ k ≤ 2 ^ k := by
            have := Nat.mul_le_mul_right (2 ^ k) (show z ≤ 1 by omega); omega
          have HOR := Aside0.mk (or_high' acc z k hlt (by omega) (by omega))
          have HSUM := Aside0.mk hsum
          have qi1 : (j < cnt) = True := eq_true cj
          have qi2 : ((j : Int) < (cnt : Int)) = True := eq_true (by omega)
          have qi3 : (0 ≤ (j : Int)) = True := eq_true (by omega)
          have qi4 : (q < n) = True := eq_true hqn
          have qi5 : ((q : Int) < (n : Int)) = True := eq_true (by omega)
          have qi6 : (0 ≤ (q : Int)) = True := eq_true (by omega)
          have qi7 : (0 ≤ (r : Int)) = True := eq_true (by omega)
          have qi8 : (0 ≤ (k : Int)) = True := eq_true (by omega)
          subst ead
          clear hy hz hacc hsum hq hr hbit hzk
          go_wp2_with (fail)
          refine region_tail 17 (by kernel_rfl) (by kernel_rfl) ?_
          simp only [List.take_succ_cons, List.take_zero, List.drop_succ_cons, List.drop_zero]
          repeat (quiet_step ((fail)))
          refine wpQuiet_nil ?_
          rintro _ ⟨nq, rfl⟩
          go_wp2_with (fail)
          rw [HOR.out]
          go_roundg (gk - 1)
          case measure => have := HK2.out; omega
          case rel =>
            refine ⟨k + 1, by omega, by go_num, ⟨?_⟩, ⟨Below.setCell (p := ⟨W.heap.size, j, none⟩) (HB.out.trans ((drewN_below wr nq).mono HB.out.size)) (Nat.le_refl _) _⟩, ⟨by have := HK2.out; omega⟩⟩
            have h := (HR.out.drewN nq).set j ((acc + z * 2 ^ k : Nat) : Int)
            rw [List.set_set, ← HSUM.out] at h
            rw [← HSUM.out]
            exact h
        · obtain rfl : k = w := by omega
          have ckb : decide ((k : Int) < k) = false := decide_eq_false (by omega)
          go_wp2_with (fail)
          go_roundg gk0
          case measure => omega
          case rel =>
            refine ⟨j + 1, by omega, by go_num, ⟨?_⟩, HB, ⟨by have := HK.out; omega⟩⟩
            have h := HR.out
            have e : ((bitsN (fun r => bitLo bs (jw + r)) k : Nat) : Int) = f j := by rw [← HF.out, ← HJW.out]; rfl
            rw [e, partI_set] at h
            exact h
    · obtain rfl : j = cnt := by omega
      have cjb : decide ((j : Int) < j) = false := decide_eq_false (by omega)
      go_wp2_with (fail)
      go_ret
      have := HR.out.toOwn (base := W.heap.size) (n := j) (Nat.le_refl _) (by rw [partI_length]; omega) (by rw [partI_length]; omega)
      rw [partI_length, partI_full, ← HF.out, List.take_of_length_le (by simp)] at this
      exact ⟨_, rfl, this, HB.out⟩
theorem hyb_app (w : Nat) (a c : List R) : hyb w (a ++ c) = hyb w a ++ hyb w c := by simp [hyb]
theorem hybV_app (a c : List R) : hybV (a ++ c) = hybV a ++ hybV c := by simp [hybV]
theorem hyb_bytes (w : Nat) (rs : List R) : bytesB (hyb w rs) = true := bytesB_of fun x hx => by
  simp only [hyb, List.mem_flatMap] at hx
  obtain ⟨r, _, hx⟩ := hx
  have hv : ∀ n, ∀ y ∈ varL n, byt y := fun n => by
    induction n using Nat.strongRecOn with
    | _ n ih =>
      intro y hy
      by_cases c : n < 128
      · rw [varL_lo c, List.mem_singleton] at hy; subst hy; exact ⟨by omega, by omega⟩
      · rw [varL_hi c] at hy
        rcases List.mem_cons.1 hy with h | h
        · subst h; exact ⟨by omega, by omega⟩
        · exact ih (n / 128) (by omega) y h
  cases r with
  | rep v k =>
    rcases List.mem_append.1 hx with h | h
    · exact hv _ x h
    · simp only [lowL, List.mem_map] at h
      obtain ⟨i, _, rfl⟩ := h
      exact ⟨by omega, by omega⟩
  | grp l =>
    rcases List.mem_append.1 hx with h | h
    · exact hv _ x h
    · simp only [packLo, bytesLo, List.mem_map] at h
      obtain ⟨q, _, rfl⟩ := h
      have := byteLo_lt (bitsLo w l) q
      exact ⟨by omega, by omega⟩
theorem unp_vals (w : Nat) (l : List Int) (K : Nat) (hw : 0 < w) (hl : l.length = 8 * K) (hf : fitL w l) : unpL w (8 * K) (packLo w l) = l := by
  apply List.ext_getElem
  · simp [unpL, hl]
  · intro k h1 h2
    have := valLo_pack w l k hw h2 (by rw [hl, Nat.mul_assoc]; omega) hf
    rw [rd_nat _ _ h2] at this
    simp only [unpL, List.getElem_map, List.getElem_range]
    exact this
theorem pow_ceil (v w : Nat) (h : v < 2 ^ w) : v < 256 ^ ((w + 7) / 8) := by
  have h1 := two_pow_le (show w ≤ 8 * ((w + 7) / 8) by omega)
  rw [Nat.pow_mul, show (2 : Nat) ^ 8 = 256 by decide] at h1
  omega
def isRep : R → Bool
  | .rep _ _ => true
  | .grp _ => false
set_option maxHeartbeats 16000000 in
set_option maxRecDepth 100000 in
theorem readHybridA_calls (A : Option Addr) (N c : Nat) (b : Nat) (bs : List Int) (rs : List R) (w : World) (hC : (Kd.int .u8).C w A N bs) (hb : bs = hyb b rs) (hc : N ≤ c) (hn : N ≤ 268435455) (hw1 : 1 ≤ b ∨ ∀ r ∈ rs, isRep r = true) (hw8 : b ≤ 32) (hok : hybOk b rs) (hV : (hybV rs).length ≤ 200000) :
    Calls Try.prog 9 #[.int .i64 b, .slice A N c] w fun e w' => ∃ v, e = .returned (.tuple #[v, .bool true]) ∧ Own w' w.heap.size 37 .u64 v (hybV rs) ∧ Below w.heap.size w w' := by
  have HOK := Aside0.mk hok
  have HW1 := Aside0.mk hw1
  clear hw1
  have HVL := Aside0.mk hV
  have HC0 : Aside0 ((Kd.int .u8).C w A N (hyb b rs)) := ⟨by rw [← hb]; exact hC⟩
  obtain ⟨i8, h8⟩ := h8
  have HO0 : Aside0 (Own w w.heap.size 37 .u64 (.slice none 0 0) (hybV [])) := ⟨Own.nil _ _ _ _⟩
  have HB0 : Aside0 (Below w.heap.size w w) := ⟨Below.refl _ _⟩
  clear hC hb hok hV
  go_enter Try.func9, Try.ntmps9
  go_wp2_with (fail)
  go_loopg [1, 6] rs.length (fun kq v1 v6 w' => ∃ (ra rb : List R) (A1 : Option Addr) (n1 c1 : Nat), Aside0 (rs = ra ++ rb) ∧ v1 = .slice A1 n1 c1 ∧ n1 ≤ c1 ∧ n1 ≤ 268435455 ∧ Aside0 (∀ W, Below w.heap.size w W → (Kd.int .u8).C W A1 n1 (hyb b rb)) ∧ Aside0 (Own w' w.heap.size 37 .u64 v6 (hybV ra)) ∧ Aside0 (Below w.heap.size w w') ∧ Aside0 (rb.length ≤ kq))
  case atStart => exact ⟨[], rs, A, N, c, ⟨rfl⟩, rfl, hc, hn, ⟨fun W hW => Kd.C_below HC0.out hW⟩, HO0, HB0, ⟨Nat.le_refl _⟩⟩
  case round =>
    clear HO0 HB0 HC0 hc hn
    obtain ⟨ra, rb, A1, n1, c1, HR, rfl, hc1, hn1, HC1, HO, HB, HK⟩ := hrel
    have hvl : (hybV ra).length + (hybV rb).length ≤ 200000 := by
      have h := HVL.out
      rw [HR.out, hybV_app, List.length_append] at h; exact h
    have hn1l := (HC1.out wr HB.out).1
    cases rb with
    | nil =>
      have hiN : n1 = 0 := by rw [← hn1l]; rfl
      subst hiN
      go_wp2_with (fail)
      go_ret2
      refine ⟨_, rfl, ?_, HB.out⟩
      rw [HR.out, List.append_nil]; exact HO.out
    | cons r rb =>
      have hrok : r.ok b := HOK.out r (by rw [HR.out]; simp)
      have hcons : hyb b (r :: rb) = r.bytes b ++ hyb b rb := rfl
      have hvc : (hybV (r :: rb)).length = r.vals.length + (hybV rb).length := by
        have h2 : hybV (r :: rb) = r.vals ++ hybV rb := rfl
        rw [h2, List.length_append]
      rw [hvc] at hvl
      rw [hcons, List.length_append] at hn1l
      have HRS2 : Aside0 (rs = ra ++ [r] ++ rb) := ⟨by rw [HR.out]; simp⟩
      have HKr := Aside0.mk (show rb.length + 1 ≤ gk from HK.out)
      have hCr := HC1.out wr HB.out
      rw [hcons] at hCr
      have HCA : Aside0 (∀ W, Below w.heap.size w W → (Kd.int .u8).C W A1 n1 (r.bytes b ++ hyb b rb)) := ⟨fun W hW => by rw [← hcons]; exact HC1.out W hW⟩
      cases r with
      | rep v k =>
        obtain ⟨hk0, hvb⟩ := hrok
        have hby : (R.rep v k).bytes b = varL (2 * k) ++ lowL ((b + 7) / 8) (v : Int) := rfl
        have hvk : (R.rep v k).vals.length = k := by simp [R.vals]
        have hpw := pow_ceil v b hvb
        obtain ⟨sz, hsz⟩ : ∃ sz, (b + 7) / 8 = sz := ⟨_, rfl⟩
        have hszI : ((b : Int) + 7) / 8 = (sz : Int) := by omega
        have hsz4 : sz ≤ 4 := by omega
        rw [hsz] at hby hpw
        rw [hvk] at hvl
        rw [hby, List.append_assoc] at HCA hCr
        rw [hby, List.length_append, lowL_length] at hn1l
        obtain ⟨x, hx⟩ : ∃ x, 2 * k = x := ⟨_, rfl⟩
        rw [hx] at HCA hCr hn1l
        have HUV := Aside0.mk (readVarint_calls A1 n1 c1 _ (lowL sz (v : Int) ++ hyb b rb) x wr hCr hc1 (by omega) rfl (by omega))
        obtain ⟨rl, hrl⟩ : ∃ rl, (lowL sz (v : Int) ++ hyb b rb).length = rl := ⟨_, rfl⟩
        have hrl2 : sz + (hyb b rb).length = rl := by rw [← hrl, List.length_append, lowL_length]
        rw [hrl] at HUV
        have hL0 := varL_pos x
        have hx2 : (x : Int) / 2 = (k : Int) := by omega
        have hxm : (x : Int) % 2 = 0 := by omega
        have qand : bits .and .u64 (x : Int) 1 = 0 := by
          rw [show (1 : Int) = ((2 ^ 1 - 1 : Nat) : Int) by decide, and64 x 1 (by omega) (by omega)]; omega
        have qk9 : decide (200000 < (k : Int)) = false := decide_eq_false (by omega)
        have qk92 : decide (200000 < k) = false := decide_eq_false (by omega)
        have qn1 : decide (0 < (n1 : Int)) = true := decide_eq_true (by omega)
        have qn12 : decide (0 < n1) = true := decide_eq_true (by omega)
        have qrl : decide ((rl : Int) < (sz : Int)) = false := decide_eq_false (by omega)
        have qrl2 : decide (rl < sz) = false := decide_eq_false (by omega)
        have hn9 : (hybV ra).length ≤ 200000 := by omega
        have HX := Aside0.mk hx
        have hrl9 : rl ≤ 268435455 := by omega
        have hvu : v < 18446744073709551616 := by
          have h1 := two_pow_le hw8
          have h3 : (2 : Nat) ^ 32 = 4294967296 := by decide
          omega
        have hk9 : k ≤ 200000 := by omega
        have hszr : sz ≤ rl := by omega
        have HRBL : Aside0 (sz + (hyb b rb).length = rl) := ⟨hrl2⟩
        have HPW := Aside0.mk hpw
        clear hn1l hCr hx hby hvk hcons hvc hsz hrl hrl2 hL0 hvl hvb hpw
        go_wp2_with (first
          | (go_at_call 16; go_loud (with_reducible refine HUV.out.mono ?_); rintro e w1 ⟨A2, c2, rfl, hc2, hCC, ⟨nd, rfl⟩⟩; obtain ⟨cut2, hC2⟩ := cutHi (P := Try.prog) 22 5 Try.underlying22 h8.1 A2 rl c2 .i64 (sz : Int) sz rfl hszr hc2; obtain ⟨A3, cut3, hC3⟩ := cutLo (P := Try.prog) 22 5 Try.underlying22 h8.1 h8.2 A2 rl c2 .i64 (sz : Int) sz rfl hszr hc2; have HCC := Aside0.mk hCC; have HC2 := Aside0.mk hC2; have HC3 := Aside0.mk hC3; have HBd := Aside0.mk (HB.out.trans ((drewN_below wr nd).mono HB.out.size)); have hCq := hC2 (Kd.int .u8) _ _ (hCC _ (HCA.out _ HBd.out)); rw [List.take_left' (lowL_length _ _)] at hCq; have HFL := Aside0.mk (fromLow_calls A2 sz c2 v _ hCq (by omega) (by omega) HPW.out); clear hCC hC2 hC3 hCq)
          | (go_at_call 17; go_loud (with_reducible refine HFL.out.mono ?_); rintro e w2 ⟨rfl, rfl⟩))
        have HOd : Aside0 (Own (wr.drewN nd) w.heap.size 37 .u64 u6 (hybV ra ++ List.replicate 0 (v : Int))) := ⟨by rw [List.replicate_zero, List.append_nil]; exact HO.out.drewN nd⟩
        obtain ⟨gk0, rfl⟩ : ∃ gk0, gk = gk0 + 1 := ⟨gk - 1, by have := HKr.out; omega⟩
        clear HO HB HFL HUV
        generalize wr.drewN nd = wi at *
        go_loopg [6, 46] k (fun kq v6 v46 w' => ∃ j : Nat, j ≤ k ∧ v46 = .int .u64 j ∧ Aside0 (Own w' w.heap.size 37 .u64 v6 (hybV ra ++ List.replicate j (v : Int))) ∧ Aside0 (Below w.heap.size w w') ∧ Aside0 (k - j ≤ kq))
        case atStart => exact ⟨0, by omega, rfl, HOd, HBd, ⟨by omega⟩⟩
        case round =>
          clear HOd HBd
          obtain ⟨j, hj, rfl, HO, HB, HK2⟩ := hrel
          by_cases cj : j < k
          · have cjb : decide ((j : Int) < (k : Int)) = true := decide_eq_true (by omega)
            have cjb2 : decide (j < k) = true := decide_eq_true cj
            go_wp2_with (first
              | (at_builtin; refine appendOwn (w0 := w) w.heap.size rfl (.tmp 48) (.tmp 50) 25 37 .u64 8 rfl Try.underlying25 infoU64 (by decide) u6 (hybV ra ++ List.replicate j (v : Int)) (v : Int) rfl rfl (HO.out.alloc _) (HB.out.alloc HB.out.size _) ?hb ?hl ?_; (case hb => exact HB.out.size); (case hl => rw [List.length_append, List.length_replicate]; omega); intro v1 w1 ho hb hg; have HO1 := Aside0.mk ho; have HB1 := Aside0.mk hb; clear ho hb hg)
              | (at_builtin; go_loud (refine appendOwn (w0 := w) w.heap.size rfl (.tmp 48) (.tmp 50) 25 37 .u64 8 rfl Try.underlying25 infoU64 (by decide) u6 (hybV ra ++ List.replicate j (v : Int)) (v : Int) rfl rfl HO.out HB.out ?hb ?hl ?_); (case hb => exact HB.out.size); (case hl => rw [List.length_append, List.length_replicate]; omega); intro v1 w1 ho hb hg; have HO1 := Aside0.mk ho; have HB1 := Aside0.mk hb; clear ho hb hg))
            go_roundg (gk - 1)
            case measure => have := HK2.out; omega
            case rel =>
              refine ⟨j + 1, by omega, by go_num, ⟨?_⟩, HB1, ⟨by have := HK2.out; omega⟩⟩
              rw [List.replicate_succ', ← List.append_assoc]; exact HO1.out
          · obtain rfl : j = k := by omega
            have cjb : decide ((j : Int) < (j : Int)) = false := decide_eq_false (by omega)
            go_wp2_with (fail)
            go_roundg gk0
            case measure => omega
            case rel =>
              refine ⟨ra ++ [R.rep v j], rb, A3, rl - sz, c2 - sz, HRS2, rfl, by omega, by omega, ⟨fun W hW => ?_⟩, ⟨?_⟩, HB, ⟨by have := HKr.out; omega⟩⟩
              · have h := HC3.out (Kd.int .u8) W _ rfl (HCC.out W (HCA.out W hW))
                rw [List.drop_left' (lowL_length _ _)] at h; exact h
              · rw [hybV_snoc]; exact HO.out
      | grp l =>
        have hw1 : 1 ≤ b := by
          rcases HW1.out with h | h
          · exact h
          · have := h (R.grp l) (by rw [HR.out]; simp)
            cases this
        obtain ⟨hl0, hl8, hlf⟩ := hrok
        obtain ⟨K, hK⟩ : ∃ K, l.length / 8 = K := ⟨_, rfl⟩
        have hlK : l.length = 8 * K := by omega
        obtain ⟨m, hm⟩ : ∃ m, K * b = m := ⟨_, rfl⟩
        have hmI : (K : Int) * (b : Int) = (m : Int) := by rw [← hm]; push_cast; rfl
        have hpl : (packLo b l).length = m := by
          unfold packLo; rw [bytesLo_length, hlK, Nat.mul_assoc, hm]; omega
        have hby : (R.grp l).bytes b = varL (2 * K + 1) ++ packLo b l := by
          simp only [R.bytes, hK]
        have hvk : (R.grp l).vals.length = 8 * K := hlK
        rw [hvk] at hvl
        rw [hby, List.append_assoc] at HCA hCr
        rw [hby, List.length_append, hpl] at hn1l
        obtain ⟨x, hx⟩ : ∃ x, 2 * K + 1 = x := ⟨_, rfl⟩
        rw [hx] at HCA hCr hn1l
        have HUV := Aside0.mk (readVarint_calls A1 n1 c1 _ (packLo b l ++ hyb b rb) x wr hCr hc1 (by omega) rfl (by omega))
        obtain ⟨rl, hrl⟩ : ∃ rl, (packLo b l ++ hyb b rb).length = rl := ⟨_, rfl⟩
        have hrl2 : m + (hyb b rb).length = rl := by rw [← hrl, List.length_append, hpl]
        rw [hrl] at HUV
        have hL0 := varL_pos x
        have hx2 : (x : Int) / 2 = (K : Int) := by omega
        have hxm : (x : Int) % 2 = 1 := by omega
        have qand : bits .and .u64 (x : Int) 1 = 1 := by
          rw [show (1 : Int) = ((2 ^ 1 - 1 : Nat) : Int) by decide, and64 x 1 (by omega) (by omega)]; omega
        have qk9 : decide (200000 < (K : Int)) = false := decide_eq_false (by omega)
        have qk92 : decide (200000 < K) = false := decide_eq_false (by omega)
        have qn1 : decide (0 < (n1 : Int)) = true := decide_eq_true (by omega)
        have qn12 : decide (0 < n1) = true := decide_eq_true (by omega)
        have hmr : m ≤ rl := by omega
        have qrl : decide ((rl : Int) < (m : Int)) = false := decide_eq_false (by omega)
        have qrl2 : decide (rl < m) = false := decide_eq_false (by omega)
        have hn9 : (hybV ra).length ≤ 200000 := by omega
        have hrl9 : rl ≤ 268435455 := by omega
        obtain ⟨K8, hK8⟩ : ∃ K8, 8 * K = K8 := ⟨_, rfl⟩
        have hK8I : (K : Int) * 8 = (K8 : Int) := by omega
        have hK9 : K ≤ 200000 := by omega
        have hK89 : K8 ≤ 200000 := by omega
        have HPL : Aside0 ((packLo b l).length = m) := ⟨hpl⟩
        have HUN := unp_vals b l K hw1 hlK hlf
        rw [hK8] at HUN
        have hpb : bytesB (packLo b l) = true := by
          have h := hyb_bytes b [R.grp l]
          have e : hyb b [R.grp l] = varL (2 * K + 1) ++ packLo b l := by simp [hyb, hby]
          rw [e] at h
          exact bytesB_of fun x hx => bytesB_mem h x (List.mem_append_right _ hx)
        have HUL : Aside0 (∀ (A2 : Option Addr) (c2 : Nat) (W : World), (Kd.int .u8).C W A2 m (packLo b l) → m ≤ c2 → Calls Try.prog 18 #[.int .i64 b, .int .i64 K8, .slice A2 m c2] W fun e w' => ∃ v, e = .returned v ∧ Own w' W.heap.size 37 .u64 v l ∧ Below W.heap.size W w') := ⟨fun A2 c2 W h hc => by
          have := unpackLow_calls A2 m c2 b K8 (packLo b l) W h hc (by omega) hpb hw8 (by rw [← hK8, ← hm, Nat.mul_assoc]; omega) (by omega)
          rw [HUN] at this; exact this⟩
        have HLK : Aside0 (l.length = K8) := ⟨by omega⟩
        clear hn1l hCr hx hby hvk hcons hvc hrl hrl2 hL0 hvl hl0 hl8 hlf hK hlK hm hpl HUN hpb hK8
        go_wp2_with (first
          | (go_at_call 16; go_loud (with_reducible refine HUV.out.mono ?_); rintro e w1 ⟨A2, c2, rfl, hc2, hCC, ⟨nd, rfl⟩⟩; obtain ⟨cut2, hC2⟩ := cutHi (P := Try.prog) 22 5 Try.underlying22 h8.1 A2 rl c2 .i64 (m : Int) m rfl hmr hc2; obtain ⟨A3, cut3, hC3⟩ := cutLo (P := Try.prog) 22 5 Try.underlying22 h8.1 h8.2 A2 rl c2 .i64 (m : Int) m rfl hmr hc2; have HCC := Aside0.mk hCC; have HC3 := Aside0.mk hC3; have HBd := Aside0.mk (HB.out.trans ((drewN_below wr nd).mono HB.out.size)); have hCq := hC2 (Kd.int .u8) _ _ (hCC _ (HCA.out _ HBd.out)); rw [List.take_left' HPL.out] at hCq; have HUL2 := Aside0.mk (HUL.out A2 c2 _ hCq (by omega)); have HOd := Aside0.mk (HO.out.drewN nd); clear hCC hC2 hC3 hCq)
          | (go_at_call 18; go_loud (with_reducible refine HUL2.out.mono ?_); rintro e w2 ⟨v2, rfl, ho, hb⟩; obtain ⟨A4, c4, rfl, hc4, hr4⟩ := ho.read; rw [HLK.out] at hr4 hc4; rw [HLK.out]; have HR4 := Aside0.mk hr4; have HO2 := Aside0.mk (HOd.out.below hb); have HB2 := Aside0.mk (HBd.out.trans (hb.mono HBd.out.size)); clear ho hb hr4)
          | (at_builtin; go_loud (refine appendRead (w0 := w) w.heap.size rfl (.tmp 64) (.tmp 72) 25 37 .u64 8 rfl Try.underlying25 infoU64 (by decide) _ (hybV ra) A4 K8 c4 l rfl rfl HO2.out HB2.out ?hb HR4.out ?hl ?_); (case hb => exact HB2.out.size); (case hl => omega); intro v5 w5 ho hb hg; have HO5 := Aside0.mk ho; have HB5 := Aside0.mk hb; clear ho hb hg))
        go_roundg (gk - 1)
        case measure => have := HKr.out; omega
        case rel =>
          refine ⟨ra ++ [R.grp l], rb, A3, rl - m, c2 - m, HRS2, rfl, by omega, by omega, ⟨fun W hW => ?_⟩, ⟨?_⟩, HB5, ⟨by have := HKr.out; omega⟩⟩
          · have h := HC3.out (Kd.int .u8) W _ rfl (HCC.out W (HCA.out W hW))
            rw [List.drop_left' HPL.out] at h; exact h
          · rw [hybV_snoc]; exact HO5.out
theorem readHybrid_calls (A : Option Addr) (N c : Nat) (b : Nat) (bs : List Int) (rs : List R) (w : World) (hC : (Kd.int .u8).C w A N bs) (hb : bs = hyb b rs) (hc : N ≤ c) (hn : N ≤ 268435455) (hw1 : 1 ≤ b) (hw8 : b ≤ 32) (hok : hybOk b rs) (hV : (hybV rs).length ≤ 200000) :
    Calls Try.prog 9 #[.int .i64 b, .slice A N c] w fun e w' => ∃ v, e = .returned (.tuple #[v, .bool true]) ∧ Own w' w.heap.size 37 .u64 v (hybV rs) ∧ Below w.heap.size w w' :=
  readHybridA_calls A N c b bs rs w hC hb hc hn (.inl hw1) hw8 hok hV
end Go.Proofs.Ytoopljlbiifmfaa.Rvh
