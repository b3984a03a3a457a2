import Derived.Test.YtoopljlbiifmfaaDoorDec
/-! Numbers of 32 bits: unpacking, bit by bit. -/
namespace Go.Proofs.YtoopljlbiifmfaaDoor.Uni
open Go.Proofs.YtoopljlbiifmfaaDoor.Dec Go.Proofs.YtoopljlbiifmfaaDoor.Uva Go.Proofs.YtoopljlbiifmfaaDoor.Rle Go.Proofs.YtoopljlbiifmfaaDoor.Run Go.Proofs.YtoopljlbiifmfaaDoor.Rlp Go.Proofs.YtoopljlbiifmfaaDoor.Rlb Go.Proofs.YtoopljlbiifmfaaDoor.Buf Go.Proofs.YtoopljlbiifmfaaDoor.Fit Go.Proofs.YtoopljlbiifmfaaDoor.Bit Go.Proofs.YtoopljlbiifmfaaDoor.Wrd Go.Proofs.YtoopljlbiifmfaaDoor.Spl Go.Proofs.YtoopljlbiifmfaaDoor.Str Go.Proofs.YtoopljlbiifmfaaDoor.Flt Go.Proofs.YtoopljlbiifmfaaDoor.Owe Go.Proofs.YtoopljlbiifmfaaDoor.Num Go.Proofs.YtoopljlbiifmfaaDoor.Le Go.Proofs.YtoopljlbiifmfaaDoor.Lst Go.Proofs.YtoopljlbiifmfaaDoor.Aid Go.RowKit Go.Proofs.YtoopljlbiifmfaaDoorW.PrintWords Go.Proofs.YtoopljlbiifmfaaDoorW.PrintLast Go.Proofs.YtoopljlbiifmfaaDoorW.PrintMore
set_option linter.unusedVariables false
set_option linter.unusedSimpArgs false
theorem infoI32u : (Tryd.prog.info? 21).map (fun i => (i.zero, i.size, i.bytes)) = some (some (.int .i32 0), 1, 4) := by kernel_rfl
theorem bitsN_high (g : Nat → Bool) (k : Nat) : bitsN g (k + 1) = bitsN g k + (g k).toNat * 2 ^ k := by
  symm
  have hlt := bitsN_lt k g
  refine eq_bitsN ?_ fun q hq => ?_
  · rw [Nat.pow_succ]; cases g k <;> simp <;> omega
  · rw [Nat.add_comm, Nat.mul_comm, Nat.testBit_two_pow_mul_add _ hlt]
    by_cases h : q < k
    · rw [if_pos h, bitsN_testBit, decide_eq_true h, Bool.true_and]
    · rw [if_neg h]
      obtain rfl : q = k := by omega
      rw [Nat.sub_self]
      cases g q <;> simp
theorem bit_and1 (y r : Nat) (hy : y < 256) : bits .and .u8 ((y : Int) / 2 ^ r) 1 = (((y.testBit r).toNat : Nat) : Int) := by
  have e : (y : Int) / 2 ^ r = ((y / 2 ^ r : Nat) : Int) := by push_cast; rfl
  rw [e, show (1 : Int) = ((2 ^ 1 - 1 : Nat) : Int) by decide, u8_and_nat _ _ (Nat.lt_of_le_of_lt (Nat.div_le_self _ _) hy) (by decide), Nat.and_two_pow_sub_one_eq_mod]
  congr 1
  rw [Nat.testBit_eq_decide_div_mod_eq]
  have := Nat.mod_lt (y / 2 ^ r) (show 0 < 2 by omega)
  rw [Nat.pow_one]
  rcases (show y / 2 ^ r % 2 = 0 ∨ y / 2 ^ r % 2 = 1 by omega) with h | h <;> simp [h]
theorem or_high32 (acc b s : Nat) (h : acc < 2 ^ s) (h1 : acc < 4294967296) (h2 : b * 2 ^ s < 4294967296) : bits .or .u32 (acc : Int) ((b : Int) * 2 ^ s % 4294967296) = ((acc + b * 2 ^ s : Nat) : Int) := by
  have e : (b : Int) * 2 ^ s = ((b * 2 ^ s : Nat) : Int) := by push_cast; rfl
  rw [e, Int.emod_eq_of_lt (by omega) (by omega), u32_or_nat _ _ h1 h2]
  congr 1
  rw [Nat.or_comm, Nat.mul_comm, ← Nat.two_pow_add_eq_or_of_lt h]
  omega
/-- numbers of so many bits, as ones of 32 with a sign -/
def i32L (l : List Int) : List Int := l.map IntKind.i32.wrap
def unpI (w cnt : Nat) (bs : List Int) : List Int := (List.range cnt).map fun i => IntKind.i32.wrap (valLo bs w (i * w) : Int)
theorem unpI_succ (w cnt : Nat) (bs : List Int) : unpI w (cnt + 1) bs = unpI w cnt bs ++ [IntKind.i32.wrap (valLo bs w (cnt * w) : Int)] := by
  simp [unpI, List.range_succ]
theorem unpI_length (w cnt : Nat) (bs : List Int) : (unpI w cnt bs).length = cnt := by simp [unpI]
set_option maxHeartbeats 4000000 in
theorem bitAt_calls (A : Option Addr) (n c m : Nat) (bs : List Int) (o : Nat) (w : World) (hC : (Kd.int .u8).C w A m bs) (hmn : m ≤ n) (hn : n ≤ 9223372036854775807) (hb : bytesB bs = true) (ho : o / 8 < m) (ho9 : o ≤ 4611686018427387904) :
    Calls Tryd.prog 121 #[.slice A n c, .int .u64 o] w fun e w' => e = .returned (.int .u64 (((bitLo bs o).toNat : Nat) : Int)) ∧ w = w' := by
  obtain ⟨q, hq⟩ : ∃ q, o / 8 = q := ⟨_, rfl⟩
  obtain ⟨r, hr⟩ : ∃ r, o % 8 = r := ⟨_, rfl⟩
  have hq1 : (o : Int) / 8 = (q : Int) := by omega
  have hr1 : (o : Int) % 8 = (r : Int) := by omega
  have hr8 : r < 8 := by omega
  have hqm : q < m := by omega
  have hqn : q < n := by omega
  obtain ⟨ad, ead, hcell⟩ := Kd.at_int hC (q : Int) (by omega) (by omega)
  obtain ⟨y, hy, hy8⟩ := byteN bs hb q
  rw [Int.toNat_natCast, hy] at hcell
  have hand := bit_and1 y r hy8
  have hbit : bitLo bs o = y.testBit r := by unfold bitLo; rw [hq, hr, hy, Int.toNat_natCast]
  rw [hbit]
  obtain ⟨z, hz⟩ : ∃ z, (y.testBit r).toNat = z := ⟨_, rfl⟩
  rw [hz] at hand ⊢
  have hz2 : z < 2 := by rw [← hz]; cases y.testBit r <;> simp
  have qd : decide ((n : Int) ≤ (q : Int)) = false := decide_eq_false (by omega)
  have qd2 : decide (n ≤ q) = false := decide_eq_false (by omega)
  have hqw : IntKind.i64.wrap (q : Int) = (q : Int) := IntWalk.i64_in _ (by omega)
  subst ead
  clear hC hb hy hz hq hr hbit
  go_enter Tryd.func121, Tryd.ntmps121
  go_wp2_with (fail)
  go_ret
  exact ⟨rfl, rfl⟩
set_option maxHeartbeats 8000000 in
set_option maxRecDepth 100000 in
theorem unpackInt32_calls (g C t cnt c : Nat) (xs : List Int) (A : Option Addr) (n' c' m w : Nat) (bs : List Int) (w0 : World) (hF : Front w0 g C t .i32 xs) (hC : xs.length + cnt ≤ C) (hcnt : cnt ≤ 2147483647) (hA : ReadKeep w0 g .u8 A m bs) (hmn : m ≤ n') (hn : n' ≤ 9223372036854775807) (hb : bytesB bs = true) (hw : w ≤ 32) (hcw : cnt * w ≤ 8 * m) (hm9 : m ≤ 268435455) :
    Calls Tryd.prog 95 #[.slice (some ⟨g, xs.length, none⟩) cnt c, .slice A n' c', .int .u64 w] w0 fun e w' => e = .returned (.tuple #[]) ∧ Front w' g C t .i32 (xs ++ unpI w cnt bs) ∧ w0.grownBy w' (some g) := by
  have HF := Aside0.mk hF
  have HA := Aside0.mk hA
  have HU := Aside0.mk hb
  have HCW := Aside0.mk hcw
  obtain ⟨o, ho⟩ : ∃ o, xs.length = o := ⟨_, rfl⟩
  have HO := Aside0.mk ho
  rw [ho] at hC ⊢
  clear hF hA hb hcw ho
  go_enter Tryd.func95, Tryd.ntmps95
  go_wp2_with (fail)
  go_loopg [6, 11] cnt (fun kq v6 v11 w' => ∃ (j : Nat), j ≤ cnt ∧ v11 = .int .i64 j ∧ Aside0 (Front w' g C t .i32 (xs ++ unpI w j bs)) ∧ Aside0 (w0.grownBy w' (some g)) ∧ Aside0 (cnt - j ≤ kq))
  case atStart => exact ⟨0, by omega, rfl, ⟨by simp [unpI]; exact HF.out⟩, ⟨grownRefl _ _⟩, ⟨by omega⟩⟩
  case round =>
    obtain ⟨j, hj, rfl, HR, HG, HK⟩ := hrel
    by_cases cj : j < cnt
    · have cjb : decide ((j : Int) < cnt) = true := decide_eq_true (by omega)
      obtain ⟨gk0, rfl⟩ : ∃ gk0, gk = gk0 + 1 := ⟨gk - 1, by have := HK.out; omega⟩
      obtain ⟨jw, hjw⟩ : ∃ jw, j * w = jw := ⟨_, rfl⟩
      have hjwI : (j : Int) * (w : Int) = (jw : Int) := by rw [← hjw]; push_cast; rfl
      have hjw9 : jw + w ≤ 8 * m := by
        have h1 : (j + 1) * w ≤ cnt * w := Nat.mul_le_mul_right w cj
        rw [Nat.succ_mul] at h1
        have := HCW.out; omega
      have HJW := Aside0.mk hjw
      have HCr := Aside0.mk (HA.out wr HG.out)
      clear hjw
      go_wp2_with (fail)
      go_loopg [7, 8] w (fun kq v7 v8 w' => ∃ (k acc : Nat), k ≤ w ∧ v8 = .int .u64 k ∧ v7 = .int .u32 acc ∧ Aside0 (acc = bitsN (fun r => bitLo bs (jw + r)) k) ∧ wr = w' ∧ Aside0 (w - k ≤ kq))
      case atStart => exact ⟨0, 0, by omega, rfl, rfl, ⟨rfl⟩, rfl, ⟨by omega⟩⟩
      case round =>
        obtain ⟨k, acc, hk, rfl, rfl, HACC, rfl, HK2⟩ := hrel
        have hlt := bitsN_lt k (fun r => bitLo bs (jw + r))
        rw [← HACC.out] at hlt
        by_cases ck : k < w
        · have ckb : decide ((k : Int) < (w : Int)) = true := decide_eq_true (by omega)
          have ckb2 : decide (k < w) = true := decide_eq_true ck
          obtain ⟨q, hq⟩ : ∃ q, jw + k = q := ⟨_, rfl⟩
          have hqI : (jw : Int) + (k : Int) = (q : Int) := by omega
          have HBA := Aside0.mk fun W (h : (Kd.int .u8).C W A m bs) => bitAt_calls A n' c' m bs q W h hmn hn HU.out (by omega) (by omega)
          have hsum := bitsN_high (fun r => bitLo bs (jw + r)) k
          rw [← HACC.out] at hsum
          have hsum : bitsN (fun r => bitLo bs (jw + r)) (k + 1) = acc + (bitLo bs q).toNat * 2 ^ k := by rw [← hq]; exact hsum
          obtain ⟨z, hz⟩ : ∃ z, (bitLo bs q).toNat = z := ⟨_, rfl⟩
          have hz2 : z < 2 := by rw [← hz]; cases bitLo bs q <;> simp
          rw [hz] at HBA hsum
          have hp := two_pow_le (show k ≤ 31 by omega)
          have e31 : (2 : Nat) ^ 31 = 2147483648 := by decide
          have hzk : z * 2 ^ k ≤ 2 ^ k := by
            have := Nat.mul_le_mul_right (2 ^ k) (show z ≤ 1 by omega); omega
          have HOR := Aside0.mk (or_high32 acc z k hlt (by omega) (by omega))
          have HSUM := Aside0.mk hsum
          have hacc9 : acc < 4294967296 := by omega
          have hqw : IntKind.u64.wrap (q : Int) = (q : Int) := IntWalk.u64_in _ (by omega)
          have hjww : IntKind.u64.wrap (jw : Int) = (jw : Int) := IntWalk.u64_in _ (by omega)
          clear hz hsum hzk hlt hq
          go_wp2_with (first
            | (go_at_call 121; go_loud (with_reducible refine (HBA.out _ HCr.out).mono ?_); rintro e w1 ⟨rfl, rfl⟩))
          rw [HOR.out]
          go_roundg (gk - 1)
          case measure => have := HK2.out; omega
          case rel => exact ⟨k + 1, acc + z * 2 ^ k, by omega, by go_num, rfl, ⟨HSUM.out.symm⟩, rfl, ⟨by have := HK2.out; omega⟩⟩
        · obtain rfl : k = w := by omega
          have ckb : decide ((k : Int) < (k : Int)) = false := decide_eq_false (by omega)
          obtain ⟨y, hy⟩ : ∃ y, IntKind.i32.wrap (acc : Int) = y := ⟨_, rfl⟩
          have HY : Aside0 (IntKind.i32.wrap (valLo bs k (j * k) : Int) = y) := ⟨by rw [← hy, HACC.out, HJW.out]; rfl⟩
          obtain ⟨z, rc⟩ := HR.out.cell (o + j) (by omega)
          have rf := HR.out.free (o + j)
          have HY2 := Aside0.mk hy
          clear hlt
          go_wp2_with (fail)
          go_roundg gk0
          case measure => omega
          case rel =>
            refine ⟨j + 1, by omega, by go_num, ⟨?_⟩, ⟨grownSet HG.out _ _⟩, ⟨by have := HK.out; omega⟩⟩
            have h := HR.out.push (by rw [List.length_append, unpI_length, HO.out]; omega) y (o + j) (by rw [List.length_append, unpI_length, HO.out])
            rw [List.append_assoc, ← HY.out, ← unpI_succ] at h
            rw [HY.out] at h
            exact h
    · obtain rfl : j = cnt := by omega
      have cjb : decide ((j : Int) < j) = false := decide_eq_false (by omega)
      go_wp2_with (fail)
      go_end0
      exact ⟨rfl, HR.out, HG.out⟩
theorem grown_step {w wr w1 : World} {row row0 : Option Nat} (h : w.grownBy wr row) (k : wr.grownBy w1 row0) (hr : row0 = row ∨ ∃ b, row0 = some b ∧ w.heap.size ≤ b) : w.grownBy w1 row := by
  refine ⟨k.os.trans h.os, k.tape.trans h.tape, k.output.trans h.output, Nat.le_trans h.size k.size, fun i hi hne => (k.block i (Nat.lt_of_lt_of_le hi h.size) ?_).trans (h.block i hi hne)⟩
  rcases hr with e | ⟨b, e, hb⟩
  · rw [e]; exact hne
  · rw [e]; intro h2; injection h2 with h2; omega
theorem hat_step {w wr : World} {r r0 r1 : Option Nat} (hs : w.heap.size ≤ wr.heap.size) (h : r0 = r ∨ ∃ b, r0 = some b ∧ w.heap.size ≤ b) (k : r1 = r0 ∨ ∃ b, r1 = some b ∧ wr.heap.size ≤ b) : r1 = r ∨ ∃ b, r1 = some b ∧ w.heap.size ≤ b := by
  rcases k with e | ⟨b, e, hb⟩
  · rw [e]; exact h
  · exact .inr ⟨b, e, by omega⟩
set_option maxHeartbeats 4000000 in
theorem appendRepeat_calls (w0 : World) (base : Nat) (v : Value) (xs : List Int) (y : Int) (k : Nat) (w : World) (hO : Own w base 21 .i32 v xs) (hB : Below base w0 w) (hb : base ≤ w.heap.size) (hx : xs.length + k ≤ 2147483647) :
    Calls Tryd.prog 96 #[v, .int .i32 y, .int .u64 k] w fun e w' => ∃ v1, e = .returned v1 ∧ Own w' base 21 .i32 v1 (xs ++ List.replicate k y) ∧ Below base w0 w' ∧ base ≤ w'.heap.size ∧ w.grownBy w' v.ownBlock := by
  have HO0 := Aside0.mk hO
  have HB0 := Aside0.mk hB
  have HS0 := Aside0.mk hb
  clear hO hB hb
  go_enter Tryd.func96, Tryd.ntmps96
  go_wp2_with (fail)
  go_loopg [0, 2] k (fun kq v0 v2 w' => ∃ (j q : Nat), j + q = k ∧ v2 = .int .u64 q ∧ Aside0 (Own w' base 21 .i32 v0 (xs ++ List.replicate j y)) ∧ Aside0 (Below base w0 w') ∧ Aside0 (base ≤ w'.heap.size) ∧ Aside0 (w.grownBy w' v.ownBlock) ∧ Aside0 (v0.ownBlock = v.ownBlock ∨ ∃ b, v0.ownBlock = some b ∧ w.heap.size ≤ b) ∧ Aside0 (q ≤ kq))
  case atStart => exact ⟨0, k, by omega, rfl, ⟨by rw [List.replicate_zero, List.append_nil]; exact HO0.out⟩, HB0, HS0, ⟨grownRefl _ _⟩, ⟨.inl rfl⟩, ⟨by omega⟩⟩
  case round =>
    clear HO0 HB0 HS0
    obtain ⟨j, q, hjq, rfl, HO, HB, HS, HG, HH, HK⟩ := hrel
    by_cases cq : 0 < q
    · have cqb : decide (0 < (q : Int)) = true := decide_eq_true (by omega)
      have cqb2 : decide (0 < q) = true := decide_eq_true cq
      go_wp2_with (first
        | (at_builtin; go_loud (refine print_append_num (w0 := w0) base rfl (.tmp 11) (.tmp 13) 43 21 .i32 4 rfl Tryd.underlying43 infoI32u (by decide) u0 (xs ++ List.replicate j y) y rfl rfl HO.out.out HB.out HS.out ?hl ?_); (case hl => rw [List.length_append, List.length_replicate]; omega); intro v1 w1 ho hb hg hat; have HO1 : Aside0 (Own w1 base 21 .i32 v1 (xs ++ List.replicate j y ++ [y])) := ⟨⟨ho⟩⟩; have HG1 := Aside0.mk (grown_step HG.out hg HH.out); have HH1 := Aside0.mk (hat_step HG.out.size HH.out hat); have HB1 := Aside0.mk hb; have HS1 : Aside0 (base ≤ w1.heap.size) := ⟨Nat.le_trans HS.out hg.size⟩; clear ho hb hg))
      go_roundg (gk - 1)
      case measure => have := HK.out; omega
      case rel =>
        refine ⟨j + 1, q - 1, by omega, by go_num, ⟨?_⟩, HB1, HS1, HG1, HH1, ⟨by have := HK.out; omega⟩⟩
        rw [List.replicate_succ', ← List.append_assoc]; exact HO1.out
    · obtain rfl : q = 0 := by omega
      obtain rfl : j = k := by omega
      go_wp2_with (fail)
      go_ret
      exact ⟨_, rfl, HO.out, HB.out, HS.out, HG.out⟩
set_option maxHeartbeats 4000000 in
set_option maxRecDepth 100000 in
theorem resize32g_calls (A : Option Addr) (n C size : Nat) (xs : List Int) (w : World) (hC : (Kd.int .i32).C w A n xs) (hc : n ≤ C) (hs : C < size) (hs9 : size ≤ 268435456) :
    Calls Tryd.prog 94 #[.slice A n C, .int .i64 size] w fun e w' => ∃ M, e = .returned (.slice (some ⟨w.heap.size, 0, none⟩) size M) ∧ Front w' w.heap.size M 21 .i32 xs ∧ size ≤ M ∧ M ≤ 4294967296 ∧ Below w.heap.size w w' := by
  have HLN : Aside0 (xs.length = n) := ⟨hC.1⟩
  have qcs : decide ((C : Int) < (size : Int)) = true := decide_eq_true (by omega)
  have qcs2 : decide (C < size) = true := decide_eq_true hs
  have HC := Aside0.mk hC
  clear hC
  by_cases hcs : 2 * C < size
  · have hmk : ∀ W : World, (Instr.makeSlice 43 (.int .i64 (size : Int)) (.int .i64 (size : Int))).run Tryd.prog W = .ok (.slice (some ⟨W.heap.size, 0, none⟩) size (size)) (W.alloc (.cells (madeCells #[.int .i32 0] (size)) 21)) := by
      have := make1 (P := Tryd.prog) 43 21 (.int .i32 0) 4 Tryd.underlying43 infoI32u rfl size (size) (by omega) (by omega) (by omega)
      intro W
      have h := this W
      push_cast at h
      exact h
    have qm : decide (2 * (C : Int) < (size : Int)) = true := decide_eq_true (by omega)
    have qm2 : 2 * (C : Int) < (size : Int) := by omega
    have HC1 : Aside0 ((Kd.int .i32).C (w.alloc (.cells (madeCells #[.int .i32 0] (size)) 21)) A n xs) := ⟨Kd.C_alloc HC.out _⟩
    have HG1 : Aside0 ((w.alloc (.cells (madeCells #[.int .i32 0] (size)) 21)).heap[w.heap.size]? = some (.cells (nums .i32 (List.replicate (size) 0)).toArray 21 (0, 0))) := ⟨(madeRow w 21 .i32 (size)).out.out⟩
    have HB1 : Aside0 (Below w.heap.size w (w.alloc (.cells (madeCells #[.int .i32 0] (size)) 21))) := ⟨(Below.refl _ _).alloc (Nat.le_refl _) _⟩
    go_enter Tryd.func94, Tryd.ntmps94
    go_wp2_with (first
      | ((refine wpList_copy_splice ?hgd (.tmp 17) (.tmp 18) 43 43 ?ho0 21 Tryd.underlying43 ?h1 (some ⟨w.heap.size, 0, none⟩) A size (size) n C ?hd ?hs w.heap.size 0 (nums .i32 (List.replicate (size) 0)) 21 HG1.out (nums .i32 xs) ?hn ?hp ?hf ?ho w.heap.size w HB1.out (Nat.le_refl _) ?_); (case ho0 => rfl); (case hgd => rfl); (case hd => rfl); (case hs => rfl); go_loud ((case h1 => kernel_rfl)); go_loud ((case hn => simp only [nums, List.length_map]; rw [HLN.out]; exact (Nat.min_eq_left (by omega)).symm)); go_loud ((case hp => exact fun hpos => ⟨rfl, copySrc HC1.out (by simpa [nums] using hpos)⟩)); go_loud ((case hf => simp only [nums, List.length_map, List.length_replicate]; rw [HLN.out]; omega)); go_loud ((case ho => exact nums_one _ _)); intro w2 hw2 hb2; have HW2 := Aside0.mk hw2; have HB2 := Aside0.mk hb2; clear hw2 hb2))
    go_ret
    exact ⟨size, rfl, frontSplice HW2.out (by rw [HLN.out]; omega), by omega, by omega, HB2.out⟩
  · have hmk : ∀ W : World, (Instr.makeSlice 43 (.int .i64 (size : Int)) (.int .i64 (2 * (C : Int)))).run Tryd.prog W = .ok (.slice (some ⟨W.heap.size, 0, none⟩) size (2 * C)) (W.alloc (.cells (madeCells #[.int .i32 0] (2 * C)) 21)) := by
      have := make1 (P := Tryd.prog) 43 21 (.int .i32 0) 4 Tryd.underlying43 infoI32u rfl size (2 * C) (by omega) (by omega) (by omega)
      intro W
      have h := this W
      push_cast at h
      exact h
    have qm : decide (2 * (C : Int) < (size : Int)) = false := decide_eq_false (by omega)
    have qm2 : ¬ 2 * (C : Int) < (size : Int) := by omega
    have HC1 : Aside0 ((Kd.int .i32).C (w.alloc (.cells (madeCells #[.int .i32 0] (2 * C)) 21)) A n xs) := ⟨Kd.C_alloc HC.out _⟩
    have HG1 : Aside0 ((w.alloc (.cells (madeCells #[.int .i32 0] (2 * C)) 21)).heap[w.heap.size]? = some (.cells (nums .i32 (List.replicate (2 * C) 0)).toArray 21 (0, 0))) := ⟨(madeRow w 21 .i32 (2 * C)).out.out⟩
    have HB1 : Aside0 (Below w.heap.size w (w.alloc (.cells (madeCells #[.int .i32 0] (2 * C)) 21))) := ⟨(Below.refl _ _).alloc (Nat.le_refl _) _⟩
    go_enter Tryd.func94, Tryd.ntmps94
    go_wp2_with (first
      | ((refine wpList_copy_splice ?hgd (.tmp 17) (.tmp 18) 43 43 ?ho0 21 Tryd.underlying43 ?h1 (some ⟨w.heap.size, 0, none⟩) A size (2 * C) n C ?hd ?hs w.heap.size 0 (nums .i32 (List.replicate (2 * C) 0)) 21 HG1.out (nums .i32 xs) ?hn ?hp ?hf ?ho w.heap.size w HB1.out (Nat.le_refl _) ?_); (case ho0 => rfl); (case hgd => rfl); (case hd => rfl); (case hs => rfl); go_loud ((case h1 => kernel_rfl)); go_loud ((case hn => simp only [nums, List.length_map]; rw [HLN.out]; exact (Nat.min_eq_left (by omega)).symm)); go_loud ((case hp => exact fun hpos => ⟨rfl, copySrc HC1.out (by simpa [nums] using hpos)⟩)); go_loud ((case hf => simp only [nums, List.length_map, List.length_replicate]; rw [HLN.out]; omega)); go_loud ((case ho => exact nums_one _ _)); intro w2 hw2 hb2; have HW2 := Aside0.mk hw2; have HB2 := Aside0.mk hb2; clear hw2 hb2))
    go_ret
    exact ⟨2 * C, rfl, frontSplice HW2.out (by rw [HLN.out]; omega), by omega, by omega, HB2.out⟩
set_option maxHeartbeats 4000000 in
theorem resize32_calls (base : Nat) (v : Value) (xs : List Int) (size : Nat) (w : World) (hO : Own w base 21 .i32 v xs) (hb : base ≤ w.heap.size) (hs : xs.length ≤ size) (hs0 : 0 < size) (hs9 : size ≤ 268435456) :
    Calls Tryd.prog 94 #[v, .int .i64 size] w fun e w' => ∃ g M, e = .returned (.slice (some ⟨g, 0, none⟩) size M) ∧ Front w' g M 21 .i32 xs ∧ size ≤ M ∧ M ≤ 9223372036854775807 ∧ base ≤ g ∧ (w.heap.size ≤ g ∨ v.ownBlock = some g) ∧ Below w.heap.size w w' := by
  rcases own_front hO with ⟨rfl, rfl⟩ | ⟨g, C, rfl, hbg, hC9, hF⟩
  · refine (resize32g_calls none 0 0 size [] w ⟨rfl, by omega, fun h => absurd h (by omega)⟩ (Nat.le_refl _) (by omega) hs9).mono ?_
    rintro e w2 ⟨M, rfl, hf, h1, h2, hb2⟩
    exact ⟨w.heap.size, M, rfl, hf, h1, by omega, hb, .inl (Nat.le_refl _), hb2⟩
  · by_cases c : C < size
    · obtain ⟨A, c', e, hc', hr⟩ := hO.read
      injection e with e1 e2 e3
      subst e3
      rw [← e1] at hr
      refine (resize32g_calls (some ⟨g, 0, none⟩) xs.length C size xs w hr hc' c hs9).mono ?_
      rintro e w2 ⟨M, rfl, hf, h1, h2, hb2⟩
      exact ⟨w.heap.size, M, rfl, hf, h1, by omega, hb, .inl (Nat.le_refl _), hb2⟩
    · have qc : decide ((C : Int) < (size : Int)) = false := decide_eq_false (by omega)
      have qc2 : decide (C < size) = false := decide_eq_false c
      obtain ⟨i32, h32⟩ : ∃ i, (Tryd.prog.info? 21) = some i ∧ i.size = 1 := Option.map_eq_some_iff.1 (show (Tryd.prog.info? 21).map (fun i => i.size) = some 1 by kernel_rfl)
      have cut1 := cutAtMid0 (P := Tryd.prog) 43 21 Tryd.underlying43 h32.1 h32.2 g xs.length C size (by omega)
      have HF := Aside0.mk hF
      have hle := hF.le
      obtain ⟨n, hn⟩ : ∃ n, xs.length = n := ⟨_, rfl⟩
      rw [hn] at cut1 hle ⊢
      clear hO hF
      go_enter Tryd.func94, Tryd.ntmps94
      go_wp2_with (fail)
      go_ret
      exact ⟨g, C, rfl, HF.out, by omega, hC9, hbg, .inr rfl, Below.refl _ _⟩
end Go.Proofs.YtoopljlbiifmfaaDoor.Uni
