import Derived.Test.YtigmcdpjlkgocaaDoorDuv
/-! Numbers of so many bits, unpacked bit by bit. -/
namespace Go.Proofs.YtigmcdpjlkgocaaDoor.Dun
open Go.Proofs.YtigmcdpjlkgocaaDoor.Duv Go.Proofs.YtigmcdpjlkgocaaDoor.Dpu Go.Proofs.YtigmcdpjlkgocaaDoor.Pak Go.Proofs.YtigmcdpjlkgocaaDoor.Buf Go.Proofs.YtigmcdpjlkgocaaDoor.Fit Go.Proofs.YtigmcdpjlkgocaaDoor.Bit Go.Proofs.YtigmcdpjlkgocaaDoor.Wrd Go.Proofs.YtigmcdpjlkgocaaDoor.Spl Go.Proofs.YtigmcdpjlkgocaaDoor.Str Go.Proofs.YtigmcdpjlkgocaaDoor.Flt Go.Proofs.YtigmcdpjlkgocaaDoor.Owe Go.Proofs.YtigmcdpjlkgocaaDoor.Num Go.Proofs.YtigmcdpjlkgocaaDoor.Le Go.Proofs.YtigmcdpjlkgocaaDoor.Lst Go.Proofs.YtigmcdpjlkgocaaDoor.Aid Go.RowKit Go.Proofs.YtigmcdpjlkgocaaDoorW.PrintWords Go.Proofs.YtigmcdpjlkgocaaDoorW.PrintLast Go.Proofs.YtigmcdpjlkgocaaDoorW.PrintMore
set_option linter.unusedVariables false
set_option linter.unusedSimpArgs false
theorem byteN (bs : List Int) (hb : bytesB bs = true) (i : Nat) : ∃ a : Nat, rd bs (i : Nat) = (a : Int) ∧ a < 256 := by
  by_cases h : i < bs.length
  · have := bytesB_rd hb (i := (i : Int)) (k := i) rfl h
    unfold byt at this
    exact ⟨(rd bs (i : Nat)).toNat, by omega, by omega⟩
  · refine ⟨0, ?_, by omega⟩
    unfold rd
    rw [Int.toNat_natCast, List.getD_eq_getElem?_getD, List.getElem?_eq_none (by omega)]; rfl
theorem bitsN_high (g : Nat → Bool) (k : Nat) : bitsN g (k + 1) = bitsN g k + (g k).toNat * 2 ^ k := by
  symm
  have hlt := bitsN_lt k g
  refine eq_bitsN ?_ fun q hq => ?_
  · rw [Nat.pow_succ]; cases g k <;> simp <;> omega
  · rw [Nat.add_comm, Nat.mul_comm, Nat.testBit_two_pow_mul_add _ hlt]
    by_cases h : q < k
    · rw [if_pos h, bitsN_testBit, decide_eq_true h, Bool.true_and]
    · rw [if_neg h]
      obtain rfl : q = k := by omega
      rw [Nat.sub_self]
      cases g q <;> simp
theorem bit_and1 (y r : Nat) (hy : y < 256) : bits .and .u8 ((y : Int) / 2 ^ r) 1 = (((y.testBit r).toNat : Nat) : Int) := by
  have e : (y : Int) / 2 ^ r = ((y / 2 ^ r : Nat) : Int) := by push_cast; rfl
  rw [e, show (1 : Int) = ((2 ^ 1 - 1 : Nat) : Int) by decide, u8_and_nat _ _ (Nat.lt_of_le_of_lt (Nat.div_le_self _ _) hy) (by decide), Nat.and_two_pow_sub_one_eq_mod]
  congr 1
  rw [Nat.testBit_eq_decide_div_mod_eq]
  have := Nat.mod_lt (y / 2 ^ r) (show 0 < 2 by omega)
  rw [Nat.pow_one]
  rcases (show y / 2 ^ r % 2 = 0 ∨ y / 2 ^ r % 2 = 1 by omega) with h | h <;> simp [h]
theorem or_high32 (acc b s : Nat) (h : acc < 2 ^ s) (h1 : acc < 4294967296) (h2 : b * 2 ^ s < 4294967296) : bits .or .u32 (acc : Int) ((b : Int) * 2 ^ s % 4294967296) = ((acc + b * 2 ^ s : Nat) : Int) := by
  have e : (b : Int) * 2 ^ s = ((b * 2 ^ s : Nat) : Int) := by push_cast; rfl
  rw [e, Int.emod_eq_of_lt (by omega) (by omega), u32_or_nat _ _ h1 h2]
  congr 1
  rw [Nat.or_comm, Nat.mul_comm, ← Nat.two_pow_add_eq_or_of_lt h]
  omega
/-- a packed number, read again -/
theorem valLo_packD (w : Nat) (l : List Int) (k : Nat) (hk : k < l.length) (h8 : l.length % 8 = 0) (hf : fitL w l) : (valLo (packLo w l) w (k * w) : Int) = rd l (k : Nat) := by
  by_cases hw : 0 < w
  · refine valLo_pack w l k hw hk ?_ hf
    obtain ⟨q, hq⟩ : ∃ q, l.length = 8 * q := ⟨l.length / 8, by omega⟩
    rw [hq, Nat.mul_assoc]; omega
  · obtain rfl : w = 0 := by omega
    have hx := hf _ (rd_mem (l := l) (i := k) hk)
    rw [Int.pow_zero] at hx
    show ((bitsN _ 0 : Nat) : Int) = _
    have : bitsN (fun r => bitLo (packLo 0 l) (k * 0 + r)) 0 = 0 := rfl
    rw [this]; omega
/-- numbers of so many bits, as ones with a sign -/
def unpI (k : IntKind) (w cnt : Nat) (bs : List Int) : List Int := (List.range cnt).map fun i => k.wrap (valLo bs w (i * w) : Int)
theorem unpI_succ (k : IntKind) (w cnt : Nat) (bs : List Int) : unpI k w (cnt + 1) bs = unpI k w cnt bs ++ [k.wrap (valLo bs w (cnt * w) : Int)] := by
  simp [unpI, List.range_succ]
theorem unpI_length (k : IntKind) (w cnt : Nat) (bs : List Int) : (unpI k w cnt bs).length = cnt := by simp [unpI]
theorem unpI_pack (k : IntKind) (w cnt : Nat) (l : List Int) (hc : cnt ≤ l.length) (h8 : l.length % 8 = 0) (hf : fitL w l) : unpI k w cnt (packLo w l) = (l.take cnt).map k.wrap := by
  apply List.ext_getElem
  · simp [unpI]; omega
  · intro i h1 h2
    rw [unpI_length] at h1
    have := valLo_packD w l i (by omega) h8 hf
    rw [rd_nat _ _ (by omega)] at this
    simp only [unpI, List.getElem_map, List.getElem_range, List.getElem_take]
    rw [this]
def unpL (w cnt : Nat) (bs : List Int) : List Int := (List.range cnt).map fun i => (valLo bs w (i * w) : Int)
theorem unpL_length (w cnt : Nat) (bs : List Int) : (unpL w cnt bs).length = cnt := by simp [unpL]
theorem unpL_pack (w : Nat) (l : List Int) (h8 : l.length % 8 = 0) (hf : fitL w l) : unpL w l.length (packLo w l) = l := by
  apply List.ext_getElem
  · simp [unpL]
  · intro i h1 h2
    have := valLo_packD w l i h2 h8 hf
    rw [rd_nat _ _ h2] at this
    simp only [unpL, List.getElem_map, List.getElem_range]
    exact this
theorem packLo_bytes (w : Nat) (l : List Int) : bytesB (packLo w l) = true := bytesB_of fun x hx => by
  simp only [packLo, bytesLo, List.mem_map] at hx
  obtain ⟨q, _, rfl⟩ := hx
  have := byteLo_lt (bitsLo w l) q
  exact ⟨by omega, by omega⟩
set_option maxHeartbeats 4000000 in
theorem bitAt_calls (A : Option Addr) (n c m : Nat) (bs : List Int) (o : Nat) (w : World) (hC : (Kd.int .u8).C w A m bs) (hmn : m ≤ n) (hn : n ≤ 9223372036854775807) (hb : bytesB bs = true) (ho : o / 8 < m) (ho9 : o ≤ 4611686018427387904) :
    Calls Tryd.prog 137 #[.slice A n c, .int .u64 o] w fun e w' => e = .returned (.int .u64 (((bitLo bs o).toNat : Nat) : Int)) ∧ w = w' := by
  obtain ⟨q, hq⟩ : ∃ q, o / 8 = q := ⟨_, rfl⟩
  obtain ⟨r, hr⟩ : ∃ r, o % 8 = r := ⟨_, rfl⟩
  have hq1 : (o : Int) / 8 = (q : Int) := by omega
  have hr1 : (o : Int) % 8 = (r : Int) := by omega
  have hr8 : r < 8 := by omega
  have hqm : q < m := by omega
  have hqn : q < n := by omega
  obtain ⟨ad, ead, hcell⟩ := Kd.at_int hC (q : Int) (by omega) (by omega)
  obtain ⟨y, hy, hy8⟩ := byteN bs hb q
  rw [Int.toNat_natCast, hy] at hcell
  have hand := bit_and1 y r hy8
  have hbit : bitLo bs o = y.testBit r := by unfold bitLo; rw [hq, hr, hy, Int.toNat_natCast]
  rw [hbit]
  obtain ⟨z, hz⟩ : ∃ z, (y.testBit r).toNat = z := ⟨_, rfl⟩
  rw [hz] at hand ⊢
  have hz2 : z < 2 := by rw [← hz]; cases y.testBit r <;> simp
  have qd : decide ((n : Int) ≤ (q : Int)) = false := decide_eq_false (by omega)
  have qd2 : decide (n ≤ q) = false := decide_eq_false (by omega)
  have hqw : IntKind.i64.wrap (q : Int) = (q : Int) := IntWalk.i64_in _ (by omega)
  subst ead
  clear hC hb hy hz hq hr hbit
  go_enter Tryd.func137, Tryd.ntmps137
  go_wp2_with (fail)
  go_ret
  exact ⟨rfl, rfl⟩
set_option maxHeartbeats 8000000 in
set_option maxRecDepth 100000 in
theorem unpackInt32_calls (g C t cnt c : Nat) (xs zs : List Int) (A : Option Addr) (n' c' m w : Nat) (bs : List Int) (w0 : World) (hF : Front w0 g C t .i32 (xs ++ zs)) (hC : cnt ≤ zs.length) (hcnt : cnt ≤ 2147483647) (hA : ReadKeep w0 g .u8 A m bs) (hmn : m ≤ n') (hn : n' ≤ 9223372036854775807) (hb : bytesB bs = true) (hw : w ≤ 32) (hcw : cnt * w ≤ 8 * m) (hm9 : m ≤ 268435455) :
    Calls Tryd.prog 125 #[.slice (some ⟨g, xs.length, none⟩) cnt c, .slice A n' c', .int .u64 w] w0 fun e w' => e = .returned (.tuple #[]) ∧ Front w' g C t .i32 (xs ++ unpI .i32 w cnt bs ++ zs.drop cnt) ∧ w0.grownBy w' (some g) := by
  have hle := hF.le
  rw [List.length_append] at hle
  have HF := Aside0.mk hF
  have HA := Aside0.mk hA
  have HU := Aside0.mk hb
  have HCW := Aside0.mk hcw
  obtain ⟨o, ho⟩ : ∃ o, xs.length = o := ⟨_, rfl⟩
  have HO := Aside0.mk ho
  rw [ho] at hle ⊢
  clear hF hA hb hcw ho
  go_enter Tryd.func125, Tryd.ntmps125
  go_wp2_with (fail)
  go_loopg [6, 11] cnt (fun kq v6 v11 w' => ∃ (j : Nat), j ≤ cnt ∧ v11 = .int .i64 j ∧ Aside0 (Front w' g C t .i32 (xs ++ unpI .i32 w j bs ++ zs.drop j)) ∧ Aside0 (w0.grownBy w' (some g)) ∧ Aside0 (cnt - j ≤ kq))
  case atStart => exact ⟨0, by omega, rfl, ⟨by simpa [unpI] using HF.out⟩, ⟨grownRefl _ _⟩, ⟨by omega⟩⟩
  case round =>
    obtain ⟨j, hj, rfl, HR, HG, HK⟩ := hrel
    by_cases cj : j < cnt
    · have cjb : decide ((j : Int) < cnt) = true := decide_eq_true (by omega)
      obtain ⟨gk0, rfl⟩ : ∃ gk0, gk = gk0 + 1 := ⟨gk - 1, by have := HK.out; omega⟩
      obtain ⟨jw, hjw⟩ : ∃ jw, j * w = jw := ⟨_, rfl⟩
      have hjwI : (j : Int) * (w : Int) = (jw : Int) := by rw [← hjw]; push_cast; rfl
      have hjw9 : jw + w ≤ 8 * m := by
        have h1 : (j + 1) * w ≤ cnt * w := Nat.mul_le_mul_right w cj
        rw [Nat.succ_mul] at h1
        have := HCW.out; omega
      have HJW := Aside0.mk hjw
      have HCr := Aside0.mk (HA.out wr HG.out)
      clear hjw
      go_wp2_with (fail)
      go_loopg [7, 8] w (fun kq v7 v8 w' => ∃ (k acc : Nat), k ≤ w ∧ v8 = .int .u64 k ∧ v7 = .int .u32 acc ∧ Aside0 (acc = bitsN (fun r => bitLo bs (jw + r)) k) ∧ wr = w' ∧ Aside0 (w - k ≤ kq))
      case atStart => exact ⟨0, 0, by omega, rfl, rfl, ⟨rfl⟩, rfl, ⟨by omega⟩⟩
      case round =>
        obtain ⟨k, acc, hk, rfl, rfl, HACC, rfl, HK2⟩ := hrel
        have hlt := bitsN_lt k (fun r => bitLo bs (jw + r))
        rw [← HACC.out] at hlt
        by_cases ck : k < w
        · have ckb : decide ((k : Int) < (w : Int)) = true := decide_eq_true (by omega)
          have ckb2 : decide (k < w) = true := decide_eq_true ck
          obtain ⟨q, hq⟩ : ∃ q, jw + k = q := ⟨_, rfl⟩
          have hqI : (jw : Int) + (k : Int) = (q : Int) := by omega
          have HBA := Aside0.mk fun W (h : (Kd.int .u8).C W A m bs) => bitAt_calls A n' c' m bs q W h hmn hn HU.out (by omega) (by omega)
          have hsum := bitsN_high (fun r => bitLo bs (jw + r)) k
          rw [← HACC.out] at hsum
          have hsum : bitsN (fun r => bitLo bs (jw + r)) (k + 1) = acc + (bitLo bs q).toNat * 2 ^ k := by rw [← hq]; exact hsum
          obtain ⟨z, hz⟩ : ∃ z, (bitLo bs q).toNat = z := ⟨_, rfl⟩
          have hz2 : z < 2 := by rw [← hz]; cases bitLo bs q <;> simp
          rw [hz] at HBA hsum
          have hp := two_pow_le (show k ≤ 31 by omega)
          have e31 : (2 : Nat) ^ 31 = 2147483648 := by decide
          have hzk : z * 2 ^ k ≤ 2 ^ k := by
            have := Nat.mul_le_mul_right (2 ^ k) (show z ≤ 1 by omega); omega
          have HOR := Aside0.mk (or_high32 acc z k hlt (by omega) (by omega))
          have HSUM := Aside0.mk hsum
          have hacc9 : acc < 4294967296 := by omega
          have hqw : IntKind.u64.wrap (q : Int) = (q : Int) := IntWalk.u64_in _ (by omega)
          have hjww : IntKind.u64.wrap (jw : Int) = (jw : Int) := IntWalk.u64_in _ (by omega)
          clear hz hsum hzk hlt hq
          go_wp2_with (first
            | (go_at_call 137; go_loud (with_reducible refine (HBA.out _ HCr.out).mono ?_); rintro e w1 ⟨rfl, rfl⟩))
          rw [HOR.out]
          go_roundg (gk - 1)
          case measure => have := HK2.out; omega
          case rel => exact ⟨k + 1, acc + z * 2 ^ k, by omega, by go_num, rfl, ⟨HSUM.out.symm⟩, rfl, ⟨by have := HK2.out; omega⟩⟩
        · obtain rfl : k = w := by omega
          have ckb : decide ((k : Int) < (k : Int)) = false := decide_eq_false (by omega)
          obtain ⟨y, hy⟩ : ∃ y, IntKind.i32.wrap (acc : Int) = y := ⟨_, rfl⟩
          have HY : Aside0 (IntKind.i32.wrap (valLo bs k (j * k) : Int) = y) := ⟨by rw [← hy, HACC.out, HJW.out]; rfl⟩
          obtain ⟨z, rc⟩ := HR.out.cell (o + j) (by omega)
          have rf := HR.out.free (o + j)
          have HY2 := Aside0.mk hy
          clear hlt
          go_wp2_with (fail)
          go_roundg gk0
          case measure => omega
          case rel =>
            refine ⟨j + 1, by omega, by go_num, ⟨?_⟩, ⟨grownSet HG.out _ _⟩, ⟨by have := HK.out; omega⟩⟩
            have h := setF HR.out (o + j) (by rw [List.length_append, List.length_append, unpI_length, HO.out, List.length_drop]; omega) y
            rw [setMid xs (unpI .i32 k j bs) zs y o j HO.out (unpI_length _ _ _ _) (by omega), ← HY.out, ← unpI_succ] at h
            rw [HY.out] at h
            exact h
    · obtain rfl : j = cnt := by omega
      have cjb : decide ((j : Int) < j) = false := decide_eq_false (by omega)
      go_wp2_with (fail)
      go_end0
      exact ⟨rfl, HR.out, HG.out⟩
set_option maxHeartbeats 8000000 in
set_option maxRecDepth 100000 in
theorem unpackInt64_calls (g C t cnt c : Nat) (xs zs : List Int) (A : Option Addr) (n' c' m w : Nat) (bs : List Int) (w0 : World) (hF : Front w0 g C t .i64 (xs ++ zs)) (hC : cnt ≤ zs.length) (hcnt : cnt ≤ 2147483647) (hA : ReadKeep w0 g .u8 A m bs) (hmn : m ≤ n') (hn : n' ≤ 9223372036854775807) (hb : bytesB bs = true) (hw : w ≤ 64) (hcw : cnt * w ≤ 8 * m) (hm9 : m ≤ 268435455) :
    Calls Tryd.prog 110 #[.slice (some ⟨g, xs.length, none⟩) cnt c, .slice A n' c', .int .u64 w] w0 fun e w' => e = .returned (.tuple #[]) ∧ Front w' g C t .i64 (xs ++ unpI .i64 w cnt bs ++ zs.drop cnt) ∧ w0.grownBy w' (some g) := by
  have hle := hF.le
  rw [List.length_append] at hle
  have HF := Aside0.mk hF
  have HA := Aside0.mk hA
  have HU := Aside0.mk hb
  have HCW := Aside0.mk hcw
  obtain ⟨o, ho⟩ : ∃ o, xs.length = o := ⟨_, rfl⟩
  have HO := Aside0.mk ho
  rw [ho] at hle ⊢
  clear hF hA hb hcw ho
  go_enter Tryd.func110, Tryd.ntmps110
  go_wp2_with (fail)
  go_loopg [6, 11] cnt (fun kq v6 v11 w' => ∃ (j : Nat), j ≤ cnt ∧ v11 = .int .i64 j ∧ Aside0 (Front w' g C t .i64 (xs ++ unpI .i64 w j bs ++ zs.drop j)) ∧ Aside0 (w0.grownBy w' (some g)) ∧ Aside0 (cnt - j ≤ kq))
  case atStart => exact ⟨0, by omega, rfl, ⟨by simpa [unpI] using HF.out⟩, ⟨grownRefl _ _⟩, ⟨by omega⟩⟩
  case round =>
    obtain ⟨j, hj, rfl, HR, HG, HK⟩ := hrel
    by_cases cj : j < cnt
    · have cjb : decide ((j : Int) < cnt) = true := decide_eq_true (by omega)
      obtain ⟨gk0, rfl⟩ : ∃ gk0, gk = gk0 + 1 := ⟨gk - 1, by have := HK.out; omega⟩
      obtain ⟨jw, hjw⟩ : ∃ jw, j * w = jw := ⟨_, rfl⟩
      have hjwI : (j : Int) * (w : Int) = (jw : Int) := by rw [← hjw]; push_cast; rfl
      have hjw9 : jw + w ≤ 8 * m := by
        have h1 : (j + 1) * w ≤ cnt * w := Nat.mul_le_mul_right w cj
        rw [Nat.succ_mul] at h1
        have := HCW.out; omega
      have HJW := Aside0.mk hjw
      have HCr := Aside0.mk (HA.out wr HG.out)
      clear hjw
      go_wp2_with (fail)
      go_loopg [7, 8] w (fun kq v7 v8 w' => ∃ (k acc : Nat), k ≤ w ∧ v8 = .int .u64 k ∧ v7 = .int .u64 acc ∧ Aside0 (acc = bitsN (fun r => bitLo bs (jw + r)) k) ∧ wr = w' ∧ Aside0 (w - k ≤ kq))
      case atStart => exact ⟨0, 0, by omega, rfl, rfl, ⟨rfl⟩, rfl, ⟨by omega⟩⟩
      case round =>
        obtain ⟨k, acc, hk, rfl, rfl, HACC, rfl, HK2⟩ := hrel
        have hlt := bitsN_lt k (fun r => bitLo bs (jw + r))
        rw [← HACC.out] at hlt
        by_cases ck : k < w
        · have ckb : decide ((k : Int) < (w : Int)) = true := decide_eq_true (by omega)
          have ckb2 : decide (k < w) = true := decide_eq_true ck
          obtain ⟨q, hq⟩ : ∃ q, jw + k = q := ⟨_, rfl⟩
          have hqI : (jw : Int) + (k : Int) = (q : Int) := by omega
          have HBA := Aside0.mk fun W (h : (Kd.int .u8).C W A m bs) => bitAt_calls A n' c' m bs q W h hmn hn HU.out (by omega) (by omega)
          have hsum := bitsN_high (fun r => bitLo bs (jw + r)) k
          rw [← HACC.out] at hsum
          have hsum : bitsN (fun r => bitLo bs (jw + r)) (k + 1) = acc + (bitLo bs q).toNat * 2 ^ k := by rw [← hq]; exact hsum
          obtain ⟨z, hz⟩ : ∃ z, (bitLo bs q).toNat = z := ⟨_, rfl⟩
          have hz2 : z < 2 := by rw [← hz]; cases bitLo bs q <;> simp
          rw [hz] at HBA hsum
          have hp := two_pow_le (show k ≤ 63 by omega)
          have e31 : (2 : Nat) ^ 63 = 9223372036854775808 := by decide
          have hzk : z * 2 ^ k ≤ 2 ^ k := by
            have := Nat.mul_le_mul_right (2 ^ k) (show z ≤ 1 by omega); omega
          have HOR := Aside0.mk (or_high' acc z k hlt (by omega) (by omega))
          have HSUM := Aside0.mk hsum
          have hacc9 : acc < 18446744073709551616 := by omega
          have hqw : IntKind.u64.wrap (q : Int) = (q : Int) := IntWalk.u64_in _ (by omega)
          have hjww : IntKind.u64.wrap (jw : Int) = (jw : Int) := IntWalk.u64_in _ (by omega)
          clear hz hsum hzk hlt hq
          go_wp2_with (first
            | (go_at_call 137; go_loud (with_reducible refine (HBA.out _ HCr.out).mono ?_); rintro e w1 ⟨rfl, rfl⟩))
          rw [HOR.out]
          go_roundg (gk - 1)
          case measure => have := HK2.out; omega
          case rel => exact ⟨k + 1, acc + z * 2 ^ k, by omega, by go_num, rfl, ⟨HSUM.out.symm⟩, rfl, ⟨by have := HK2.out; omega⟩⟩
        · obtain rfl : k = w := by omega
          have ckb : decide ((k : Int) < (k : Int)) = false := decide_eq_false (by omega)
          obtain ⟨y, hy⟩ : ∃ y, IntKind.i64.wrap (acc : Int) = y := ⟨_, rfl⟩
          have HY : Aside0 (IntKind.i64.wrap (valLo bs k (j * k) : Int) = y) := ⟨by rw [← hy, HACC.out, HJW.out]; rfl⟩
          obtain ⟨z, rc⟩ := HR.out.cell (o + j) (by omega)
          have rf := HR.out.free (o + j)
          have HY2 := Aside0.mk hy
          clear hlt
          go_wp2_with (fail)
          go_roundg gk0
          case measure => omega
          case rel =>
            refine ⟨j + 1, by omega, by go_num, ⟨?_⟩, ⟨grownSet HG.out _ _⟩, ⟨by have := HK.out; omega⟩⟩
            have h := setF HR.out (o + j) (by rw [List.length_append, List.length_append, unpI_length, HO.out, List.length_drop]; omega) y
            rw [setMid xs (unpI .i64 k j bs) zs y o j HO.out (unpI_length _ _ _ _) (by omega), ← HY.out, ← unpI_succ] at h
            rw [HY.out] at h
            exact h
    · obtain rfl : j = cnt := by omega
      have cjb : decide ((j : Int) < j) = false := decide_eq_false (by omega)
      go_wp2_with (fail)
      go_end0
      exact ⟨rfl, HR.out, HG.out⟩
set_option maxHeartbeats 8000000 in
set_option maxRecDepth 100000 in
theorem unpackLow_calls (A : Option Addr) (n c w cnt : Nat) (bs : List Int) (W : World) (hC : (Kd.int .u8).C W A n bs) (hc : n ≤ c) (hn : n ≤ 268435455) (hb : bytesB bs = true) (hw : w ≤ 64) (hcw : cnt * w ≤ 8 * n) (hcnt : cnt ≤ 2147483647) :
    Calls Tryd.prog 99 #[.int .i64 w, .int .i64 cnt, .slice A n c] W fun e w' => ∃ v, e = .returned v ∧ Own w' W.heap.size 71 .u64 v (unpL w cnt bs) ∧ Below W.heap.size W w' := by
  have HC := Aside0.mk hC
  have HU := Aside0.mk hb
  have HCW := Aside0.mk hcw
  have hmk := print_make (P := Tryd.prog) 74 71 .u64 8 Tryd.underlying74 infoU64 (by decide) cnt (by omega)
  clear hC hb hcw
  go_enter Tryd.func99, Tryd.ntmps99
  go_wp2_with (fail)
  obtain ⟨f, hf⟩ : ∃ f : Nat → Int, (fun i => (valLo bs w (i * w) : Int)) = f := ⟨_, rfl⟩
  have HF := Aside0.mk hf
  have HR : Aside0 (Row (W.alloc (.cells (madeCells #[.int .u64 0] cnt) 71)) W.heap.size 71 .u64 (partI f cnt 0)) := ⟨by rw [partI_zero]; exact madeRow W 71 .u64 cnt⟩
  have HB : Aside0 (Below W.heap.size W (W.alloc (.cells (madeCells #[.int .u64 0] cnt) 71))) := ⟨(Below.refl _ _).alloc (Nat.le_refl _) _⟩
  generalize W.alloc (.cells (madeCells #[.int .u64 0] cnt) 71) = wm at *
  clear hmk hf
  go_loopg [8, 15] cnt (fun kq v8 v15 w' => ∃ (j : Nat), j ≤ cnt ∧ v15 = .int .i64 j ∧ Aside0 (Row w' W.heap.size 71 .u64 (partI f cnt j)) ∧ Aside0 (Below W.heap.size W w') ∧ Aside0 (cnt - j ≤ kq))
  case atStart => exact ⟨0, by omega, rfl, HR, HB, ⟨by omega⟩⟩
  case round =>
    clear HR HB
    obtain ⟨j, hj, rfl, HR, HB, HK⟩ := hrel
    by_cases cj : j < cnt
    · have cjb : decide ((j : Int) < cnt) = true := decide_eq_true (by omega)
      obtain ⟨gk0, rfl⟩ : ∃ gk0, gk = gk0 + 1 := ⟨gk - 1, by have := HK.out; omega⟩
      obtain ⟨jw, hjw⟩ : ∃ jw, j * w = jw := ⟨_, rfl⟩
      have hjwI : (j : Int) * (w : Int) = (jw : Int) := by rw [← hjw]; push_cast; rfl
      have hjw9 : jw + w ≤ 8 * n := by
        have h1 : (j + 1) * w ≤ cnt * w := Nat.mul_le_mul_right w cj
        rw [Nat.succ_mul] at h1
        have := HCW.out; omega
      have HJW := Aside0.mk hjw
      have HR0 : Aside0 (Row wr W.heap.size 71 .u64 ((partI f cnt j).set j ((bitsN (fun r => bitLo bs (jw + r)) 0 : Nat) : Int))) := ⟨by
        have e : (partI f cnt j).set j ((bitsN (fun r => bitLo bs (jw + r)) 0 : Nat) : Int) = partI f cnt j := by
          apply rd_ext
          · simp
          · intro i hi
            rw [List.length_set, partI_length] at hi
            rw [rd_set _ _ _ _ (by rw [partI_length]; omega)]
            by_cases h : i = j
            · subst h; rw [if_pos rfl, rd_partI _ _ _ _ hi, if_neg (by omega)]; rfl
            · rw [if_neg h]
        rw [e]; exact HR.out⟩
      clear hjw
      go_wp2_with (fail)
      go_loopg [9, 10, 19] w (fun kq v9 v10 v19 w' => ∃ (k : Nat), k ≤ w ∧ v19 = .int .i64 k ∧ Aside0 (Row w' W.heap.size 71 .u64 ((partI f cnt j).set j ((bitsN (fun r => bitLo bs (jw + r)) k : Nat) : Int))) ∧ Aside0 (Below W.heap.size W w') ∧ Aside0 (w - k ≤ kq))
      case atStart => exact ⟨0, by omega, rfl, HR0, HB, ⟨by omega⟩⟩
      case round =>
        clear HR HB HR0
        obtain ⟨k, hk, rfl, HR, HB, HK2⟩ := hrel
        by_cases ck : k < w
        · have ckb : decide ((k : Int) < w) = true := decide_eq_true (by omega)
          obtain ⟨o, ho⟩ : ∃ o, jw + k = o := ⟨_, rfl⟩
          have hoI : (jw : Int) + (k : Int) = (o : Int) := by omega
          obtain ⟨q, hq⟩ : ∃ q, o / 8 = q := ⟨_, rfl⟩
          obtain ⟨r, hr⟩ : ∃ r, o % 8 = r := ⟨_, rfl⟩
          have hq1 : (o : Int) / 8 = (q : Int) := by omega
          have hq2 : (o : Int).tdiv 8 = (q : Int) := by rw [Int.tdiv_eq_ediv_of_nonneg (by omega)]; exact hq1
          have hr1 : (o : Int) % 8 = (r : Int) := by omega
          have hr2 : (o : Int).tmod 8 = (r : Int) := by rw [Int.tmod_eq_emod_of_nonneg (by omega)]; exact hr1
          have hr8 : r < 8 := by omega
          have hqw : IntKind.i64.wrap (q : Int) = (q : Int) := IntWalk.i64_in _ (by omega)
          have hqn : q < n := by omega
          obtain ⟨ad, ead, hcell⟩ := Kd.at_int (Kd.C_below HC.out HB.out) (q : Int) (by omega) (by omega)
          obtain ⟨y, hy, hy8⟩ := byteN bs HU.out q
          rw [Int.toNat_natCast, hy] at hcell
          have hand := bit_and1 y r hy8
          have hbit : bitLo bs o = y.testBit r := by unfold bitLo; rw [hq, hr, hy, Int.toNat_natCast]
          obtain ⟨z, hz⟩ : ∃ z, (y.testBit r).toNat = z := ⟨_, rfl⟩
          rw [hz] at hand
          have hz2 : z < 2 := by rw [← hz]; cases y.testBit r <;> simp
          have hsum := bitsN_high (fun r => bitLo bs (jw + r)) k
          have hlt := bitsN_lt k (fun r => bitLo bs (jw + r))
          rw [ho, hbit, hz] at hsum
          have rc := HR.out.cell (j := j) (by rw [List.length_set, partI_length]; exact cj)
          have rf := HR.out.free j
          rw [rd_set _ _ _ _ (by rw [partI_length]; exact cj), if_pos rfl] at rc
          obtain ⟨acc, hacc⟩ : ∃ acc, bitsN (fun r => bitLo bs (jw + r)) k = acc := ⟨_, rfl⟩
          rw [hacc] at rc hsum hlt
          have hp := two_pow_le (show k ≤ 63 by omega)
          have e31 : (2 : Nat) ^ 63 = 9223372036854775808 := by decide
          have hzk : z * 2 ^ k ≤ 2 ^ k := by
            have := Nat.mul_le_mul_right (2 ^ k) (show z ≤ 1 by omega); omega
          have HOR := Aside0.mk (or_high' acc z k hlt (by omega) (by omega))
          have HSUM := Aside0.mk hsum
          have qi1 : (j < cnt) = True := eq_true cj
          have qi2 : ((j : Int) < (cnt : Int)) = True := eq_true (by omega)
          have qi3 : (0 ≤ (j : Int)) = True := eq_true (by omega)
          have qi4 : (q < n) = True := eq_true hqn
          have qi5 : ((q : Int) < (n : Int)) = True := eq_true (by omega)
          have qi6 : (0 ≤ (q : Int)) = True := eq_true (by omega)
          have qi7 : (0 ≤ (r : Int)) = True := eq_true (by omega)
          have qi8 : (0 ≤ (k : Int)) = True := eq_true (by omega)
          subst ead
          clear hy hz hacc hsum hq hr hbit hzk
          go_wp2_with (fail)
          refine region_tail 17 (by kernel_rfl) (by kernel_rfl) ?_
          simp only [List.take_succ_cons, List.take_zero, List.drop_succ_cons, List.drop_zero]
          repeat (quiet_step ((fail)))
          refine wpQuiet_nil ?_
          rintro _ ⟨nq, rfl⟩
          go_wp2_with (fail)
          rw [HOR.out]
          go_roundg (gk - 1)
          case measure => have := HK2.out; omega
          case rel =>
            refine ⟨k + 1, by omega, by go_num, ⟨?_⟩, ⟨Below.setCell (p := ⟨W.heap.size, j, none⟩) (HB.out.trans ((drewN_below wr nq).mono HB.out.size)) (Nat.le_refl _) _⟩, ⟨by have := HK2.out; omega⟩⟩
            have h := (HR.out.drewN nq).set j ((acc + z * 2 ^ k : Nat) : Int)
            rw [List.set_set, ← HSUM.out] at h
            rw [← HSUM.out]
            exact h
        · obtain rfl : k = w := by omega
          have ckb : decide ((k : Int) < k) = false := decide_eq_false (by omega)
          go_wp2_with (fail)
          go_roundg gk0
          case measure => omega
          case rel =>
            refine ⟨j + 1, by omega, by go_num, ⟨?_⟩, HB, ⟨by have := HK.out; omega⟩⟩
            have h := HR.out
            have e : ((bitsN (fun r => bitLo bs (jw + r)) k : Nat) : Int) = f j := by rw [← HF.out, ← HJW.out]; rfl
            rw [e, partI_set] at h
            exact h
    · obtain rfl : j = cnt := by omega
      have cjb : decide ((j : Int) < j) = false := decide_eq_false (by omega)
      go_wp2_with (fail)
      go_ret
      have := HR.out.toOwn (base := W.heap.size) (n := j) (Nat.le_refl _) (by rw [partI_length]; omega) (by rw [partI_length]; omega)
      rw [partI_length, partI_full, ← HF.out, List.take_of_length_le (by simp)] at this
      exact ⟨_, rfl, this, HB.out⟩
end Go.Proofs.YtigmcdpjlkgocaaDoor.Dun
