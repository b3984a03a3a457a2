import Derived.Test.YtcboegodjlfmnaaDoorSkMta
import Derived.Test.YtcboegodjlfmnaaDoorSkMtb
import Derived.Test.YtcboegodjlfmnaaDoorSkMtk
import Derived.Laws.ResultCell
import Derived.LaidEql
import Derived.Maps.AppendAt
namespace Go.Proofs.YtcboegodjlfmnaaDoor.Tuv
open Go.Proofs.YtcboegodjlfmnaaDoor.Duv Go.Proofs.YtcboegodjlfmnaaDoor.Dpu Go.Proofs.YtcboegodjlfmnaaDoor.Pak Go.Proofs.YtcboegodjlfmnaaDoor.Buf Go.Proofs.YtcboegodjlfmnaaDoor.Fit Go.Proofs.YtcboegodjlfmnaaDoor.Bit Go.Proofs.YtcboegodjlfmnaaDoor.Wrd Go.Proofs.YtcboegodjlfmnaaDoor.Spl Go.Proofs.YtcboegodjlfmnaaDoor.Str Go.Proofs.YtcboegodjlfmnaaDoor.Flt Go.Proofs.YtcboegodjlfmnaaDoor.Owe Go.Proofs.YtcboegodjlfmnaaDoor.Num Go.Proofs.YtcboegodjlfmnaaDoor.Le Go.Proofs.YtcboegodjlfmnaaDoor.Lst Go.Proofs.YtcboegodjlfmnaaDoor.Aid Go.RowKit Go.Proofs.YtcboegodjlfmnaaDoorW.PrintWords Go.Proofs.YtcboegodjlfmnaaDoorW.PrintLast Go.Proofs.YtcboegodjlfmnaaDoorW.PrintMore
set_option linter.unusedVariables false
set_option linter.unusedSimpArgs false
inductive UvR where
  | short
  | over
  | ok (x l : Nat)
def UvR.more (a p : Nat) : UvR → UvR
  | .ok x l => .ok (a + p * x) (l + 1)
  | r => r
def uvM : Nat → List Int → UvR
  | _, [] => .short
  | i, b :: bs => if i = 9 ∧ 1 < b then .over else if b < 128 then .ok b.toNat 1 else (uvM (i + 1) bs).more (b - 128).toNat 128
theorem uvM_cons (i : Nat) (b : Int) (bs : List Int) : uvM i (b :: bs) = if i = 9 ∧ 1 < b then .over else if b < 128 then .ok b.toNat 1 else (uvM (i + 1) bs).more (b - 128).toNat 128 := rfl
def UvR.shift (acc i : Nat) : UvR → UvR
  | .ok x l => .ok (acc + x * 2 ^ (7 * i)) (l + i)
  | r => r
theorem shift_more (acc i b : Nat) (r : UvR) : (r.more b 128).shift acc i = r.shift (acc + b * 2 ^ (7 * i)) (i + 1) := by
  cases r with
  | short => rfl
  | over => rfl
  | ok x l =>
    show UvR.ok _ _ = UvR.ok _ _
    rw [show 7 * (i + 1) = 7 * i + 7 by omega, Nat.pow_add, Nat.add_mul, show (2 : Nat) ^ 7 = 128 from rfl, Nat.mul_assoc 128 x, Nat.mul_comm 128 (x * _), Nat.mul_assoc x]
    congr 1 <;> omega
theorem uvM_of_var : ∀ (k i : Nat) (f : Bool) (bs : List Int), i + k = 10 → (∀ x r, Tpa.varP k f bs = .ok x r → ∃ l, uvM i bs = .ok x l ∧ r = bs.drop l ∧ 1 ≤ l ∧ l ≤ bs.length) ∧ (Tpa.varP k f bs = .cut → uvM i bs = .short)
  | 0, i, f, bs, hk => ⟨fun x r h => (by cases h), fun h => (by cases h)⟩
  | k + 1, i, f, [], hk => ⟨fun x r h => (by cases h), fun h => rfl⟩
  | k + 1, i, f, b :: bs, hk => by
    have ih := uvM_of_var k (i + 1) false bs (by omega)
    have hd : Tpa.varP (k + 1) f (b :: bs) = (if (k = 0 ∧ 1 < b) ∨ (f = false ∧ b = 0) then Tpa.opnP else if b < 128 then Tpa.retP b.toNat else Tpa.bindP (Tpa.varP k false) fun x => Tpa.retP ((b - 128).toNat + 128 * x)) bs := rfl
    rw [hd, uvM_cons]
    by_cases c : (k = 0 ∧ 1 < b) ∨ (f = false ∧ b = 0)
    · rw [if_pos c]
      exact ⟨fun x r h => (by cases h), fun h => (by cases h)⟩
    · rw [if_neg c]
      have c9 : ¬ (i = 9 ∧ 1 < b) := by omega
      rw [if_neg c9]
      by_cases c1 : b < 128
      · rw [if_pos c1, if_pos c1]
        refine ⟨fun x r h => ?_, fun h => (by cases h)⟩
        injection h with h1 h2
        exact ⟨1, by rw [h1], by rw [← h2]; rfl, Nat.le_refl _, by simp⟩
      · rw [if_neg c1, if_neg c1]
        refine ⟨fun x r h => ?_, fun h => ?_⟩
        · obtain ⟨a, r1, h1, h2⟩ := Tpa.bind_ok h
          injection h2 with h3 h4
          obtain ⟨l, hl, hr, hl1, hl2⟩ := ih.1 a r1 h1
          refine ⟨l + 1, ?_, by rw [← h4, hr]; rfl, by omega, by simp; omega⟩
          rw [hl, ← h3]; rfl
        · rcases Tpa.bind_cut h with h1 | ⟨a, r1, h1, h2⟩
          · rw [ih.2 h1]; rfl
          · cases h2
theorem mul_small1 (b i : Nat) (hi : i = 9) (hb : b ≤ 1) : b * 2 ^ (7 * i) < 18446744073709551616 := by
  subst hi
  have e : (2 : Nat) ^ (7 * 9) = 9223372036854775808 := by decide +kernel
  rw [e]
  exact Nat.lt_of_le_of_lt (Nat.mul_le_mul_right _ hb) (by decide +kernel)
theorem mul_small (b i : Nat) (hi : i ≤ 8) (hb : b ≤ 128) : b * 2 ^ (7 * i) < 18446744073709551616 := by
  have h2 : 2 ^ (7 * i) ≤ 2 ^ 56 := Nat.pow_le_pow_right (by decide) (Nat.le_trans (Nat.mul_le_mul_left 7 hi) (Nat.le_refl 56))
  have e : (2 : Nat) ^ 56 = 72057594037927936 := by decide +kernel
  rw [e] at h2
  exact Nat.lt_of_le_of_lt (Nat.mul_le_mul hb h2) (by decide +kernel)
theorem add_small (acc b i : Nat) (h : acc < 2 ^ (7 * i)) (hb : b < 128) (hi : i ≤ 8) : acc + b * 2 ^ (7 * i) < 2 ^ (7 * (i + 1)) := by
  have e : (2 : Nat) ^ (7 * (i + 1)) = 128 * 2 ^ (7 * i) := by rw [show 7 * (i + 1) = 7 * i + 7 from rfl, Nat.pow_add, Nat.mul_comm]
  rw [e]
  have h1 : (b + 1) * 2 ^ (7 * i) ≤ 128 * 2 ^ (7 * i) := Nat.mul_le_mul_right _ hb
  rw [Nat.add_mul, Nat.one_mul] at h1
  omega
structure UvRes (r : UvR) (e : Ending) : Prop where
  short : r = .short → e = .returned (.tuple #[.int .u64 0, .int .i64 0])
  ok : ∀ x l, r = .ok x l → e = .returned (.tuple #[.int .u64 x, .int .i64 l])
set_option maxHeartbeats 8000000 in
theorem uvAny_calls (A : Option Addr) (n c : Nat) (bs : List Int) (w : World) (hC : (Kd.int .u8).C w A n bs) (hc : n ≤ c) (hn : n ≤ 2147483647) (hb : bytesB bs = true) (hno : uvM 0 bs ≠ .over) :
    Calls Tryd.prog 117 #[.slice A n c] w fun e w' => UvRes (uvM 0 bs) e ∧ w = w' := by
  have HLN : Aside0 (bs.length = n) := ⟨hC.1⟩
  have HC := Aside0.mk hC
  have HBY := Aside0.mk hb
  have HNO := Aside0.mk hno
  clear hC hb hno
  go_enter Tryd.func117, Tryd.ntmps117
  go_wp2_with (fail)
  go_loopg [4, 5, 6, 7, 10] n (fun kq v4 v5 v6 v7 v10 w' => ∃ (i acc : Nat), v4 = .int .u64 acc ∧ v5 = .int .u64 ((7 * i : Nat) : Int) ∧ v10 = .int .i64 i ∧ i ≤ n ∧ i ≤ 9 ∧ Aside0 (acc < 2 ^ (7 * i)) ∧ acc < 18446744073709551616 ∧ Aside0 (uvM 0 bs = (uvM i (bs.drop i)).shift acc i) ∧ w = w' ∧ Aside0 (n - i ≤ kq))
  case atStart => exact ⟨0, 0, rfl, rfl, rfl, by omega, by omega, ⟨by simp⟩, by omega, ⟨by rw [List.drop_zero]; cases uvM 0 bs <;> simp [UvR.shift]⟩, rfl, ⟨by omega⟩⟩
  case round =>
    obtain ⟨i, acc, rfl, rfl, rfl, hin, hi10, HAC, hac, HU, rfl, HK⟩ := hrel
    by_cases ci : i < n
    · have qin : decide ((i : Int) < n) = true := decide_eq_true (by omega)
      have qinn : decide (i < n) = true := decide_eq_true ci
      obtain ⟨ad, ead, hcell⟩ := Kd.at_int HC.out (i : Int) (by omega) (by omega)
      rw [Int.toNat_natCast] at hcell
      have hdr := drop_cons bs i (by rw [HLN.out]; exact ci)
      have hby := bytesB_rd HBY.out (i := (i : Int)) (k := i) rfl (by rw [HLN.out]; exact ci)
      obtain ⟨b, hb⟩ : ∃ b : Nat, rd bs (i : Nat) = (b : Int) := ⟨(rd bs (i : Nat)).toNat, by unfold byt at hby; omega⟩
      rw [hb] at hcell hdr hby
      unfold byt at hby
      have hb9 : b < 256 := by omega
      have hbi : bs.drop i = (b : Int) :: bs.drop (i + 1) := hdr
      have hu := HU.out
      rw [hbi, uvM_cons] at hu
      have HU2 := Aside0.mk hu
      clear hu hdr hbi hby hb
      subst ead
      · have qi10 : ((i : Int) == 10) = false := by rw [beq_eq_false_iff_ne]; omega
        have hu := HU2.out
        by_cases cov : i = 9 ∧ (1 : Int) < b
        · rw [if_pos cov] at hu
          exact absurd hu HNO.out
        rw [if_neg cov] at hu
        by_cases cb : b < 128
        · have qb : decide ((b : Int) < 128) = true := decide_eq_true (by omega)
          have qb2 : decide (b < 128) = true := decide_eq_true cb
          rw [if_pos (by omega)] at hu
          by_cases c9 : i = 9
          · have qi9 : ((i : Int) == 9) = true := by rw [beq_iff_eq]; omega
            have hb1 : b ≤ 1 := by omega
            have qb1 : decide (1 < (b : Int)) = false := decide_eq_false (by omega)
            have qb3 : decide (1 < b) = false := decide_eq_false (by omega)
            have HU3 : Aside0 (uvM 0 bs = .ok (acc + b * 2 ^ (7 * i)) (1 + i)) := ⟨by rw [hu]; simp [UvR.shift]⟩
            have hp : b * 2 ^ (7 * i) < 18446744073709551616 := mul_small1 b i c9 hb1
            have HOR := or_high' acc b (7 * i) HAC.out hac hp
            clear c9 cov hu
            go_wp2_with (fail)
            go_ret2
            refine ⟨⟨fun h => (by rw [HU3.out] at h; cases h), fun x l h => ?_⟩, rfl⟩
            rw [HU3.out] at h
            obtain ⟨h1, h2⟩ := UvR.ok.inj h
            rw [← h1, ← h2]
            show Ending.returned (Value.tuple #[Value.int IntKind.u64 ((acc : Int) + (b : Int) * 2 ^ (7 * i)), Value.int IntKind.i64 ((i : Int) + 1)]) = _
            rw [Nat.add_comm 1 i]; push_cast; rfl
          · have qi9 : ((i : Int) == 9) = false := by rw [beq_eq_false_iff_ne]; omega
            have HU3 : Aside0 (uvM 0 bs = .ok (acc + b * 2 ^ (7 * i)) (1 + i)) := ⟨by rw [hu]; simp [UvR.shift]⟩
            have hp : b * 2 ^ (7 * i) < 18446744073709551616 := mul_small b i (by omega) (by omega)
            have HOR := or_high' acc b (7 * i) HAC.out hac hp
            clear c9 cov hu
            go_wp2_with (fail)
            go_ret2
            refine ⟨⟨fun h => (by rw [HU3.out] at h; cases h), fun x l h => ?_⟩, rfl⟩
            rw [HU3.out] at h
            obtain ⟨h1, h2⟩ := UvR.ok.inj h
            rw [← h1, ← h2]
            show Ending.returned (Value.tuple #[Value.int IntKind.u64 ((acc : Int) + (b : Int) * 2 ^ (7 * i)), Value.int IntKind.i64 ((i : Int) + 1)]) = _
            rw [Nat.add_comm 1 i]; push_cast; rfl
        · have qb : decide ((b : Int) < 128) = false := decide_eq_false (by omega)
          have qb2 : decide (b < 128) = false := decide_eq_false cb
          rw [if_neg (by omega)] at hu
          obtain ⟨z, hz⟩ : ∃ z, b - 128 = z := ⟨_, rfl⟩
          have hz9 : z < 128 := by omega
          have hbz : ((b : Int) - 128).toNat = z := by omega
          rw [hbz, shift_more] at hu
          have hand : bits .and .u8 (b : Int) 127 = (z : Int) := by
            have h := and127 z
            rw [Nat.mod_eq_of_lt hz9] at h
            rw [show b = z + 128 by omega]; exact h
          have HU3 := Aside0.mk hu
          have hi8 : i ≤ 8 := by omega
          have hp : z * 2 ^ (7 * i) < 18446744073709551616 := mul_small z i hi8 (by omega)
          have HOR := Aside0.mk (or_high' acc z (7 * i) HAC.out hac hp)
          have HAC2 : Aside0 (acc + z * 2 ^ (7 * i) < 2 ^ (7 * (i + 1))) := ⟨add_small acc z i HAC.out hz9 hi8⟩
          have hac2 : acc + z * 2 ^ (7 * i) < 18446744073709551616 := Nat.lt_of_lt_of_le HAC2.out (Nat.le_trans (Nat.pow_le_pow_right (by decide) (show 7 * (i + 1) ≤ 63 by omega)) (by decide +kernel))
          have HAC3 := Aside0.mk hac2
          have qi9 : ((i : Int) == 9) = false := by rw [beq_eq_false_iff_ne]; omega
          clear cov hu hz hbz hp hac hac2
          go_wp2_with (fail)
          rw [HOR.out]
          go_roundg (gk - 1)
          case measure => have := HK.out; omega
          case rel =>
            exact ⟨i + 1, acc + z * 2 ^ (7 * i), rfl, by go_num, by go_num, by omega, by omega, HAC2, HAC3.out, HU3, rfl, ⟨by have := HK.out; omega⟩⟩
    · obtain rfl : i = n := by omega
      have qin : decide ((i : Int) < i) = false := decide_eq_false (by omega)
      have HU3 : Aside0 (uvM 0 bs = .short) := ⟨by rw [HU.out, List.drop_of_length_le (by rw [HLN.out]; omega)]; rfl⟩
      go_wp2_with (fail)
      go_ret2
      exact ⟨⟨fun _ => rfl, fun x l h => (by rw [HU3.out] at h; cases h)⟩, rfl⟩
theorem var_lt : ∀ (k : Nat) (f : Bool) (bs : List Int) (x : Nat) (r : List Int), bytesB bs = true → Tpa.varP (k + 1) f bs = .ok x r → x < 128 ^ k * 2
  | k, f, [], x, r, hb, h => by cases h
  | k, f, b :: bs, x, r, hb, h => by
    have h0 := bytesB_mem hb b (List.mem_cons_self ..)
    unfold byt at h0
    have hd : Tpa.varP (k + 1) f (b :: bs) = (if (k = 0 ∧ 1 < b) ∨ (f = false ∧ b = 0) then Tpa.opnP else if b < 128 then Tpa.retP b.toNat else Tpa.bindP (Tpa.varP k false) fun x => Tpa.retP ((b - 128).toNat + 128 * x)) bs := rfl
    rw [hd] at h
    by_cases c : (k = 0 ∧ 1 < b) ∨ (f = false ∧ b = 0)
    · rw [if_pos c] at h; cases h
    · rw [if_neg c] at h
      by_cases c1 : b < 128
      · rw [if_pos c1] at h
        injection h with h1 h2
        cases k with
        | zero => simp; omega
        | succ k => have : 0 < 128 ^ k := Nat.pow_pos (by omega); rw [Nat.pow_succ]; omega
      · rw [if_neg c1] at h
        obtain ⟨a, r1, h1, h2⟩ := Tpa.bind_ok h
        injection h2 with h3 h4
        cases k with
        | zero => cases h1
        | succ k =>
          have ih := var_lt k false bs a r1 (bytesB_of fun z hz => bytesB_mem hb z (List.mem_cons_of_mem _ hz)) h1
          rw [Nat.pow_succ]
          omega
theorem unzz_odd (Z : Nat) (h : Z % 2 = 1) : Tpa.unzz Z = -((Z / 2 : Nat) : Int) - 1 := by unfold Tpa.unzz; rw [if_neg (by omega)]
theorem unzz_even (Z : Nat) (h : Z % 2 = 0) : Tpa.unzz Z = ((Z / 2 : Nat) : Int) := by unfold Tpa.unzz; rw [if_pos h]
set_option maxHeartbeats 4000000 in
theorem varint_of (A : Option Addr) (n c Z : Nat) (k : Int) (w : World) (hZ : Z < 18446744073709551616)
    (hU : Calls Tryd.prog 117 #[.slice A n c] w fun e w' => e = .returned (.tuple #[.int .u64 Z, .int .i64 k]) ∧ w = w') :
    Calls Tryd.prog 116 #[.slice A n c] w fun e w' => e = .returned (.tuple #[.int .i64 (Tpa.unzz Z), .int .i64 k]) ∧ w = w' := by
  have HPU := Aside0.mk hU
  clear hU
  by_cases c0 : Z % 2 = 1
  · rw [unzz_odd Z c0]
    have qand : bits .and .u64 (Z : Int) 1 = 1 := by
      rw [show (1 : Int) = ((2 ^ 1 - 1 : Nat) : Int) by decide, u64_and_nat _ _ (by omega) (by decide), Nat.and_two_pow_sub_one_eq_mod]; omega
    obtain ⟨h, hh⟩ : ∃ h, Z / 2 = h := ⟨_, rfl⟩
    have qh : (Z : Int) / 2 = (h : Int) := by omega
    have qw : IntKind.i64.wrap (h : Int) = (h : Int) := IntWalk.i64_in _ (by omega)
    have qn : bits .xor .i64 (-1) (h : Int) = -(h : Int) - 1 := by rw [xor_m1_i64 h (by omega)]; omega
    rw [hh]
    clear hh c0
    go_enter Tryd.func116, Tryd.ntmps116
    go_wp2_with (first
      | (go_at_call 117; go_loud (with_reducible refine HPU.out.mono ?_); rintro e w2 ⟨rfl, rfl⟩))
    go_ret2
    exact ⟨rfl, rfl⟩
  · rw [unzz_even Z (by omega)]
    have qand : bits .and .u64 (Z : Int) 1 = 0 := by
      rw [show (1 : Int) = ((2 ^ 1 - 1 : Nat) : Int) by decide, u64_and_nat _ _ (by omega) (by decide), Nat.and_two_pow_sub_one_eq_mod]; omega
    obtain ⟨h, hh⟩ : ∃ h, Z / 2 = h := ⟨_, rfl⟩
    have qh : (Z : Int) / 2 = (h : Int) := by omega
    have qw : IntKind.i64.wrap (h : Int) = (h : Int) := IntWalk.i64_in _ (by omega)
    rw [hh]
    clear hh c0
    go_enter Tryd.func116, Tryd.ntmps116
    go_wp2_with (first
      | (go_at_call 117; go_loud (with_reducible refine HPU.out.mono ?_); rintro e w2 ⟨rfl, rfl⟩))
    go_ret2
    exact ⟨rfl, rfl⟩
end Go.Proofs.YtcboegodjlfmnaaDoor.Tuv

namespace Go.Proofs.YtcboegodjlfmnaaDoor.Trm
open Go.Proofs.YtcboegodjlfmnaaDoor.Tuv Go.Proofs.YtcboegodjlfmnaaDoor.Tpa Go.Proofs.YtcboegodjlfmnaaDoor.Duv Go.Proofs.YtcboegodjlfmnaaDoor.Dpu Go.Proofs.YtcboegodjlfmnaaDoor.Pak Go.Proofs.YtcboegodjlfmnaaDoor.Buf Go.Proofs.YtcboegodjlfmnaaDoor.Fit Go.Proofs.YtcboegodjlfmnaaDoor.Bit Go.Proofs.YtcboegodjlfmnaaDoor.Wrd Go.Proofs.YtcboegodjlfmnaaDoor.Spl Go.Proofs.YtcboegodjlfmnaaDoor.Str Go.Proofs.YtcboegodjlfmnaaDoor.Flt Go.Proofs.YtcboegodjlfmnaaDoor.Owe Go.Proofs.YtcboegodjlfmnaaDoor.Num Go.Proofs.YtcboegodjlfmnaaDoor.Le Go.Proofs.YtcboegodjlfmnaaDoor.Lst Go.Proofs.YtcboegodjlfmnaaDoor.Aid Go.RowKit Go.Proofs.YtcboegodjlfmnaaDoorW.PrintWords Go.Proofs.YtcboegodjlfmnaaDoorW.PrintLast Go.Proofs.YtcboegodjlfmnaaDoorW.PrintMore
set_option linter.unusedVariables false
set_option linter.unusedSimpArgs false
structure RdAt (w : World) (g : Nat) (p : Value) (A : Option Addr) (n c o : Nat) : Prop where
  mk :: (blk : Blk w g #[p, .slice A n c, .int .i64 (o : Int)] 105) (apart : ∀ a, A = some a → a.block ≠ g)
structure Went (w w' : World) (g : Nat) (p : Value) (A : Option Addr) (n c o : Nat) : Prop where
  mk :: (grown : w.grownBy w' (some g)) (rd : RdAt w' g p A n c o)
theorem Blk.set2 {w : World} {g t : Nat} {a b x : Value} (h : Blk w g #[a, b, x] t) (y : Value) : Blk (w.setCell ⟨g, 2, none⟩ y) g #[a, b, y] t := by
  have := h.set 2 y
  simpa using this
theorem RdAt.set {w : World} {g : Nat} {p : Value} {A : Option Addr} {n c o o' : Nat} (h : RdAt w g p A n c o) : RdAt (w.setCell ⟨g, 2, none⟩ (.int .i64 (o' : Int))) g p A n c o' := ⟨Blk.set2 h.blk _, h.apart⟩
theorem RdAt.went {w w1 : World} {g : Nat} {p : Value} {A : Option Addr} {n c o o' : Nat} (h : RdAt w1 g p A n c o) (hw : Drawn0 w w1) : Went w (w1.setCell ⟨g, 2, none⟩ (.int .i64 (o' : Int))) g p A n c o' := by
  obtain ⟨k, rfl⟩ := hw.out
  exact ⟨grownSet (grownDrewN (grownRefl w (some g)) k) 2 _, h.set⟩
abbrev erV (q : Addr) : Value := .iface 167 (.pointer (some q))
structure Eofs (w : World) (g : Nat) (p1 p2 : Addr) : Prop where
  mk :: (one : w.cell? ⟨1, 0, none⟩ = some (erV p1)) (two : w.cell? ⟨2, 0, none⟩ = some (erV p2)) (ne : p1 ≠ p2) (b1 : ∃ c t, w.heap[p1.block]? = some (.cells c t (0, 0))) (b2 : ∃ c t, w.heap[p2.block]? = some (.cells c t (0, 0))) (g1 : 1 ≠ g) (g2 : 2 ≠ g) (g3 : p1.block ≠ g) (g4 : p2.block ≠ g)
theorem grown_old {w w' : World} {g b : Nat} (h : w.grownBy w' (some g)) (hb : b ≠ g) {o : Obj} (ho : w.heap[b]? = some o) : w'.heap[b]? = some o :=
  (h.block b (Array.getElem?_eq_some_iff.1 ho).1 (fun e => hb (Option.some.inj e))).trans ho
theorem grown_cell {w w' : World} {g : Nat} (h : w.grownBy w' (some g)) {a : Addr} (hb : a.block ≠ g) {v : Value} (ho : w.cell? a = some v) : w'.cell? a = some v :=
  (World.cell?_of_block (h.block a.block (block_lt_of_cell ho) (fun e => hb (Option.some.inj e)))).trans ho
theorem Eofs.grown {w w' : World} {g : Nat} {p1 p2 : Addr} (h : Eofs w g p1 p2) (k : w.grownBy w' (some g)) : Eofs w' g p1 p2 := by
  obtain ⟨c1, t1, e1⟩ := h.b1
  obtain ⟨c2, t2, e2⟩ := h.b2
  exact ⟨grown_cell k h.g1 h.one, grown_cell k h.g2 h.two, h.ne, ⟨c1, t1, grown_old k h.g3 e1⟩, ⟨c2, t2, grown_old k h.g4 e2⟩, h.g1, h.g2, h.g3, h.g4⟩
theorem grownAlloc0 (w : World) (g : Nat) (o : Obj) : w.grownBy (w.alloc o) (some g) := by
  refine ⟨rfl, rfl, rfl, ?_, fun k hk _ => Below.heap_alloc w o k hk⟩
  show w.heap.size ≤ (w.heap.push o).size
  simp
theorem Eofs.alloc {w : World} {g : Nat} {p1 p2 : Addr} (h : Eofs w g p1 p2) (o : Obj) : Eofs (w.alloc o) g p1 p2 := h.grown (grownAlloc0 w g o)
theorem RdAt.alloc {w : World} {g : Nat} {p : Value} {A : Option Addr} {n c o : Nat} (h : RdAt w g p A n c o) (x : Obj) : RdAt (w.alloc x) g p A n c o := ⟨h.blk.alloc x, h.apart⟩
theorem RdAt.far {w : World} {g : Nat} {p : Value} {A : Option Addr} {n c o : Nat} (h : RdAt w g p A n c o) {q : Addr} (hq : g ≠ q.block) (x : Value) : RdAt (w.setCell q x) g p A n c o := ⟨h.blk.far hq x, h.apart⟩
theorem RdAt.lt {w : World} {g : Nat} {p : Value} {A : Option Addr} {n c o : Nat} (h : RdAt w g p A n c o) : g < w.heap.size := h.blk.lt
theorem Went.trans {w w1 w2 : World} {g : Nat} {p : Value} {A : Option Addr} {n c o o2 : Nat} (h : Went w w1 g p A n c o) (k : Went w1 w2 g p A n c o2) : Went w w2 g p A n c o2 := ⟨h.grown.trans k.grown, k.rd⟩
def RdS (w w' : World) (g : Nat) : Prop := ∀ (p : Value) (A : Option Addr) (n c o : Nat), RdAt w g p A n c o → ∃ o', RdAt w' g p A n c o'
theorem RdS.trans {w w1 w2 : World} {g : Nat} (h : RdS w w1 g) (k : RdS w1 w2 g) : RdS w w2 g := fun p A n c o hR => by
  obtain ⟨o1, h1⟩ := h p A n c o hR
  exact k p A n c o1 h1
theorem grownC {w w1 : World} {g n : Nat} {A : Option Addr} {bs : List Int} (hC : (Kd.int .u8).C w A n bs) (k : w.grownBy w1 (some g)) (hA : ∀ a, A = some a → a.block ≠ g) : (Kd.int .u8).C w1 A n bs := by
  obtain ⟨h1, h2, h3⟩ := hC
  refine ⟨h1, h2, fun hp => ?_⟩
  obtain ⟨ad, rfl, h4⟩ := h3 hp
  refine ⟨ad, rfl, fun j x hj => ?_⟩
  obtain ⟨c, c1, c2, c3⟩ := h4 j x hj
  exact ⟨c, c1, c2, fun i u hu => grown_cell k (by rw [add_block]; exact hA ad rfl) (c3 i u hu)⟩
theorem wentC {w w1 : World} {g : Nat} {p : Value} {A : Option Addr} {n c o : Nat} {bs : List Int} (hC : (Kd.int .u8).C w A n bs) (h : Went w w1 g p A n c o) : (Kd.int .u8).C w1 A n bs := grownC hC h.grown h.rd.apart
theorem RdAt.goes {w : World} {g : Nat} {p : Value} {A : Option Addr} {n c o : Nat} (h : RdAt w g p A n c o) (k : Nat) (o' : Nat) (x : Int) (hx : x = (o' : Int)) : Went w ((w.drewN k).setCell ⟨g, 2, none⟩ (.int .i64 x)) g p A n c o' := by
  subst hx
  have h2 : RdAt (w.drewN k) g p A n c o := ⟨h.blk.drewN k, h.apart⟩
  exact ⟨grownSet (grownDrewN (grownRefl w (some g)) k) 2 _, h2.set⟩
theorem quietSame {P : Program} {f : FuncId} {args : Array Value} {w : World} {v : Value}
    (h : ∀ k, Calls P f args (w.drewN k) fun e w' => e = .returned v ∧ w.drewN k = w') (n : Nat) : Calls P f args (w.drewN n) fun e w'' => e = .returned v ∧ ∃ m, w'' = w.drewN m :=
  (h n).mono fun _ _ ⟨he, hm⟩ => ⟨he, n, hm.symm⟩
theorem wrap_i8 (n : Int) : IntKind.i8.wrap n = (n + 128) % 256 - 128 := by
  simp only [IntKind.wrap, IntKind.bits, IntKind.signed]; simp; split <;> omega
theorem wrap_i16 (n : Int) : IntKind.i16.wrap n = (n + 32768) % 65536 - 32768 := by
  simp only [IntKind.wrap, IntKind.bits, IntKind.signed]; simp; split <;> omega
theorem wrap8 (b : Int) (h0 : 0 ≤ b) (h1 : b < 256) : IntKind.i8.wrap b = s8 b := by
  unfold s8; rw [wrap_i8]
  by_cases c : b < 128
  · rw [if_pos c]; omega
  · rw [if_neg c]; omega
theorem byte_ok {bs r : List Int} {o : Nat} {b : Int} (h : byteP (bs.drop o) = .ok b r) : o < bs.length ∧ b = rd bs (o : Nat) ∧ r = bs.drop (o + 1) := by
  by_cases c : o < bs.length
  · rw [drop_cons bs o c] at h
    injection h with h1 h2
    exact ⟨c, h1.symm, h2.symm⟩
  · rw [List.drop_of_length_le (by omega)] at h; cases h
theorem uvar_okW (bs r : List Int) (x : Nat) (hb : bytesB bs = true) (h : varP 10 true bs = .ok x r) :
    ∃ l : Nat, 1 ≤ l ∧ l ≤ bs.length ∧ r = bs.drop l ∧ x < 18446744073709551616 ∧ ∀ (A : Option Addr) (n c : Nat) (w : World), (Kd.int .u8).C w A n bs → n ≤ c → n ≤ 2147483647 →
      Calls Tryd.prog 117 #[.slice A n c] w fun e w' => e = .returned (.tuple #[.int .u64 x, .int .i64 l]) ∧ w = w' := by
  obtain ⟨l, h1, h2, h3, h4⟩ := (uvM_of_var 10 0 true bs rfl).1 x r h
  refine ⟨l, h3, h4, h2, by have := var_lt 9 true bs x r hb h; simpa using this, fun A n c w hC hc hn => (uvAny_calls A n c bs w hC hc hn hb (by rw [h1]; intro h; cases h)).mono ?_⟩
  rintro e w' ⟨hr, rfl⟩
  exact ⟨hr.ok x l h1, rfl⟩
set_option maxHeartbeats 4000000 in
theorem readByte_ok (g : Nat) (p : Value) (A : Option Addr) (n c o : Nat) (bs : List Int) (w : World) (hR : RdAt w g p A n c o) (hC : (Kd.int .u8).C w A n bs) (hn : n ≤ 2147483647) (ho : o < n) :
    Calls Tryd.prog 111 #[.pointer (some ⟨g, 0, none⟩)] w fun e w' => e = .returned (.tuple #[.int .u8 (rd bs (o : Nat)), .nilIface]) ∧ Went w w' g p A n c (o + 1) := by
  have HR := Aside0.mk hR
  have hc0 := hR.blk.cell (j := 0) rfl
  have hc1 := hR.blk.cell (j := 1) rfl
  have hc2 := hR.blk.cell (j := 2) rfl
  have hfr := hR.blk.free 2
  obtain ⟨ad, ead, hcell⟩ := Kd.at_int hC (o : Int) (by omega) (by have := hC.1; omega)
  rw [Int.toNat_natCast] at hcell
  subst ead
  have q1 : decide ((n : Int) ≤ o) = false := decide_eq_false (by omega)
  have q2 : decide (n ≤ o) = false := decide_eq_false (by omega)
  have qin : decide ((o : Int) < n) = true := decide_eq_true (by omega)
  have qinn : decide (o < n) = true := decide_eq_true ho
  clear hR hC
  go_enter Tryd.func111, Tryd.ntmps111
  go_wp2_with (first
    | (go_quiet (fail)))
  go_ret2
  exact ⟨rfl, HR.out.goes _ _ _ (by push_cast; rfl)⟩
set_option maxHeartbeats 4000000 in
theorem readUvar_ok (g : Nat) (p : Value) (A : Option Addr) (n c o : Nat) (bs r : List Int) (x : Nat) (m : Int) (w : World) (hR : RdAt w g p A n c o) (hC : (Kd.int .u8).C w A n bs) (hc : n ≤ c) (hn : n ≤ 2147483647) (ho : o ≤ n) (hb : bytesB bs = true)
    (h : varP 10 true (bs.drop o) = .ok x r) (hm : (x : Int) ≤ m) (hm9 : m ≤ 2147483647) :
    ∃ o', o < o' ∧ o' ≤ n ∧ r = bs.drop o' ∧ ∀ s : ByteArray, Calls Tryd.prog 114 #[.pointer (some ⟨g, 0, none⟩), .string s, .int .u64 m] w fun e w' => e = .returned (.tuple #[.int .u64 x, .nilIface]) ∧ Went w w' g p A n c o' := by
  have HR := Aside0.mk hR
  have hln : bs.length = n := hC.1
  obtain ⟨l, hl1, hln2, hr, hx, hU⟩ := uvar_okW (bs.drop o) r x (bytesB_drop hb o) h
  rw [List.length_drop] at hln2
  refine ⟨o + l, by omega, by omega, by rw [hr, List.drop_drop], ?_⟩
  have hc0 := hR.blk.cell (j := 0) rfl
  have hc1 := hR.blk.cell (j := 1) rfl
  have hc2 := hR.blk.cell (j := 2) rfl
  have hfr := hR.blk.free 2
  obtain ⟨i8, h8⟩ := h8
  obtain ⟨A2, qcut, hC2⟩ := cutLo (P := Tryd.prog) 23 5 Tryd.underlying23 h8.1 h8.2 A n c .i64 (o : Int) o rfl ho hc
  have HU := Aside0.mk (quietSame (w := w) fun k => hU A2 (n - o) (c - o) (w.drewN k) (hC2 _ _ _ rfl (Kd.C_drewN hC k)) (by omega) (by omega))
  have q1 : ((l : Int) == 0) = false := by rw [beq_eq_false_iff_ne]; omega
  have q2 : decide ((l : Int) < 0) = false := decide_eq_false (by omega)
  have q3 : decide (m < (x : Int)) = false := decide_eq_false (by omega)
  have qw : IntKind.i64.wrap ((o : Int) + l) = (o : Int) + l := IntWalk.i64_in _ (by omega)
  obtain ⟨nn, hnn⟩ : ∃ y, n - o = y := ⟨_, rfl⟩
  obtain ⟨cc, hcc⟩ : ∃ y, c - o = y := ⟨_, rfl⟩
  rw [hnn, hcc] at HU
  rw [hnn, hcc] at qcut
  clear hR hC hU hr h hC2 hnn hcc hb hln
  intro s
  go_enter Tryd.func114, Tryd.ntmps114
  go_wp2_with (first
    | (go_quiet ((go_at_call 117; exact HU.out _))))
  go_ret2
  exact ⟨rfl, HR.out.goes _ _ _ (by push_cast; rfl)⟩
theorem zig_ok {m x : Int} {bs r : List Int} (h : zigP m bs = .ok x r) : ∃ z, varP 10 true bs = .ok z r ∧ unzz z = x ∧ -m ≤ x ∧ x < m := by
  obtain ⟨z, r1, h1, h2⟩ := bind_ok h
  by_cases c : -m ≤ unzz z ∧ unzz z < m
  · rw [if_pos c] at h2
    injection h2 with h3 h4
    subst h3 h4
    exact ⟨z, h1, rfl, c.1, c.2⟩
  · rw [if_neg c] at h2; cases h2
set_option maxHeartbeats 4000000 in
theorem readVar_ok (g : Nat) (p : Value) (A : Option Addr) (n c o : Nat) (bs r : List Int) (x m : Int) (w : World) (hR : RdAt w g p A n c o) (hC : (Kd.int .u8).C w A n bs) (hc : n ≤ c) (hn : n ≤ 2147483647) (ho : o ≤ n) (hb : bytesB bs = true)
    (h : zigP m (bs.drop o) = .ok x r) (hm0 : 0 < m) (hm9 : m ≤ 9223372036854775808) :
    ∃ o', o < o' ∧ o' ≤ n ∧ r = bs.drop o' ∧ ∀ s : ByteArray, Calls Tryd.prog 113 #[.pointer (some ⟨g, 0, none⟩), .string s, .int .i64 (-m), .int .i64 (m - 1)] w fun e w' => e = .returned (.tuple #[.int .i64 x, .nilIface]) ∧ Went w w' g p A n c o' := by
  have HR := Aside0.mk hR
  have hln : bs.length = n := hC.1
  obtain ⟨z, hz, hzx, hm1, hm2⟩ := zig_ok h
  obtain ⟨l, hl1, hln2, hr, hx, hU⟩ := uvar_okW (bs.drop o) r z (bytesB_drop hb o) hz
  rw [List.length_drop] at hln2
  refine ⟨o + l, by omega, by omega, by rw [hr, List.drop_drop], ?_⟩
  have hc0 := hR.blk.cell (j := 0) rfl
  have hc1 := hR.blk.cell (j := 1) rfl
  have hc2 := hR.blk.cell (j := 2) rfl
  have hfr := hR.blk.free 2
  obtain ⟨i8, h8⟩ := h8
  obtain ⟨A2, qcut, hC2⟩ := cutLo (P := Tryd.prog) 23 5 Tryd.underlying23 h8.1 h8.2 A n c .i64 (o : Int) o rfl ho hc
  have HU := Aside0.mk (quietSame (w := w) fun k => varint_of A2 (n - o) (c - o) z (l : Int) (w.drewN k) hx (hU A2 (n - o) (c - o) (w.drewN k) (hC2 _ _ _ rfl (Kd.C_drewN hC k)) (by omega) (by omega)))
  rw [hzx] at HU
  have q1 : ((l : Int) == 0) = false := by rw [beq_eq_false_iff_ne]; omega
  have q2 : decide ((l : Int) < 0) = false := decide_eq_false (by omega)
  obtain ⟨lo, hlo⟩ : ∃ y, -m = y := ⟨_, rfl⟩
  obtain ⟨hi, hhi⟩ : ∃ y, m - 1 = y := ⟨_, rfl⟩
  rw [hlo, hhi]
  have q3 : decide (x < lo) = false := decide_eq_false (by omega)
  have q4 : decide (hi < x) = false := decide_eq_false (by omega)
  have qw : IntKind.i64.wrap ((o : Int) + l) = (o : Int) + l := IntWalk.i64_in _ (by omega)
  obtain ⟨nn, hnn⟩ : ∃ y, n - o = y := ⟨_, rfl⟩
  obtain ⟨cc, hcc⟩ : ∃ y, c - o = y := ⟨_, rfl⟩
  rw [hnn, hcc] at HU
  rw [hnn, hcc] at qcut
  clear hR hC hU hr h hC2 hnn hcc hb hln hz hzx hx hm0 hm9 hm1 hm2 hlo hhi
  intro s
  go_enter Tryd.func113, Tryd.ntmps113
  go_wp2_with (first
    | (go_quiet ((go_at_call 116; exact HU.out _))))
  go_ret2
  exact ⟨rfl, HR.out.goes _ _ _ (by push_cast; rfl)⟩
set_option maxHeartbeats 4000000 in
theorem readInt8_ok (g : Nat) (p : Value) (A : Option Addr) (n c o : Nat) (bs : List Int) (w : World) (hR : RdAt w g p A n c o) (hC : (Kd.int .u8).C w A n bs) (hb : bytesB bs = true) (hn : n ≤ 2147483647) (ho : o < n) :
    Calls Tryd.prog 102 #[.pointer (some ⟨g, 0, none⟩)] w fun e w' => e = .returned (.tuple #[.int .i8 (s8 (rd bs (o : Nat))), .nilIface]) ∧ Went w w' g p A n c (o + 1) := by
  have H := Aside0.mk (readByte_ok g p A n c o bs w hR hC hn ho)
  have hby := bytesB_rd hb (i := (o : Int)) (k := o) rfl (by have := hC.1; omega)
  obtain ⟨b, hb2⟩ : ∃ b, rd bs (o : Nat) = b := ⟨_, rfl⟩
  rw [hb2] at H hby ⊢
  have qw : IntKind.i8.wrap b = s8 b := wrap8 b hby.1 hby.2
  clear hR hC hb hb2 hby
  go_enter Tryd.func102, Tryd.ntmps102
  go_wp2_with (first
    | (go_at_call 111; go_loud (with_reducible refine H.out.mono ?_); rintro e w2 ⟨rfl, HW⟩))
  go_ret2
  refine ⟨?_, HW⟩
  rw [← qw]; rfl
set_option maxHeartbeats 4000000 in
theorem readInt16_ok (g : Nat) (p : Value) (A : Option Addr) (n c o : Nat) (bs r : List Int) (x : Int) (w : World) (hR : RdAt w g p A n c o) (hC : (Kd.int .u8).C w A n bs) (hc : n ≤ c) (hn : n ≤ 2147483647) (ho : o ≤ n) (hb : bytesB bs = true)
    (h : zigP 32768 (bs.drop o) = .ok x r) :
    ∃ o', o < o' ∧ o' ≤ n ∧ r = bs.drop o' ∧ Calls Tryd.prog 99 #[.pointer (some ⟨g, 0, none⟩)] w fun e w' => e = .returned (.tuple #[.int .i16 x, .nilIface]) ∧ Went w w' g p A n c o' := by
  obtain ⟨o', h1, h2, h3, h4⟩ := readVar_ok g p A n c o bs r x 32768 w hR hC hc hn ho hb h (by omega) (by omega)
  refine ⟨o', h1, h2, h3, ?_⟩
  rw [show (32768 : Int) - 1 = 32767 from rfl] at h4
  have H := Aside0.mk h4
  obtain ⟨z, _, _, hm1, hm2⟩ := zig_ok h
  have qw : IntKind.i16.wrap x = x := by exact IntWalk.i16_in _ (by omega)
  clear hR hC h4 h3 h hb hm1 hm2
  go_enter Tryd.func99, Tryd.ntmps99
  go_wp2_with (first
    | (go_at_call 113; go_loud (with_reducible refine (H.out _).mono ?_); rintro e w2 ⟨rfl, HW⟩))
  go_ret2
  exact ⟨by first | rfl | (show Ending.returned (Value.tuple #[Value.int IntKind.i16 (IntKind.i16.wrap x), _]) = _; rw [qw]), HW⟩
set_option maxHeartbeats 4000000 in
theorem readInt32_ok (g : Nat) (p : Value) (A : Option Addr) (n c o : Nat) (bs r : List Int) (x : Int) (w : World) (hR : RdAt w g p A n c o) (hC : (Kd.int .u8).C w A n bs) (hc : n ≤ c) (hn : n ≤ 2147483647) (ho : o ≤ n) (hb : bytesB bs = true)
    (h : zigP 2147483648 (bs.drop o) = .ok x r) :
    ∃ o', o < o' ∧ o' ≤ n ∧ r = bs.drop o' ∧ Calls Tryd.prog 100 #[.pointer (some ⟨g, 0, none⟩)] w fun e w' => e = .returned (.tuple #[.int .i32 x, .nilIface]) ∧ Went w w' g p A n c o' := by
  obtain ⟨o', h1, h2, h3, h4⟩ := readVar_ok g p A n c o bs r x 2147483648 w hR hC hc hn ho hb h (by omega) (by omega)
  refine ⟨o', h1, h2, h3, ?_⟩
  rw [show (2147483648 : Int) - 1 = 2147483647 from rfl] at h4
  have H := Aside0.mk h4
  obtain ⟨z, _, _, hm1, hm2⟩ := zig_ok h
  have qw : IntKind.i32.wrap x = x := by exact IntWalk.i32_in _ (by omega)
  clear hR hC h4 h3 h hb hm1 hm2
  go_enter Tryd.func100, Tryd.ntmps100
  go_wp2_with (first
    | (go_at_call 113; go_loud (with_reducible refine (H.out _).mono ?_); rintro e w2 ⟨rfl, HW⟩))
  go_ret2
  exact ⟨by first | rfl | (show Ending.returned (Value.tuple #[Value.int IntKind.i32 (IntKind.i32.wrap x), _]) = _; rw [qw]), HW⟩
set_option maxHeartbeats 4000000 in
theorem readInt64_ok (g : Nat) (p : Value) (A : Option Addr) (n c o : Nat) (bs r : List Int) (x : Int) (w : World) (hR : RdAt w g p A n c o) (hC : (Kd.int .u8).C w A n bs) (hc : n ≤ c) (hn : n ≤ 2147483647) (ho : o ≤ n) (hb : bytesB bs = true)
    (h : zigP 9223372036854775808 (bs.drop o) = .ok x r) :
    ∃ o', o < o' ∧ o' ≤ n ∧ r = bs.drop o' ∧ Calls Tryd.prog 101 #[.pointer (some ⟨g, 0, none⟩)] w fun e w' => e = .returned (.tuple #[.int .i64 x, .nilIface]) ∧ Went w w' g p A n c o' := by
  obtain ⟨o', h1, h2, h3, h4⟩ := readVar_ok g p A n c o bs r x 9223372036854775808 w hR hC hc hn ho hb h (by omega) (by omega)
  refine ⟨o', h1, h2, h3, ?_⟩
  rw [show (9223372036854775808 : Int) - 1 = 9223372036854775807 from rfl] at h4
  have H := Aside0.mk h4
  obtain ⟨z, _, _, hm1, hm2⟩ := zig_ok h
  have qw : IntKind.i64.wrap x = x := by exact IntWalk.i64_in _ (by omega)
  clear hR hC h4 h3 h hb hm1 hm2
  go_enter Tryd.func101, Tryd.ntmps101
  go_wp2_with (first
    | (go_at_call 113; go_loud (with_reducible refine (H.out _).mono ?_); rintro e w2 ⟨rfl, HW⟩))
  go_ret2
  exact ⟨by first | rfl | (show Ending.returned (Value.tuple #[Value.int IntKind.i64 (IntKind.i64.wrap x), _]) = _; rw [qw]), HW⟩
set_option maxHeartbeats 4000000 in
theorem readLength_ok (g : Nat) (p : Value) (A : Option Addr) (n c o : Nat) (bs r : List Int) (x : Nat) (w : World) (hR : RdAt w g p A n c o) (hC : (Kd.int .u8).C w A n bs) (hc : n ≤ c) (hn : n ≤ 2147483647) (ho : o ≤ n) (hb : bytesB bs = true)
    (h : varP 10 true (bs.drop o) = .ok x r) (hx : x ≤ 2147483647) :
    ∃ o', o < o' ∧ o' ≤ n ∧ r = bs.drop o' ∧ Calls Tryd.prog 103 #[.pointer (some ⟨g, 0, none⟩)] w fun e w' => e = .returned (.tuple #[.int .i64 x, .nilIface]) ∧ Went w w' g p A n c o' := by
  obtain ⟨o', h1, h2, h3, h4⟩ := readUvar_ok g p A n c o bs r x 2147483647 w hR hC hc hn ho hb h (by omega) (by omega)
  refine ⟨o', h1, h2, h3, ?_⟩
  have H := Aside0.mk h4
  have qw : IntKind.i64.wrap (x : Int) = (x : Int) := IntWalk.i64_in _ (by omega)
  clear hR hC h4 h3 h hb
  go_enter Tryd.func103, Tryd.ntmps103
  go_wp2_with (first
    | (go_at_call 114; go_loud (with_reducible refine (H.out _).mono ?_); rintro e w2 ⟨rfl, HW⟩))
  go_ret2
  exact ⟨rfl, HW⟩
end Go.Proofs.YtcboegodjlfmnaaDoor.Trm

namespace Go.Proofs.YtcboegodjlfmnaaDoor.Trn
open Go.Proofs.YtcboegodjlfmnaaDoor.Trm Go.Proofs.YtcboegodjlfmnaaDoor.Tuv Go.Proofs.YtcboegodjlfmnaaDoor.Tpa Go.Proofs.YtcboegodjlfmnaaDoor.Duv Go.Proofs.YtcboegodjlfmnaaDoor.Dpu Go.Proofs.YtcboegodjlfmnaaDoor.Pak Go.Proofs.YtcboegodjlfmnaaDoor.Buf Go.Proofs.YtcboegodjlfmnaaDoor.Fit Go.Proofs.YtcboegodjlfmnaaDoor.Bit Go.Proofs.YtcboegodjlfmnaaDoor.Wrd Go.Proofs.YtcboegodjlfmnaaDoor.Spl Go.Proofs.YtcboegodjlfmnaaDoor.Str Go.Proofs.YtcboegodjlfmnaaDoor.Flt Go.Proofs.YtcboegodjlfmnaaDoor.Owe Go.Proofs.YtcboegodjlfmnaaDoor.Num Go.Proofs.YtcboegodjlfmnaaDoor.Le Go.Proofs.YtcboegodjlfmnaaDoor.Lst Go.Proofs.YtcboegodjlfmnaaDoor.Aid Go.RowKit Go.Proofs.YtcboegodjlfmnaaDoorW.PrintWords Go.Proofs.YtcboegodjlfmnaaDoorW.PrintLast Go.Proofs.YtcboegodjlfmnaaDoorW.PrintMore
set_option linter.unusedVariables false
set_option linter.unusedSimpArgs false
theorem quietCall2 {P : Program} {f : FuncId} {args : Array Value} {w : World} {a b : Nat} {v : Value}
    (h : Calls P f args (w.drewN (a + b)) fun e w' => e = .returned v ∧ Drawn0 (w.drewN (a + b)) w') : Calls P f args (w.drewN (a + b)) fun e w'' => e = .returned v ∧ ∃ m, w'' = w.drewN (a + m) :=
  h.mono fun _ _ ⟨he, ⟨m, hm⟩⟩ => ⟨he, b + m, by rw [hm, World.drewN_drewN, Nat.add_assoc]⟩
theorem le8L_take (l : List Int) (h : 8 ≤ l.length) : le8L (l.take 8) = le8L l := by
  match l, h with
  | a0 :: a1 :: a2 :: a3 :: a4 :: a5 :: a6 :: a7 :: r, _ => rfl
theorem take_ok {k : Nat} {bs l r : List Int} {o : Nat} (h : takeP k (bs.drop o) = .ok l r) (ho : o ≤ bs.length) : o + k ≤ bs.length ∧ l = (bs.drop o).take k ∧ r = bs.drop (o + k) := by
  unfold takeP at h
  by_cases c : k ≤ (bs.drop o).length
  · rw [if_pos c] at h
    injection h with h1 h2
    rw [List.length_drop] at c
    exact ⟨by omega, h1.symm, by rw [← h2, List.drop_drop]⟩
  · rw [if_neg c] at h; cases h
set_option maxHeartbeats 4000000 in
theorem readFloat_ok (g : Nat) (p : Value) (A : Option Addr) (n c o : Nat) (bs : List Int) (w : World) (hR : RdAt w g p A n c o) (hC : (Kd.int .u8).C w A n bs) (hc : n ≤ c) (hb : bytesB bs = true) (hn : n ≤ 2147483647) (ho : o + 8 ≤ n) :
    Calls Tryd.prog 98 #[.pointer (some ⟨g, 0, none⟩)] w fun e w' => e = .returned (.tuple #[.float .f64 (eightN ((bs.drop o).take 8)), .nilIface]) ∧ Went w w' g p A n c (o + 8) := by
  have HR := Aside0.mk hR
  have hln : bs.length = n := hC.1
  have hc0 := hR.blk.cell (j := 0) rfl
  have hc1 := hR.blk.cell (j := 1) rfl
  have hc2 := hR.blk.cell (j := 2) rfl
  have hfr := hR.blk.free 2
  obtain ⟨i8, h8⟩ := h8
  obtain ⟨A2, qcut, hC2⟩ := cutLo (P := Tryd.prog) 23 5 Tryd.underlying23 h8.1 h8.2 A n c .i64 (o : Int) o rfl (by omega) hc
  have HC := Aside0.mk hC
  have HLE := Aside0.mk fun (W : World) (hW : (Kd.int .u8).C W A n bs) => pqthrift_leUint64.calls' A2 (n - o) (c - o) (bs.drop o) W (hC2 _ _ _ rfl hW) (by omega) (by omega) (bytesB_drop hb o)
  have h8L : 8 ≤ (bs.drop o).length := by rw [List.length_drop]; omega
  have hv0 : 0 ≤ le8L (bs.drop o) := by
    have b1 := le4L_bd (bytesB_drop hb o) (by omega)
    have b2 := le4L_bd (bytesB_drop (bytesB_drop hb o) 4) (by rw [List.length_drop]; omega)
    unfold le8L; omega
  rw [show eightN ((bs.drop o).take 8) = (le8L (bs.drop o)).toNat by unfold eightN; rw [le8L_take _ h8L]]
  obtain ⟨y, hy⟩ : ∃ y, le8L (bs.drop o) = y := ⟨_, rfl⟩
  rw [hy] at HLE hv0 ⊢
  obtain ⟨q, hq⟩ : ∃ q, y.toNat = q := ⟨_, rfl⟩
  have hff : ∀ W : World, (callFunc 43 #[.int .u64 y]).run Tryd.prog W = .ok (.value (.float .f64 q)) W := by rw [← hq]; exact float64frombits_run y hv0
  rw [hq]
  have q1 : decide ((n : Int) < (o : Int) + 8) = false := decide_eq_false (by omega)
  have qw : IntKind.i64.wrap ((o : Int) + 8) = (o : Int) + 8 := IntWalk.i64_in _ (by omega)
  obtain ⟨nn, hnn⟩ : ∃ y, n - o = y := ⟨_, rfl⟩
  obtain ⟨cc, hcc⟩ : ∃ y, c - o = y := ⟨_, rfl⟩
  rw [hnn, hcc] at HLE
  rw [hnn, hcc] at qcut
  clear hR hC hC2 hnn hcc hb hln hy hq h8L hv0
  go_enter Tryd.func98, Tryd.ntmps98
  go_wp2_with (go_quiet (fail))
  go_quiet ((go_at_call 112; go_loud (exact quietCall2 (HLE.out _ (Kd.C_drewN HC.out _)))))
  go_wp2_with (go_quiet (fail))
  go_ret2
  exact ⟨rfl, HR.out.goes _ _ _ (by push_cast; rfl)⟩
end Go.Proofs.YtcboegodjlfmnaaDoor.Trn

namespace Go.Proofs.YtcboegodjlfmnaaDoor.Trh
open Go.Proofs.YtcboegodjlfmnaaDoor.Trn Go.Proofs.YtcboegodjlfmnaaDoor.Trm Go.Proofs.YtcboegodjlfmnaaDoor.Tuv Go.Proofs.YtcboegodjlfmnaaDoor.Tpa Go.Proofs.YtcboegodjlfmnaaDoor.Duv Go.Proofs.YtcboegodjlfmnaaDoor.Dpu Go.Proofs.YtcboegodjlfmnaaDoor.Pak Go.Proofs.YtcboegodjlfmnaaDoor.Buf Go.Proofs.YtcboegodjlfmnaaDoor.Fit Go.Proofs.YtcboegodjlfmnaaDoor.Bit Go.Proofs.YtcboegodjlfmnaaDoor.Wrd Go.Proofs.YtcboegodjlfmnaaDoor.Spl Go.Proofs.YtcboegodjlfmnaaDoor.Str Go.Proofs.YtcboegodjlfmnaaDoor.Flt Go.Proofs.YtcboegodjlfmnaaDoor.Owe Go.Proofs.YtcboegodjlfmnaaDoor.Num Go.Proofs.YtcboegodjlfmnaaDoor.Le Go.Proofs.YtcboegodjlfmnaaDoor.Lst Go.Proofs.YtcboegodjlfmnaaDoor.Aid Go.RowKit Go.Proofs.YtcboegodjlfmnaaDoorW.PrintWords Go.Proofs.YtcboegodjlfmnaaDoorW.PrintLast Go.Proofs.YtcboegodjlfmnaaDoorW.PrintMore
set_option linter.unusedVariables false
set_option linter.unusedSimpArgs false
theorem keepBlk {w w1 : World} {g b t : Nat} {cs : Array Value} (h : Blk w b cs t) (k : w.grownBy w1 (some g)) (hne : b ≠ g) : Blk w1 b cs t := ⟨grown_old k hne h.out⟩
theorem and15 (b : Int) (h0 : 0 ≤ b) (h1 : b < 256) : bits .and .u8 b 15 = b % 16 := by
  obtain ⟨y, rfl⟩ : ∃ y : Nat, b = (y : Int) := ⟨b.toNat, by omega⟩
  rw [show (15 : Int) = ((2 ^ 4 - 1 : Nat) : Int) by decide, (bits_nat .u8 8 (by decide) (fun n h0 h1 => IntWalk.u8_in n (by omega)) y (2 ^ 4 - 1) (by omega) (by decide)).1, Nat.and_two_pow_sub_one_eq_mod]
  omega
theorem grownSetNew {w w1 : World} {row : Option Nat} {b j : Nat} (h : w.grownBy w1 row) (hb : w.heap.size ≤ b) (u : Value) : w.grownBy (w1.setCell ⟨b, j, none⟩ u) row := by
  refine ⟨h.os, h.tape, h.output, ?_, fun k hk hne => (Below.heap_setCell w1 _ u k (by show k ≠ b; omega)).trans (h.block k hk hne)⟩
  show w.heap.size ≤ (w1.setCell ⟨b, j, none⟩ u).heap.size
  have : (w1.setCell ⟨b, j, none⟩ u).heap.size = w1.heap.size := by simp [World.setCell]
  rw [this]; exact h.size
theorem _root_.Go.Proofs.YtcboegodjlfmnaaDoor.Trm.Went.setNew {w w1 : World} {g : Nat} {p : Value} {A : Option Addr} {n c o : Nat} (h : Went w w1 g p A n c o) {b j : Nat} (hb : w.heap.size ≤ b) (hg : g ≠ b) (u : Value) : Went w (w1.setCell ⟨b, j, none⟩ u) g p A n c o :=
  ⟨grownSetNew h.grown hb u, h.rd.far hg u⟩
theorem _root_.Go.Proofs.YtcboegodjlfmnaaDoor.Trm.Went.ofAlloc {w w1 : World} {g : Nat} {p : Value} {A : Option Addr} {n c o : Nat} {x : Obj} (h : Went (w.alloc x) w1 g p A n c o) : Went w w1 g p A n c o := ⟨(grownAlloc0 w g x).trans h.grown, h.rd⟩
theorem ret_cell_tmp {P : Program} {fn : Func} {p u : Tmp} {ty : TypeId} (h : fn.results = #[.cell p ty, .tmp u]) (tmps : Array Value) (w : World) (g : Nat) (t : TypeId) (cs : Array Value) (fr : Nat × Nat) (d : TypeDesc)
    (hp : tmps.getD p undef = .pointer (some ⟨g, 0, none⟩)) (hg : w.heap[g]? = some (.cells cs t fr))
    (hu : P.underlying ty = some d) (hd : (match d with | .struct _ | .array _ _ => true | _ => false) = true) (hi : (P.info? ty).map (·.size) = some cs.size) :
    (results fn tmps).run P w = .ok (.tuple #[.agg cs, tmps.getD u undef]) w := by
  have hp' : tmps[p]?.getD undef = .pointer (some ⟨g, 0, none⟩) := by simpa using hp
  simp [results, h, hp', asAddr, run_loadVar_row w g t ty cs fr d hg hu hd hi]
theorem _root_.Go.Proofs.YtcboegodjlfmnaaDoor.Aid.Blk.two {w : World} {g t : Nat} {a b : Value} (h : Blk w g #[a, b] t) (x y : Value) : Blk ((w.setCell ⟨g, 0, none⟩ x).setCell ⟨g, 1, none⟩ y) g #[x, y] t := by
  have := (h.set 0 x).set 1 y
  simpa using this
theorem _root_.Go.Proofs.YtcboegodjlfmnaaDoor.Aid.Blk.three {w : World} {g t : Nat} {a b c : Value} (h : Blk w g #[a, b, c] t) (x y z : Value) : Blk (((w.setCell ⟨g, 0, none⟩ x).setCell ⟨g, 1, none⟩ y).setCell ⟨g, 2, none⟩ z) g #[x, y, z] t := by
  have := ((h.set 0 x).set 1 y).set 2 z
  simpa using this
theorem off_uniq {bs r : List Int} {a b : Nat} (h1 : r = bs.drop a) (h2 : r = bs.drop b) (ha : a ≤ bs.length) (hb : b ≤ bs.length) : a = b := by
  have e1 := congrArg List.length h1
  have e2 := congrArg List.length h2
  rw [List.length_drop] at e1 e2
  omega
theorem good_off {α : Type} {q : Psr α} (hq : Tpa.Good q) {bs r : List Int} {o : Nat} {v : α} (h : q (bs.drop o) = .ok v r) (ho : o ≤ bs.length) : ∃ o', o ≤ o' ∧ o' ≤ bs.length ∧ r = bs.drop o' := by
  obtain ⟨m, h1, h2, _⟩ := good_suffix hq h
  rw [List.length_drop] at h1
  exact ⟨o + m, by omega, by omega, by rw [h2, List.drop_drop]⟩
theorem tyE : Tryd.prog.underlying 62 = some (.interface (Tryd.prog.methodsAt 62)) := by kernel_rfl
theorem esPtr : Tryd.prog.underlying 167 = some (.pointer 169) := by kernel_rfl
set_option maxHeartbeats 4000000 in
set_option maxRecDepth 100000 in
theorem readList_ok (g : Nat) (p : Value) (A : Option Addr) (n c o : Nat) (bs r : List Int) (m : Nat) (el : Int) (w : World) (hR : RdAt w g p A n c o) (hC : (Kd.int .u8).C w A n bs) (hc : n ≤ c) (hn : n ≤ 2147483647) (ho : o ≤ n) (hb : bytesB bs = true)
    (h : lhP (bs.drop o) = .ok (m, el) r) :
    ∃ o', o < o' ∧ o' ≤ n ∧ r = bs.drop o' ∧ m ≤ 1000 ∧ 3 ≤ el ∧ el ≤ 12 ∧ Calls Tryd.prog 104 #[.pointer (some ⟨g, 0, none⟩)] w fun e w' => e = .returned (.tuple #[.agg #[.int .i32 m, .int .i8 el], .nilIface]) ∧ Went w w' g p A n c o' := by
  have hln : bs.length = n := hC.1
  obtain ⟨b, r1, h1, h2⟩ := bind_ok h
  obtain ⟨k1, k2, k3⟩ := byte_ok h1
  subst k3
  have hby := bytesB_rd hb (i := (o : Int)) (k := o) rfl k1
  rw [← k2] at hby
  have hob : o < n := by omega
  have HB := Aside0.mk fun (W : World) (hW : RdAt W g p A n c o) (hCW : (Kd.int .u8).C W A n bs) => readByte_ok g p A n c o bs W hW hCW hn hob
  rw [← k2] at HB
  have HR := Aside0.mk hR
  have HC := Aside0.mk hC
  unfold byt at hby
  by_cases c1 : b % 16 < 3 ∨ 12 < b % 16
  · rw [if_pos c1] at h2; cases h2
  rw [if_neg c1] at h2
  have q2 : bits .and .u8 b 15 = el := by
    rw [and15 b hby.1 hby.2]
    by_cases c2 : b / 16 = 15
    · rw [if_pos c2] at h2
      obtain ⟨m', r2, h3, h4⟩ := bind_ok h2
      injection h4 with h5 h6
      injection h5
    · rw [if_neg c2] at h2
      injection h2 with h3 h4
      injection h3
  have hel : b % 16 = el := by rw [← q2, and15 b hby.1 hby.2]
  have hgl := hR.lt
  by_cases c2 : b / 16 = 15
  · rw [if_pos c2] at h2
    obtain ⟨m', r2, h3, h4⟩ := bind_ok h2
    injection h4 with h5 h6
    injection h5 with h7 h8
    obtain ⟨m2, r3, h9, h10⟩ := bind_ok h3
    by_cases c3 : 1000 < m2
    · rw [if_pos c3] at h10; cases h10
    rw [if_neg c3] at h10
    injection h10 with h11 h12
    subst h11 h7 h6 h12
    obtain ⟨oo, e1, e2, e3⟩ := good_off (good_var _ _) h9 (by omega)
    have HU := Aside0.mk fun (W : World) (hW : RdAt W g p A n c (o + 1)) (hCW : (Kd.int .u8).C W A n bs) (s : ByteArray) => by
      obtain ⟨o', d1, d2, d3, d4⟩ := readUvar_ok g p A n c (o + 1) bs r3 m2 2147483647 W hW hCW hc hn (by omega) hb h9 (by omega) (by omega)
      obtain rfl := off_uniq d3 e3 (by omega) (by omega)
      exact d4 s
    refine ⟨oo, by omega, by omega, e3, by omega, by omega, by omega, ?_⟩
    have q1 : (b / 16 != 15) = false := by rw [bne_eq_false_iff_eq]; exact c2
    have qw : IntKind.i32.wrap (m2 : Int) = (m2 : Int) := IntWalk.i32_in _ (by omega)
    clear hR hC h h1 h3 h9 k1 k2 c1 hb e3
    go_enter Tryd.func104, Tryd.ntmps104
    go_wp2_with (first
      | (go_at_call 111; go_loud (with_reducible refine (HB.out _ (HR.out.alloc _) (Kd.C_alloc HC.out _)).mono ?_); rintro e w1 ⟨rfl, HW⟩)
      | (go_at_call 114; go_loud (with_reducible refine (HU.out _ HW.rd (wentC (Kd.C_alloc HC.out _) HW) _).mono ?_); rintro e w2 ⟨rfl, HW2⟩; have hB := keepBlk (keepBlk (Blk.new w #[.int .i32 0, .int .i8 0] 123) HW.grown (by omega)) HW2.grown (by omega); have hb0 := hB.cell (j := 0) rfl; have hb1 := hB.cell (j := 1) rfl; have hf0 := hB.free 0; have hf1 := hB.free 1; have HB2 := Aside0.mk hB; clear hB))
    refine bodyPost_ret (ret_cell_tmp rfl _ _ w.heap.size 123 #[_, _] (0, 0) _ rfl (HB2.out.two _ _).out Tryd.underlying123 rfl (by kernel_rfl)) rfl ?_
    refine ⟨by rfl, ?_⟩
    exact ((HW.trans HW2).ofAlloc.setNew (Nat.le_refl _) (by omega) _).setNew (Nat.le_refl _) (by omega) _
  · rw [if_neg c2] at h2
    injection h2 with h3 h4
    injection h3 with h5 h6
    refine ⟨o + 1, by omega, by omega, h4.symm, by omega, by omega, by omega, ?_⟩
    have q1 : (b / 16 != 15) = true := by rw [bne_iff_ne]; omega
    have q3 : b / 16 = (m : Int) := by omega
    clear hR hC h h1 h4 k1 k2 c1 c2 hb h5 h6
    go_enter Tryd.func104, Tryd.ntmps104
    go_wp2_with (first
      | (go_at_call 111; go_loud (with_reducible refine (HB.out _ (HR.out.alloc _) (Kd.C_alloc HC.out _)).mono ?_); rintro e w2 ⟨rfl, HW⟩; have hB := keepBlk (Blk.new w #[.int .i32 0, .int .i8 0] 123) HW.grown (by omega); have hb0 := hB.cell (j := 0) rfl; have hb1 := hB.cell (j := 1) rfl; have hf0 := hB.free 0; have hf1 := hB.free 1; have HB2 := Aside0.mk hB; clear hB))
    refine bodyPost_ret (ret_cell_tmp rfl _ _ w.heap.size 123 #[_, _] (0, 0) _ rfl (HB2.out.two _ _).out Tryd.underlying123 rfl (by kernel_rfl)) rfl ?_
    refine ⟨by rfl, ?_⟩
    exact (HW.ofAlloc.setNew (Nat.le_refl _) (by omega) _).setNew (Nat.le_refl _) (by omega) _
set_option maxHeartbeats 4000000 in
set_option maxRecDepth 100000 in
theorem readMap_ok (g : Nat) (p : Value) (A : Option Addr) (n c o : Nat) (bs r : List Int) (m : Nat) (ky el : Int) (w : World) (hR : RdAt w g p A n c o) (hC : (Kd.int .u8).C w A n bs) (hc : n ≤ c) (hn : n ≤ 2147483647) (ho : o ≤ n) (hb : bytesB bs = true)
    (h : mhP (bs.drop o) = .ok (m, ky, el) r) :
    ∃ o', o < o' ∧ o' ≤ n ∧ r = bs.drop o' ∧ m ≤ 500 ∧ (m = 0 → ky = 0 ∧ el = 0) ∧ (m ≠ 0 → 3 ≤ ky ∧ ky ≤ 12 ∧ 3 ≤ el ∧ el ≤ 12) ∧ Calls Tryd.prog 105 #[.pointer (some ⟨g, 0, none⟩)] w fun e w' => e = .returned (.tuple #[.agg #[.int .i32 m, .int .i8 ky, .int .i8 el], .nilIface]) ∧ Went w w' g p A n c o' := by
  have hln : bs.length = n := hC.1
  have HR := Aside0.mk hR
  have HC := Aside0.mk hC
  have hgl := hR.lt
  obtain ⟨m2, r1, h1, h2⟩ := bind_ok h
  obtain ⟨m3, r3, h9, h10⟩ := bind_ok h1
  by_cases c3 : 500 < m3
  · rw [if_pos c3] at h10; cases h10
  rw [if_neg c3] at h10
  injection h10 with h11 h12
  subst h11 h12
  obtain ⟨o1, d1, d2, d3, _⟩ := readUvar_ok g p A n c o bs r3 m3 2147483647 w hR hC hc hn ho hb h9 (by omega) (by omega)
  have HU := Aside0.mk fun (W : World) (hW : RdAt W g p A n c o) (hCW : (Kd.int .u8).C W A n bs) (s : ByteArray) => by
    obtain ⟨o', e1, e2, e3, e4⟩ := readUvar_ok g p A n c o bs r3 m3 2147483647 W hW hCW hc hn ho hb h9 (by omega) (by omega)
    obtain rfl := off_uniq e3 d3 (by omega) (by omega)
    exact e4 s
  by_cases c0 : m3 = 0
  · rw [if_pos c0] at h2
    injection h2 with h3 h4
    injection h3 with h5 h6
    injection h6 with h7 h8
    subst h5 h7 h8 c0
    refine ⟨o1, d1, d2, by rw [← h4, d3], by omega, fun _ => ⟨rfl, rfl⟩, fun hh => absurd rfl hh, ?_⟩
    have q1 : (((0 : Nat) : Int) == 0) = true := rfl
    clear hR hC h h1 h9 hb
    go_enter Tryd.func105, Tryd.ntmps105
    go_wp2_with (first
      | (go_at_call 114; go_loud (with_reducible refine (HU.out _ (HR.out.alloc _) (Kd.C_alloc HC.out _) _).mono ?_); rintro e w2 ⟨rfl, HW⟩; have hB := keepBlk (Blk.new w #[.int .i32 0, .int .i8 0, .int .i8 0] 127) HW.grown (by omega); have hB20 := hB.cell (j := 0) rfl; have fB20 := hB.free 0; have hB21 := hB.cell (j := 1) rfl; have fB21 := hB.free 1; have hB22 := hB.cell (j := 2) rfl; have fB22 := hB.free 2; have HB2 := Aside0.mk hB; clear hB))
    refine bodyPost_ret (ret_cell_tmp rfl _ _ w.heap.size 127 #[_, _, _] (0, 0) _ rfl (HB2.out.three _ _ _).out Tryd.underlying127 rfl (by kernel_rfl)) rfl ?_
    exact ⟨by rfl, ((HW.ofAlloc.setNew (Nat.le_refl _) (by omega) _).setNew (Nat.le_refl _) (by omega) _).setNew (Nat.le_refl _) (by omega) _⟩
  · rw [if_neg c0] at h2
    obtain ⟨b, r2, h3, h4⟩ := bind_ok h2
    rw [d3] at h3
    obtain ⟨k1, k2, k3⟩ := byte_ok h3
    have hby := bytesB_rd hb (i := (o1 : Int)) (k := o1) rfl k1
    rw [← k2] at hby
    unfold byt at hby
    have hob : o1 < n := by omega
    have HB := Aside0.mk fun (W : World) (hW : RdAt W g p A n c o1) (hCW : (Kd.int .u8).C W A n bs) => readByte_ok g p A n c o1 bs W hW hCW hn hob
    rw [← k2] at HB
    by_cases c1 : b / 16 < 3 ∨ 12 < b / 16 ∨ b % 16 < 3 ∨ 12 < b % 16
    · rw [if_pos c1] at h4; cases h4
    rw [if_neg c1] at h4
    injection h4 with h5 h6
    injection h5 with h7 h8
    injection h8 with h9' h10'
    subst h7
    refine ⟨o1 + 1, by omega, by omega, by rw [← h6, k3], by omega, fun hh => absurd hh c0, fun _ => ⟨by omega, by omega, by omega, by omega⟩, ?_⟩
    have q1 : ((m3 : Int) == 0) = false := by rw [beq_eq_false_iff_ne]; omega
    have q2 : bits .and .u8 b 15 = el := by rw [and15 b hby.1 hby.2]; exact h10'
    have q3 : b / 16 = ky := h9'
    have qw : IntKind.i32.wrap (m3 : Int) = (m3 : Int) := IntWalk.i32_in _ (by omega)
    have qk : 3 ≤ ky ∧ ky ≤ 12 := by omega
    have qe : 3 ≤ el ∧ el ≤ 12 := by omega
    clear hR hC h h1 h9 hb h3 k1 k2 k3 d3 c1 h9' h10' h6 c0
    go_enter Tryd.func105, Tryd.ntmps105
    go_wp2_with (first
      | (go_at_call 114; go_loud (with_reducible refine (HU.out _ (HR.out.alloc _) (Kd.C_alloc HC.out _) _).mono ?_); rintro e w1 ⟨rfl, HW⟩)
      | (go_at_call 111; go_loud (with_reducible refine (HB.out _ HW.rd (wentC (Kd.C_alloc HC.out _) HW)).mono ?_); rintro e w2 ⟨rfl, HW2⟩; have hB := keepBlk (keepBlk (Blk.new w #[.int .i32 0, .int .i8 0, .int .i8 0] 127) HW.grown (by omega)) HW2.grown (by omega); have hB20 := hB.cell (j := 0) rfl; have fB20 := hB.free 0; have hB21 := hB.cell (j := 1) rfl; have fB21 := hB.free 1; have hB22 := hB.cell (j := 2) rfl; have fB22 := hB.free 2; have HB2 := Aside0.mk hB; clear hB))
    refine bodyPost_ret (ret_cell_tmp rfl _ _ w.heap.size 127 #[_, _, _] (0, 0) _ rfl (HB2.out.three _ _ _).out Tryd.underlying127 rfl (by kernel_rfl)) rfl ?_
    refine ⟨by rfl, (((HW.trans HW2).ofAlloc.setNew (Nat.le_refl _) (by omega) _).setNew (Nat.le_refl _) (by omega) _).setNew (Nat.le_refl _) (by omega) _⟩
theorem fh_inv {last id ty : Int} {bs r : List Int} {o : Nat} (h : fhP last (bs.drop o) = .ok (id, ty) r) (hb : bytesB bs = true) (hl : 0 ≤ last) :
    o < bs.length ∧ ∃ b : Int, rd bs (o : Nat) = b ∧ ((b = 0 ∧ id = 0 ∧ r = bs.drop (o + 1)) ∨ (16 ≤ b ∧ b < 256 ∧ id = last + b / 16 ∧ id ≤ 32767 ∧ ty = b % 16 ∧ r = bs.drop (o + 1)) ∨ (0 < b ∧ b < 16 ∧ ty = b ∧ zigP 32768 (bs.drop (o + 1)) = .ok id r ∧ last < id)) := by
  obtain ⟨b, r1, h1, h2⟩ := bind_ok h
  obtain ⟨k1, k2, k3⟩ := byte_ok h1
  have hby := bytesB_rd hb (i := (o : Int)) (k := o) rfl k1
  rw [← k2] at hby
  unfold byt at hby
  subst k3
  refine ⟨k1, b, k2.symm, ?_⟩
  by_cases c0 : b = 0
  · rw [if_pos c0] at h2
    injection h2 with h3 h4
    injection h3 with h5 h6
    exact .inl ⟨c0, h5.symm, h4.symm⟩
  · rw [if_neg c0] at h2
    by_cases c1 : b < 16
    · rw [if_pos c1] at h2
      obtain ⟨id2, r2, h3, h4⟩ := bind_ok h2
      by_cases c2 : id2 ≤ last
      · rw [if_pos c2] at h4; cases h4
      · rw [if_neg c2] at h4
        injection h4 with h5 h6
        injection h5 with h7 h8
        subst h6 h7 h8
        exact .inr (.inr ⟨by omega, c1, rfl, h3, by omega⟩)
    · rw [if_neg c1] at h2
      by_cases c2 : 32767 < last + b / 16
      · rw [if_pos c2] at h2; cases h2
      · rw [if_neg c2] at h2
        injection h2 with h5 h6
        injection h5 with h7 h8
        exact .inr (.inl ⟨by omega, hby.2, h7.symm, by omega, h8.symm, h6.symm⟩)
theorem allocSize (w : World) (x : Obj) : (w.alloc x).heap.size = w.heap.size + 1 := by show (w.heap.push x).size = _; simp
theorem twoBlk (w w2 : World) (g t : Nat) (cs ds : Array Value) (h : ((w.alloc (.cells cs t)).alloc (.cells ds t)).grownBy w2 (some g)) (hg : g < w.heap.size) : Blk w2 w.heap.size cs t ∧ Blk w2 (w.heap.size + 1) ds t := by
  refine ⟨keepBlk ((Blk.new w cs t).alloc _) h (by omega), keepBlk ?_ h (by omega)⟩
  have := Blk.new (w.alloc (.cells cs t)) ds t
  rwa [allocSize] at this
set_option maxHeartbeats 4000000 in
set_option maxRecDepth 100000 in
theorem readField_stop (g : Nat) (p : Value) (A : Option Addr) (n c o : Nat) (bs : List Int) (w : World) (hR : RdAt w g p A n c o) (hC : (Kd.int .u8).C w A n bs) (hc : n ≤ c) (hn : n ≤ 2147483647) (ho : o ≤ n) (hb : bytesB bs = true)
    (h : o < n) (h0 : rd bs (o : Nat) = 0) :
    Calls Tryd.prog 97 #[.pointer (some ⟨g, 0, none⟩)] w fun e w' => e = .returned (.tuple #[.agg #[.int .i16 0, .int .i8 0, .bool false], .nilIface]) ∧ Went w w' g p A n c (o + 1) := by
  have hln : bs.length = n := hC.1
  have HR := Aside0.mk hR
  have HC := Aside0.mk hC
  have hgl := hR.lt
  have HB := Aside0.mk fun (W : World) (hW : RdAt W g p A n c o) (hCW : (Kd.int .u8).C W A n bs) => readByte_ok g p A n c o bs W hW hCW hn h
  rw [h0] at HB
  clear hR hC hb h0
  go_enter Tryd.func97, Tryd.ntmps97
  go_wp2_with (first
    | (go_at_call 111; go_loud (with_reducible refine (HB.out _ ((HR.out.alloc _).alloc _) (Kd.C_alloc (Kd.C_alloc HC.out _) _)).mono ?_); rintro e w2 ⟨rfl, HW⟩; obtain ⟨hB, hD⟩ := twoBlk w w2 g 132 #[.int .i16 0, .int .i8 0, .bool false] #[.int .i16 0, .int .i8 0, .bool false] HW.grown (by omega); have hb0 := hB.cell (j := 0) rfl; have fb0 := hB.free 0; have hd0 := hD.cell (j := 0) rfl; have fd0 := hD.free 0; have hb1 := hB.cell (j := 1) rfl; have fb1 := hB.free 1; have hd1 := hD.cell (j := 1) rfl; have fd1 := hD.free 1; have hb2 := hB.cell (j := 2) rfl; have fb2 := hB.free 2; have hd2 := hD.cell (j := 2) rfl; have fd2 := hD.free 2; have HB2 := Aside0.mk hB; have HD2 := Aside0.mk hD; clear hB hD))
  refine bodyPost_ret (ret_cell_tmp rfl _ _ w.heap.size 132 #[_, _, _] (0, 0) _ rfl (HB2.out.three _ _ _).out Tryd.underlying132 rfl (by kernel_rfl)) rfl ?_
  exact ⟨by rfl, ((HW.ofAlloc.ofAlloc.setNew (Nat.le_refl _) (by omega) _).setNew (Nat.le_refl _) (by omega) _).setNew (Nat.le_refl _) (by omega) _⟩
set_option maxHeartbeats 4000000 in
set_option maxRecDepth 100000 in
theorem readField_short (g : Nat) (p : Value) (A : Option Addr) (n c o : Nat) (bs : List Int) (b : Int) (w : World) (hR : RdAt w g p A n c o) (hC : (Kd.int .u8).C w A n bs) (hc : n ≤ c) (hn : n ≤ 2147483647) (ho : o ≤ n) (hb : bytesB bs = true)
    (h : o < n) (h0 : rd bs (o : Nat) = b) (h1 : 16 ≤ b) (h2 : b < 256) :
    Calls Tryd.prog 97 #[.pointer (some ⟨g, 0, none⟩)] w fun e w' => e = .returned (.tuple #[.agg #[.int .i16 (b / 16), .int .i8 (b % 16), .bool true], .nilIface]) ∧ Went w w' g p A n c (o + 1) := by
  have hln : bs.length = n := hC.1
  have HR := Aside0.mk hR
  have HC := Aside0.mk hC
  have hgl := hR.lt
  have HB := Aside0.mk fun (W : World) (hW : RdAt W g p A n c o) (hCW : (Kd.int .u8).C W A n bs) => readByte_ok g p A n c o bs W hW hCW hn h
  rw [h0] at HB
  have qs : (IntKind.i8.wrap b == 0) = false := by rw [beq_eq_false_iff_ne, wrap_i8]; omega
  have qn : (b / 16 != 0) = true := by rw [bne_iff_ne]; omega
  obtain ⟨d, hd⟩ : ∃ d, b / 16 = d := ⟨_, rfl⟩
  obtain ⟨t, ht⟩ : ∃ t, b % 16 = t := ⟨_, rfl⟩
  have qa : bits .and .u8 b 15 = t := by rw [and15 b (by omega) h2, ht]
  have hd1 : 1 ≤ d ∧ d ≤ 15 := by omega
  have ht1 : 0 ≤ t ∧ t ≤ 15 := by omega
  have qd : b / 16 = d := hd
  rw [hd, ht]
  rw [hd] at qn
  clear hR hC hb h0 ht hd
  go_enter Tryd.func97, Tryd.ntmps97
  go_wp2_with (first
    | (go_at_call 111; go_loud (with_reducible refine (HB.out _ ((HR.out.alloc _).alloc _) (Kd.C_alloc (Kd.C_alloc HC.out _) _)).mono ?_); rintro e w2 ⟨rfl, HW⟩; obtain ⟨hB, hD⟩ := twoBlk w w2 g 132 #[.int .i16 0, .int .i8 0, .bool false] #[.int .i16 0, .int .i8 0, .bool false] HW.grown (by omega); have hb0 := hB.cell (j := 0) rfl; have fb0 := hB.free 0; have hd0 := hD.cell (j := 0) rfl; have fd0 := hD.free 0; have hb1 := hB.cell (j := 1) rfl; have fb1 := hB.free 1; have hd1 := hD.cell (j := 1) rfl; have fd1 := hD.free 1; have hb2 := hB.cell (j := 2) rfl; have fb2 := hB.free 2; have hd2 := hD.cell (j := 2) rfl; have fd2 := hD.free 2; have HB2 := Aside0.mk hB; have HD2 := Aside0.mk hD; clear hB hD))
  refine bodyPost_ret (ret_cell_tmp rfl _ _ w.heap.size 132 #[_, _, _] (0, 0) _ rfl ((((HB2.out.far (by show w.heap.size ≠ w.heap.size + 1; omega) _).far (by show w.heap.size ≠ w.heap.size + 1; omega) _).far (by show w.heap.size ≠ w.heap.size + 1; omega) _).three _ _ _).out Tryd.underlying132 rfl (by kernel_rfl)) rfl ?_
  exact ⟨by rfl, (((((HW.ofAlloc.ofAlloc.setNew (Nat.le_succ _) (by omega) _).setNew (Nat.le_succ _) (by omega) _).setNew (Nat.le_succ _) (by omega) _).setNew (Nat.le_refl _) (by omega) _).setNew (Nat.le_refl _) (by omega) _).setNew (Nat.le_refl _) (by omega) _⟩
set_option maxHeartbeats 4000000 in
set_option maxRecDepth 100000 in
theorem readField_long (g : Nat) (p : Value) (A : Option Addr) (n c o : Nat) (bs r : List Int) (b id : Int) (w : World) (hR : RdAt w g p A n c o) (hC : (Kd.int .u8).C w A n bs) (hc : n ≤ c) (hn : n ≤ 2147483647) (ho : o ≤ n) (hb : bytesB bs = true)
    (h : o < n) (h0 : rd bs (o : Nat) = b) (h1 : 0 < b) (h2 : b < 16) (hz : zigP 32768 (bs.drop (o + 1)) = .ok id r) :
    ∃ o', o < o' ∧ o' ≤ n ∧ r = bs.drop o' ∧ Calls Tryd.prog 97 #[.pointer (some ⟨g, 0, none⟩)] w fun e w' => e = .returned (.tuple #[.agg #[.int .i16 id, .int .i8 b, .bool false], .nilIface]) ∧ Went w w' g p A n c o' := by
  have hln : bs.length = n := hC.1
  have HR := Aside0.mk hR
  have HC := Aside0.mk hC
  have hgl := hR.lt
  have HB := Aside0.mk fun (W : World) (hW : RdAt W g p A n c o) (hCW : (Kd.int .u8).C W A n bs) => readByte_ok g p A n c o bs W hW hCW hn h
  rw [h0] at HB
  obtain ⟨o1, d1, d2, d3⟩ := good_off (good_zig _) hz (by omega)
  refine ⟨o1, by omega, by omega, d3, ?_⟩
  have HU := Aside0.mk fun (W : World) (hW : RdAt W g p A n c (o + 1)) (hCW : (Kd.int .u8).C W A n bs) => by
    obtain ⟨o', e1, e2, e3, e4⟩ := readInt16_ok g p A n c (o + 1) bs r id W hW hCW hc hn (by omega) hb hz
    obtain rfl := off_uniq e3 d3 (by omega) (by omega)
    exact e4
  have qs : (b == 0) = false := by rw [beq_eq_false_iff_ne]; omega
  have qd : b / 16 = 0 := by omega
  clear hR hC hb h0 hz d3
  go_enter Tryd.func97, Tryd.ntmps97
  go_wp2_with (first
    | (go_at_call 111; go_loud (with_reducible refine (HB.out _ ((HR.out.alloc _).alloc _) (Kd.C_alloc (Kd.C_alloc HC.out _) _)).mono ?_); rintro e w1 ⟨rfl, HW⟩)
    | (go_at_call 99; go_loud (with_reducible refine (HU.out _ HW.rd (wentC (Kd.C_alloc (Kd.C_alloc HC.out _) _) HW)).mono ?_); rintro e w2 ⟨rfl, HW2⟩; obtain ⟨hB, hD⟩ := twoBlk w w2 g 132 #[.int .i16 0, .int .i8 0, .bool false] #[.int .i16 0, .int .i8 0, .bool false] (HW.grown.trans HW2.grown) (by omega); have hb0 := hB.cell (j := 0) rfl; have fb0 := hB.free 0; have hd0 := hD.cell (j := 0) rfl; have fd0 := hD.free 0; have hb1 := hB.cell (j := 1) rfl; have fb1 := hB.free 1; have hd1 := hD.cell (j := 1) rfl; have fd1 := hD.free 1; have hb2 := hB.cell (j := 2) rfl; have fb2 := hB.free 2; have hd2 := hD.cell (j := 2) rfl; have fd2 := hD.free 2; have HB2 := Aside0.mk hB; have HD2 := Aside0.mk hD; clear hB hD))
  refine bodyPost_ret (ret_cell_tmp rfl _ _ w.heap.size 132 #[_, _, _] (0, 0) _ rfl ((((HB2.out.far (by show w.heap.size ≠ w.heap.size + 1; omega) _).far (by show w.heap.size ≠ w.heap.size + 1; omega) _).far (by show w.heap.size ≠ w.heap.size + 1; omega) _).three _ _ _).out Tryd.underlying132 rfl (by kernel_rfl)) rfl ?_
  exact ⟨by rfl, ((((((HW.trans HW2).ofAlloc.ofAlloc.setNew (Nat.le_succ _) (by omega) _).setNew (Nat.le_succ _) (by omega) _).setNew (Nat.le_succ _) (by omega) _).setNew (Nat.le_refl _) (by omega) _).setNew (Nat.le_refl _) (by omega) _).setNew (Nat.le_refl _) (by omega) _⟩
end Go.Proofs.YtcboegodjlfmnaaDoor.Trh

namespace Go.Proofs.YtcboegodjlfmnaaDoor.Tpa
open Go.Proofs.YtcboegodjlfmnaaDoor.Trh Go.Proofs.YtcboegodjlfmnaaDoor.Trn Go.Proofs.YtcboegodjlfmnaaDoor.Trm Go.Proofs.YtcboegodjlfmnaaDoor.Tuv Go.Proofs.YtcboegodjlfmnaaDoor.Dpu Go.Proofs.YtcboegodjlfmnaaDoor.Pak Go.Proofs.YtcboegodjlfmnaaDoor.Buf Go.Proofs.YtcboegodjlfmnaaDoor.Fit Go.Proofs.YtcboegodjlfmnaaDoor.Bit Go.Proofs.YtcboegodjlfmnaaDoor.Le Go.Proofs.YtcboegodjlfmnaaDoor.Num Go.Proofs.YtcboegodjlfmnaaDoor.Lst Go.Proofs.YtcboegodjlfmnaaDoor.Aid Go.RowKit Go.Proofs.YtcboegodjlfmnaaDoorW.PrintWords Go.Proofs.YtcboegodjlfmnaaDoorW.PrintLast Go.Proofs.YtcboegodjlfmnaaDoorW.PrintMore
set_option linter.unusedVariables false
set_option linter.unusedSimpArgs false
structure Fl where
  kt : IntKind
  kid : IntKind
  bv : Nat → Value
def nodeC (σ : Fl) (d : D) (bsv lsv fsv : Value) : List Value := [.int σ.kt d.ty, .bool d.bo, .int .i64 d.n, σ.bv d.bits, bsv, .int σ.kt d.ky, .int σ.kt d.el, lsv, fsv]
structure Lies (w : World) (Pb : Nat → Prop) (v : Value) (m : Nat) (cs : List Value) : Prop where
  mk :: (out : ∃ A c, v = .slice A m c ∧ m ≤ c ∧ (cs ≠ [] → ∃ ad, A = some ad ∧ Pb ad.block ∧ ∀ j u, cs[j]? = some u → w.cell? (ad.add j) = some u))
structure BytesAt (w : World) (Pb : Nat → Prop) (v : Value) (bs : List Int) : Prop where
  mk :: (out : ∃ A c, v = .slice A bs.length c ∧ bs.length ≤ c ∧ (Kd.int .u8).C w A bs.length bs ∧ bytesB bs = true ∧ (bs ≠ [] → ∃ ad, A = some ad ∧ Pb ad.block))
def F.In (σ : Fl) (w : World) (Pb : Nat → Prop) : F → Bool → List Value → Prop
  | .nil, _, cs => cs = []
  | .cons d id ls fs tl, fld, cs => ∃ (bsv lsv fsv : Value) (lcs fcs tcs : List Value), cs = (if fld then [.int σ.kid id] else []) ++ (nodeC σ d bsv lsv fsv ++ tcs) ∧
      BytesAt w Pb bsv d.bs ∧ Lies w Pb lsv ls.len lcs ∧ ls.In σ w Pb false lcs ∧ Lies w Pb fsv fs.len fcs ∧ fs.In σ w Pb true fcs ∧ tl.In σ w Pb fld tcs
structure N.In (σ : Fl) (w : World) (Pb : Nat → Prop) (x : N) (cs : List Value) : Prop where
  mk :: (out : ∃ (bsv lsv fsv : Value) (lcs fcs : List Value), cs = nodeC σ x.d bsv lsv fsv ∧
      BytesAt w Pb bsv x.d.bs ∧ Lies w Pb lsv x.ls.len lcs ∧ x.ls.In σ w Pb false lcs ∧ Lies w Pb fsv x.fs.len fcs ∧ x.fs.In σ w Pb true fcs)
theorem Lies.move {w w1 : World} {Pb Pc : Nat → Prop} {v : Value} {m : Nat} {cs : List Value} (h : Lies w Pb v m cs) (hk : ∀ b, Pb b → w1.heap[b]? = w.heap[b]?) (hP : ∀ b, Pb b → Pc b) : Lies w1 Pc v m cs := by
  obtain ⟨A, c, h1, h2, h3⟩ := h.out
  refine ⟨A, c, h1, h2, fun hn => ?_⟩
  obtain ⟨ad, h4, h5, h6⟩ := h3 hn
  exact ⟨ad, h4, hP _ h5, fun j u hj => (World.cell?_of_block (by rw [add_block]; exact hk _ h5)).trans (h6 j u hj)⟩
theorem BytesAt.move {w w1 : World} {Pb Pc : Nat → Prop} {v : Value} {bs : List Int} (h : BytesAt w Pb v bs) (hk : ∀ b, Pb b → w1.heap[b]? = w.heap[b]?) (hP : ∀ b, Pb b → Pc b) : BytesAt w1 Pc v bs := by
  obtain ⟨A, c, h1, h2, h3, h0, h4⟩ := h.out
  refine ⟨A, c, h1, h2, ?_, h0, fun hn => ?_⟩
  · obtain ⟨e1, e2, e3⟩ := h3
    refine ⟨e1, e2, fun hp => ?_⟩
    obtain ⟨ad, rfl, e4⟩ := e3 hp
    obtain ⟨ad2, q1, q2⟩ := h4 (List.length_pos_iff.1 hp)
    obtain rfl := Option.some.inj q1
    refine ⟨ad, rfl, fun j x hj => ?_⟩
    obtain ⟨cc, c1, c2, c3⟩ := e4 j x hj
    exact ⟨cc, c1, c2, fun i u hu => (World.cell?_of_block (by rw [add_block]; exact hk _ q2)).trans (c3 i u hu)⟩
  · obtain ⟨ad, q1, q2⟩ := h4 hn
    exact ⟨ad, q1, hP _ q2⟩
theorem F.In.move {σ : Fl} {w w1 : World} {Pb Pc : Nat → Prop} (hk : ∀ b, Pb b → w1.heap[b]? = w.heap[b]?) (hP : ∀ b, Pb b → Pc b) : ∀ {X : F} {fld : Bool} {cs : List Value}, X.In σ w Pb fld cs → X.In σ w1 Pc fld cs
  | .nil, _, _, h => h
  | .cons d id ls fs tl, fld, cs, h => by
    obtain ⟨bsv, lsv, fsv, lcs, fcs, tcs, h1, h2, h3, h4, h5, h6, h7⟩ := h
    exact ⟨bsv, lsv, fsv, lcs, fcs, tcs, h1, h2.move hk hP, h3.move hk hP, F.In.move hk hP h4, h5.move hk hP, F.In.move hk hP h6, F.In.move hk hP h7⟩
theorem N.In.move {σ : Fl} {w w1 : World} {Pb Pc : Nat → Prop} {x : N} {cs : List Value} (h : x.In σ w Pb cs) (hk : ∀ b, Pb b → w1.heap[b]? = w.heap[b]?) (hP : ∀ b, Pb b → Pc b) : x.In σ w1 Pc cs := by
  obtain ⟨bsv, lsv, fsv, lcs, fcs, h1, h2, h3, h4, h5, h6⟩ := h.out
  exact ⟨bsv, lsv, fsv, lcs, fcs, h1, h2.move hk hP, h3.move hk hP, F.In.move hk hP h4, h5.move hk hP, F.In.move hk hP h6⟩
theorem F.In.snoc {σ : Fl} {w : World} {Pb : Nat → Prop} {d : D} {id : Int} {ls fs : F} {fld : Bool} {ncs : List Value} (hx : N.In σ w Pb ⟨d, ls, fs⟩ ncs) : ∀ {X : F} {cs : List Value}, X.In σ w Pb fld cs → (X.snoc d id ls fs).In σ w Pb fld (cs ++ ((if fld then [.int σ.kid id] else []) ++ ncs))
  | .nil, cs, h => by
    obtain rfl : cs = [] := h
    obtain ⟨bsv, lsv, fsv, lcs, fcs, h1, h2, h3, h4, h5, h6⟩ := hx.out
    exact ⟨bsv, lsv, fsv, lcs, fcs, [], by rw [h1, List.nil_append, List.append_nil], h2, h3, h4, h5, h6, rfl⟩
  | .cons d' id' ls' fs' tl, cs, h => by
    obtain ⟨bsv, lsv, fsv, lcs, fcs, tcs, h1, h2, h3, h4, h5, h6, h7⟩ := h
    refine ⟨bsv, lsv, fsv, lcs, fcs, _, ?_, h2, h3, h4, h5, h6, F.In.snoc hx h7⟩
    rw [h1]; simp only [List.append_assoc]
theorem F.In.length {σ : Fl} {w : World} {Pb : Nat → Prop} : ∀ {X : F} {fld : Bool} {cs : List Value}, X.In σ w Pb fld cs → cs.length = X.len * (if fld then 10 else 9)
  | .nil, fld, cs, h => by obtain rfl : cs = [] := h; simp [F.len]
  | .cons d id ls fs tl, fld, cs, h => by
    obtain ⟨bsv, lsv, fsv, lcs, fcs, tcs, h1, h2, h3, h4, h5, h6, h7⟩ := h
    have ih := F.In.length h7
    rw [h1]
    cases fld <;> simp [nodeC, ih, F.len] <;> omega
theorem N.In.length {σ : Fl} {w : World} {Pb : Nat → Prop} {x : N} {cs : List Value} (h : x.In σ w Pb cs) : cs.length = 9 := by
  obtain ⟨bsv, lsv, fsv, lcs, fcs, h1, _⟩ := h.out
  rw [h1]; rfl
theorem lies_nil (w : World) (Pb : Nat → Prop) : Lies w Pb (.slice none 0 0) 0 [] := ⟨none, 0, rfl, by omega, fun h => absurd rfl h⟩
theorem bytesAt_nil (w : World) (Pb : Nat → Prop) : BytesAt w Pb (.slice none 0 0) [] := ⟨none, 0, rfl, by simp, ⟨rfl, by simp, fun h => absurd h (by simp)⟩, rfl, fun h => absurd rfl h⟩
end Go.Proofs.YtcboegodjlfmnaaDoor.Tpa
