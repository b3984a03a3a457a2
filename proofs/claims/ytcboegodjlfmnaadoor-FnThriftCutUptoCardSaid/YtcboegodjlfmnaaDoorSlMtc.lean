import Derived.Test.YtcboegodjlfmnaaDoorSlMta
import Derived.Test.YtcboegodjlfmnaaDoorSlMtb
import Derived.Test.YtcboegodjlfmnaaDoorSlMtk
import Derived.Laws.ResultCell
import Derived.LaidEql
import Derived.Maps.AppendAt
namespace Go.Proofs.YtcboegodjlfmnaaDoor.Tuv
open Go.Proofs.YtcboegodjlfmnaaDoor.Duv Go.Proofs.YtcboegodjlfmnaaDoor.Dpu Go.Proofs.YtcboegodjlfmnaaDoor.Pak Go.Proofs.YtcboegodjlfmnaaDoor.Buf Go.Proofs.YtcboegodjlfmnaaDoor.Fit Go.Proofs.YtcboegodjlfmnaaDoor.Bit Go.Proofs.YtcboegodjlfmnaaDoor.Wrd Go.Proofs.YtcboegodjlfmnaaDoor.Spl Go.Proofs.YtcboegodjlfmnaaDoor.Str Go.Proofs.YtcboegodjlfmnaaDoor.Flt Go.Proofs.YtcboegodjlfmnaaDoor.Owe Go.Proofs.YtcboegodjlfmnaaDoor.Num Go.Proofs.YtcboegodjlfmnaaDoor.Le Go.Proofs.YtcboegodjlfmnaaDoor.Lst Go.Proofs.YtcboegodjlfmnaaDoor.Aid Go.RowKit Go.Proofs.YtcboegodjlfmnaaDoorW.PrintWords Go.Proofs.YtcboegodjlfmnaaDoorW.PrintLast Go.Proofs.YtcboegodjlfmnaaDoorW.PrintMore
set_option linter.unusedVariables false
set_option linter.unusedSimpArgs false
inductive UvR where
  | short
  | over
  | ok (x l : Nat)
def UvR.more (a p : Nat) : UvR → UvR
  | .ok x l => .ok (a + p * x) (l + 1)
  | r => r
def uvM : Nat → List Int → UvR
  | _, [] => .short
  | i, b :: bs => if i = 9 ∧ 1 < b then .over else if b < 128 then .ok b.toNat 1 else (uvM (i + 1) bs).more (b - 128).toNat 128
theorem uvM_cons (i : Nat) (b : Int) (bs : List Int) : uvM i (b :: bs) = if i = 9 ∧ 1 < b then .over else if b < 128 then .ok b.toNat 1 else (uvM (i + 1) bs).more (b - 128).toNat 128 := rfl
def UvR.shift (acc i : Nat) : UvR → UvR
  | .ok x l => .ok (acc + x * 2 ^ (7 * i)) (l + i)
  | r => r
theorem shift_more (acc i b : Nat) (r : UvR) : (r.more b 128).shift acc i = r.shift (acc + b * 2 ^ (7 * i)) (i + 1) := by
  cases r with
  | short => rfl
  | over => rfl
  | ok x l =>
    show UvR.ok _ _ = UvR.ok _ _
    rw [show 7 * (i + 1) = 7 * i + 7 by omega, Nat.pow_add, Nat.add_mul, show (2 : Nat) ^ 7 = 128 from rfl, Nat.mul_assoc 128 x, Nat.mul_comm 128 (x * _), Nat.mul_assoc x]
    congr 1 <;> omega
theorem uvM_of_var : ∀ (k i : Nat) (f : Bool) (bs : List Int), i + k = 10 → (∀ x r, Tpa.varP k f bs = .ok x r → ∃ l, uvM i bs = .ok x l ∧ r = bs.drop l ∧ 1 ≤ l ∧ l ≤ bs.length) ∧ (Tpa.varP k f bs = .cut → uvM i bs = .short)
  | 0, i, f, bs, hk => ⟨fun x r h => (by cases h), fun h => (by cases h)⟩
  | k + 1, i, f, [], hk => ⟨fun x r h => (by cases h), fun h => rfl⟩
  | k + 1, i, f, b :: bs, hk => by
    have ih := uvM_of_var k (i + 1) false bs (by omega)
    have hd : Tpa.varP (k + 1) f (b :: bs) = (if (k = 0 ∧ 1 < b) ∨ (f = false ∧ b = 0) then Tpa.opnP else if b < 128 then Tpa.retP b.toNat else Tpa.bindP (Tpa.varP k false) fun x => Tpa.retP ((b - 128).toNat + 128 * x)) bs := rfl
    rw [hd, uvM_cons]
    by_cases c : (k = 0 ∧ 1 < b) ∨ (f = false ∧ b = 0)
    · rw [if_pos c]
      exact ⟨fun x r h => (by cases h), fun h => (by cases h)⟩
    · rw [if_neg c]
      have c9 : ¬ (i = 9 ∧ 1 < b) := by omega
      rw [if_neg c9]
      by_cases c1 : b < 128
      · rw [if_pos c1, if_pos c1]
        refine ⟨fun x r h => ?_, fun h => (by cases h)⟩
        injection h with h1 h2
        exact ⟨1, by rw [h1], by rw [← h2]; rfl, Nat.le_refl _, by simp⟩
      · rw [if_neg c1, if_neg c1]
        refine ⟨fun x r h => ?_, fun h => ?_⟩
        · obtain ⟨a, r1, h1, h2⟩ := Tpa.bind_ok h
          injection h2 with h3 h4
          obtain ⟨l, hl, hr, hl1, hl2⟩ := ih.1 a r1 h1
          refine ⟨l + 1, ?_, by rw [← h4, hr]; rfl, by omega, by simp; omega⟩
          rw [hl, ← h3]; rfl
        · rcases Tpa.bind_cut h with h1 | ⟨a, r1, h1, h2⟩
          · rw [ih.2 h1]; rfl
          · cases h2
theorem mul_small1 (b i : Nat) (hi : i = 9) (hb : b ≤ 1) : b * 2 ^ (7 * i) < 18446744073709551616 := by
  subst hi
  have e : (2 : Nat) ^ (7 * 9) = 9223372036854775808 := by decide +kernel
  rw [e]
  exact Nat.lt_of_le_of_lt (Nat.mul_le_mul_right _ hb) (by decide +kernel)
theorem mul_small (b i : Nat) (hi : i ≤ 8) (hb : b ≤ 128) : b * 2 ^ (7 * i) < 18446744073709551616 := by
  have h2 : 2 ^ (7 * i) ≤ 2 ^ 56 := Nat.pow_le_pow_right (by decide) (Nat.le_trans (Nat.mul_le_mul_left 7 hi) (Nat.le_refl 56))
  have e : (2 : Nat) ^ 56 = 72057594037927936 := by decide +kernel
  rw [e] at h2
  exact Nat.lt_of_le_of_lt (Nat.mul_le_mul hb h2) (by decide +kernel)
theorem add_small (acc b i : Nat) (h : acc < 2 ^ (7 * i)) (hb : b < 128) (hi : i ≤ 8) : acc + b * 2 ^ (7 * i) < 2 ^ (7 * (i + 1)) := by
  have e : (2 : Nat) ^ (7 * (i + 1)) = 128 * 2 ^ (7 * i) := by rw [show 7 * (i + 1) = 7 * i + 7 from rfl, Nat.pow_add, Nat.mul_comm]
  rw [e]
  have h1 : (b + 1) * 2 ^ (7 * i) ≤ 128 * 2 ^ (7 * i) := Nat.mul_le_mul_right _ hb
  rw [Nat.add_mul, Nat.one_mul] at h1
  omega
structure UvRes (r : UvR) (e : Ending) : Prop where
  short : r = .short → e = .returned (.tuple #[.int .u64 0, .int .i64 0])
  ok : ∀ x l, r = .ok x l → e = .returned (.tuple #[.int .u64 x, .int .i64 l])
set_option maxHeartbeats 8000000 in
theorem uvAny_calls (A : Option Addr) (n c : Nat) (bs : List Int) (w : World) (hC : (Kd.int .u8).C w A n bs) (hc : n ≤ c) (hn : n ≤ 2147483647) (hb : bytesB bs = true) (hno : uvM 0 bs ≠ .over) :
    Calls Tryd.prog 117 #[.slice A n c] w fun e w' => UvRes (uvM 0 bs) e ∧ w = w' := by
  have HLN : Aside0 (bs.length = n) := ⟨hC.1⟩
  have HC := Aside0.mk hC
  have HBY := Aside0.mk hb
  have HNO := Aside0.mk hno
  clear hC hb hno
  go_enter Tryd.func117, Tryd.ntmps117
  go_wp2_with (fail)
  go_loopg [4, 5, 6, 7, 10] n (fun kq v4 v5 v6 v7 v10 w' => ∃ (i acc : Nat), v4 = .int .u64 acc ∧ v5 = .int .u64 ((7 * i : Nat) : Int) ∧ v10 = .int .i64 i ∧ i ≤ n ∧ i ≤ 9 ∧ Aside0 (acc < 2 ^ (7 * i)) ∧ acc < 18446744073709551616 ∧ Aside0 (uvM 0 bs = (uvM i (bs.drop i)).shift acc i) ∧ w = w' ∧ Aside0 (n - i ≤ kq))
  case atStart => exact ⟨0, 0, rfl, rfl, rfl, by omega, by omega, ⟨by simp⟩, by omega, ⟨by rw [List.drop_zero]; cases uvM 0 bs <;> simp [UvR.shift]⟩, rfl, ⟨by omega⟩⟩
  case round =>
    obtain ⟨i, acc, rfl, rfl, rfl, hin, hi10, HAC, hac, HU, rfl, HK⟩ := hrel
    by_cases ci : i < n
    · have qin : decide ((i : Int) < n) = true := decide_eq_true (by omega)
      have qinn : decide (i < n) = true := decide_eq_true ci
      obtain ⟨ad, ead, hcell⟩ := Kd.at_int HC.out (i : Int) (by omega) (by omega)
      rw [Int.toNat_natCast] at hcell
      have hdr := drop_cons bs i (by rw [HLN.out]; exact ci)
      have hby := bytesB_rd HBY.out (i := (i : Int)) (k := i) rfl (by rw [HLN.out]; exact ci)
      obtain ⟨b, hb⟩ : ∃ b : Nat, rd bs (i : Nat) = (b : Int) := ⟨(rd bs (i : Nat)).toNat, by unfold byt at hby; omega⟩
      rw [hb] at hcell hdr hby
      unfold byt at hby
      have hb9 : b < 256 := by omega
      have hbi : bs.drop i = (b : Int) :: bs.drop (i + 1) := hdr
      have hu := HU.out
      rw [hbi, uvM_cons] at hu
      have HU2 := Aside0.mk hu
      clear hu hdr hbi hby hb
      subst ead
      · have qi10 : ((i : Int) == 10) = false := by rw [beq_eq_false_iff_ne]; omega
        have hu := HU2.out
        by_cases cov : i = 9 ∧ (1 : Int) < b
        · rw [if_pos cov] at hu
          exact absurd hu HNO.out
        rw [if_neg cov] at hu
        by_cases cb : b < 128
        · have qb : decide ((b : Int) < 128) = true := decide_eq_true (by omega)
          have qb2 : decide (b < 128) = true := decide_eq_true cb
          rw [if_pos (by omega)] at hu
          by_cases c9 : i = 9
          · have qi9 : ((i : Int) == 9) = true := by rw [beq_iff_eq]; omega
            have hb1 : b ≤ 1 := by omega
            have qb1 : decide (1 < (b : Int)) = false := decide_eq_false (by omega)
            have qb3 : decide (1 < b) = false := decide_eq_false (by omega)
            have HU3 : Aside0 (uvM 0 bs = .ok (acc + b * 2 ^ (7 * i)) (1 + i)) := ⟨by rw [hu]; simp [UvR.shift]⟩
            have hp : b * 2 ^ (7 * i) < 18446744073709551616 := mul_small1 b i c9 hb1
            have HOR := or_high' acc b (7 * i) HAC.out hac hp
            clear c9 cov hu
            go_wp2_with (fail)
            go_ret2
            refine ⟨⟨fun h => (by rw [HU3.out] at h; cases h), fun x l h => ?_⟩, rfl⟩
            rw [HU3.out] at h
            obtain ⟨h1, h2⟩ := UvR.ok.inj h
            rw [← h1, ← h2]
            show Ending.returned (Value.tuple #[Value.int IntKind.u64 ((acc : Int) + (b : Int) * 2 ^ (7 * i)), Value.int IntKind.i64 ((i : Int) + 1)]) = _
            rw [Nat.add_comm 1 i]; push_cast; rfl
          · have qi9 : ((i : Int) == 9) = false := by rw [beq_eq_false_iff_ne]; omega
            have HU3 : Aside0 (uvM 0 bs = .ok (acc + b * 2 ^ (7 * i)) (1 + i)) := ⟨by rw [hu]; simp [UvR.shift]⟩
            have hp : b * 2 ^ (7 * i) < 18446744073709551616 := mul_small b i (by omega) (by omega)
            have HOR := or_high' acc b (7 * i) HAC.out hac hp
            clear c9 cov hu
            go_wp2_with (fail)
            go_ret2
            refine ⟨⟨fun h => (by rw [HU3.out] at h; cases h), fun x l h => ?_⟩, rfl⟩
            rw [HU3.out] at h
            obtain ⟨h1, h2⟩ := UvR.ok.inj h
            rw [← h1, ← h2]
            show Ending.returned (Value.tuple #[Value.int IntKind.u64 ((acc : Int) + (b : Int) * 2 ^ (7 * i)), Value.int IntKind.i64 ((i : Int) + 1)]) = _
            rw [Nat.add_comm 1 i]; push_cast; rfl
        · have qb : decide ((b : Int) < 128) = false := decide_eq_false (by omega)
          have qb2 : decide (b < 128) = false := decide_eq_false cb
          rw [if_neg (by omega)] at hu
          obtain ⟨z, hz⟩ : ∃ z, b - 128 = z := ⟨_, rfl⟩
          have hz9 : z < 128 := by omega
          have hbz : ((b : Int) - 128).toNat = z := by omega
          rw [hbz, shift_more] at hu
          have hand : bits .and .u8 (b : Int) 127 = (z : Int) := by
            have h := and127 z
            rw [Nat.mod_eq_of_lt hz9] at h
            rw [show b = z + 128 by omega]; exact h
          have HU3 := Aside0.mk hu
          have hi8 : i ≤ 8 := by omega
          have hp : z * 2 ^ (7 * i) < 18446744073709551616 := mul_small z i hi8 (by omega)
          have HOR := Aside0.mk (or_high' acc z (7 * i) HAC.out hac hp)
          have HAC2 : Aside0 (acc + z * 2 ^ (7 * i) < 2 ^ (7 * (i + 1))) := ⟨add_small acc z i HAC.out hz9 hi8⟩
          have hac2 : acc + z * 2 ^ (7 * i) < 18446744073709551616 := Nat.lt_of_lt_of_le HAC2.out (Nat.le_trans (Nat.pow_le_pow_right (by decide) (show 7 * (i + 1) ≤ 63 by omega)) (by decide +kernel))
          have HAC3 := Aside0.mk hac2
          have qi9 : ((i : Int) == 9) = false := by rw [beq_eq_false_iff_ne]; omega
          clear cov hu hz hbz hp hac hac2
          go_wp2_with (fail)
          rw [HOR.out]
          go_roundg (gk - 1)
          case measure => have := HK.out; omega
          case rel =>
            exact ⟨i + 1, acc + z * 2 ^ (7 * i), rfl, by go_num, by go_num, by omega, by omega, HAC2, HAC3.out, HU3, rfl, ⟨by have := HK.out; omega⟩⟩
    · obtain rfl : i = n := by omega
      have qin : decide ((i : Int) < i) = false := decide_eq_false (by omega)
      have HU3 : Aside0 (uvM 0 bs = .short) := ⟨by rw [HU.out, List.drop_of_length_le (by rw [HLN.out]; omega)]; rfl⟩
      go_wp2_with (fail)
      go_ret2
      exact ⟨⟨fun _ => rfl, fun x l h => (by rw [HU3.out] at h; cases h)⟩, rfl⟩
theorem var_lt : ∀ (k : Nat) (f : Bool) (bs : List Int) (x : Nat) (r : List Int), bytesB bs = true → Tpa.varP (k + 1) f bs = .ok x r → x < 128 ^ k * 2
  | k, f, [], x, r, hb, h => by cases h
  | k, f, b :: bs, x, r, hb, h => by
    have h0 := bytesB_mem hb b (List.mem_cons_self ..)
    unfold byt at h0
    have hd : Tpa.varP (k + 1) f (b :: bs) = (if (k = 0 ∧ 1 < b) ∨ (f = false ∧ b = 0) then Tpa.opnP else if b < 128 then Tpa.retP b.toNat else Tpa.bindP (Tpa.varP k false) fun x => Tpa.retP ((b - 128).toNat + 128 * x)) bs := rfl
    rw [hd] at h
    by_cases c : (k = 0 ∧ 1 < b) ∨ (f = false ∧ b = 0)
    · rw [if_pos c] at h; cases h
    · rw [if_neg c] at h
      by_cases c1 : b < 128
      · rw [if_pos c1] at h
        injection h with h1 h2
        cases k with
        | zero => simp; omega
        | succ k => have : 0 < 128 ^ k := Nat.pow_pos (by omega); rw [Nat.pow_succ]; omega
      · rw [if_neg c1] at h
        obtain ⟨a, r1, h1, h2⟩ := Tpa.bind_ok h
        injection h2 with h3 h4
        cases k with
        | zero => cases h1
        | succ k =>
          have ih := var_lt k false bs a r1 (bytesB_of fun z hz => bytesB_mem hb z (List.mem_cons_of_mem _ hz)) h1
          rw [Nat.pow_succ]
          omega
theorem unzz_odd (Z : Nat) (h : Z % 2 = 1) : Tpa.unzz Z = -((Z / 2 : Nat) : Int) - 1 := by unfold Tpa.unzz; rw [if_neg (by omega)]
theorem unzz_even (Z : Nat) (h : Z % 2 = 0) : Tpa.unzz Z = ((Z / 2 : Nat) : Int) := by unfold Tpa.unzz; rw [if_pos h]
theorem uvar_cut (A : Option Addr) (n c : Nat) (bs : List Int) (w : World) (hC : (Kd.int .u8).C w A n bs) (hc : n ≤ c) (hn : n ≤ 2147483647) (hb : bytesB bs = true) (h : Tpa.varP 10 true bs = .cut) :
    Calls Tryd.prog 117 #[.slice A n c] w fun e w' => e = .returned (.tuple #[.int .u64 0, .int .i64 0]) ∧ w = w' := by
  have h1 := (uvM_of_var 10 0 true bs rfl).2 h
  refine (uvAny_calls A n c bs w hC hc hn hb (by rw [h1]; intro h; cases h)).mono ?_
  rintro e w' ⟨hr, rfl⟩
  exact ⟨hr.short h1, rfl⟩
set_option maxHeartbeats 4000000 in
theorem varint_of (A : Option Addr) (n c Z : Nat) (k : Int) (w : World) (hZ : Z < 18446744073709551616)
    (hU : Calls Tryd.prog 117 #[.slice A n c] w fun e w' => e = .returned (.tuple #[.int .u64 Z, .int .i64 k]) ∧ w = w') :
    Calls Tryd.prog 116 #[.slice A n c] w fun e w' => e = .returned (.tuple #[.int .i64 (Tpa.unzz Z), .int .i64 k]) ∧ w = w' := by
  have HPU := Aside0.mk hU
  clear hU
  by_cases c0 : Z % 2 = 1
  · rw [unzz_odd Z c0]
    have qand : bits .and .u64 (Z : Int) 1 = 1 := by
      rw [show (1 : Int) = ((2 ^ 1 - 1 : Nat) : Int) by decide, u64_and_nat _ _ (by omega) (by decide), Nat.and_two_pow_sub_one_eq_mod]; omega
    obtain ⟨h, hh⟩ : ∃ h, Z / 2 = h := ⟨_, rfl⟩
    have qh : (Z : Int) / 2 = (h : Int) := by omega
    have qw : IntKind.i64.wrap (h : Int) = (h : Int) := IntWalk.i64_in _ (by omega)
    have qn : bits .xor .i64 (-1) (h : Int) = -(h : Int) - 1 := by rw [xor_m1_i64 h (by omega)]; omega
    rw [hh]
    clear hh c0
    go_enter Tryd.func116, Tryd.ntmps116
    go_wp2_with (first
      | (go_at_call 117; go_loud (with_reducible refine HPU.out.mono ?_); rintro e w2 ⟨rfl, rfl⟩))
    go_ret2
    exact ⟨rfl, rfl⟩
  · rw [unzz_even Z (by omega)]
    have qand : bits .and .u64 (Z : Int) 1 = 0 := by
      rw [show (1 : Int) = ((2 ^ 1 - 1 : Nat) : Int) by decide, u64_and_nat _ _ (by omega) (by decide), Nat.and_two_pow_sub_one_eq_mod]; omega
    obtain ⟨h, hh⟩ : ∃ h, Z / 2 = h := ⟨_, rfl⟩
    have qh : (Z : Int) / 2 = (h : Int) := by omega
    have qw : IntKind.i64.wrap (h : Int) = (h : Int) := IntWalk.i64_in _ (by omega)
    rw [hh]
    clear hh c0
    go_enter Tryd.func116, Tryd.ntmps116
    go_wp2_with (first
      | (go_at_call 117; go_loud (with_reducible refine HPU.out.mono ?_); rintro e w2 ⟨rfl, rfl⟩))
    go_ret2
    exact ⟨rfl, rfl⟩
end Go.Proofs.YtcboegodjlfmnaaDoor.Tuv

namespace Go.Proofs.YtcboegodjlfmnaaDoor.Trm
open Go.Proofs.YtcboegodjlfmnaaDoor.Tuv Go.Proofs.YtcboegodjlfmnaaDoor.Tpa Go.Proofs.YtcboegodjlfmnaaDoor.Duv Go.Proofs.YtcboegodjlfmnaaDoor.Dpu Go.Proofs.YtcboegodjlfmnaaDoor.Pak Go.Proofs.YtcboegodjlfmnaaDoor.Buf Go.Proofs.YtcboegodjlfmnaaDoor.Fit Go.Proofs.YtcboegodjlfmnaaDoor.Bit Go.Proofs.YtcboegodjlfmnaaDoor.Wrd Go.Proofs.YtcboegodjlfmnaaDoor.Spl Go.Proofs.YtcboegodjlfmnaaDoor.Str Go.Proofs.YtcboegodjlfmnaaDoor.Flt Go.Proofs.YtcboegodjlfmnaaDoor.Owe Go.Proofs.YtcboegodjlfmnaaDoor.Num Go.Proofs.YtcboegodjlfmnaaDoor.Le Go.Proofs.YtcboegodjlfmnaaDoor.Lst Go.Proofs.YtcboegodjlfmnaaDoor.Aid Go.RowKit Go.Proofs.YtcboegodjlfmnaaDoorW.PrintWords Go.Proofs.YtcboegodjlfmnaaDoorW.PrintLast Go.Proofs.YtcboegodjlfmnaaDoorW.PrintMore
set_option linter.unusedVariables false
set_option linter.unusedSimpArgs false
structure RdAt (w : World) (g : Nat) (p : Value) (A : Option Addr) (n c o : Nat) : Prop where
  mk :: (blk : Blk w g #[p, .slice A n c, .int .i64 (o : Int)] 105) (apart : ∀ a, A = some a → a.block ≠ g)
structure Went (w w' : World) (g : Nat) (p : Value) (A : Option Addr) (n c o : Nat) : Prop where
  mk :: (grown : w.grownBy w' (some g)) (rd : RdAt w' g p A n c o)
theorem Blk.set2 {w : World} {g t : Nat} {a b x : Value} (h : Blk w g #[a, b, x] t) (y : Value) : Blk (w.setCell ⟨g, 2, none⟩ y) g #[a, b, y] t := by
  have := h.set 2 y
  simpa using this
theorem RdAt.set {w : World} {g : Nat} {p : Value} {A : Option Addr} {n c o o' : Nat} (h : RdAt w g p A n c o) : RdAt (w.setCell ⟨g, 2, none⟩ (.int .i64 (o' : Int))) g p A n c o' := ⟨Blk.set2 h.blk _, h.apart⟩
theorem RdAt.went {w w1 : World} {g : Nat} {p : Value} {A : Option Addr} {n c o o' : Nat} (h : RdAt w1 g p A n c o) (hw : Drawn0 w w1) : Went w (w1.setCell ⟨g, 2, none⟩ (.int .i64 (o' : Int))) g p A n c o' := by
  obtain ⟨k, rfl⟩ := hw.out
  exact ⟨grownSet (grownDrewN (grownRefl w (some g)) k) 2 _, h.set⟩
abbrev erV (q : Addr) : Value := .iface 167 (.pointer (some q))
structure Eofs (w : World) (g : Nat) (p1 p2 : Addr) : Prop where
  mk :: (one : w.cell? ⟨1, 0, none⟩ = some (erV p1)) (two : w.cell? ⟨2, 0, none⟩ = some (erV p2)) (ne : p1 ≠ p2) (b1 : ∃ c t, w.heap[p1.block]? = some (.cells c t (0, 0))) (b2 : ∃ c t, w.heap[p2.block]? = some (.cells c t (0, 0))) (g1 : 1 ≠ g) (g2 : 2 ≠ g) (g3 : p1.block ≠ g) (g4 : p2.block ≠ g)
theorem grown_old {w w' : World} {g b : Nat} (h : w.grownBy w' (some g)) (hb : b ≠ g) {o : Obj} (ho : w.heap[b]? = some o) : w'.heap[b]? = some o :=
  (h.block b (Array.getElem?_eq_some_iff.1 ho).1 (fun e => hb (Option.some.inj e))).trans ho
theorem grown_cell {w w' : World} {g : Nat} (h : w.grownBy w' (some g)) {a : Addr} (hb : a.block ≠ g) {v : Value} (ho : w.cell? a = some v) : w'.cell? a = some v :=
  (World.cell?_of_block (h.block a.block (block_lt_of_cell ho) (fun e => hb (Option.some.inj e)))).trans ho
theorem Eofs.grown {w w' : World} {g : Nat} {p1 p2 : Addr} (h : Eofs w g p1 p2) (k : w.grownBy w' (some g)) : Eofs w' g p1 p2 := by
  obtain ⟨c1, t1, e1⟩ := h.b1
  obtain ⟨c2, t2, e2⟩ := h.b2
  exact ⟨grown_cell k h.g1 h.one, grown_cell k h.g2 h.two, h.ne, ⟨c1, t1, grown_old k h.g3 e1⟩, ⟨c2, t2, grown_old k h.g4 e2⟩, h.g1, h.g2, h.g3, h.g4⟩
theorem grownAlloc0 (w : World) (g : Nat) (o : Obj) : w.grownBy (w.alloc o) (some g) := by
  refine ⟨rfl, rfl, rfl, ?_, fun k hk _ => Below.heap_alloc w o k hk⟩
  show w.heap.size ≤ (w.heap.push o).size
  simp
theorem Eofs.alloc {w : World} {g : Nat} {p1 p2 : Addr} (h : Eofs w g p1 p2) (o : Obj) : Eofs (w.alloc o) g p1 p2 := h.grown (grownAlloc0 w g o)
theorem RdAt.alloc {w : World} {g : Nat} {p : Value} {A : Option Addr} {n c o : Nat} (h : RdAt w g p A n c o) (x : Obj) : RdAt (w.alloc x) g p A n c o := ⟨h.blk.alloc x, h.apart⟩
theorem RdAt.far {w : World} {g : Nat} {p : Value} {A : Option Addr} {n c o : Nat} (h : RdAt w g p A n c o) {q : Addr} (hq : g ≠ q.block) (x : Value) : RdAt (w.setCell q x) g p A n c o := ⟨h.blk.far hq x, h.apart⟩
theorem RdAt.lt {w : World} {g : Nat} {p : Value} {A : Option Addr} {n c o : Nat} (h : RdAt w g p A n c o) : g < w.heap.size := h.blk.lt
theorem Went.trans {w w1 w2 : World} {g : Nat} {p : Value} {A : Option Addr} {n c o o2 : Nat} (h : Went w w1 g p A n c o) (k : Went w1 w2 g p A n c o2) : Went w w2 g p A n c o2 := ⟨h.grown.trans k.grown, k.rd⟩
def RdS (w w' : World) (g : Nat) : Prop := ∀ (p : Value) (A : Option Addr) (n c o : Nat), RdAt w g p A n c o → ∃ o', RdAt w' g p A n c o'
theorem RdS.trans {w w1 w2 : World} {g : Nat} (h : RdS w w1 g) (k : RdS w1 w2 g) : RdS w w2 g := fun p A n c o hR => by
  obtain ⟨o1, h1⟩ := h p A n c o hR
  exact k p A n c o1 h1
theorem rdsDrawn {w w1 : World} (h : Drawn0 w w1) (g : Nat) : RdS w w1 g := fun p A n c o hR => by
  obtain ⟨k, rfl⟩ := h.out
  exact ⟨o, ⟨hR.blk.drewN k, hR.apart⟩⟩
theorem rdsAlloc0 (w : World) (g : Nat) (x : Obj) : RdS w (w.alloc x) g := fun p A n c o hR => ⟨o, hR.alloc x⟩
theorem rdsOfAlloc {w w1 : World} {g : Nat} {x : Obj} (h : RdS (w.alloc x) w1 g) : RdS w w1 g := (rdsAlloc0 w g x).trans h
theorem rdsSet {w w1 : World} {g b : Nat} (h : RdS w w1 g) (hne : g ≠ b) (j : Nat) (u : Value) : RdS w (w1.setCell ⟨b, j, none⟩ u) g := h.trans fun p A n c o hR => ⟨o, hR.far hne u⟩
theorem rdsWent {w w1 : World} {g : Nat} {p : Value} {A : Option Addr} {n c o o' : Nat} (hR : RdAt w g p A n c o) (h : Went w w1 g p A n c o') : RdS w w1 g := fun p2 A2 n2 c2 o2 hR2 => by
  have e := hR.blk.out.symm.trans hR2.blk.out
  injection e with e
  injection e with e
  simp only [Array.mk.injEq, List.cons.injEq, Value.slice.injEq, and_true] at e
  obtain ⟨rfl, ⟨rfl, rfl, rfl⟩, _⟩ := e
  exact ⟨o', h.rd⟩
theorem grownC {w w1 : World} {g n : Nat} {A : Option Addr} {bs : List Int} (hC : (Kd.int .u8).C w A n bs) (k : w.grownBy w1 (some g)) (hA : ∀ a, A = some a → a.block ≠ g) : (Kd.int .u8).C w1 A n bs := by
  obtain ⟨h1, h2, h3⟩ := hC
  refine ⟨h1, h2, fun hp => ?_⟩
  obtain ⟨ad, rfl, h4⟩ := h3 hp
  refine ⟨ad, rfl, fun j x hj => ?_⟩
  obtain ⟨c, c1, c2, c3⟩ := h4 j x hj
  exact ⟨c, c1, c2, fun i u hu => grown_cell k (by rw [add_block]; exact hA ad rfl) (c3 i u hu)⟩
theorem wentC {w w1 : World} {g : Nat} {p : Value} {A : Option Addr} {n c o : Nat} {bs : List Int} (hC : (Kd.int .u8).C w A n bs) (h : Went w w1 g p A n c o) : (Kd.int .u8).C w1 A n bs := grownC hC h.grown h.rd.apart
theorem RdAt.goes {w : World} {g : Nat} {p : Value} {A : Option Addr} {n c o : Nat} (h : RdAt w g p A n c o) (k : Nat) (o' : Nat) (x : Int) (hx : x = (o' : Int)) : Went w ((w.drewN k).setCell ⟨g, 2, none⟩ (.int .i64 x)) g p A n c o' := by
  subst hx
  have h2 : RdAt (w.drewN k) g p A n c o := ⟨h.blk.drewN k, h.apart⟩
  exact ⟨grownSet (grownDrewN (grownRefl w (some g)) k) 2 _, h2.set⟩
theorem quietSame {P : Program} {f : FuncId} {args : Array Value} {w : World} {v : Value}
    (h : ∀ k, Calls P f args (w.drewN k) fun e w' => e = .returned v ∧ w.drewN k = w') (n : Nat) : Calls P f args (w.drewN n) fun e w'' => e = .returned v ∧ ∃ m, w'' = w.drewN m :=
  (h n).mono fun _ _ ⟨he, hm⟩ => ⟨he, n, hm.symm⟩
theorem wrap_i8 (n : Int) : IntKind.i8.wrap n = (n + 128) % 256 - 128 := by
  simp only [IntKind.wrap, IntKind.bits, IntKind.signed]; simp; split <;> omega
theorem wrap_i16 (n : Int) : IntKind.i16.wrap n = (n + 32768) % 65536 - 32768 := by
  simp only [IntKind.wrap, IntKind.bits, IntKind.signed]; simp; split <;> omega
theorem wrap8 (b : Int) (h0 : 0 ≤ b) (h1 : b < 256) : IntKind.i8.wrap b = s8 b := by
  unfold s8; rw [wrap_i8]
  by_cases c : b < 128
  · rw [if_pos c]; omega
  · rw [if_neg c]; omega
theorem byte_ok {bs r : List Int} {o : Nat} {b : Int} (h : byteP (bs.drop o) = .ok b r) : o < bs.length ∧ b = rd bs (o : Nat) ∧ r = bs.drop (o + 1) := by
  by_cases c : o < bs.length
  · rw [drop_cons bs o c] at h
    injection h with h1 h2
    exact ⟨c, h1.symm, h2.symm⟩
  · rw [List.drop_of_length_le (by omega)] at h; cases h
theorem byte_cut {bs : List Int} {o : Nat} (h : byteP (bs.drop o) = .cut) : bs.length ≤ o := by
  by_cases c : o < bs.length
  · rw [drop_cons bs o c] at h; cases h
  · omega
theorem uvar_okW (bs r : List Int) (x : Nat) (hb : bytesB bs = true) (h : varP 10 true bs = .ok x r) :
    ∃ l : Nat, 1 ≤ l ∧ l ≤ bs.length ∧ r = bs.drop l ∧ x < 18446744073709551616 ∧ ∀ (A : Option Addr) (n c : Nat) (w : World), (Kd.int .u8).C w A n bs → n ≤ c → n ≤ 2147483647 →
      Calls Tryd.prog 117 #[.slice A n c] w fun e w' => e = .returned (.tuple #[.int .u64 x, .int .i64 l]) ∧ w = w' := by
  obtain ⟨l, h1, h2, h3, h4⟩ := (uvM_of_var 10 0 true bs rfl).1 x r h
  refine ⟨l, h3, h4, h2, by have := var_lt 9 true bs x r hb h; simpa using this, fun A n c w hC hc hn => (uvAny_calls A n c bs w hC hc hn hb (by rw [h1]; intro h; cases h)).mono ?_⟩
  rintro e w' ⟨hr, rfl⟩
  exact ⟨hr.ok x l h1, rfl⟩
set_option maxHeartbeats 4000000 in
theorem readByte_ok (g : Nat) (p : Value) (A : Option Addr) (n c o : Nat) (bs : List Int) (w : World) (hR : RdAt w g p A n c o) (hC : (Kd.int .u8).C w A n bs) (hn : n ≤ 2147483647) (ho : o < n) :
    Calls Tryd.prog 111 #[.pointer (some ⟨g, 0, none⟩)] w fun e w' => e = .returned (.tuple #[.int .u8 (rd bs (o : Nat)), .nilIface]) ∧ Went w w' g p A n c (o + 1) := by
  have HR := Aside0.mk hR
  have hc0 := hR.blk.cell (j := 0) rfl
  have hc1 := hR.blk.cell (j := 1) rfl
  have hc2 := hR.blk.cell (j := 2) rfl
  have hfr := hR.blk.free 2
  obtain ⟨ad, ead, hcell⟩ := Kd.at_int hC (o : Int) (by omega) (by have := hC.1; omega)
  rw [Int.toNat_natCast] at hcell
  subst ead
  have q1 : decide ((n : Int) ≤ o) = false := decide_eq_false (by omega)
  have q2 : decide (n ≤ o) = false := decide_eq_false (by omega)
  have qin : decide ((o : Int) < n) = true := decide_eq_true (by omega)
  have qinn : decide (o < n) = true := decide_eq_true ho
  clear hR hC
  go_enter Tryd.func111, Tryd.ntmps111
  go_wp2_with (first
    | (go_quiet (fail)))
  go_ret2
  exact ⟨rfl, HR.out.goes _ _ _ (by push_cast; rfl)⟩
set_option maxHeartbeats 4000000 in
theorem readByte_eof (g : Nat) (p : Value) (A : Option Addr) (n c o : Nat) (p1 p2 : Addr) (w : World) (hR : RdAt w g p A n c o) (hE : Eofs w g p1 p2) (hn : n ≤ 2147483647) (ho : n ≤ o) :
    Calls Tryd.prog 111 #[.pointer (some ⟨g, 0, none⟩)] w fun e w' => e = .returned (.tuple #[.int .u8 0, erV p1]) ∧ Drawn0 w w' := by
  have hc0 := hR.blk.cell (j := 0) rfl
  have hc1 := hR.blk.cell (j := 1) rfl
  have hc2 := hR.blk.cell (j := 2) rfl
  have he1 := hE.one
  have q1 : decide ((n : Int) ≤ o) = true := decide_eq_true (by omega)
  have q2 : decide (n ≤ o) = true := decide_eq_true (by omega)
  clear hR hE
  go_enter Tryd.func111, Tryd.ntmps111
  go_wp2_with (first
    | (go_quiet (fail)))
  go_ret2
  exact ⟨rfl, ⟨⟨_, by simp [World.drewN_drewN]; rfl⟩⟩⟩
set_option maxHeartbeats 4000000 in
theorem readUvar_ok (g : Nat) (p : Value) (A : Option Addr) (n c o : Nat) (bs r : List Int) (x : Nat) (m : Int) (w : World) (hR : RdAt w g p A n c o) (hC : (Kd.int .u8).C w A n bs) (hc : n ≤ c) (hn : n ≤ 2147483647) (ho : o ≤ n) (hb : bytesB bs = true)
    (h : varP 10 true (bs.drop o) = .ok x r) (hm : (x : Int) ≤ m) (hm9 : m ≤ 2147483647) :
    ∃ o', o < o' ∧ o' ≤ n ∧ r = bs.drop o' ∧ ∀ s : ByteArray, Calls Tryd.prog 114 #[.pointer (some ⟨g, 0, none⟩), .string s, .int .u64 m] w fun e w' => e = .returned (.tuple #[.int .u64 x, .nilIface]) ∧ Went w w' g p A n c o' := by
  have HR := Aside0.mk hR
  have hln : bs.length = n := hC.1
  obtain ⟨l, hl1, hln2, hr, hx, hU⟩ := uvar_okW (bs.drop o) r x (bytesB_drop hb o) h
  rw [List.length_drop] at hln2
  refine ⟨o + l, by omega, by omega, by rw [hr, List.drop_drop], ?_⟩
  have hc0 := hR.blk.cell (j := 0) rfl
  have hc1 := hR.blk.cell (j := 1) rfl
  have hc2 := hR.blk.cell (j := 2) rfl
  have hfr := hR.blk.free 2
  obtain ⟨i8, h8⟩ := h8
  obtain ⟨A2, qcut, hC2⟩ := cutLo (P := Tryd.prog) 23 5 Tryd.underlying23 h8.1 h8.2 A n c .i64 (o : Int) o rfl ho hc
  have HU := Aside0.mk (quietSame (w := w) fun k => hU A2 (n - o) (c - o) (w.drewN k) (hC2 _ _ _ rfl (Kd.C_drewN hC k)) (by omega) (by omega))
  have q1 : ((l : Int) == 0) = false := by rw [beq_eq_false_iff_ne]; omega
  have q2 : decide ((l : Int) < 0) = false := decide_eq_false (by omega)
  have q3 : decide (m < (x : Int)) = false := decide_eq_false (by omega)
  have qw : IntKind.i64.wrap ((o : Int) + l) = (o : Int) + l := IntWalk.i64_in _ (by omega)
  obtain ⟨nn, hnn⟩ : ∃ y, n - o = y := ⟨_, rfl⟩
  obtain ⟨cc, hcc⟩ : ∃ y, c - o = y := ⟨_, rfl⟩
  rw [hnn, hcc] at HU
  rw [hnn, hcc] at qcut
  clear hR hC hU hr h hC2 hnn hcc hb hln
  intro s
  go_enter Tryd.func114, Tryd.ntmps114
  go_wp2_with (first
    | (go_quiet ((go_at_call 117; exact HU.out _))))
  go_ret2
  exact ⟨rfl, HR.out.goes _ _ _ (by push_cast; rfl)⟩
set_option maxHeartbeats 4000000 in
theorem readUvar_cut (g : Nat) (p : Value) (A : Option Addr) (n c o : Nat) (bs : List Int) (p1 p2 : Addr) (s : ByteArray) (m : Int) (w : World) (hR : RdAt w g p A n c o) (hE : Eofs w g p1 p2) (hC : (Kd.int .u8).C w A n bs) (hc : n ≤ c) (hn : n ≤ 2147483647) (ho : o ≤ n) (hb : bytesB bs = true)
    (h : varP 10 true (bs.drop o) = .cut) :
    Calls Tryd.prog 114 #[.pointer (some ⟨g, 0, none⟩), .string s, .int .u64 m] w fun e w' => e = .returned (.tuple #[.int .u64 0, erV p2]) ∧ Drawn0 w w' := by
  have hc0 := hR.blk.cell (j := 0) rfl
  have hc1 := hR.blk.cell (j := 1) rfl
  have hc2 := hR.blk.cell (j := 2) rfl
  have he2 := hE.two
  obtain ⟨i8, h8⟩ := h8
  obtain ⟨A2, qcut, hC2⟩ := cutLo (P := Tryd.prog) 23 5 Tryd.underlying23 h8.1 h8.2 A n c .i64 (o : Int) o rfl ho hc
  have HU := Aside0.mk (quietSame (w := w) fun k => uvar_cut A2 (n - o) (c - o) (bs.drop o) (w.drewN k) (hC2 _ _ _ rfl (Kd.C_drewN hC k)) (by omega) (by omega) (bytesB_drop hb o) h)
  obtain ⟨nn, hnn⟩ : ∃ y, n - o = y := ⟨_, rfl⟩
  obtain ⟨cc, hcc⟩ : ∃ y, c - o = y := ⟨_, rfl⟩
  rw [hnn, hcc] at HU
  rw [hnn, hcc] at qcut
  clear hR hC h hC2 hnn hcc hb hE
  go_enter Tryd.func114, Tryd.ntmps114
  go_wp2_with (first
    | (go_quiet ((go_at_call 117; exact HU.out _)))
    | (go_quiet (fail)))
  go_ret2
  exact ⟨rfl, ⟨⟨_, by simp [World.drewN_drewN]; rfl⟩⟩⟩
theorem zig_ok {m x : Int} {bs r : List Int} (h : zigP m bs = .ok x r) : ∃ z, varP 10 true bs = .ok z r ∧ unzz z = x ∧ -m ≤ x ∧ x < m := by
  obtain ⟨z, r1, h1, h2⟩ := bind_ok h
  by_cases c : -m ≤ unzz z ∧ unzz z < m
  · rw [if_pos c] at h2
    injection h2 with h3 h4
    subst h3 h4
    exact ⟨z, h1, rfl, c.1, c.2⟩
  · rw [if_neg c] at h2; cases h2
theorem zig_cut {m : Int} {bs : List Int} (h : zigP m bs = .cut) : varP 10 true bs = .cut := by
  rcases bind_cut h with h1 | ⟨z, r1, h1, h2⟩
  · exact h1
  · by_cases c : -m ≤ unzz z ∧ unzz z < m
    · rw [if_pos c] at h2; cases h2
    · rw [if_neg c] at h2; cases h2
set_option maxHeartbeats 4000000 in
theorem readVar_ok (g : Nat) (p : Value) (A : Option Addr) (n c o : Nat) (bs r : List Int) (x m : Int) (w : World) (hR : RdAt w g p A n c o) (hC : (Kd.int .u8).C w A n bs) (hc : n ≤ c) (hn : n ≤ 2147483647) (ho : o ≤ n) (hb : bytesB bs = true)
    (h : zigP m (bs.drop o) = .ok x r) (hm0 : 0 < m) (hm9 : m ≤ 9223372036854775808) :
    ∃ o', o < o' ∧ o' ≤ n ∧ r = bs.drop o' ∧ ∀ s : ByteArray, Calls Tryd.prog 113 #[.pointer (some ⟨g, 0, none⟩), .string s, .int .i64 (-m), .int .i64 (m - 1)] w fun e w' => e = .returned (.tuple #[.int .i64 x, .nilIface]) ∧ Went w w' g p A n c o' := by
  have HR := Aside0.mk hR
  have hln : bs.length = n := hC.1
  obtain ⟨z, hz, hzx, hm1, hm2⟩ := zig_ok h
  obtain ⟨l, hl1, hln2, hr, hx, hU⟩ := uvar_okW (bs.drop o) r z (bytesB_drop hb o) hz
  rw [List.length_drop] at hln2
  refine ⟨o + l, by omega, by omega, by rw [hr, List.drop_drop], ?_⟩
  have hc0 := hR.blk.cell (j := 0) rfl
  have hc1 := hR.blk.cell (j := 1) rfl
  have hc2 := hR.blk.cell (j := 2) rfl
  have hfr := hR.blk.free 2
  obtain ⟨i8, h8⟩ := h8
  obtain ⟨A2, qcut, hC2⟩ := cutLo (P := Tryd.prog) 23 5 Tryd.underlying23 h8.1 h8.2 A n c .i64 (o : Int) o rfl ho hc
  have HU := Aside0.mk (quietSame (w := w) fun k => varint_of A2 (n - o) (c - o) z (l : Int) (w.drewN k) hx (hU A2 (n - o) (c - o) (w.drewN k) (hC2 _ _ _ rfl (Kd.C_drewN hC k)) (by omega) (by omega)))
  rw [hzx] at HU
  have q1 : ((l : Int) == 0) = false := by rw [beq_eq_false_iff_ne]; omega
  have q2 : decide ((l : Int) < 0) = false := decide_eq_false (by omega)
  obtain ⟨lo, hlo⟩ : ∃ y, -m = y := ⟨_, rfl⟩
  obtain ⟨hi, hhi⟩ : ∃ y, m - 1 = y := ⟨_, rfl⟩
  rw [hlo, hhi]
  have q3 : decide (x < lo) = false := decide_eq_false (by omega)
  have q4 : decide (hi < x) = false := decide_eq_false (by omega)
  have qw : IntKind.i64.wrap ((o : Int) + l) = (o : Int) + l := IntWalk.i64_in _ (by omega)
  obtain ⟨nn, hnn⟩ : ∃ y, n - o = y := ⟨_, rfl⟩
  obtain ⟨cc, hcc⟩ : ∃ y, c - o = y := ⟨_, rfl⟩
  rw [hnn, hcc] at HU
  rw [hnn, hcc] at qcut
  clear hR hC hU hr h hC2 hnn hcc hb hln hz hzx hx hm0 hm9 hm1 hm2 hlo hhi
  intro s
  go_enter Tryd.func113, Tryd.ntmps113
  go_wp2_with (first
    | (go_quiet ((go_at_call 116; exact HU.out _))))
  go_ret2
  exact ⟨rfl, HR.out.goes _ _ _ (by push_cast; rfl)⟩
set_option maxHeartbeats 4000000 in
theorem readVar_cut (g : Nat) (p : Value) (A : Option Addr) (n c o : Nat) (bs : List Int) (p1 p2 : Addr) (s : ByteArray) (m lo hi : Int) (w : World) (hR : RdAt w g p A n c o) (hE : Eofs w g p1 p2) (hC : (Kd.int .u8).C w A n bs) (hc : n ≤ c) (hn : n ≤ 2147483647) (ho : o ≤ n) (hb : bytesB bs = true)
    (h : zigP m (bs.drop o) = .cut) :
    Calls Tryd.prog 113 #[.pointer (some ⟨g, 0, none⟩), .string s, .int .i64 lo, .int .i64 hi] w fun e w' => e = .returned (.tuple #[.int .i64 0, erV p2]) ∧ Drawn0 w w' := by
  have hc0 := hR.blk.cell (j := 0) rfl
  have hc1 := hR.blk.cell (j := 1) rfl
  have hc2 := hR.blk.cell (j := 2) rfl
  have he2 := hE.two
  obtain ⟨i8, h8⟩ := h8
  obtain ⟨A2, qcut, hC2⟩ := cutLo (P := Tryd.prog) 23 5 Tryd.underlying23 h8.1 h8.2 A n c .i64 (o : Int) o rfl ho hc
  have HU := Aside0.mk (quietSame (w := w) fun k => varint_of A2 (n - o) (c - o) 0 0 (w.drewN k) (by omega) (uvar_cut A2 (n - o) (c - o) (bs.drop o) (w.drewN k) (hC2 _ _ _ rfl (Kd.C_drewN hC k)) (by omega) (by omega) (bytesB_drop hb o) (zig_cut h)))
  rw [show unzz 0 = 0 from rfl] at HU
  obtain ⟨nn, hnn⟩ : ∃ y, n - o = y := ⟨_, rfl⟩
  obtain ⟨cc, hcc⟩ : ∃ y, c - o = y := ⟨_, rfl⟩
  rw [hnn, hcc] at HU
  rw [hnn, hcc] at qcut
  clear hR hC h hC2 hnn hcc hb hE
  go_enter Tryd.func113, Tryd.ntmps113
  go_wp2_with (first
    | (go_quiet ((go_at_call 116; exact HU.out _)))
    | (go_quiet (fail)))
  go_ret2
  exact ⟨rfl, ⟨⟨_, by simp [World.drewN_drewN]; rfl⟩⟩⟩
set_option maxHeartbeats 4000000 in
theorem readInt8_ok (g : Nat) (p : Value) (A : Option Addr) (n c o : Nat) (bs : List Int) (w : World) (hR : RdAt w g p A n c o) (hC : (Kd.int .u8).C w A n bs) (hb : bytesB bs = true) (hn : n ≤ 2147483647) (ho : o < n) :
    Calls Tryd.prog 102 #[.pointer (some ⟨g, 0, none⟩)] w fun e w' => e = .returned (.tuple #[.int .i8 (s8 (rd bs (o : Nat))), .nilIface]) ∧ Went w w' g p A n c (o + 1) := by
  have H := Aside0.mk (readByte_ok g p A n c o bs w hR hC hn ho)
  have hby := bytesB_rd hb (i := (o : Int)) (k := o) rfl (by have := hC.1; omega)
  obtain ⟨b, hb2⟩ : ∃ b, rd bs (o : Nat) = b := ⟨_, rfl⟩
  rw [hb2] at H hby ⊢
  have qw : IntKind.i8.wrap b = s8 b := wrap8 b hby.1 hby.2
  clear hR hC hb hb2 hby
  go_enter Tryd.func102, Tryd.ntmps102
  go_wp2_with (first
    | (go_at_call 111; go_loud (with_reducible refine H.out.mono ?_); rintro e w2 ⟨rfl, HW⟩))
  go_ret2
  refine ⟨?_, HW⟩
  rw [← qw]; rfl
set_option maxHeartbeats 4000000 in
theorem readInt8_eof (g : Nat) (p : Value) (A : Option Addr) (n c o : Nat) (p1 p2 : Addr) (w : World) (hR : RdAt w g p A n c o) (hE : Eofs w g p1 p2) (hn : n ≤ 2147483647) (ho : n ≤ o) :
    Calls Tryd.prog 102 #[.pointer (some ⟨g, 0, none⟩)] w fun e w' => e = .returned (.tuple #[.int .i8 0, erV p1]) ∧ Drawn0 w w' := by
  have H := Aside0.mk (readByte_eof g p A n c o p1 p2 w hR hE hn ho)
  clear hR hE
  go_enter Tryd.func102, Tryd.ntmps102
  go_wp2_with (first
    | (go_at_call 111; go_loud (with_reducible refine H.out.mono ?_); rintro e w2 ⟨rfl, HW⟩))
  go_ret2
  exact ⟨rfl, HW⟩
set_option maxHeartbeats 4000000 in
theorem readInt16_ok (g : Nat) (p : Value) (A : Option Addr) (n c o : Nat) (bs r : List Int) (x : Int) (w : World) (hR : RdAt w g p A n c o) (hC : (Kd.int .u8).C w A n bs) (hc : n ≤ c) (hn : n ≤ 2147483647) (ho : o ≤ n) (hb : bytesB bs = true)
    (h : zigP 32768 (bs.drop o) = .ok x r) :
    ∃ o', o < o' ∧ o' ≤ n ∧ r = bs.drop o' ∧ Calls Tryd.prog 99 #[.pointer (some ⟨g, 0, none⟩)] w fun e w' => e = .returned (.tuple #[.int .i16 x, .nilIface]) ∧ Went w w' g p A n c o' := by
  obtain ⟨o', h1, h2, h3, h4⟩ := readVar_ok g p A n c o bs r x 32768 w hR hC hc hn ho hb h (by omega) (by omega)
  refine ⟨o', h1, h2, h3, ?_⟩
  rw [show (32768 : Int) - 1 = 32767 from rfl] at h4
  have H := Aside0.mk h4
  obtain ⟨z, _, _, hm1, hm2⟩ := zig_ok h
  have qw : IntKind.i16.wrap x = x := by exact IntWalk.i16_in _ (by omega)
  clear hR hC h4 h3 h hb hm1 hm2
  go_enter Tryd.func99, Tryd.ntmps99
  go_wp2_with (first
    | (go_at_call 113; go_loud (with_reducible refine (H.out _).mono ?_); rintro e w2 ⟨rfl, HW⟩))
  go_ret2
  exact ⟨by first | rfl | (show Ending.returned (Value.tuple #[Value.int IntKind.i16 (IntKind.i16.wrap x), _]) = _; rw [qw]), HW⟩
set_option maxHeartbeats 4000000 in
theorem readInt16_cut (g : Nat) (p : Value) (A : Option Addr) (n c o : Nat) (bs : List Int) (p1 p2 : Addr) (w : World) (hR : RdAt w g p A n c o) (hE : Eofs w g p1 p2) (hC : (Kd.int .u8).C w A n bs) (hc : n ≤ c) (hn : n ≤ 2147483647) (ho : o ≤ n) (hb : bytesB bs = true)
    (h : zigP 32768 (bs.drop o) = .cut) :
    Calls Tryd.prog 99 #[.pointer (some ⟨g, 0, none⟩)] w fun e w' => e = .returned (.tuple #[.int .i16 0, erV p2]) ∧ Drawn0 w w' := by
  have H := Aside0.mk fun s lo hi => readVar_cut g p A n c o bs p1 p2 s 32768 lo hi w hR hE hC hc hn ho hb h
  clear hR hC h hb hE
  go_enter Tryd.func99, Tryd.ntmps99
  go_wp2_with (first
    | (go_at_call 113; go_loud (with_reducible refine (H.out _ _ _).mono ?_); rintro e w2 ⟨rfl, HW⟩))
  go_ret2
  exact ⟨rfl, HW⟩
set_option maxHeartbeats 4000000 in
theorem readInt32_ok (g : Nat) (p : Value) (A : Option Addr) (n c o : Nat) (bs r : List Int) (x : Int) (w : World) (hR : RdAt w g p A n c o) (hC : (Kd.int .u8).C w A n bs) (hc : n ≤ c) (hn : n ≤ 2147483647) (ho : o ≤ n) (hb : bytesB bs = true)
    (h : zigP 2147483648 (bs.drop o) = .ok x r) :
    ∃ o', o < o' ∧ o' ≤ n ∧ r = bs.drop o' ∧ Calls Tryd.prog 100 #[.pointer (some ⟨g, 0, none⟩)] w fun e w' => e = .returned (.tuple #[.int .i32 x, .nilIface]) ∧ Went w w' g p A n c o' := by
  obtain ⟨o', h1, h2, h3, h4⟩ := readVar_ok g p A n c o bs r x 2147483648 w hR hC hc hn ho hb h (by omega) (by omega)
  refine ⟨o', h1, h2, h3, ?_⟩
  rw [show (2147483648 : Int) - 1 = 2147483647 from rfl] at h4
  have H := Aside0.mk h4
  obtain ⟨z, _, _, hm1, hm2⟩ := zig_ok h
  have qw : IntKind.i32.wrap x = x := by exact IntWalk.i32_in _ (by omega)
  clear hR hC h4 h3 h hb hm1 hm2
  go_enter Tryd.func100, Tryd.ntmps100
  go_wp2_with (first
    | (go_at_call 113; go_loud (with_reducible refine (H.out _).mono ?_); rintro e w2 ⟨rfl, HW⟩))
  go_ret2
  exact ⟨by first | rfl | (show Ending.returned (Value.tuple #[Value.int IntKind.i32 (IntKind.i32.wrap x), _]) = _; rw [qw]), HW⟩
set_option maxHeartbeats 4000000 in
theorem readInt32_cut (g : Nat) (p : Value) (A : Option Addr) (n c o : Nat) (bs : List Int) (p1 p2 : Addr) (w : World) (hR : RdAt w g p A n c o) (hE : Eofs w g p1 p2) (hC : (Kd.int .u8).C w A n bs) (hc : n ≤ c) (hn : n ≤ 2147483647) (ho : o ≤ n) (hb : bytesB bs = true)
    (h : zigP 2147483648 (bs.drop o) = .cut) :
    Calls Tryd.prog 100 #[.pointer (some ⟨g, 0, none⟩)] w fun e w' => e = .returned (.tuple #[.int .i32 0, erV p2]) ∧ Drawn0 w w' := by
  have H := Aside0.mk fun s lo hi => readVar_cut g p A n c o bs p1 p2 s 2147483648 lo hi w hR hE hC hc hn ho hb h
  clear hR hC h hb hE
  go_enter Tryd.func100, Tryd.ntmps100
  go_wp2_with (first
    | (go_at_call 113; go_loud (with_reducible refine (H.out _ _ _).mono ?_); rintro e w2 ⟨rfl, HW⟩))
  go_ret2
  exact ⟨rfl, HW⟩
set_option maxHeartbeats 4000000 in
theorem readInt64_ok (g : Nat) (p : Value) (A : Option Addr) (n c o : Nat) (bs r : List Int) (x : Int) (w : World) (hR : RdAt w g p A n c o) (hC : (Kd.int .u8).C w A n bs) (hc : n ≤ c) (hn : n ≤ 2147483647) (ho : o ≤ n) (hb : bytesB bs = true)
    (h : zigP 9223372036854775808 (bs.drop o) = .ok x r) :
    ∃ o', o < o' ∧ o' ≤ n ∧ r = bs.drop o' ∧ Calls Tryd.prog 101 #[.pointer (some ⟨g, 0, none⟩)] w fun e w' => e = .returned (.tuple #[.int .i64 x, .nilIface]) ∧ Went w w' g p A n c o' := by
  obtain ⟨o', h1, h2, h3, h4⟩ := readVar_ok g p A n c o bs r x 9223372036854775808 w hR hC hc hn ho hb h (by omega) (by omega)
  refine ⟨o', h1, h2, h3, ?_⟩
  rw [show (9223372036854775808 : Int) - 1 = 9223372036854775807 from rfl] at h4
  have H := Aside0.mk h4
  obtain ⟨z, _, _, hm1, hm2⟩ := zig_ok h
  have qw : IntKind.i64.wrap x = x := by exact IntWalk.i64_in _ (by omega)
  clear hR hC h4 h3 h hb hm1 hm2
  go_enter Tryd.func101, Tryd.ntmps101
  go_wp2_with (first
    | (go_at_call 113; go_loud (with_reducible refine (H.out _).mono ?_); rintro e w2 ⟨rfl, HW⟩))
  go_ret2
  exact ⟨by first | rfl | (show Ending.returned (Value.tuple #[Value.int IntKind.i64 (IntKind.i64.wrap x), _]) = _; rw [qw]), HW⟩
set_option maxHeartbeats 4000000 in
theorem readInt64_cut (g : Nat) (p : Value) (A : Option Addr) (n c o : Nat) (bs : List Int) (p1 p2 : Addr) (w : World) (hR : RdAt w g p A n c o) (hE : Eofs w g p1 p2) (hC : (Kd.int .u8).C w A n bs) (hc : n ≤ c) (hn : n ≤ 2147483647) (ho : o ≤ n) (hb : bytesB bs = true)
    (h : zigP 9223372036854775808 (bs.drop o) = .cut) :
    Calls Tryd.prog 101 #[.pointer (some ⟨g, 0, none⟩)] w fun e w' => e = .returned (.tuple #[.int .i64 0, erV p2]) ∧ Drawn0 w w' := by
  have H := Aside0.mk fun s lo hi => readVar_cut g p A n c o bs p1 p2 s 9223372036854775808 lo hi w hR hE hC hc hn ho hb h
  clear hR hC h hb hE
  go_enter Tryd.func101, Tryd.ntmps101
  go_wp2_with (first
    | (go_at_call 113; go_loud (with_reducible refine (H.out _ _ _).mono ?_); rintro e w2 ⟨rfl, HW⟩))
  go_ret2
  exact ⟨rfl, HW⟩
set_option maxHeartbeats 4000000 in
theorem readLength_ok (g : Nat) (p : Value) (A : Option Addr) (n c o : Nat) (bs r : List Int) (x : Nat) (w : World) (hR : RdAt w g p A n c o) (hC : (Kd.int .u8).C w A n bs) (hc : n ≤ c) (hn : n ≤ 2147483647) (ho : o ≤ n) (hb : bytesB bs = true)
    (h : varP 10 true (bs.drop o) = .ok x r) (hx : x ≤ 2147483647) :
    ∃ o', o < o' ∧ o' ≤ n ∧ r = bs.drop o' ∧ Calls Tryd.prog 103 #[.pointer (some ⟨g, 0, none⟩)] w fun e w' => e = .returned (.tuple #[.int .i64 x, .nilIface]) ∧ Went w w' g p A n c o' := by
  obtain ⟨o', h1, h2, h3, h4⟩ := readUvar_ok g p A n c o bs r x 2147483647 w hR hC hc hn ho hb h (by omega) (by omega)
  refine ⟨o', h1, h2, h3, ?_⟩
  have H := Aside0.mk h4
  have qw : IntKind.i64.wrap (x : Int) = (x : Int) := IntWalk.i64_in _ (by omega)
  clear hR hC h4 h3 h hb
  go_enter Tryd.func103, Tryd.ntmps103
  go_wp2_with (first
    | (go_at_call 114; go_loud (with_reducible refine (H.out _).mono ?_); rintro e w2 ⟨rfl, HW⟩))
  go_ret2
  exact ⟨rfl, HW⟩
set_option maxHeartbeats 4000000 in
theorem readLength_cut (g : Nat) (p : Value) (A : Option Addr) (n c o : Nat) (bs : List Int) (p1 p2 : Addr) (w : World) (hR : RdAt w g p A n c o) (hE : Eofs w g p1 p2) (hC : (Kd.int .u8).C w A n bs) (hc : n ≤ c) (hn : n ≤ 2147483647) (ho : o ≤ n) (hb : bytesB bs = true)
    (h : varP 10 true (bs.drop o) = .cut) :
    Calls Tryd.prog 103 #[.pointer (some ⟨g, 0, none⟩)] w fun e w' => e = .returned (.tuple #[.int .i64 0, erV p2]) ∧ Drawn0 w w' := by
  have H := Aside0.mk fun s m => readUvar_cut g p A n c o bs p1 p2 s m w hR hE hC hc hn ho hb h
  clear hR hC h hb hE
  go_enter Tryd.func103, Tryd.ntmps103
  go_wp2_with (first
    | (go_at_call 114; go_loud (with_reducible refine (H.out _ _).mono ?_); rintro e w2 ⟨rfl, HW⟩))
  go_ret2
  exact ⟨rfl, HW⟩
end Go.Proofs.YtcboegodjlfmnaaDoor.Trm

namespace Go.Proofs.YtcboegodjlfmnaaDoor.Trn
open Go.Proofs.YtcboegodjlfmnaaDoor.Trm Go.Proofs.YtcboegodjlfmnaaDoor.Tuv Go.Proofs.YtcboegodjlfmnaaDoor.Tpa Go.Proofs.YtcboegodjlfmnaaDoor.Duv Go.Proofs.YtcboegodjlfmnaaDoor.Dpu Go.Proofs.YtcboegodjlfmnaaDoor.Pak Go.Proofs.YtcboegodjlfmnaaDoor.Buf Go.Proofs.YtcboegodjlfmnaaDoor.Fit Go.Proofs.YtcboegodjlfmnaaDoor.Bit Go.Proofs.YtcboegodjlfmnaaDoor.Wrd Go.Proofs.YtcboegodjlfmnaaDoor.Spl Go.Proofs.YtcboegodjlfmnaaDoor.Str Go.Proofs.YtcboegodjlfmnaaDoor.Flt Go.Proofs.YtcboegodjlfmnaaDoor.Owe Go.Proofs.YtcboegodjlfmnaaDoor.Num Go.Proofs.YtcboegodjlfmnaaDoor.Le Go.Proofs.YtcboegodjlfmnaaDoor.Lst Go.Proofs.YtcboegodjlfmnaaDoor.Aid Go.RowKit Go.Proofs.YtcboegodjlfmnaaDoorW.PrintWords Go.Proofs.YtcboegodjlfmnaaDoorW.PrintLast Go.Proofs.YtcboegodjlfmnaaDoorW.PrintMore
set_option linter.unusedVariables false
set_option linter.unusedSimpArgs false
theorem quietCall2 {P : Program} {f : FuncId} {args : Array Value} {w : World} {a b : Nat} {v : Value}
    (h : Calls P f args (w.drewN (a + b)) fun e w' => e = .returned v ∧ Drawn0 (w.drewN (a + b)) w') : Calls P f args (w.drewN (a + b)) fun e w'' => e = .returned v ∧ ∃ m, w'' = w.drewN (a + m) :=
  h.mono fun _ _ ⟨he, ⟨m, hm⟩⟩ => ⟨he, b + m, by rw [hm, World.drewN_drewN, Nat.add_assoc]⟩
theorem le8L_take (l : List Int) (h : 8 ≤ l.length) : le8L (l.take 8) = le8L l := by
  match l, h with
  | a0 :: a1 :: a2 :: a3 :: a4 :: a5 :: a6 :: a7 :: r, _ => rfl
theorem take_ok {k : Nat} {bs l r : List Int} {o : Nat} (h : takeP k (bs.drop o) = .ok l r) (ho : o ≤ bs.length) : o + k ≤ bs.length ∧ l = (bs.drop o).take k ∧ r = bs.drop (o + k) := by
  unfold takeP at h
  by_cases c : k ≤ (bs.drop o).length
  · rw [if_pos c] at h
    injection h with h1 h2
    rw [List.length_drop] at c
    exact ⟨by omega, h1.symm, by rw [← h2, List.drop_drop]⟩
  · rw [if_neg c] at h; cases h
theorem take_cut {k : Nat} {bs : List Int} {o : Nat} (h : takeP k (bs.drop o) = .cut) (ho : o ≤ bs.length) : bs.length < o + k := by
  unfold takeP at h
  by_cases c : k ≤ (bs.drop o).length
  · rw [if_pos c] at h; cases h
  · rw [List.length_drop] at c; omega
set_option maxHeartbeats 4000000 in
theorem readFloat_ok (g : Nat) (p : Value) (A : Option Addr) (n c o : Nat) (bs : List Int) (w : World) (hR : RdAt w g p A n c o) (hC : (Kd.int .u8).C w A n bs) (hc : n ≤ c) (hb : bytesB bs = true) (hn : n ≤ 2147483647) (ho : o + 8 ≤ n) :
    Calls Tryd.prog 98 #[.pointer (some ⟨g, 0, none⟩)] w fun e w' => e = .returned (.tuple #[.float .f64 (eightN ((bs.drop o).take 8)), .nilIface]) ∧ Went w w' g p A n c (o + 8) := by
  have HR := Aside0.mk hR
  have hln : bs.length = n := hC.1
  have hc0 := hR.blk.cell (j := 0) rfl
  have hc1 := hR.blk.cell (j := 1) rfl
  have hc2 := hR.blk.cell (j := 2) rfl
  have hfr := hR.blk.free 2
  obtain ⟨i8, h8⟩ := h8
  obtain ⟨A2, qcut, hC2⟩ := cutLo (P := Tryd.prog) 23 5 Tryd.underlying23 h8.1 h8.2 A n c .i64 (o : Int) o rfl (by omega) hc
  have HC := Aside0.mk hC
  have HLE := Aside0.mk fun (W : World) (hW : (Kd.int .u8).C W A n bs) => pqthrift_leUint64.calls' A2 (n - o) (c - o) (bs.drop o) W (hC2 _ _ _ rfl hW) (by omega) (by omega) (bytesB_drop hb o)
  have h8L : 8 ≤ (bs.drop o).length := by rw [List.length_drop]; omega
  have hv0 : 0 ≤ le8L (bs.drop o) := by
    have b1 := le4L_bd (bytesB_drop hb o) (by omega)
    have b2 := le4L_bd (bytesB_drop (bytesB_drop hb o) 4) (by rw [List.length_drop]; omega)
    unfold le8L; omega
  rw [show eightN ((bs.drop o).take 8) = (le8L (bs.drop o)).toNat by unfold eightN; rw [le8L_take _ h8L]]
  obtain ⟨y, hy⟩ : ∃ y, le8L (bs.drop o) = y := ⟨_, rfl⟩
  rw [hy] at HLE hv0 ⊢
  obtain ⟨q, hq⟩ : ∃ q, y.toNat = q := ⟨_, rfl⟩
  have hff : ∀ W : World, (callFunc 43 #[.int .u64 y]).run Tryd.prog W = .ok (.value (.float .f64 q)) W := by rw [← hq]; exact float64frombits_run y hv0
  rw [hq]
  have q1 : decide ((n : Int) < (o : Int) + 8) = false := decide_eq_false (by omega)
  have qw : IntKind.i64.wrap ((o : Int) + 8) = (o : Int) + 8 := IntWalk.i64_in _ (by omega)
  obtain ⟨nn, hnn⟩ : ∃ y, n - o = y := ⟨_, rfl⟩
  obtain ⟨cc, hcc⟩ : ∃ y, c - o = y := ⟨_, rfl⟩
  rw [hnn, hcc] at HLE
  rw [hnn, hcc] at qcut
  clear hR hC hC2 hnn hcc hb hln hy hq h8L hv0
  go_enter Tryd.func98, Tryd.ntmps98
  go_wp2_with (go_quiet (fail))
  go_quiet ((go_at_call 112; go_loud (exact quietCall2 (HLE.out _ (Kd.C_drewN HC.out _)))))
  go_wp2_with (go_quiet (fail))
  go_ret2
  exact ⟨rfl, HR.out.goes _ _ _ (by push_cast; rfl)⟩
set_option maxHeartbeats 4000000 in
theorem readFloat_cut (g : Nat) (p : Value) (A : Option Addr) (n c o : Nat) (p1 p2 : Addr) (w : World) (hR : RdAt w g p A n c o) (hE : Eofs w g p1 p2) (hn : n ≤ 2147483647) (ho0 : o ≤ n) (ho : n < o + 8) :
    Calls Tryd.prog 98 #[.pointer (some ⟨g, 0, none⟩)] w fun e w' => e = .returned (.tuple #[.float .f64 0, erV p2]) ∧ Drawn0 w w' := by
  have hc0 := hR.blk.cell (j := 0) rfl
  have hc1 := hR.blk.cell (j := 1) rfl
  have hc2 := hR.blk.cell (j := 2) rfl
  have he2 := hE.two
  have q1 : decide ((n : Int) < (o : Int) + 8) = true := decide_eq_true (by omega)
  have qw : IntKind.i64.wrap ((o : Int) + 8) = (o : Int) + 8 := IntWalk.i64_in _ (by omega)
  clear hR hE
  go_enter Tryd.func98, Tryd.ntmps98
  go_wp2_with (first
    | (go_quiet (fail)))
  go_ret2
  exact ⟨rfl, ⟨⟨_, by simp [World.drewN_drewN]; rfl⟩⟩⟩
theorem cutMidB {P : Program} (t e : TypeId) {i : TypeInfo} (ht : P.underlying t = some (.slice e)) (hi : P.info? e = some i) (hsz : i.size = 1) (A : Option Addr) (n c : Nat) (kl kh : IntKind) (lo hi' : Int) (l h : Nat) (hlo : lo = l) (hhi : hi' = h) (h0 : l ≤ h) (h1 : h ≤ n) (hc : n ≤ c) :
    ∃ A', (∀ W : World, (Instr.slice t (.slice A n c) (some (.int kl lo)) (some (.int kh hi')) none).run P W = .ok (.slice A' (h - l) (c - l)) W) ∧
      (∀ (k : Kd Int) (w : World) (xs : List Int), k.sz = 1 → k.C w A n xs → k.C w A' (h - l) ((xs.take h).drop l)) ∧ ∀ a', A' = some a' → ∃ a, A = some a ∧ a'.block = a.block := by
  refine ⟨if c = l then A else A.map (·.add (l * 1)), ?_, ?_, ?_⟩
  · intro W
    subst hlo hhi
    have := cut_mid t e kl kh ht hi 1 hsz A n c l h (by omega) (by omega) (by omega) hc W
    simpa using this
  · intro k w xs hk hC
    have hn : xs.length = n := hC.1
    subst hn
    have := Kd.C_mid (lo := l) (hi := h) (c := c) hC h0 h1 hc
    rw [List.length_drop, List.length_take, Nat.min_eq_left h1, hk] at this
    exact this
  · intro a' ha
    cases A with
    | none => by_cases hcl : c = l <;> simp [hcl] at ha
    | some a =>
      refine ⟨a, rfl, ?_⟩
      by_cases hcl : c = l
      · rw [if_pos hcl] at ha; injection ha with ha; rw [ha]
      · rw [if_neg hcl] at ha
        simp at ha
        rw [← ha]; exact add_block a l
set_option maxHeartbeats 4000000 in
theorem readBytes_ok (g : Nat) (p : Value) (A : Option Addr) (n c o : Nat) (bs r1 : List Int) (x : Nat) (w : World) (hR : RdAt w g p A n c o) (hC : (Kd.int .u8).C w A n bs) (hc : n ≤ c) (hn : n ≤ 2147483647) (ho : o ≤ n) (hb : bytesB bs = true)
    (h : varP 10 true (bs.drop o) = .ok x r1) (hx : x ≤ 10000) (l r : List Int) (ht : takeP x r1 = .ok l r) :
    ∃ o' A' c', o < o' ∧ o' ≤ n ∧ r = bs.drop o' ∧ l.length = x ∧ x ≤ c' ∧ (∀ W, (Kd.int .u8).C W A n bs → (Kd.int .u8).C W A' x l) ∧ (∀ a', A' = some a' → ∃ a, A = some a ∧ a'.block = a.block) ∧
      Calls Tryd.prog 96 #[.pointer (some ⟨g, 0, none⟩)] w fun e w' => e = .returned (.tuple #[.slice A' x c', .nilIface]) ∧ Went w w' g p A n c o' := by
  have hln : bs.length = n := hC.1
  obtain ⟨o1, h1, h2, h3, h4⟩ := readLength_ok g p A n c o bs r1 x w hR hC hc hn ho hb h (by omega)
  subst h3
  obtain ⟨t1, t2, t3⟩ := take_ok ht (by omega)
  obtain ⟨i8, h8⟩ := h8
  obtain ⟨A2, qcut, hC2, hB2⟩ := cutMidB (P := Tryd.prog) 23 5 Tryd.underlying23 h8.1 h8.2 A n c .i64 .i64 (o1 : Int) ((o1 : Int) + x) o1 (o1 + x) rfl (by push_cast; rfl) (by omega) (by omega) hc
  rw [show o1 + x - o1 = x by omega] at qcut hC2
  refine ⟨o1 + x, A2, c - o1, by omega, by omega, t3, by rw [t2, List.length_take, List.length_drop]; omega, by omega, fun W hW => ?_, hB2, ?_⟩
  · have := hC2 _ W bs rfl hW
    rw [List.drop_take, show o1 + x - o1 = x by omega, ← t2] at this
    exact this
  have H := Aside0.mk h4
  have q1 : decide ((n : Int) < (o1 : Int) + x) = false := decide_eq_false (by omega)
  have qw : IntKind.i64.wrap ((o1 : Int) + x) = (o1 : Int) + x := IntWalk.i64_in _ (by omega)
  obtain ⟨cc, hcc⟩ : ∃ y, c - o1 = y := ⟨_, rfl⟩
  rw [hcc] at qcut ⊢
  clear hR hC h hb h4 ht t1 t2 t3 hC2 hB2 hcc h1 h2 hln
  go_enter Tryd.func96, Tryd.ntmps96
  go_wp2_with (first
    | (go_at_call 103; go_loud (with_reducible refine H.out.mono ?_); rintro e w2 ⟨rfl, HW⟩; have hc0 := HW.rd.blk.cell (j := 0) rfl; have hc1 := HW.rd.blk.cell (j := 1) rfl; have hc2 := HW.rd.blk.cell (j := 2) rfl; have hfr := HW.rd.blk.free 2)
    | (go_quiet (fail)))
  go_ret2
  exact ⟨rfl, HW.trans (HW.rd.goes _ (o1 + x) _ (by push_cast; rfl))⟩
set_option maxHeartbeats 4000000 in
theorem readBytes_cut1 (g : Nat) (p : Value) (A : Option Addr) (n c o : Nat) (bs : List Int) (p1 p2 : Addr) (w : World) (hR : RdAt w g p A n c o) (hE : Eofs w g p1 p2) (hC : (Kd.int .u8).C w A n bs) (hc : n ≤ c) (hn : n ≤ 2147483647) (ho : o ≤ n) (hb : bytesB bs = true)
    (h : varP 10 true (bs.drop o) = .cut) :
    Calls Tryd.prog 96 #[.pointer (some ⟨g, 0, none⟩)] w fun e w' => e = .returned (.tuple #[.slice none 0 0, erV p2]) ∧ w.grownBy w' (some g) ∧ RdS w w' g := by
  have H := Aside0.mk (readLength_cut g p A n c o bs p1 p2 w hR hE hC hc hn ho hb h)
  clear hR hC h hb hE
  go_enter Tryd.func96, Tryd.ntmps96
  go_wp2_with (first
    | (go_at_call 103; go_loud (with_reducible refine H.out.mono ?_); rintro e w2 ⟨rfl, HW⟩))
  go_ret2
  have hRS := rdsDrawn HW g
  obtain ⟨k, rfl⟩ := HW.out
  exact ⟨rfl, grownDrewN (grownRefl _ _) _, hRS⟩
set_option maxHeartbeats 4000000 in
theorem readBytes_cut2 (g : Nat) (p : Value) (A : Option Addr) (n c o : Nat) (bs r1 : List Int) (x : Nat) (p1 p2 : Addr) (w : World) (hR : RdAt w g p A n c o) (hE : Eofs w g p1 p2) (hC : (Kd.int .u8).C w A n bs) (hc : n ≤ c) (hn : n ≤ 2147483647) (ho : o ≤ n) (hb : bytesB bs = true)
    (h : varP 10 true (bs.drop o) = .ok x r1) (hx : x ≤ 10000) (ht : takeP x r1 = .cut) :
    Calls Tryd.prog 96 #[.pointer (some ⟨g, 0, none⟩)] w fun e w' => e = .returned (.tuple #[.slice none 0 0, erV p2]) ∧ w.grownBy w' (some g) ∧ RdS w w' g := by
  have hln : bs.length = n := hC.1
  obtain ⟨o1, h1, h2, h3, h4⟩ := readLength_ok g p A n c o bs r1 x w hR hC hc hn ho hb h (by omega)
  subst h3
  have ht2 := take_cut ht (by omega)
  have H := Aside0.mk h4
  have HE := Aside0.mk hE
  have HRR := Aside0.mk hR
  have q1 : decide ((n : Int) < (o1 : Int) + x) = true := decide_eq_true (by omega)
  have qw : IntKind.i64.wrap ((o1 : Int) + x) = (o1 : Int) + x := IntWalk.i64_in _ (by omega)
  clear hR hC h hb h4 ht hE h1 h2 hln ht2
  go_enter Tryd.func96, Tryd.ntmps96
  go_wp2_with (first
    | (go_at_call 103; go_loud (with_reducible refine H.out.mono ?_); rintro e w2 ⟨rfl, HW⟩; have hc0 := HW.rd.blk.cell (j := 0) rfl; have hc1 := HW.rd.blk.cell (j := 1) rfl; have hc2 := HW.rd.blk.cell (j := 2) rfl; have he2 := (HE.out.grown HW.grown).two)
    | (go_quiet (fail)))
  go_ret2
  have hRS := rdsWent HRR.out HW
  exact ⟨rfl, by first | exact grownDrewN HW.grown _ | exact grownDrewN (grownDrewN HW.grown _) _, by first | exact hRS.trans (rdsDrawn ⟨⟨_, rfl⟩⟩ g) | exact (hRS.trans (rdsDrawn ⟨⟨_, rfl⟩⟩ g)).trans (rdsDrawn ⟨⟨_, rfl⟩⟩ g)⟩
end Go.Proofs.YtcboegodjlfmnaaDoor.Trn

namespace Go.Proofs.YtcboegodjlfmnaaDoor.Trh
open Go.Proofs.YtcboegodjlfmnaaDoor.Trn Go.Proofs.YtcboegodjlfmnaaDoor.Trm Go.Proofs.YtcboegodjlfmnaaDoor.Tuv Go.Proofs.YtcboegodjlfmnaaDoor.Tpa Go.Proofs.YtcboegodjlfmnaaDoor.Duv Go.Proofs.YtcboegodjlfmnaaDoor.Dpu Go.Proofs.YtcboegodjlfmnaaDoor.Pak Go.Proofs.YtcboegodjlfmnaaDoor.Buf Go.Proofs.YtcboegodjlfmnaaDoor.Fit Go.Proofs.YtcboegodjlfmnaaDoor.Bit Go.Proofs.YtcboegodjlfmnaaDoor.Wrd Go.Proofs.YtcboegodjlfmnaaDoor.Spl Go.Proofs.YtcboegodjlfmnaaDoor.Str Go.Proofs.YtcboegodjlfmnaaDoor.Flt Go.Proofs.YtcboegodjlfmnaaDoor.Owe Go.Proofs.YtcboegodjlfmnaaDoor.Num Go.Proofs.YtcboegodjlfmnaaDoor.Le Go.Proofs.YtcboegodjlfmnaaDoor.Lst Go.Proofs.YtcboegodjlfmnaaDoor.Aid Go.RowKit Go.Proofs.YtcboegodjlfmnaaDoorW.PrintWords Go.Proofs.YtcboegodjlfmnaaDoorW.PrintLast Go.Proofs.YtcboegodjlfmnaaDoorW.PrintMore
set_option linter.unusedVariables false
set_option linter.unusedSimpArgs false
theorem keepBlk {w w1 : World} {g b t : Nat} {cs : Array Value} (h : Blk w b cs t) (k : w.grownBy w1 (some g)) (hne : b ≠ g) : Blk w1 b cs t := ⟨grown_old k hne h.out⟩
theorem and15 (b : Int) (h0 : 0 ≤ b) (h1 : b < 256) : bits .and .u8 b 15 = b % 16 := by
  obtain ⟨y, rfl⟩ : ∃ y : Nat, b = (y : Int) := ⟨b.toNat, by omega⟩
  rw [show (15 : Int) = ((2 ^ 4 - 1 : Nat) : Int) by decide, (bits_nat .u8 8 (by decide) (fun n h0 h1 => IntWalk.u8_in n (by omega)) y (2 ^ 4 - 1) (by omega) (by decide)).1, Nat.and_two_pow_sub_one_eq_mod]
  omega
theorem grownSetNew {w w1 : World} {row : Option Nat} {b j : Nat} (h : w.grownBy w1 row) (hb : w.heap.size ≤ b) (u : Value) : w.grownBy (w1.setCell ⟨b, j, none⟩ u) row := by
  refine ⟨h.os, h.tape, h.output, ?_, fun k hk hne => (Below.heap_setCell w1 _ u k (by show k ≠ b; omega)).trans (h.block k hk hne)⟩
  show w.heap.size ≤ (w1.setCell ⟨b, j, none⟩ u).heap.size
  have : (w1.setCell ⟨b, j, none⟩ u).heap.size = w1.heap.size := by simp [World.setCell]
  rw [this]; exact h.size
theorem _root_.Go.Proofs.YtcboegodjlfmnaaDoor.Trm.Went.setNew {w w1 : World} {g : Nat} {p : Value} {A : Option Addr} {n c o : Nat} (h : Went w w1 g p A n c o) {b j : Nat} (hb : w.heap.size ≤ b) (hg : g ≠ b) (u : Value) : Went w (w1.setCell ⟨b, j, none⟩ u) g p A n c o :=
  ⟨grownSetNew h.grown hb u, h.rd.far hg u⟩
theorem _root_.Go.Proofs.YtcboegodjlfmnaaDoor.Trm.Went.ofAlloc {w w1 : World} {g : Nat} {p : Value} {A : Option Addr} {n c o : Nat} {x : Obj} (h : Went (w.alloc x) w1 g p A n c o) : Went w w1 g p A n c o := ⟨(grownAlloc0 w g x).trans h.grown, h.rd⟩
theorem ret_cell_tmp {P : Program} {fn : Func} {p u : Tmp} {ty : TypeId} (h : fn.results = #[.cell p ty, .tmp u]) (tmps : Array Value) (w : World) (g : Nat) (t : TypeId) (cs : Array Value) (fr : Nat × Nat) (d : TypeDesc)
    (hp : tmps.getD p undef = .pointer (some ⟨g, 0, none⟩)) (hg : w.heap[g]? = some (.cells cs t fr))
    (hu : P.underlying ty = some d) (hd : (match d with | .struct _ | .array _ _ => true | _ => false) = true) (hi : (P.info? ty).map (·.size) = some cs.size) :
    (results fn tmps).run P w = .ok (.tuple #[.agg cs, tmps.getD u undef]) w := by
  have hp' : tmps[p]?.getD undef = .pointer (some ⟨g, 0, none⟩) := by simpa using hp
  simp [results, h, hp', asAddr, run_loadVar_row w g t ty cs fr d hg hu hd hi]
theorem _root_.Go.Proofs.YtcboegodjlfmnaaDoor.Aid.Blk.two {w : World} {g t : Nat} {a b : Value} (h : Blk w g #[a, b] t) (x y : Value) : Blk ((w.setCell ⟨g, 0, none⟩ x).setCell ⟨g, 1, none⟩ y) g #[x, y] t := by
  have := (h.set 0 x).set 1 y
  simpa using this
theorem _root_.Go.Proofs.YtcboegodjlfmnaaDoor.Aid.Blk.three {w : World} {g t : Nat} {a b c : Value} (h : Blk w g #[a, b, c] t) (x y z : Value) : Blk (((w.setCell ⟨g, 0, none⟩ x).setCell ⟨g, 1, none⟩ y).setCell ⟨g, 2, none⟩ z) g #[x, y, z] t := by
  have := ((h.set 0 x).set 1 y).set 2 z
  simpa using this
theorem off_uniq {bs r : List Int} {a b : Nat} (h1 : r = bs.drop a) (h2 : r = bs.drop b) (ha : a ≤ bs.length) (hb : b ≤ bs.length) : a = b := by
  have e1 := congrArg List.length h1
  have e2 := congrArg List.length h2
  rw [List.length_drop] at e1 e2
  omega
theorem good_off {α : Type} {q : Psr α} (hq : Tpa.Good q) {bs r : List Int} {o : Nat} {v : α} (h : q (bs.drop o) = .ok v r) (ho : o ≤ bs.length) : ∃ o', o ≤ o' ∧ o' ≤ bs.length ∧ r = bs.drop o' := by
  obtain ⟨m, h1, h2, _⟩ := good_suffix hq h
  rw [List.length_drop] at h1
  exact ⟨o + m, by omega, by omega, by rw [h2, List.drop_drop]⟩
theorem tyE : Tryd.prog.underlying 62 = some (.interface (Tryd.prog.methodsAt 62)) := by kernel_rfl
theorem esComp : (Tryd.prog.info? 167).map (·.comparable) = some true := by kernel_rfl
theorem esSize : (Tryd.prog.info? 169).map (·.size) = some 1 := by kernel_rfl
theorem esPtr : Tryd.prog.underlying 167 = some (.pointer 169) := by kernel_rfl
theorem er_same (w : World) (a : Addr) : (binOp .eql 62 (erV a) (erV a)).run Tryd.prog w = .ok (.bool true) w := by
  obtain ⟨i, hi, hcmp⟩ := Option.map_eq_some_iff.1 esComp
  obtain ⟨j, hj, hjs⟩ := Option.map_eq_some_iff.1 esSize
  exact run_eql_iface_ptr_same (P := Tryd.prog) w a tyE esPtr hi hcmp hj
theorem er_other (w : World) (a b : Addr) (hne : a ≠ b) (ha : ∃ c t, w.heap[a.block]? = some (.cells c t (0, 0))) (hb : ∃ c t, w.heap[b.block]? = some (.cells c t (0, 0))) : (binOp .eql 62 (erV a) (erV b)).run Tryd.prog w = .ok (.bool false) w := by
  obtain ⟨i, hi, hcmp⟩ := Option.map_eq_some_iff.1 esComp
  obtain ⟨j, hj, hjs⟩ := Option.map_eq_some_iff.1 esSize
  obtain ⟨c1, t1, h1⟩ := ha
  obtain ⟨c2, t2, h2⟩ := hb
  exact run_eql_iface_ptr_other (P := Tryd.prog) w tyE esPtr hi hcmp hj (by rw [hjs]; decide) hne h1 h2
set_option maxHeartbeats 4000000 in
set_option maxRecDepth 100000 in
theorem dontEOF1 (g : Nat) (p1 p2 : Addr) (w : World) (hE : Eofs w g p1 p2) :
    Calls Tryd.prog 45 #[erV p1] w fun e w' => e = .returned (erV p2) ∧ w = w' := by
  have he1 := hE.one
  have he2 := hE.two
  have heq := er_same w p1
  clear hE
  go_enter Tryd.func45, Tryd.ntmps45
  go_wp2_with (fail)
  go_ret
  exact ⟨rfl, rfl⟩
set_option maxHeartbeats 4000000 in
set_option maxRecDepth 100000 in
theorem dontEOF2 (g : Nat) (p1 p2 : Addr) (w : World) (hE : Eofs w g p1 p2) :
    Calls Tryd.prog 45 #[erV p2] w fun e w' => e = .returned (erV p2) ∧ w = w' := by
  have he1 := hE.one
  have he2 := hE.two
  have heq := er_other w p2 p1 (Ne.symm hE.ne) hE.b2 hE.b1
  clear hE
  go_enter Tryd.func45, Tryd.ntmps45
  go_wp2_with (fail)
  go_ret
  exact ⟨rfl, rfl⟩
set_option maxHeartbeats 4000000 in
set_option maxRecDepth 100000 in
theorem readList_ok (g : Nat) (p : Value) (A : Option Addr) (n c o : Nat) (bs r : List Int) (m : Nat) (el : Int) (w : World) (hR : RdAt w g p A n c o) (hC : (Kd.int .u8).C w A n bs) (hc : n ≤ c) (hn : n ≤ 2147483647) (ho : o ≤ n) (hb : bytesB bs = true)
    (h : lhP (bs.drop o) = .ok (m, el) r) :
    ∃ o', o < o' ∧ o' ≤ n ∧ r = bs.drop o' ∧ m ≤ 1000 ∧ 3 ≤ el ∧ el ≤ 12 ∧ Calls Tryd.prog 104 #[.pointer (some ⟨g, 0, none⟩)] w fun e w' => e = .returned (.tuple #[.agg #[.int .i32 m, .int .i8 el], .nilIface]) ∧ Went w w' g p A n c o' := by
  have hln : bs.length = n := hC.1
  obtain ⟨b, r1, h1, h2⟩ := bind_ok h
  obtain ⟨k1, k2, k3⟩ := byte_ok h1
  subst k3
  have hby := bytesB_rd hb (i := (o : Int)) (k := o) rfl k1
  rw [← k2] at hby
  have hob : o < n := by omega
  have HB := Aside0.mk fun (W : World) (hW : RdAt W g p A n c o) (hCW : (Kd.int .u8).C W A n bs) => readByte_ok g p A n c o bs W hW hCW hn hob
  rw [← k2] at HB
  have HR := Aside0.mk hR
  have HC := Aside0.mk hC
  unfold byt at hby
  by_cases c1 : b % 16 < 3 ∨ 12 < b % 16
  · rw [if_pos c1] at h2; cases h2
  rw [if_neg c1] at h2
  have q2 : bits .and .u8 b 15 = el := by
    rw [and15 b hby.1 hby.2]
    by_cases c2 : b / 16 = 15
    · rw [if_pos c2] at h2
      obtain ⟨m', r2, h3, h4⟩ := bind_ok h2
      injection h4 with h5 h6
      injection h5
    · rw [if_neg c2] at h2
      injection h2 with h3 h4
      injection h3
  have hel : b % 16 = el := by rw [← q2, and15 b hby.1 hby.2]
  have hgl := hR.lt
  by_cases c2 : b / 16 = 15
  · rw [if_pos c2] at h2
    obtain ⟨m', r2, h3, h4⟩ := bind_ok h2
    injection h4 with h5 h6
    injection h5 with h7 h8
    obtain ⟨m2, r3, h9, h10⟩ := bind_ok h3
    by_cases c3 : 1000 < m2
    · rw [if_pos c3] at h10; cases h10
    rw [if_neg c3] at h10
    injection h10 with h11 h12
    subst h11 h7 h6 h12
    obtain ⟨oo, e1, e2, e3⟩ := good_off (good_var _ _) h9 (by omega)
    have HU := Aside0.mk fun (W : World) (hW : RdAt W g p A n c (o + 1)) (hCW : (Kd.int .u8).C W A n bs) (s : ByteArray) => by
      obtain ⟨o', d1, d2, d3, d4⟩ := readUvar_ok g p A n c (o + 1) bs r3 m2 2147483647 W hW hCW hc hn (by omega) hb h9 (by omega) (by omega)
      obtain rfl := off_uniq d3 e3 (by omega) (by omega)
      exact d4 s
    refine ⟨oo, by omega, by omega, e3, by omega, by omega, by omega, ?_⟩
    have q1 : (b / 16 != 15) = false := by rw [bne_eq_false_iff_eq]; exact c2
    have qw : IntKind.i32.wrap (m2 : Int) = (m2 : Int) := IntWalk.i32_in _ (by omega)
    clear hR hC h h1 h3 h9 k1 k2 c1 hb e3
    go_enter Tryd.func104, Tryd.ntmps104
    go_wp2_with (first
      | (go_at_call 111; go_loud (with_reducible refine (HB.out _ (HR.out.alloc _) (Kd.C_alloc HC.out _)).mono ?_); rintro e w1 ⟨rfl, HW⟩)
      | (go_at_call 114; go_loud (with_reducible refine (HU.out _ HW.rd (wentC (Kd.C_alloc HC.out _) HW) _).mono ?_); rintro e w2 ⟨rfl, HW2⟩; have hB := keepBlk (keepBlk (Blk.new w #[.int .i32 0, .int .i8 0] 123) HW.grown (by omega)) HW2.grown (by omega); have hb0 := hB.cell (j := 0) rfl; have hb1 := hB.cell (j := 1) rfl; have hf0 := hB.free 0; have hf1 := hB.free 1; have HB2 := Aside0.mk hB; clear hB))
    refine bodyPost_ret (ret_cell_tmp rfl _ _ w.heap.size 123 #[_, _] (0, 0) _ rfl (HB2.out.two _ _).out Tryd.underlying123 rfl (by kernel_rfl)) rfl ?_
    refine ⟨by rfl, ?_⟩
    exact ((HW.trans HW2).ofAlloc.setNew (Nat.le_refl _) (by omega) _).setNew (Nat.le_refl _) (by omega) _
  · rw [if_neg c2] at h2
    injection h2 with h3 h4
    injection h3 with h5 h6
    refine ⟨o + 1, by omega, by omega, h4.symm, by omega, by omega, by omega, ?_⟩
    have q1 : (b / 16 != 15) = true := by rw [bne_iff_ne]; omega
    have q3 : b / 16 = (m : Int) := by omega
    clear hR hC h h1 h4 k1 k2 c1 c2 hb h5 h6
    go_enter Tryd.func104, Tryd.ntmps104
    go_wp2_with (first
      | (go_at_call 111; go_loud (with_reducible refine (HB.out _ (HR.out.alloc _) (Kd.C_alloc HC.out _)).mono ?_); rintro e w2 ⟨rfl, HW⟩; have hB := keepBlk (Blk.new w #[.int .i32 0, .int .i8 0] 123) HW.grown (by omega); have hb0 := hB.cell (j := 0) rfl; have hb1 := hB.cell (j := 1) rfl; have hf0 := hB.free 0; have hf1 := hB.free 1; have HB2 := Aside0.mk hB; clear hB))
    refine bodyPost_ret (ret_cell_tmp rfl _ _ w.heap.size 123 #[_, _] (0, 0) _ rfl (HB2.out.two _ _).out Tryd.underlying123 rfl (by kernel_rfl)) rfl ?_
    refine ⟨by rfl, ?_⟩
    exact (HW.ofAlloc.setNew (Nat.le_refl _) (by omega) _).setNew (Nat.le_refl _) (by omega) _
structure Fell (w w' : World) (g : Nat) (p1 p2 : Addr) (z : Value) (e : Ending) : Prop where
  mk :: (out : ∃ q, (q = p1 ∨ q = p2) ∧ e = .returned (.tuple #[z, erV q])) (grown : w.grownBy w' (some g)) (rds : RdS w w' g)
theorem grown_ofAlloc {w w1 : World} {g : Nat} {x : Obj} (h : (w.alloc x).grownBy w1 (some g)) : w.grownBy w1 (some g) := (grownAlloc0 w g x).trans h
theorem drawn_grown {w w1 : World} (h : Drawn0 w w1) (g : Nat) : w.grownBy w1 (some g) := by obtain ⟨k, rfl⟩ := h.out; exact grownDrewN (grownRefl _ _) _
theorem eofs_drawn {w w1 : World} {g : Nat} {p1 p2 : Addr} (h : Eofs w g p1 p2) (k : Drawn0 w w1) : Eofs w1 g p1 p2 := h.grown (drawn_grown k g)
set_option maxHeartbeats 4000000 in
set_option maxRecDepth 100000 in
theorem readList_cut (g : Nat) (p : Value) (A : Option Addr) (n c o : Nat) (bs : List Int) (p1 p2 : Addr) (w : World) (hR : RdAt w g p A n c o) (hC : (Kd.int .u8).C w A n bs) (hc : n ≤ c) (hn : n ≤ 2147483647) (ho : o ≤ n) (hb : bytesB bs = true) (hE : Eofs w g p1 p2)
    (h : lhP (bs.drop o) = .cut) :
    Calls Tryd.prog 104 #[.pointer (some ⟨g, 0, none⟩)] w fun e w' => Fell w w' g p1 p2 (.agg #[.int .i32 0, .int .i8 0]) e := by
  have hln : bs.length = n := hC.1
  have HR := Aside0.mk hR
  have HC := Aside0.mk hC
  have HE := Aside0.mk hE
  have hgl := hR.lt
  rcases bind_cut h with h1 | ⟨b, r1, h1, h2⟩
  · have HB := Aside0.mk fun (W : World) (hW : RdAt W g p A n c o) (hEW : Eofs W g p1 p2) => readByte_eof g p A n c o p1 p2 W hW hEW hn (by have := byte_cut h1; omega)
    clear hR hC h h1 hb hE
    go_enter Tryd.func104, Tryd.ntmps104
    go_wp2_with (first
      | (go_at_call 111; go_loud (with_reducible refine (HB.out _ (HR.out.alloc _) (HE.out.alloc _)).mono ?_); rintro e w2 ⟨rfl, HW⟩; have hB := keepBlk (Blk.new w #[.int .i32 0, .int .i8 0] 123) (drawn_grown HW g) (by omega); have hB20 := hB.cell (j := 0) rfl; have fB20 := hB.free 0; have hB21 := hB.cell (j := 1) rfl; have fB21 := hB.free 1; have HB2 := Aside0.mk hB; clear hB))
    refine bodyPost_ret (ret_cell_tmp rfl _ _ w.heap.size 123 #[_, _] (0, 0) _ rfl (HB2.out.two _ _).out Tryd.underlying123 rfl (by kernel_rfl)) rfl ?_
    exact ⟨⟨p1, .inl rfl, rfl⟩, grownSetNew (grownSetNew (grown_ofAlloc (drawn_grown HW g)) (Nat.le_refl _) _) (Nat.le_refl _) _, rdsSet (rdsSet (rdsOfAlloc (rdsDrawn HW g)) (by omega) _ _) (by omega) _ _⟩
  · obtain ⟨k1, k2, k3⟩ := byte_ok h1
    subst k3
    have hby := bytesB_rd hb (i := (o : Int)) (k := o) rfl k1
    rw [← k2] at hby
    have hob : o < n := by omega
    have HB := Aside0.mk fun (W : World) (hW : RdAt W g p A n c o) (hCW : (Kd.int .u8).C W A n bs) => readByte_ok g p A n c o bs W hW hCW hn hob
    rw [← k2] at HB
    unfold byt at hby
    by_cases c1 : b % 16 < 3 ∨ 12 < b % 16
    · rw [if_pos c1] at h2; cases h2
    rw [if_neg c1] at h2
    by_cases c2 : b / 16 = 15
    · rw [if_pos c2] at h2
      have h3 : varP 10 true (bs.drop (o + 1)) = .cut := by
        rcases bind_cut h2 with h4 | ⟨m, r2, h4, h5⟩
        · rcases bind_cut h4 with h6 | ⟨m2, r3, h6, h7⟩
          · exact h6
          · by_cases c3 : 1000 < m2
            · rw [if_pos c3] at h7; cases h7
            · rw [if_neg c3] at h7; cases h7
        · cases h5
      have HU := Aside0.mk fun (W : World) (hW : RdAt W g p A n c (o + 1)) (hEW : Eofs W g p1 p2) (hCW : (Kd.int .u8).C W A n bs) (s : ByteArray) => readUvar_cut g p A n c (o + 1) bs p1 p2 s 2147483647 W hW hEW hCW hc hn (by omega) hb h3
      have q1 : (b / 16 != 15) = false := by rw [bne_eq_false_iff_eq]; exact c2
      clear hR hC h h1 h2 h3 hb hE k1 k2 c1 c2
      go_enter Tryd.func104, Tryd.ntmps104
      go_wp2_with (first
        | (go_at_call 111; go_loud (with_reducible refine (HB.out _ (HR.out.alloc _) (Kd.C_alloc HC.out _)).mono ?_); rintro e w1 ⟨rfl, HW⟩)
        | (go_at_call 114; go_loud (with_reducible refine (HU.out _ HW.rd ((HE.out.alloc _).grown HW.grown) (wentC (Kd.C_alloc HC.out _) HW) _).mono ?_); rintro e w2 ⟨rfl, HW2⟩; have hB := keepBlk (keepBlk (Blk.new w #[.int .i32 0, .int .i8 0] 123) HW.grown (by omega)) (drawn_grown HW2 g) (by omega); have hB20 := hB.cell (j := 0) rfl; have fB20 := hB.free 0; have hB21 := hB.cell (j := 1) rfl; have fB21 := hB.free 1; have HB2 := Aside0.mk hB; clear hB)
        | (go_at_call 45; go_loud (with_reducible refine (dontEOF2 g p1 p2 _ (eofs_drawn ((HE.out.alloc _).grown HW.grown) HW2)).mono ?_); rintro e w3 ⟨rfl, rfl⟩))
      refine bodyPost_ret (ret_cell_tmp rfl _ _ w.heap.size 123 #[_, _] (0, 0) _ rfl (HB2.out.two _ _).out Tryd.underlying123 rfl (by kernel_rfl)) rfl ?_
      exact ⟨⟨p2, .inr rfl, rfl⟩, grownSetNew (grownSetNew (grown_ofAlloc (HW.grown.trans (drawn_grown HW2 g))) (Nat.le_refl _) _) (Nat.le_refl _) _, rdsSet (rdsSet (rdsOfAlloc ((rdsWent (HR.out.alloc _) HW).trans (rdsDrawn HW2 g))) (by omega) _ _) (by omega) _ _⟩
    · rw [if_neg c2] at h2; cases h2
set_option maxHeartbeats 4000000 in
set_option maxRecDepth 100000 in
theorem readMap_ok (g : Nat) (p : Value) (A : Option Addr) (n c o : Nat) (bs r : List Int) (m : Nat) (ky el : Int) (w : World) (hR : RdAt w g p A n c o) (hC : (Kd.int .u8).C w A n bs) (hc : n ≤ c) (hn : n ≤ 2147483647) (ho : o ≤ n) (hb : bytesB bs = true)
    (h : mhP (bs.drop o) = .ok (m, ky, el) r) :
    ∃ o', o < o' ∧ o' ≤ n ∧ r = bs.drop o' ∧ m ≤ 500 ∧ (m = 0 → ky = 0 ∧ el = 0) ∧ (m ≠ 0 → 3 ≤ ky ∧ ky ≤ 12 ∧ 3 ≤ el ∧ el ≤ 12) ∧ Calls Tryd.prog 105 #[.pointer (some ⟨g, 0, none⟩)] w fun e w' => e = .returned (.tuple #[.agg #[.int .i32 m, .int .i8 ky, .int .i8 el], .nilIface]) ∧ Went w w' g p A n c o' := by
  have hln : bs.length = n := hC.1
  have HR := Aside0.mk hR
  have HC := Aside0.mk hC
  have hgl := hR.lt
  obtain ⟨m2, r1, h1, h2⟩ := bind_ok h
  obtain ⟨m3, r3, h9, h10⟩ := bind_ok h1
  by_cases c3 : 500 < m3
  · rw [if_pos c3] at h10; cases h10
  rw [if_neg c3] at h10
  injection h10 with h11 h12
  subst h11 h12
  obtain ⟨o1, d1, d2, d3, _⟩ := readUvar_ok g p A n c o bs r3 m3 2147483647 w hR hC hc hn ho hb h9 (by omega) (by omega)
  have HU := Aside0.mk fun (W : World) (hW : RdAt W g p A n c o) (hCW : (Kd.int .u8).C W A n bs) (s : ByteArray) => by
    obtain ⟨o', e1, e2, e3, e4⟩ := readUvar_ok g p A n c o bs r3 m3 2147483647 W hW hCW hc hn ho hb h9 (by omega) (by omega)
    obtain rfl := off_uniq e3 d3 (by omega) (by omega)
    exact e4 s
  by_cases c0 : m3 = 0
  · rw [if_pos c0] at h2
    injection h2 with h3 h4
    injection h3 with h5 h6
    injection h6 with h7 h8
    subst h5 h7 h8 c0
    refine ⟨o1, d1, d2, by rw [← h4, d3], by omega, fun _ => ⟨rfl, rfl⟩, fun hh => absurd rfl hh, ?_⟩
    have q1 : (((0 : Nat) : Int) == 0) = true := rfl
    clear hR hC h h1 h9 hb
    go_enter Tryd.func105, Tryd.ntmps105
    go_wp2_with (first
      | (go_at_call 114; go_loud (with_reducible refine (HU.out _ (HR.out.alloc _) (Kd.C_alloc HC.out _) _).mono ?_); rintro e w2 ⟨rfl, HW⟩; have hB := keepBlk (Blk.new w #[.int .i32 0, .int .i8 0, .int .i8 0] 127) HW.grown (by omega); have hB20 := hB.cell (j := 0) rfl; have fB20 := hB.free 0; have hB21 := hB.cell (j := 1) rfl; have fB21 := hB.free 1; have hB22 := hB.cell (j := 2) rfl; have fB22 := hB.free 2; have HB2 := Aside0.mk hB; clear hB))
    refine bodyPost_ret (ret_cell_tmp rfl _ _ w.heap.size 127 #[_, _, _] (0, 0) _ rfl (HB2.out.three _ _ _).out Tryd.underlying127 rfl (by kernel_rfl)) rfl ?_
    exact ⟨by rfl, ((HW.ofAlloc.setNew (Nat.le_refl _) (by omega) _).setNew (Nat.le_refl _) (by omega) _).setNew (Nat.le_refl _) (by omega) _⟩
  · rw [if_neg c0] at h2
    obtain ⟨b, r2, h3, h4⟩ := bind_ok h2
    rw [d3] at h3
    obtain ⟨k1, k2, k3⟩ := byte_ok h3
    have hby := bytesB_rd hb (i := (o1 : Int)) (k := o1) rfl k1
    rw [← k2] at hby
    unfold byt at hby
    have hob : o1 < n := by omega
    have HB := Aside0.mk fun (W : World) (hW : RdAt W g p A n c o1) (hCW : (Kd.int .u8).C W A n bs) => readByte_ok g p A n c o1 bs W hW hCW hn hob
    rw [← k2] at HB
    by_cases c1 : b / 16 < 3 ∨ 12 < b / 16 ∨ b % 16 < 3 ∨ 12 < b % 16
    · rw [if_pos c1] at h4; cases h4
    rw [if_neg c1] at h4
    injection h4 with h5 h6
    injection h5 with h7 h8
    injection h8 with h9' h10'
    subst h7
    refine ⟨o1 + 1, by omega, by omega, by rw [← h6, k3], by omega, fun hh => absurd hh c0, fun _ => ⟨by omega, by omega, by omega, by omega⟩, ?_⟩
    have q1 : ((m3 : Int) == 0) = false := by rw [beq_eq_false_iff_ne]; omega
    have q2 : bits .and .u8 b 15 = el := by rw [and15 b hby.1 hby.2]; exact h10'
    have q3 : b / 16 = ky := h9'
    have qw : IntKind.i32.wrap (m3 : Int) = (m3 : Int) := IntWalk.i32_in _ (by omega)
    have qk : 3 ≤ ky ∧ ky ≤ 12 := by omega
    have qe : 3 ≤ el ∧ el ≤ 12 := by omega
    clear hR hC h h1 h9 hb h3 k1 k2 k3 d3 c1 h9' h10' h6 c0
    go_enter Tryd.func105, Tryd.ntmps105
    go_wp2_with (first
      | (go_at_call 114; go_loud (with_reducible refine (HU.out _ (HR.out.alloc _) (Kd.C_alloc HC.out _) _).mono ?_); rintro e w1 ⟨rfl, HW⟩)
      | (go_at_call 111; go_loud (with_reducible refine (HB.out _ HW.rd (wentC (Kd.C_alloc HC.out _) HW)).mono ?_); rintro e w2 ⟨rfl, HW2⟩; have hB := keepBlk (keepBlk (Blk.new w #[.int .i32 0, .int .i8 0, .int .i8 0] 127) HW.grown (by omega)) HW2.grown (by omega); have hB20 := hB.cell (j := 0) rfl; have fB20 := hB.free 0; have hB21 := hB.cell (j := 1) rfl; have fB21 := hB.free 1; have hB22 := hB.cell (j := 2) rfl; have fB22 := hB.free 2; have HB2 := Aside0.mk hB; clear hB))
    refine bodyPost_ret (ret_cell_tmp rfl _ _ w.heap.size 127 #[_, _, _] (0, 0) _ rfl (HB2.out.three _ _ _).out Tryd.underlying127 rfl (by kernel_rfl)) rfl ?_
    refine ⟨by rfl, (((HW.trans HW2).ofAlloc.setNew (Nat.le_refl _) (by omega) _).setNew (Nat.le_refl _) (by omega) _).setNew (Nat.le_refl _) (by omega) _⟩
set_option maxHeartbeats 4000000 in
set_option maxRecDepth 100000 in
theorem readMap_cut (g : Nat) (p : Value) (A : Option Addr) (n c o : Nat) (bs : List Int) (p1 p2 : Addr) (w : World) (hR : RdAt w g p A n c o) (hC : (Kd.int .u8).C w A n bs) (hc : n ≤ c) (hn : n ≤ 2147483647) (ho : o ≤ n) (hb : bytesB bs = true) (hE : Eofs w g p1 p2)
    (h : mhP (bs.drop o) = .cut) :
    Calls Tryd.prog 105 #[.pointer (some ⟨g, 0, none⟩)] w fun e w' => Fell w w' g p1 p2 (.agg #[.int .i32 0, .int .i8 0, .int .i8 0]) e := by
  have hln : bs.length = n := hC.1
  have HR := Aside0.mk hR
  have HC := Aside0.mk hC
  have HE := Aside0.mk hE
  have hgl := hR.lt
  rcases bind_cut h with h1 | ⟨m2, r1, h1, h2⟩
  · have h3 : varP 10 true (bs.drop o) = .cut := by
      rcases bind_cut h1 with h6 | ⟨m2, r3, h6, h7⟩
      · exact h6
      · by_cases c3 : 500 < m2
        · rw [if_pos c3] at h7; cases h7
        · rw [if_neg c3] at h7; cases h7
    have HU := Aside0.mk fun (W : World) (hW : RdAt W g p A n c o) (hEW : Eofs W g p1 p2) (hCW : (Kd.int .u8).C W A n bs) (s : ByteArray) => readUvar_cut g p A n c o bs p1 p2 s 2147483647 W hW hEW hCW hc hn (by omega) hb h3
    clear hR hC h h1 h3 hb hE
    go_enter Tryd.func105, Tryd.ntmps105
    go_wp2_with (first
      | (go_at_call 114; go_loud (with_reducible refine (HU.out _ (HR.out.alloc _) (HE.out.alloc _) (Kd.C_alloc HC.out _) _).mono ?_); rintro e w2 ⟨rfl, HW⟩; have hB := keepBlk (Blk.new w #[.int .i32 0, .int .i8 0, .int .i8 0] 127) (drawn_grown HW g) (by omega); have hB20 := hB.cell (j := 0) rfl; have fB20 := hB.free 0; have hB21 := hB.cell (j := 1) rfl; have fB21 := hB.free 1; have hB22 := hB.cell (j := 2) rfl; have fB22 := hB.free 2; have HB2 := Aside0.mk hB; clear hB))
    refine bodyPost_ret (ret_cell_tmp rfl _ _ w.heap.size 127 #[_, _, _] (0, 0) _ rfl (HB2.out.three _ _ _).out Tryd.underlying127 rfl (by kernel_rfl)) rfl ?_
    exact ⟨⟨p2, .inr rfl, rfl⟩, grownSetNew (grownSetNew (grownSetNew (grown_ofAlloc (drawn_grown HW g)) (Nat.le_refl _) _) (Nat.le_refl _) _) (Nat.le_refl _) _, rdsSet (rdsSet (rdsSet (rdsOfAlloc (rdsDrawn HW g)) (by omega) _ _) (by omega) _ _) (by omega) _ _⟩
  · obtain ⟨m3, r3, h9, h10⟩ := bind_ok h1
    by_cases c3 : 500 < m3
    · rw [if_pos c3] at h10; cases h10
    rw [if_neg c3] at h10
    injection h10 with h11 h12
    subst h11 h12
    obtain ⟨o1, d1, d2, d3, _⟩ := readUvar_ok g p A n c o bs r3 m3 2147483647 w hR hC hc hn ho hb h9 (by omega) (by omega)
    have HU := Aside0.mk fun (W : World) (hW : RdAt W g p A n c o) (hCW : (Kd.int .u8).C W A n bs) (s : ByteArray) => by
      obtain ⟨o', e1, e2, e3, e4⟩ := readUvar_ok g p A n c o bs r3 m3 2147483647 W hW hCW hc hn ho hb h9 (by omega) (by omega)
      obtain rfl := off_uniq e3 d3 (by omega) (by omega)
      exact e4 s
    by_cases c0 : m3 = 0
    · rw [if_pos c0] at h2; cases h2
    · rw [if_neg c0] at h2
      have h3 : byteP r3 = .cut := by
        rcases bind_cut h2 with h3 | ⟨b, r2, h3, h4⟩
        · exact h3
        · by_cases c1 : b / 16 < 3 ∨ 12 < b / 16 ∨ b % 16 < 3 ∨ 12 < b % 16
          · rw [if_pos c1] at h4; cases h4
          · rw [if_neg c1] at h4; cases h4
      rw [d3] at h3
      have hob := byte_cut h3
      have HB := Aside0.mk fun (W : World) (hW : RdAt W g p A n c o1) (hEW : Eofs W g p1 p2) => readByte_eof g p A n c o1 p1 p2 W hW hEW hn (by omega)
      have q1 : ((m3 : Int) == 0) = false := by rw [beq_eq_false_iff_ne]; omega
      clear hR hC h h1 h9 hb h3 d3 h2 c0 hE hob
      go_enter Tryd.func105, Tryd.ntmps105
      go_wp2_with (first
        | (go_at_call 114; go_loud (with_reducible refine (HU.out _ (HR.out.alloc _) (Kd.C_alloc HC.out _) _).mono ?_); rintro e w1 ⟨rfl, HW⟩)
        | (go_at_call 111; go_loud (with_reducible refine (HB.out _ HW.rd ((HE.out.alloc _).grown HW.grown)).mono ?_); rintro e w2 ⟨rfl, HW2⟩; have hB := keepBlk (keepBlk (Blk.new w #[.int .i32 0, .int .i8 0, .int .i8 0] 127) HW.grown (by omega)) (drawn_grown HW2 g) (by omega); have hB20 := hB.cell (j := 0) rfl; have fB20 := hB.free 0; have hB21 := hB.cell (j := 1) rfl; have fB21 := hB.free 1; have hB22 := hB.cell (j := 2) rfl; have fB22 := hB.free 2; have HB2 := Aside0.mk hB; clear hB)
        | (go_at_call 45; go_loud (with_reducible refine (dontEOF1 g p1 p2 _ (eofs_drawn ((HE.out.alloc _).grown HW.grown) HW2)).mono ?_); rintro e w3 ⟨rfl, rfl⟩))
      refine bodyPost_ret (ret_cell_tmp rfl _ _ w.heap.size 127 #[_, _, _] (0, 0) _ rfl (HB2.out.three _ _ _).out Tryd.underlying127 rfl (by kernel_rfl)) rfl ?_
      exact ⟨⟨p2, .inr rfl, rfl⟩, grownSetNew (grownSetNew (grownSetNew (grown_ofAlloc (HW.grown.trans (drawn_grown HW2 g))) (Nat.le_refl _) _) (Nat.le_refl _) _) (Nat.le_refl _) _, rdsSet (rdsSet (rdsSet (rdsOfAlloc ((rdsWent (HR.out.alloc _) HW).trans (rdsDrawn HW2 g))) (by omega) _ _) (by omega) _ _) (by omega) _ _⟩
theorem fh_inv {last id ty : Int} {bs r : List Int} {o : Nat} (h : fhP last (bs.drop o) = .ok (id, ty) r) (hb : bytesB bs = true) (hl : 0 ≤ last) :
    o < bs.length ∧ ∃ b : Int, rd bs (o : Nat) = b ∧ ((b = 0 ∧ id = 0 ∧ r = bs.drop (o + 1)) ∨ (16 ≤ b ∧ b < 256 ∧ id = last + b / 16 ∧ id ≤ 32767 ∧ ty = b % 16 ∧ r = bs.drop (o + 1)) ∨ (0 < b ∧ b < 16 ∧ ty = b ∧ zigP 32768 (bs.drop (o + 1)) = .ok id r ∧ last < id)) := by
  obtain ⟨b, r1, h1, h2⟩ := bind_ok h
  obtain ⟨k1, k2, k3⟩ := byte_ok h1
  have hby := bytesB_rd hb (i := (o : Int)) (k := o) rfl k1
  rw [← k2] at hby
  unfold byt at hby
  subst k3
  refine ⟨k1, b, k2.symm, ?_⟩
  by_cases c0 : b = 0
  · rw [if_pos c0] at h2
    injection h2 with h3 h4
    injection h3 with h5 h6
    exact .inl ⟨c0, h5.symm, h4.symm⟩
  · rw [if_neg c0] at h2
    by_cases c1 : b < 16
    · rw [if_pos c1] at h2
      obtain ⟨id2, r2, h3, h4⟩ := bind_ok h2
      by_cases c2 : id2 ≤ last
      · rw [if_pos c2] at h4; cases h4
      · rw [if_neg c2] at h4
        injection h4 with h5 h6
        injection h5 with h7 h8
        subst h6 h7 h8
        exact .inr (.inr ⟨by omega, c1, rfl, h3, by omega⟩)
    · rw [if_neg c1] at h2
      by_cases c2 : 32767 < last + b / 16
      · rw [if_pos c2] at h2; cases h2
      · rw [if_neg c2] at h2
        injection h2 with h5 h6
        injection h5 with h7 h8
        exact .inr (.inl ⟨by omega, hby.2, h7.symm, by omega, h8.symm, h6.symm⟩)
theorem fh_cut {last : Int} {bs : List Int} {o : Nat} (h : fhP last (bs.drop o) = .cut) (hb : bytesB bs = true) :
    bs.length ≤ o ∨ (o < bs.length ∧ ∃ b : Int, rd bs (o : Nat) = b ∧ 0 < b ∧ b < 16 ∧ zigP 32768 (bs.drop (o + 1)) = .cut) := by
  rcases bind_cut h with h1 | ⟨b, r1, h1, h2⟩
  · exact .inl (byte_cut h1)
  · obtain ⟨k1, k2, k3⟩ := byte_ok h1
    have hby := bytesB_rd hb (i := (o : Int)) (k := o) rfl k1
    rw [← k2] at hby
    unfold byt at hby
    subst k3
    refine .inr ⟨k1, b, k2.symm, ?_⟩
    by_cases c0 : b = 0
    · rw [if_pos c0] at h2; cases h2
    · rw [if_neg c0] at h2
      by_cases c1 : b < 16
      · rw [if_pos c1] at h2
        rcases bind_cut h2 with h3 | ⟨id2, r2, h3, h4⟩
        · exact ⟨by omega, c1, h3⟩
        · by_cases c2 : id2 ≤ last
          · rw [if_pos c2] at h4; cases h4
          · rw [if_neg c2] at h4; cases h4
      · rw [if_neg c1] at h2
        by_cases c2 : 32767 < last + b / 16
        · rw [if_pos c2] at h2; cases h2
        · rw [if_neg c2] at h2; cases h2
theorem allocSize (w : World) (x : Obj) : (w.alloc x).heap.size = w.heap.size + 1 := by show (w.heap.push x).size = _; simp
theorem twoBlk (w w2 : World) (g t : Nat) (cs ds : Array Value) (h : ((w.alloc (.cells cs t)).alloc (.cells ds t)).grownBy w2 (some g)) (hg : g < w.heap.size) : Blk w2 w.heap.size cs t ∧ Blk w2 (w.heap.size + 1) ds t := by
  refine ⟨keepBlk ((Blk.new w cs t).alloc _) h (by omega), keepBlk ?_ h (by omega)⟩
  have := Blk.new (w.alloc (.cells cs t)) ds t
  rwa [allocSize] at this
set_option maxHeartbeats 4000000 in
set_option maxRecDepth 100000 in
theorem readField_stop (g : Nat) (p : Value) (A : Option Addr) (n c o : Nat) (bs : List Int) (w : World) (hR : RdAt w g p A n c o) (hC : (Kd.int .u8).C w A n bs) (hc : n ≤ c) (hn : n ≤ 2147483647) (ho : o ≤ n) (hb : bytesB bs = true)
    (h : o < n) (h0 : rd bs (o : Nat) = 0) :
    Calls Tryd.prog 97 #[.pointer (some ⟨g, 0, none⟩)] w fun e w' => e = .returned (.tuple #[.agg #[.int .i16 0, .int .i8 0, .bool false], .nilIface]) ∧ Went w w' g p A n c (o + 1) := by
  have hln : bs.length = n := hC.1
  have HR := Aside0.mk hR
  have HC := Aside0.mk hC
  have hgl := hR.lt
  have HB := Aside0.mk fun (W : World) (hW : RdAt W g p A n c o) (hCW : (Kd.int .u8).C W A n bs) => readByte_ok g p A n c o bs W hW hCW hn h
  rw [h0] at HB
  clear hR hC hb h0
  go_enter Tryd.func97, Tryd.ntmps97
  go_wp2_with (first
    | (go_at_call 111; go_loud (with_reducible refine (HB.out _ ((HR.out.alloc _).alloc _) (Kd.C_alloc (Kd.C_alloc HC.out _) _)).mono ?_); rintro e w2 ⟨rfl, HW⟩; obtain ⟨hB, hD⟩ := twoBlk w w2 g 132 #[.int .i16 0, .int .i8 0, .bool false] #[.int .i16 0, .int .i8 0, .bool false] HW.grown (by omega); have hb0 := hB.cell (j := 0) rfl; have fb0 := hB.free 0; have hd0 := hD.cell (j := 0) rfl; have fd0 := hD.free 0; have hb1 := hB.cell (j := 1) rfl; have fb1 := hB.free 1; have hd1 := hD.cell (j := 1) rfl; have fd1 := hD.free 1; have hb2 := hB.cell (j := 2) rfl; have fb2 := hB.free 2; have hd2 := hD.cell (j := 2) rfl; have fd2 := hD.free 2; have HB2 := Aside0.mk hB; have HD2 := Aside0.mk hD; clear hB hD))
  refine bodyPost_ret (ret_cell_tmp rfl _ _ w.heap.size 132 #[_, _, _] (0, 0) _ rfl (HB2.out.three _ _ _).out Tryd.underlying132 rfl (by kernel_rfl)) rfl ?_
  exact ⟨by rfl, ((HW.ofAlloc.ofAlloc.setNew (Nat.le_refl _) (by omega) _).setNew (Nat.le_refl _) (by omega) _).setNew (Nat.le_refl _) (by omega) _⟩
set_option maxHeartbeats 4000000 in
set_option maxRecDepth 100000 in
theorem readField_short (g : Nat) (p : Value) (A : Option Addr) (n c o : Nat) (bs : List Int) (b : Int) (w : World) (hR : RdAt w g p A n c o) (hC : (Kd.int .u8).C w A n bs) (hc : n ≤ c) (hn : n ≤ 2147483647) (ho : o ≤ n) (hb : bytesB bs = true)
    (h : o < n) (h0 : rd bs (o : Nat) = b) (h1 : 16 ≤ b) (h2 : b < 256) :
    Calls Tryd.prog 97 #[.pointer (some ⟨g, 0, none⟩)] w fun e w' => e = .returned (.tuple #[.agg #[.int .i16 (b / 16), .int .i8 (b % 16), .bool true], .nilIface]) ∧ Went w w' g p A n c (o + 1) := by
  have hln : bs.length = n := hC.1
  have HR := Aside0.mk hR
  have HC := Aside0.mk hC
  have hgl := hR.lt
  have HB := Aside0.mk fun (W : World) (hW : RdAt W g p A n c o) (hCW : (Kd.int .u8).C W A n bs) => readByte_ok g p A n c o bs W hW hCW hn h
  rw [h0] at HB
  have qs : (IntKind.i8.wrap b == 0) = false := by rw [beq_eq_false_iff_ne, wrap_i8]; omega
  have qn : (b / 16 != 0) = true := by rw [bne_iff_ne]; omega
  obtain ⟨d, hd⟩ : ∃ d, b / 16 = d := ⟨_, rfl⟩
  obtain ⟨t, ht⟩ : ∃ t, b % 16 = t := ⟨_, rfl⟩
  have qa : bits .and .u8 b 15 = t := by rw [and15 b (by omega) h2, ht]
  have hd1 : 1 ≤ d ∧ d ≤ 15 := by omega
  have ht1 : 0 ≤ t ∧ t ≤ 15 := by omega
  have qd : b / 16 = d := hd
  rw [hd, ht]
  rw [hd] at qn
  clear hR hC hb h0 ht hd
  go_enter Tryd.func97, Tryd.ntmps97
  go_wp2_with (first
    | (go_at_call 111; go_loud (with_reducible refine (HB.out _ ((HR.out.alloc _).alloc _) (Kd.C_alloc (Kd.C_alloc HC.out _) _)).mono ?_); rintro e w2 ⟨rfl, HW⟩; obtain ⟨hB, hD⟩ := twoBlk w w2 g 132 #[.int .i16 0, .int .i8 0, .bool false] #[.int .i16 0, .int .i8 0, .bool false] HW.grown (by omega); have hb0 := hB.cell (j := 0) rfl; have fb0 := hB.free 0; have hd0 := hD.cell (j := 0) rfl; have fd0 := hD.free 0; have hb1 := hB.cell (j := 1) rfl; have fb1 := hB.free 1; have hd1 := hD.cell (j := 1) rfl; have fd1 := hD.free 1; have hb2 := hB.cell (j := 2) rfl; have fb2 := hB.free 2; have hd2 := hD.cell (j := 2) rfl; have fd2 := hD.free 2; have HB2 := Aside0.mk hB; have HD2 := Aside0.mk hD; clear hB hD))
  refine bodyPost_ret (ret_cell_tmp rfl _ _ w.heap.size 132 #[_, _, _] (0, 0) _ rfl ((((HB2.out.far (by show w.heap.size ≠ w.heap.size + 1; omega) _).far (by show w.heap.size ≠ w.heap.size + 1; omega) _).far (by show w.heap.size ≠ w.heap.size + 1; omega) _).three _ _ _).out Tryd.underlying132 rfl (by kernel_rfl)) rfl ?_
  exact ⟨by rfl, (((((HW.ofAlloc.ofAlloc.setNew (Nat.le_succ _) (by omega) _).setNew (Nat.le_succ _) (by omega) _).setNew (Nat.le_succ _) (by omega) _).setNew (Nat.le_refl _) (by omega) _).setNew (Nat.le_refl _) (by omega) _).setNew (Nat.le_refl _) (by omega) _⟩
set_option maxHeartbeats 4000000 in
set_option maxRecDepth 100000 in
theorem readField_long (g : Nat) (p : Value) (A : Option Addr) (n c o : Nat) (bs r : List Int) (b id : Int) (w : World) (hR : RdAt w g p A n c o) (hC : (Kd.int .u8).C w A n bs) (hc : n ≤ c) (hn : n ≤ 2147483647) (ho : o ≤ n) (hb : bytesB bs = true)
    (h : o < n) (h0 : rd bs (o : Nat) = b) (h1 : 0 < b) (h2 : b < 16) (hz : zigP 32768 (bs.drop (o + 1)) = .ok id r) :
    ∃ o', o < o' ∧ o' ≤ n ∧ r = bs.drop o' ∧ Calls Tryd.prog 97 #[.pointer (some ⟨g, 0, none⟩)] w fun e w' => e = .returned (.tuple #[.agg #[.int .i16 id, .int .i8 b, .bool false], .nilIface]) ∧ Went w w' g p A n c o' := by
  have hln : bs.length = n := hC.1
  have HR := Aside0.mk hR
  have HC := Aside0.mk hC
  have hgl := hR.lt
  have HB := Aside0.mk fun (W : World) (hW : RdAt W g p A n c o) (hCW : (Kd.int .u8).C W A n bs) => readByte_ok g p A n c o bs W hW hCW hn h
  rw [h0] at HB
  obtain ⟨o1, d1, d2, d3⟩ := good_off (good_zig _) hz (by omega)
  refine ⟨o1, by omega, by omega, d3, ?_⟩
  have HU := Aside0.mk fun (W : World) (hW : RdAt W g p A n c (o + 1)) (hCW : (Kd.int .u8).C W A n bs) => by
    obtain ⟨o', e1, e2, e3, e4⟩ := readInt16_ok g p A n c (o + 1) bs r id W hW hCW hc hn (by omega) hb hz
    obtain rfl := off_uniq e3 d3 (by omega) (by omega)
    exact e4
  have qs : (b == 0) = false := by rw [beq_eq_false_iff_ne]; omega
  have qd : b / 16 = 0 := by omega
  clear hR hC hb h0 hz d3
  go_enter Tryd.func97, Tryd.ntmps97
  go_wp2_with (first
    | (go_at_call 111; go_loud (with_reducible refine (HB.out _ ((HR.out.alloc _).alloc _) (Kd.C_alloc (Kd.C_alloc HC.out _) _)).mono ?_); rintro e w1 ⟨rfl, HW⟩)
    | (go_at_call 99; go_loud (with_reducible refine (HU.out _ HW.rd (wentC (Kd.C_alloc (Kd.C_alloc HC.out _) _) HW)).mono ?_); rintro e w2 ⟨rfl, HW2⟩; obtain ⟨hB, hD⟩ := twoBlk w w2 g 132 #[.int .i16 0, .int .i8 0, .bool false] #[.int .i16 0, .int .i8 0, .bool false] (HW.grown.trans HW2.grown) (by omega); have hb0 := hB.cell (j := 0) rfl; have fb0 := hB.free 0; have hd0 := hD.cell (j := 0) rfl; have fd0 := hD.free 0; have hb1 := hB.cell (j := 1) rfl; have fb1 := hB.free 1; have hd1 := hD.cell (j := 1) rfl; have fd1 := hD.free 1; have hb2 := hB.cell (j := 2) rfl; have fb2 := hB.free 2; have hd2 := hD.cell (j := 2) rfl; have fd2 := hD.free 2; have HB2 := Aside0.mk hB; have HD2 := Aside0.mk hD; clear hB hD))
  refine bodyPost_ret (ret_cell_tmp rfl _ _ w.heap.size 132 #[_, _, _] (0, 0) _ rfl ((((HB2.out.far (by show w.heap.size ≠ w.heap.size + 1; omega) _).far (by show w.heap.size ≠ w.heap.size + 1; omega) _).far (by show w.heap.size ≠ w.heap.size + 1; omega) _).three _ _ _).out Tryd.underlying132 rfl (by kernel_rfl)) rfl ?_
  exact ⟨by rfl, ((((((HW.trans HW2).ofAlloc.ofAlloc.setNew (Nat.le_succ _) (by omega) _).setNew (Nat.le_succ _) (by omega) _).setNew (Nat.le_succ _) (by omega) _).setNew (Nat.le_refl _) (by omega) _).setNew (Nat.le_refl _) (by omega) _).setNew (Nat.le_refl _) (by omega) _⟩
set_option maxHeartbeats 4000000 in
set_option maxRecDepth 100000 in
theorem readField_cut (g : Nat) (p : Value) (A : Option Addr) (n c o : Nat) (bs : List Int) (p1 p2 : Addr) (last : Int) (w : World) (hR : RdAt w g p A n c o) (hC : (Kd.int .u8).C w A n bs) (hc : n ≤ c) (hn : n ≤ 2147483647) (ho : o ≤ n) (hb : bytesB bs = true) (hE : Eofs w g p1 p2)
    (h : fhP last (bs.drop o) = .cut) :
    Calls Tryd.prog 97 #[.pointer (some ⟨g, 0, none⟩)] w fun e w' => Fell w w' g p1 p2 (.agg #[.int .i16 0, .int .i8 0, .bool false]) e := by
  have hln : bs.length = n := hC.1
  have HR := Aside0.mk hR
  have HC := Aside0.mk hC
  have hgl := hR.lt
  have HE := Aside0.mk hE
  rcases fh_cut h hb with h1 | ⟨h1, b, h0, hb1, hb2, hz⟩
  · have HB := Aside0.mk fun (W : World) (hW : RdAt W g p A n c o) (hEW : Eofs W g p1 p2) => readByte_eof g p A n c o p1 p2 W hW hEW hn (by omega)
    clear hR hC h h1 hb hE
    go_enter Tryd.func97, Tryd.ntmps97
    go_wp2_with (first
      | (go_at_call 111; go_loud (with_reducible refine (HB.out _ ((HR.out.alloc _).alloc _) ((HE.out.alloc _).alloc _)).mono ?_); rintro e w2 ⟨rfl, HW⟩; obtain ⟨hB, hD⟩ := twoBlk w w2 g 132 #[.int .i16 0, .int .i8 0, .bool false] #[.int .i16 0, .int .i8 0, .bool false] (drawn_grown HW g) (by omega); have hb0 := hB.cell (j := 0) rfl; have fb0 := hB.free 0; have hd0 := hD.cell (j := 0) rfl; have fd0 := hD.free 0; have hb1 := hB.cell (j := 1) rfl; have fb1 := hB.free 1; have hd1 := hD.cell (j := 1) rfl; have fd1 := hD.free 1; have hb2 := hB.cell (j := 2) rfl; have fb2 := hB.free 2; have hd2 := hD.cell (j := 2) rfl; have fd2 := hD.free 2; have HB2 := Aside0.mk hB; have HD2 := Aside0.mk hD; clear hB hD))
    refine bodyPost_ret (ret_cell_tmp rfl _ _ w.heap.size 132 #[_, _, _] (0, 0) _ rfl (HB2.out.three _ _ _).out Tryd.underlying132 rfl (by kernel_rfl)) rfl ?_
    exact ⟨⟨p1, .inl rfl, rfl⟩, grownSetNew (grownSetNew (grownSetNew (grown_ofAlloc (grown_ofAlloc (drawn_grown HW g))) (Nat.le_refl _) _) (Nat.le_refl _) _) (Nat.le_refl _) _, rdsSet (rdsSet (rdsSet (rdsOfAlloc (rdsOfAlloc (rdsDrawn HW g))) (by omega) _ _) (by omega) _ _) (by omega) _ _⟩
  · have HB := Aside0.mk fun (W : World) (hW : RdAt W g p A n c o) (hCW : (Kd.int .u8).C W A n bs) => readByte_ok g p A n c o bs W hW hCW hn (by omega)
    rw [h0] at HB
    have HU := Aside0.mk fun (W : World) (hW : RdAt W g p A n c (o + 1)) (hEW : Eofs W g p1 p2) (hCW : (Kd.int .u8).C W A n bs) => readInt16_cut g p A n c (o + 1) bs p1 p2 W hW hEW hCW hc hn (by omega) hb hz
    have qs : (b == 0) = false := by rw [beq_eq_false_iff_ne]; omega
    have qd : b / 16 = 0 := by omega
    clear hR hC hb h0 hz h hE
    go_enter Tryd.func97, Tryd.ntmps97
    go_wp2_with (first
      | (go_at_call 111; go_loud (with_reducible refine (HB.out _ ((HR.out.alloc _).alloc _) (Kd.C_alloc (Kd.C_alloc HC.out _) _)).mono ?_); rintro e w1 ⟨rfl, HW⟩)
      | (go_at_call 99; go_loud (with_reducible refine (HU.out _ HW.rd (((HE.out.alloc _).alloc _).grown HW.grown) (wentC (Kd.C_alloc (Kd.C_alloc HC.out _) _) HW)).mono ?_); rintro e w2 ⟨rfl, HW2⟩; obtain ⟨hB, hD⟩ := twoBlk w w2 g 132 #[.int .i16 0, .int .i8 0, .bool false] #[.int .i16 0, .int .i8 0, .bool false] (HW.grown.trans (drawn_grown HW2 g)) (by omega); have hb0 := hB.cell (j := 0) rfl; have fb0 := hB.free 0; have hd0 := hD.cell (j := 0) rfl; have fd0 := hD.free 0; have hb1 := hB.cell (j := 1) rfl; have fb1 := hB.free 1; have hd1 := hD.cell (j := 1) rfl; have fd1 := hD.free 1; have hb2 := hB.cell (j := 2) rfl; have fb2 := hB.free 2; have hd2 := hD.cell (j := 2) rfl; have fd2 := hD.free 2; have HB2 := Aside0.mk hB; have HD2 := Aside0.mk hD; clear hB hD))
    have HEF := Aside0.mk (show Eofs w2.drew g p1 p2 from eofs_drawn (eofs_drawn (((HE.out.alloc _).alloc _).grown HW.grown) HW2) ⟨⟨1, rfl⟩⟩)
    have HS2 : Aside0 (((((w2.setCell ⟨w.heap.size, 0, none⟩ (.int .i16 0)).setCell ⟨w.heap.size, 1, none⟩ (.int .i8 0)).setCell ⟨w.heap.size, 2, none⟩ (.bool false)).drew).cell? ⟨w.heap.size + 1, 0, none⟩ = some (.int .i16 0) ∧ ((((w2.setCell ⟨w.heap.size, 0, none⟩ (.int .i16 0)).setCell ⟨w.heap.size, 1, none⟩ (.int .i8 0)).setCell ⟨w.heap.size, 2, none⟩ (.bool false)).drew).cell? ⟨w.heap.size + 1, 1, none⟩ = some (.int .i8 0) ∧ ((((w2.setCell ⟨w.heap.size, 0, none⟩ (.int .i16 0)).setCell ⟨w.heap.size, 1, none⟩ (.int .i8 0)).setCell ⟨w.heap.size, 2, none⟩ (.bool false)).drew).cell? ⟨w.heap.size + 1, 2, none⟩ = some (.bool false)) := by
      have hn2 : w.heap.size + 1 ≠ w.heap.size := by omega
      have h := ((((HD2.out.far (p := ⟨w.heap.size, 0, none⟩) hn2 (.int .i16 0)).far (p := ⟨w.heap.size, 1, none⟩) hn2 (.int .i8 0)).far (p := ⟨w.heap.size, 2, none⟩) hn2 (.bool false))).drew
      exact ⟨⟨h.cell (j := 0) rfl, h.cell (j := 1) rfl, h.cell (j := 2) rfl⟩⟩
    go_region_held3 (fun (W : World) => W.cell? ⟨w.heap.size + 1, 0, none⟩ = some (.int .i16 0) ∧ W.cell? ⟨w.heap.size + 1, 1, none⟩ = some (.int .i8 0) ∧ W.cell? ⟨w.heap.size + 1, 2, none⟩ = some (.bool false))
      (first | exact ⟨hd0, hd1, hd2⟩ | exact HS2.out)
      ((first
        | (go_at_call 45; (with_reducible refine (dontEOF2 g p1 p2 _ HEF.out).mono ?_); rintro e w3 ⟨rfl, rfl⟩)
        | fail "no arm"))
    go_wp2_with (fail)
    refine bodyPost_ret (ret_cell_tmp rfl _ _ w.heap.size 132 #[_, _, _] (0, 0) _ rfl ((HB2.out.three _ _ _).drew).out Tryd.underlying132 rfl (by kernel_rfl)) rfl ?_
    have hG := grownSetNew (grownSetNew (grownSetNew (grown_ofAlloc (grown_ofAlloc (HW.grown.trans (drawn_grown HW2 g)))) (Nat.le_refl _) (j := 0) (.int .i16 0)) (Nat.le_refl _) (j := 1) (.int .i8 0)) (Nat.le_refl _) (j := 2) (.bool false)
    have hS := rdsSet (rdsSet (rdsSet (rdsOfAlloc (rdsOfAlloc ((rdsWent ((HR.out.alloc _).alloc _) HW).trans (rdsDrawn HW2 g)))) (show g ≠ w.heap.size by omega) 0 (.int .i16 0)) (show g ≠ w.heap.size by omega) 1 (.int .i8 0)) (show g ≠ w.heap.size by omega) 2 (.bool false)
    exact ⟨⟨p2, .inr rfl, rfl⟩, grownDrewN hG 1, hS.trans (rdsDrawn ⟨⟨1, rfl⟩⟩ g)⟩
end Go.Proofs.YtcboegodjlfmnaaDoor.Trh

namespace Go.Proofs.YtcboegodjlfmnaaDoor.Tpa
open Go.Proofs.YtcboegodjlfmnaaDoor.Trh Go.Proofs.YtcboegodjlfmnaaDoor.Trn Go.Proofs.YtcboegodjlfmnaaDoor.Trm Go.Proofs.YtcboegodjlfmnaaDoor.Tuv Go.Proofs.YtcboegodjlfmnaaDoor.Dpu Go.Proofs.YtcboegodjlfmnaaDoor.Pak Go.Proofs.YtcboegodjlfmnaaDoor.Buf Go.Proofs.YtcboegodjlfmnaaDoor.Fit Go.Proofs.YtcboegodjlfmnaaDoor.Bit Go.Proofs.YtcboegodjlfmnaaDoor.Le Go.Proofs.YtcboegodjlfmnaaDoor.Num Go.Proofs.YtcboegodjlfmnaaDoor.Lst Go.Proofs.YtcboegodjlfmnaaDoor.Aid Go.RowKit Go.Proofs.YtcboegodjlfmnaaDoorW.PrintWords Go.Proofs.YtcboegodjlfmnaaDoorW.PrintLast Go.Proofs.YtcboegodjlfmnaaDoorW.PrintMore
set_option linter.unusedVariables false
set_option linter.unusedSimpArgs false
structure Fl where
  kt : IntKind
  kid : IntKind
  bv : Nat → Value
def nodeC (σ : Fl) (d : D) (bsv lsv fsv : Value) : List Value := [.int σ.kt d.ty, .bool d.bo, .int .i64 d.n, σ.bv d.bits, bsv, .int σ.kt d.ky, .int σ.kt d.el, lsv, fsv]
structure Lies (w : World) (Pb : Nat → Prop) (v : Value) (m : Nat) (cs : List Value) : Prop where
  mk :: (out : ∃ A c, v = .slice A m c ∧ m ≤ c ∧ (cs ≠ [] → ∃ ad, A = some ad ∧ Pb ad.block ∧ ∀ j u, cs[j]? = some u → w.cell? (ad.add j) = some u))
structure BytesAt (w : World) (Pb : Nat → Prop) (v : Value) (bs : List Int) : Prop where
  mk :: (out : ∃ A c, v = .slice A bs.length c ∧ bs.length ≤ c ∧ (Kd.int .u8).C w A bs.length bs ∧ bytesB bs = true ∧ (bs ≠ [] → ∃ ad, A = some ad ∧ Pb ad.block))
def F.In (σ : Fl) (w : World) (Pb : Nat → Prop) : F → Bool → List Value → Prop
  | .nil, _, cs => cs = []
  | .cons d id ls fs tl, fld, cs => ∃ (bsv lsv fsv : Value) (lcs fcs tcs : List Value), cs = (if fld then [.int σ.kid id] else []) ++ (nodeC σ d bsv lsv fsv ++ tcs) ∧
      BytesAt w Pb bsv d.bs ∧ Lies w Pb lsv ls.len lcs ∧ ls.In σ w Pb false lcs ∧ Lies w Pb fsv fs.len fcs ∧ fs.In σ w Pb true fcs ∧ tl.In σ w Pb fld tcs
structure N.In (σ : Fl) (w : World) (Pb : Nat → Prop) (x : N) (cs : List Value) : Prop where
  mk :: (out : ∃ (bsv lsv fsv : Value) (lcs fcs : List Value), cs = nodeC σ x.d bsv lsv fsv ∧
      BytesAt w Pb bsv x.d.bs ∧ Lies w Pb lsv x.ls.len lcs ∧ x.ls.In σ w Pb false lcs ∧ Lies w Pb fsv x.fs.len fcs ∧ x.fs.In σ w Pb true fcs)
theorem Lies.move {w w1 : World} {Pb Pc : Nat → Prop} {v : Value} {m : Nat} {cs : List Value} (h : Lies w Pb v m cs) (hk : ∀ b, Pb b → w1.heap[b]? = w.heap[b]?) (hP : ∀ b, Pb b → Pc b) : Lies w1 Pc v m cs := by
  obtain ⟨A, c, h1, h2, h3⟩ := h.out
  refine ⟨A, c, h1, h2, fun hn => ?_⟩
  obtain ⟨ad, h4, h5, h6⟩ := h3 hn
  exact ⟨ad, h4, hP _ h5, fun j u hj => (World.cell?_of_block (by rw [add_block]; exact hk _ h5)).trans (h6 j u hj)⟩
theorem BytesAt.move {w w1 : World} {Pb Pc : Nat → Prop} {v : Value} {bs : List Int} (h : BytesAt w Pb v bs) (hk : ∀ b, Pb b → w1.heap[b]? = w.heap[b]?) (hP : ∀ b, Pb b → Pc b) : BytesAt w1 Pc v bs := by
  obtain ⟨A, c, h1, h2, h3, h0, h4⟩ := h.out
  refine ⟨A, c, h1, h2, ?_, h0, fun hn => ?_⟩
  · obtain ⟨e1, e2, e3⟩ := h3
    refine ⟨e1, e2, fun hp => ?_⟩
    obtain ⟨ad, rfl, e4⟩ := e3 hp
    obtain ⟨ad2, q1, q2⟩ := h4 (List.length_pos_iff.1 hp)
    obtain rfl := Option.some.inj q1
    refine ⟨ad, rfl, fun j x hj => ?_⟩
    obtain ⟨cc, c1, c2, c3⟩ := e4 j x hj
    exact ⟨cc, c1, c2, fun i u hu => (World.cell?_of_block (by rw [add_block]; exact hk _ q2)).trans (c3 i u hu)⟩
  · obtain ⟨ad, q1, q2⟩ := h4 hn
    exact ⟨ad, q1, hP _ q2⟩
theorem F.In.move {σ : Fl} {w w1 : World} {Pb Pc : Nat → Prop} (hk : ∀ b, Pb b → w1.heap[b]? = w.heap[b]?) (hP : ∀ b, Pb b → Pc b) : ∀ {X : F} {fld : Bool} {cs : List Value}, X.In σ w Pb fld cs → X.In σ w1 Pc fld cs
  | .nil, _, _, h => h
  | .cons d id ls fs tl, fld, cs, h => by
    obtain ⟨bsv, lsv, fsv, lcs, fcs, tcs, h1, h2, h3, h4, h5, h6, h7⟩ := h
    exact ⟨bsv, lsv, fsv, lcs, fcs, tcs, h1, h2.move hk hP, h3.move hk hP, F.In.move hk hP h4, h5.move hk hP, F.In.move hk hP h6, F.In.move hk hP h7⟩
theorem N.In.move {σ : Fl} {w w1 : World} {Pb Pc : Nat → Prop} {x : N} {cs : List Value} (h : x.In σ w Pb cs) (hk : ∀ b, Pb b → w1.heap[b]? = w.heap[b]?) (hP : ∀ b, Pb b → Pc b) : x.In σ w1 Pc cs := by
  obtain ⟨bsv, lsv, fsv, lcs, fcs, h1, h2, h3, h4, h5, h6⟩ := h.out
  exact ⟨bsv, lsv, fsv, lcs, fcs, h1, h2.move hk hP, h3.move hk hP, F.In.move hk hP h4, h5.move hk hP, F.In.move hk hP h6⟩
theorem F.In.snoc {σ : Fl} {w : World} {Pb : Nat → Prop} {d : D} {id : Int} {ls fs : F} {fld : Bool} {ncs : List Value} (hx : N.In σ w Pb ⟨d, ls, fs⟩ ncs) : ∀ {X : F} {cs : List Value}, X.In σ w Pb fld cs → (X.snoc d id ls fs).In σ w Pb fld (cs ++ ((if fld then [.int σ.kid id] else []) ++ ncs))
  | .nil, cs, h => by
    obtain rfl : cs = [] := h
    obtain ⟨bsv, lsv, fsv, lcs, fcs, h1, h2, h3, h4, h5, h6⟩ := hx.out
    exact ⟨bsv, lsv, fsv, lcs, fcs, [], by rw [h1, List.nil_append, List.append_nil], h2, h3, h4, h5, h6, rfl⟩
  | .cons d' id' ls' fs' tl, cs, h => by
    obtain ⟨bsv, lsv, fsv, lcs, fcs, tcs, h1, h2, h3, h4, h5, h6, h7⟩ := h
    refine ⟨bsv, lsv, fsv, lcs, fcs, _, ?_, h2, h3, h4, h5, h6, F.In.snoc hx h7⟩
    rw [h1]; simp only [List.append_assoc]
theorem F.In.length {σ : Fl} {w : World} {Pb : Nat → Prop} : ∀ {X : F} {fld : Bool} {cs : List Value}, X.In σ w Pb fld cs → cs.length = X.len * (if fld then 10 else 9)
  | .nil, fld, cs, h => by obtain rfl : cs = [] := h; simp [F.len]
  | .cons d id ls fs tl, fld, cs, h => by
    obtain ⟨bsv, lsv, fsv, lcs, fcs, tcs, h1, h2, h3, h4, h5, h6, h7⟩ := h
    have ih := F.In.length h7
    rw [h1]
    cases fld <;> simp [nodeC, ih, F.len] <;> omega
theorem N.In.length {σ : Fl} {w : World} {Pb : Nat → Prop} {x : N} {cs : List Value} (h : x.In σ w Pb cs) : cs.length = 9 := by
  obtain ⟨bsv, lsv, fsv, lcs, fcs, h1, _⟩ := h.out
  rw [h1]; rfl
theorem lies_own {w : World} {base : Nat} {e : TypeId} {size : Nat} {v : Value} {n : Nat} {xs : List Value} (h : w.ownsRow base e size v n xs) : Lies w (fun b => v.ownBlock = some b) v n xs := by
  obtain ⟨h1, ⟨rfl, rfl⟩ | ⟨g, cap, cur, rfl, h2, h3, h4, h5, h6, h7⟩⟩ := h
  · exact ⟨none, 0, rfl, by omega, fun hn => absurd (List.length_eq_zero_iff.1 (by omega)) hn⟩
  · refine ⟨_, _, rfl, h4, fun _ => ⟨_, rfl, rfl, fun j u hj => ?_⟩⟩
    rw [← h7, List.getElem?_take] at hj
    split at hj
    · rename_i hlt
      have ea : (⟨g, 0, none⟩ : Addr).add j = ⟨g, j, none⟩ := by unfold Go.Addr.add; by_cases c : j = 0 <;> simp [c]
      rw [ea]
      simp only [World.cell?, h3]
      simpa using hj
    · cases hj
theorem lies_nil (w : World) (Pb : Nat → Prop) : Lies w Pb (.slice none 0 0) 0 [] := ⟨none, 0, rfl, by omega, fun h => absurd rfl h⟩
theorem bytesAt_nil (w : World) (Pb : Nat → Prop) : BytesAt w Pb (.slice none 0 0) [] := ⟨none, 0, rfl, by simp, ⟨rfl, by simp, fun h => absurd h (by simp)⟩, rfl, fun h => absurd rfl h⟩
theorem appendCells {P : Program} {ops : Array Oper} {rest : List Oper} {o : Oper} {a : Act} {Q : Exit → Act → World → Prop} {W : World} (base : Nat) (hgd : o.guard = none) (s x : Operand) (t e : TypeId) (size bytes : Nat)
    (ho : o.op = .call { callee := .builtin .append, args := #[s, x], argTypes := #[t, t] })
    (ht : P.underlying t = some (.slice e)) (hinfo : (P.info? e).map (fun i => (i.size, i.bytes, i.zero.map (·.cells.size))) = some (size, bytes, some size)) (hs0 : 0 < size)
    (v : Value) (k : Nat) (cs news : List Value) (hs : a.eval s = v) (hx : a.eval x = .slice (some ⟨W.heap.size, 0, none⟩) 1 1) (hnl : news.length = size) (hone : ∀ u ∈ news, u.oneCell' = true)
    (HO : W.ownsRow base e size v k cs) (hbase : base ≤ W.heap.size) (hl : (k + 1) * bytes ≤ 140737488355328) (hl2 : k + 1 ≤ maxLen)
    (h : ∀ v1 w1, w1.ownsRow base e size v1 (k + 1) (cs ++ news) → (W.alloc (.cells news.toArray e)).grownBy w1 v.ownBlock → (v1.ownBlock = v.ownBlock ∨ v1.ownBlock = some (W.heap.size + 1)) → wpList P ops Q rest (a.put o.dst v1) w1) :
    wpList P ops Q (o :: rest) a (W.alloc (.cells news.toArray e)) := by
  obtain ⟨i, hi, he⟩ := Option.map_eq_some_iff.1 hinfo
  injection he with he1 he2
  injection he2 with he2 he3
  obtain ⟨z, hz, hzs⟩ := Option.map_eq_some_iff.1 he3
  have hsz : (W.alloc (.cells news.toArray e)).heap.size = W.heap.size + 1 := allocSize _ _
  refine wpList_append_own_at (W.alloc (.cells news.toArray e)) hgd s x t ho base e i z size bytes ht hi hz he1 he2 hzs hs0 v k cs hs (HO.alloc _) ⟨W.heap.size, 0, none⟩ 1 1 news hx (by omega) ?_ hone hl2 hl (by rw [hsz]; omega) ?_
  · intro j u hj
    have hb := (Blk.new W news.toArray e).cell (j := j) (v := u) (by simpa using hj)
    have ea : (⟨W.heap.size, 0, none⟩ : Addr).add j = ⟨W.heap.size, j, none⟩ := by unfold Go.Addr.add; by_cases c : j = 0 <;> simp [c]
    rw [ea]; exact hb
  · intro v1 w1 h1 h2 h3 h4
    rw [hsz] at h4
    exact h v1 w1 h1 h2 h4
end Go.Proofs.YtcboegodjlfmnaaDoor.Tpa
