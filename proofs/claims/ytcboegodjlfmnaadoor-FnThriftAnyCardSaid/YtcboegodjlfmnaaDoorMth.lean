import Derived.Test.YtcboegodjlfmnaaDoorMtb
import Derived.Test.YtcboegodjlfmnaaDoorMtd
import Derived.Test.YtcboegodjlfmnaaDoorTpv
/-! The reader of the specification: bytes, numbers, sizes, types. -/
namespace Go.Proofs.YtcboegodjlfmnaaDoor.Tsb
open Go.Proofs.YtcboegodjlfmnaaDoor.Tzm Go.Proofs.YtcboegodjlfmnaaDoor.Tzl Go.Proofs.YtcboegodjlfmnaaDoor.Trh Go.Proofs.YtcboegodjlfmnaaDoor.Trn Go.Proofs.YtcboegodjlfmnaaDoor.Trm Go.Proofs.YtcboegodjlfmnaaDoor.Tuv Go.Proofs.YtcboegodjlfmnaaDoor.Tpa Go.Proofs.YtcboegodjlfmnaaDoor.Duv Go.Proofs.YtcboegodjlfmnaaDoor.Dpu Go.Proofs.YtcboegodjlfmnaaDoor.Pak Go.Proofs.YtcboegodjlfmnaaDoor.Buf Go.Proofs.YtcboegodjlfmnaaDoor.Fit Go.Proofs.YtcboegodjlfmnaaDoor.Bit Go.Proofs.YtcboegodjlfmnaaDoor.Wrd Go.Proofs.YtcboegodjlfmnaaDoor.Spl Go.Proofs.YtcboegodjlfmnaaDoor.Str Go.Proofs.YtcboegodjlfmnaaDoor.Flt Go.Proofs.YtcboegodjlfmnaaDoor.Owe Go.Proofs.YtcboegodjlfmnaaDoor.Num Go.Proofs.YtcboegodjlfmnaaDoor.Le Go.Proofs.YtcboegodjlfmnaaDoor.Lst Go.Proofs.YtcboegodjlfmnaaDoor.Aid Go.RowKit Go.Proofs.YtcboegodjlfmnaaDoorW.PrintWords Go.Proofs.YtcboegodjlfmnaaDoorW.PrintLast Go.Proofs.YtcboegodjlfmnaaDoorW.PrintMore
set_option linter.unusedVariables false
set_option linter.unusedSimpArgs false
/-- bytes that are read, while a block apart from them is written -/
theorem grownC {w w1 : World} {g n : Nat} {A : Option Addr} {bs : List Int} (hC : (Kd.int .u8).C w A n bs) (k : w.grownBy w1 (some g)) (hA : 0 < n → ∀ a, A = some a → a.block ≠ g) : (Kd.int .u8).C w1 A n bs := by
  obtain ⟨h1, h2, h3⟩ := hC
  refine ⟨h1, h2, fun hp => ?_⟩
  obtain ⟨ad, rfl, h4⟩ := h3 hp
  refine ⟨ad, rfl, fun j x hj => ?_⟩
  obtain ⟨c, c1, c2, c3⟩ := h4 j x hj
  exact ⟨c, c1, c2, fun i u hu => grown_cell k (by rw [add_block]; exact hA (by omega) ad rfl) (c3 i u hu)⟩
theorem C_block {w : World} {n : Nat} {A : Option Addr} {bs : List Int} (hC : (Kd.int .u8).C w A n bs) (hp : 0 < n) (a : Addr) (ha : A = some a) : a.block < w.heap.size := by
  obtain ⟨ad, ead, hcell⟩ := Kd.at_int hC (0 : Int) (by omega) (by have := hC.1; omega)
  obtain rfl := Option.some.inj (ha.symm.trans ead)
  have := block_lt_of_cell hcell
  rwa [add_block] at this
/-- a reader over bytes, so many of which have been read, in a state -/
structure Sr (w : World) (g : Nat) (A : Option Addr) (n c o s : Nat) : Prop where
  mk :: (blk : Blk w g #[.slice A n c, .int .i64 (o : Int), .int .i64 (s : Int)] 91) (apart : 0 < n → ∀ a, A = some a → a.block ≠ g) (le : o ≤ n) (st : s ≤ 2)
/-- from one world to another: the reader has gone on, and what stood elsewhere stands -/
structure SWent (w w' : World) (g : Nat) (A : Option Addr) (n c o s : Nat) : Prop where
  mk :: (grown : w.grownBy w' (some g)) (rd : Sr w' g A n c o s)
theorem SWent.trans {w w1 w2 : World} {g : Nat} {A : Option Addr} {n c o s o2 s2 : Nat} (h : SWent w w1 g A n c o s) (k : SWent w1 w2 g A n c o2 s2) : SWent w w2 g A n c o2 s2 := ⟨h.grown.trans k.grown, k.rd⟩
theorem Sr.stay {w : World} {g : Nat} {A : Option Addr} {n c o s : Nat} (h : Sr w g A n c o s) : SWent w w g A n c o s := ⟨grownRefl w _, h⟩
theorem Sr.drewN {w : World} {g : Nat} {A : Option Addr} {n c o s : Nat} (h : Sr w g A n c o s) (k : Nat) : SWent w (w.drewN k) g A n c o s := ⟨grownDrewN (grownRefl w _) k, ⟨h.blk.drewN k, h.apart, h.le, h.st⟩⟩
theorem Sr.at {w : World} {g : Nat} {A : Option Addr} {n c o s : Nat} (h : Sr w g A n c o s) (o' : Nat) (ho : o' ≤ n) (x : Int) (hx : x = (o' : Int)) : SWent w (w.setCell ⟨g, 1, none⟩ (.int .i64 x)) g A n c o' s := by
  subst hx
  refine ⟨grownSet0 w g 1 _, ⟨?_, h.apart, ho, h.st⟩⟩
  have := h.blk.set 1 (.int .i64 (o' : Int))
  simpa using this
theorem Sr.say {w : World} {g : Nat} {A : Option Addr} {n c o s : Nat} (h : Sr w g A n c o s) (s' : Nat) (hs : s' ≤ 2) (x : Int) (hx : x = (s' : Int)) : SWent w (w.setCell ⟨g, 2, none⟩ (.int .i64 x)) g A n c o s' := by
  subst hx
  refine ⟨grownSet0 w g 2 _, ⟨?_, h.apart, h.le, hs⟩⟩
  have := h.blk.set 2 (.int .i64 (s' : Int))
  simpa using this
theorem SWent.drewN {w w1 : World} {g : Nat} {A : Option Addr} {n c o s : Nat} (h : SWent w w1 g A n c o s) (k : Nat) : SWent w (w1.drewN k) g A n c o s := h.trans (h.rd.drewN k)
/-- a value, and a reader that has gone on as a parser says -/
structure SOut {α : Type} (p : Psr α) (bs : List Int) (o s : Nat) (val : α → Value) (ok : α → Prop) (w w' : World) (g : Nat) (A : Option Addr) (n c : Nat) (e : Ending) : Prop where
  mk :: (out : ∃ (v : α) (o' s' : Nat), e = .returned (val v) ∧ ok v ∧ Does p bs o s v o' s' ∧ SWent w w' g A n c o' s')
abbrev gP (g : Nat) : Value := .pointer (some ⟨g, 0, none⟩)
set_option maxHeartbeats 4000000 in
set_option maxRecDepth 100000 in
theorem open_calls (g : Nat) (A : Option Addr) (n c o s : Nat) (w : World) (hR : Sr w g A n c o s) :
    Calls Tryd.prog 51 #[gP g] w fun e w' => e = .returned (.tuple #[]) ∧ SWent w w' g A n c o (opS s) := by
  have c2 := hR.blk.cell (j := 2) rfl
  have cz := hR.blk.free 2
  have HR := Aside0.mk hR
  clear hR
  go_enter Tryd.func51, Tryd.ntmps51
  by_cases c : s = 0
  · subst c
    go_wp2_with (fail)
    go_end0
    exact ⟨rfl, HR.out.say 2 (Nat.le_refl _) _ rfl⟩
  · have q : ((s : Int) == 0) = false := by rw [beq_eq_false_iff_ne]; omega
    have HO := Aside0.mk (opS_n c)
    clear c
    go_wp2_with (fail)
    go_end0
    exact ⟨rfl, by rw [HO.out]; exact HR.out.stay⟩
set_option maxHeartbeats 4000000 in
set_option maxRecDepth 100000 in
theorem byte_calls (g : Nat) (A : Option Addr) (n c o s : Nat) (bs : List Int) (w : World) (hR : Sr w g A n c o s) (hC : (Kd.int .u8).C w A n bs) (hn : n ≤ 2147483647) (hb : bytesB bs = true) :
    Calls Tryd.prog 52 #[gP g] w fun e w' => SOut byteP bs o s (fun v => .int .u8 v) (fun v => 0 ≤ v ∧ v < 256) w w' g A n c e := by
  have c0 := hR.blk.cell (j := 0) rfl
  have c1 := hR.blk.cell (j := 1) rfl
  have c2 := hR.blk.cell (j := 2) rfl
  have cz := hR.blk.free 2
  have cz1 := hR.blk.free 1
  have hle := hR.le
  have hln : bs.length = n := hC.1
  have HR := Aside0.mk hR
  have HC := Aside0.mk hC
  have HBB := Aside0.mk hb
  have HLN := Aside0.mk hln
  clear hR hC hb hln
  go_enter Tryd.func52, Tryd.ntmps52
  by_cases c : s = 0
  · subst c
    by_cases co : o = n
    · subst co
      have q1 : ((o : Int) == (o : Int)) = true := by simp
      go_wp2_with (first
        | (go_quiet (fail)))
      go_ret
      refine ⟨⟨0, o, 1, rfl, by omega, ?_, ?_⟩⟩
      · have h := does_byte_cut (bs := bs) 0
        rw [HLN.out] at h
        exact h
      · exact (HR.out.drewN _).trans ((HR.out.drewN _).rd.say 1 (by omega) _ rfl)
    · have q1 : ((o : Int) == (n : Int)) = false := by rw [beq_eq_false_iff_ne]; omega
      obtain ⟨ad, ead, hcell⟩ := Kd.at_int HC.out (o : Int) (by omega) (by have := HLN.out; omega)
      rw [Int.toNat_natCast] at hcell
      have hne : ad.block ≠ g := HR.out.apart (by omega) ad ead
      have HB := Aside0.mk (bytesB_rd HBB.out (i := (o : Int)) rfl (by have := HLN.out; omega))
      have HD := Aside0.mk (does_byte (bs := bs) (o := o) (by have := HLN.out; omega))
      subst ead
      have qin : decide ((o : Int) < n) = true := decide_eq_true (by omega)
      have qinn : decide (o < n) = true := decide_eq_true (by omega)
      have qw : IntKind.i64.wrap ((o : Int) + 1) = (o : Int) + 1 := IntWalk.i64_in _ (by omega)
      have qw2 : IntKind.i64.wrap ((o : Int) + 1 - 1) = (o : Int) := by rw [IntWalk.i64_in _ (by omega)]; omega
      have qw3 : IntKind.i64.wrap (o : Int) = (o : Int) := IntWalk.i64_in _ (by omega)
      have hlt : o < n := by omega
      clear co
      go_wp2_with (first
        | (go_quiet (fail)))
      generalize hw1 : World.setCell _ _ _ = w1
      have HW : Aside0 (SWent w w1 g (some ad) n c (o + 1) 0) := ⟨by rw [← hw1]; exact (HR.out.drewN _).trans ((HR.out.drewN _).rd.at (o + 1) (by omega) _ (by push_cast; rfl))⟩
      have hcell1 := grown_cell HW.out.grown (a := ad.add o) (by rw [add_block]; exact hne) hcell
      have d0 := HW.out.rd.blk.cell (j := 0) rfl
      have d1 := HW.out.rd.blk.cell (j := 1) rfl
      clear hw1 c0 c1 c2 cz cz1 hcell
      have e1 : ((o + 1 : Nat) : Int) = (o : Int) + 1 := by push_cast; rfl
      rw [e1] at d1
      clear e1
      go_wp2_with (first
        | (go_quiet (fail)))
      go_ret
      exact ⟨⟨rd bs (o : Int), o + 1, 0, rfl, HB.out, HD.out, HW.out.drewN _⟩⟩
  · have q : ((s : Int) == 0) = false := by rw [beq_eq_false_iff_ne]; omega
    have HD := Aside0.mk (Does.dead byteP 0 bs o o s c)
    clear c
    go_wp2_with (fail)
    go_ret
    exact ⟨⟨0, o, s, rfl, by omega, HD.out, HR.out.stay⟩⟩
end Go.Proofs.YtcboegodjlfmnaaDoor.Tsb

/-! The reader of the specification: numbers in groups, with a sign, sizes, types, bytes. -/
namespace Go.Proofs.YtcboegodjlfmnaaDoor.Tsc
open Go.Proofs.YtcboegodjlfmnaaDoor.Tsb Go.Proofs.YtcboegodjlfmnaaDoor.Tzm Go.Proofs.YtcboegodjlfmnaaDoor.Tzl Go.Proofs.YtcboegodjlfmnaaDoor.Trh Go.Proofs.YtcboegodjlfmnaaDoor.Trn Go.Proofs.YtcboegodjlfmnaaDoor.Trm Go.Proofs.YtcboegodjlfmnaaDoor.Tuv Go.Proofs.YtcboegodjlfmnaaDoor.Tpa Go.Proofs.YtcboegodjlfmnaaDoor.Duv Go.Proofs.YtcboegodjlfmnaaDoor.Dpu Go.Proofs.YtcboegodjlfmnaaDoor.Pak Go.Proofs.YtcboegodjlfmnaaDoor.Buf Go.Proofs.YtcboegodjlfmnaaDoor.Fit Go.Proofs.YtcboegodjlfmnaaDoor.Bit Go.Proofs.YtcboegodjlfmnaaDoor.Wrd Go.Proofs.YtcboegodjlfmnaaDoor.Spl Go.Proofs.YtcboegodjlfmnaaDoor.Str Go.Proofs.YtcboegodjlfmnaaDoor.Flt Go.Proofs.YtcboegodjlfmnaaDoor.Owe Go.Proofs.YtcboegodjlfmnaaDoor.Num Go.Proofs.YtcboegodjlfmnaaDoor.Le Go.Proofs.YtcboegodjlfmnaaDoor.Lst Go.Proofs.YtcboegodjlfmnaaDoor.Aid Go.RowKit Go.Proofs.YtcboegodjlfmnaaDoorW.PrintWords Go.Proofs.YtcboegodjlfmnaaDoorW.PrintLast Go.Proofs.YtcboegodjlfmnaaDoorW.PrintMore
set_option linter.unusedVariables false
set_option linter.unusedSimpArgs false
theorem pow7 (i : Nat) : 2 ^ (7 * (i + 1)) = 2 ^ (7 * i) * 128 := by rw [show 7 * (i + 1) = 7 * i + 7 by omega, Nat.pow_add]
theorem grp_or (acc z i : Nat) (hi : i ≤ 9) (hz : z < 128) (h9 : i = 9 → z ≤ 1) (ha : acc < 2 ^ (7 * i)) :
    bits .or .u64 (acc : Int) (IntKind.u64.wrap ((z : Int) * 2 ^ (7 * i))) = ((acc + z * 2 ^ (7 * i) : Nat) : Int) ∧ acc + z * 2 ^ (7 * i) < 18446744073709551616 ∧ acc + z * 2 ^ (7 * i) < 2 ^ (7 * (i + 1)) := by
  have hp : (2 : Nat) ^ (7 * i) ≤ 2 ^ 63 := Nat.pow_le_pow_right (by omega) (by omega)
  rw [show (2 : Nat) ^ 63 = 9223372036854775808 by decide] at hp
  have hq := pow7 i
  have h1 : z * 2 ^ (7 * i) ≤ 127 * 2 ^ (7 * i) := Nat.mul_le_mul_right _ (by omega)
  have h2 : acc + z * 2 ^ (7 * i) < 18446744073709551616 := by
    by_cases c : i = 9
    · have h3 : z * 2 ^ (7 * i) ≤ 1 * 2 ^ (7 * i) := Nat.mul_le_mul_right _ (h9 c)
      omega
    · have hp8 : (2 : Nat) ^ (7 * i) ≤ 2 ^ 56 := Nat.pow_le_pow_right (by omega) (by omega)
      rw [show (2 : Nat) ^ 56 = 72057594037927936 by decide] at hp8
      omega
  exact ⟨or_high' acc z (7 * i) ha (by omega) (by omega), h2, by omega⟩
theorem hand127 (y : Nat) (h : y < 256) : bits .and .u8 (y : Int) 127 = ((y % 128 : Nat) : Int) := by
  rw [show (127 : Int) = ((2 ^ 7 - 1 : Nat) : Int) by decide, u8_and_nat _ _ (by omega) (by decide), Nat.and_two_pow_sub_one_eq_mod]
/-- what is kept in the loop over groups -/
structure VarI (bs : List Int) (o s i acc o1 s1 : Nat) : Prop where
  mk :: (lt : acc < 2 ^ (7 * i)) (runs : ∃ k, i + k = 9 ∧ Runs (varP 10 true) bs o s (varP (k + 1) (decide (i = 0))) (fun x => acc + 2 ^ (7 * i) * x) o1 s1)
theorem VarI.start (bs : List Int) (o s : Nat) : VarI bs o s 0 0 o s := by
  refine ⟨by simp, 9, rfl, ?_⟩
  have h := Runs.start (varP 10 true) bs o s
  have e : (fun x : Nat => 0 + 2 ^ (7 * 0) * x) = fun x => x := by funext x; simp
  rw [e]; exact h
theorem VarI.opn {bs : List Int} {o s i acc o1 s1 : Nat} (h : VarI bs o s i acc o1 s1) {y o2 s2 : Nat} (d : Does byteP bs o1 s1 (y : Int) o2 s2) (hc : (i = 9 ∧ 1 < y) ∨ (0 < i ∧ y = 0)) : Does (varP 10 true) bs o s 0 o2 (opS s2) := by
  obtain ⟨k, hk, r⟩ := h.runs
  refine r.group_opn d ?_ 0
  rcases hc with ⟨h1, h2⟩ | ⟨h1, h2⟩
  · exact .inl ⟨by omega, by omega⟩
  · exact .inr ⟨decide_eq_false (by omega), by omega⟩
theorem VarI.last {bs : List Int} {o s i acc o1 s1 : Nat} (h : VarI bs o s i acc o1 s1) {y o2 s2 : Nat} (d : Does byteP bs o1 s1 (y : Int) o2 s2) (hc : ¬ ((i = 9 ∧ 1 < y) ∨ (0 < i ∧ y = 0))) (hy : y < 128) : Does (varP 10 true) bs o s (acc + y % 128 * 2 ^ (7 * i)) o2 s2 := by
  obtain ⟨k, hk, r⟩ := h.runs
  have h1 := (Runs.group (h := fun x => x) (acc := acc) (t := 2 ^ (7 * i)) (f := decide (i = 0)) r d (by omega) (by
    rintro (⟨h1, h2⟩ | ⟨h1, h2⟩)
    · exact hc (.inl ⟨by omega, by omega⟩)
    · exact hc (.inr ⟨by have := of_decide_eq_false h1; omega, by omega⟩))).1 (by omega)
  rw [Int.toNat_natCast] at h1
  rw [Nat.mod_eq_of_lt hy, Nat.mul_comm]
  exact h1
theorem VarI.next {bs : List Int} {o s i acc o1 s1 : Nat} (h : VarI bs o s i acc o1 s1) {y o2 s2 : Nat} (d : Does byteP bs o1 s1 (y : Int) o2 s2) (hc : ¬ ((i = 9 ∧ 1 < y) ∨ (0 < i ∧ y = 0))) (hy : ¬ y < 128) (hy2 : y < 256) (hlt : acc + y % 128 * 2 ^ (7 * i) < 2 ^ (7 * (i + 1))) : i < 9 ∧ VarI bs o s (i + 1) (acc + y % 128 * 2 ^ (7 * i)) o2 s2 := by
  obtain ⟨k, hk, r⟩ := h.runs
  have h1 := (Runs.group (h := fun x => x) (acc := acc) (t := 2 ^ (7 * i)) (f := decide (i = 0)) r d (by omega) (by
    rintro (⟨h1, h2⟩ | ⟨h1, h2⟩)
    · exact hc (.inl ⟨by omega, by omega⟩)
    · exact hc (.inr ⟨by have := of_decide_eq_false h1; omega, by omega⟩))).2 (by omega)
  have hi : i < 9 := by
    rcases Nat.lt_or_ge i 9 with c | c
    · exact c
    · exact absurd (.inl ⟨by omega, by omega⟩) hc
  refine ⟨hi, hlt, k - 1, by omega, ?_⟩
  rw [show k - 1 + 1 = k by omega, show decide (i + 1 = 0) = false from decide_eq_false (by omega)]
  have e : (fun x : Nat => acc + 2 ^ (7 * i) * ((y : Int) - 128).toNat + 2 ^ (7 * i) * 128 * x) = fun x => acc + y % 128 * 2 ^ (7 * i) + 2 ^ (7 * (i + 1)) * x := by
    funext x
    rw [pow7, show ((y : Int) - 128).toNat = y % 128 by omega, Nat.mul_comm (y % 128)]
  rw [← e]; exact h1
set_option maxHeartbeats 8000000 in
set_option maxRecDepth 100000 in
theorem varint_calls (g : Nat) (A : Option Addr) (n c o s : Nat) (bs : List Int) (w : World) (hR : Sr w g A n c o s) (hC : (Kd.int .u8).C w A n bs) (hn : n ≤ 2147483647) (hb : bytesB bs = true) :
    Calls Tryd.prog 64 #[gP g] w fun e w' => SOut (varP 10 true) bs o s (fun v => .int .u64 v) (fun v => v < 18446744073709551616) w w' g A n c e := by
  have HR := Aside0.mk hR
  have HC := Aside0.mk hC
  have HBB := Aside0.mk hb
  clear hR hC hb
  go_enter Tryd.func64, Tryd.ntmps64
  go_wp2_with (fail)
  go_loopg [2, 3, 4, 5] 10 (fun kq v2 v3 v4 v5 w' => ∃ (i acc o1 s1 : Nat), v3 = .int .u64 acc ∧ v4 = .int .i64 i ∧ i ≤ 9 ∧ Aside0 (VarI bs o s i acc o1 s1) ∧ Aside0 (SWent w w' g A n c o1 s1) ∧ Aside0 (10 - i ≤ kq))
  case atStart => exact ⟨0, 0, o, s, rfl, rfl, by omega, ⟨VarI.start bs o s⟩, ⟨HR.out.stay⟩, ⟨by omega⟩⟩
  case round =>
    obtain ⟨i, acc, o1, s1, rfl, rfl, hi9, HV, HS, HK⟩ := hrel
    have HBY := Aside0.mk (byte_calls g A n c o1 s1 bs _ HS.out.rd (grownC HC.out HS.out.grown HS.out.rd.apart) hn HBB.out)
    go_upto_region 5 with (first
      | (go_at_call 52; (with_reducible refine HBY.out.mono ?_); rintro e w2 HQ; obtain ⟨v, o2, s2, rfl, hv, hd, hw⟩ := HQ.out; obtain ⟨y, rfl⟩ := Int.eq_ofNat_of_zero_le hv.1; have HD2 := Aside0.mk hd; have HS2 := Aside0.mk (HS.out.trans hw); have hy := hv.2; clear HQ hd hw hv))
    have hy9 : y < 256 := by omega
    have hand := hand127 y hy9
    have hz9 : y % 128 < 128 := Nat.mod_lt _ (by omega)
    have HGO := Aside0.mk (fun h9 => grp_or acc (y % 128) i hi9 hz9 h9 HV.out.lt)
    have HZ : Aside0 (y % 128 = y % 128) := ⟨rfl⟩
    obtain ⟨z, hz⟩ : ∃ z, y % 128 = z := ⟨_, rfl⟩
    obtain ⟨sh, hs⟩ : ∃ s, 7 * i = s := ⟨_, rfl⟩
    rw [hs, hz] at HGO
    rw [hz] at hand hz9
    have hsI : (7 : Int) * (i : Int) = (sh : Int) := by omega
    have hs28 : sh ≤ 63 := by omega
    have hzw : (z : Int) % 18446744073709551616 = (z : Int) := by omega
    obtain ⟨r, hr⟩ : ∃ r, bits .or .u64 (acc : Int) (IntKind.u64.wrap ((z : Int) * 2 ^ sh)) = r := ⟨_, rfl⟩
    rw [hr] at HGO
    have HZ2 := Aside0.mk hz
    have HS7 := Aside0.mk hs
    have HY := Aside0.mk hy9
    clear HZ hz hs hy hy9
    have HOP := Aside0.mk (open_calls g A n c o2 s2 _ HS2.out.rd)
    by_cases c9 : i = 9 <;> by_cases c1 : 1 < y <;> by_cases ci : 0 < i <;> by_cases c0 : y = 0 <;> by_cases cl : y < 128
    all_goals first | (exfalso; omega) | skip
    all_goals
      first
      | have q9 : ((i : Int) == 9) = true := by rw [beq_iff_eq]; omega
      | have q9 : ((i : Int) == 9) = false := by rw [beq_eq_false_iff_ne]; omega
    all_goals
      first
      | have qi : decide (0 < (i : Int)) = true := decide_eq_true (by omega)
      | have qi : decide (0 < (i : Int)) = false := decide_eq_false (by omega)
    all_goals
      first
      | have qii : decide (0 < i) = true := decide_eq_true (by omega)
      | have qii : decide (0 < i) = false := decide_eq_false (by omega)
    all_goals
      first
      | have q1 : decide (1 < (y : Int)) = true := decide_eq_true (by omega)
      | have q1 : decide (1 < (y : Int)) = false := decide_eq_false (by omega)
    all_goals
      first
      | have q11 : decide (1 < y) = true := decide_eq_true (by omega)
      | have q11 : decide (1 < y) = false := decide_eq_false (by omega)
    all_goals
      first
      | have q0 : ((y : Int) == 0) = true := by rw [beq_iff_eq]; omega
      | have q0 : ((y : Int) == 0) = false := by rw [beq_eq_false_iff_ne]; omega
    all_goals
      first
      | have ql : decide ((y : Int) < 128) = true := decide_eq_true (by omega)
      | have ql : decide ((y : Int) < 128) = false := decide_eq_false (by omega)
    all_goals
      first
      | have qll : decide (y < 128) = true := decide_eq_true (by omega)
      | have qll : decide (y < 128) = false := decide_eq_false (by omega)
    all_goals (have H9 := Aside0.mk c9; have H1 := Aside0.mk c1; have HI := Aside0.mk ci; have H0 := Aside0.mk c0; have HL := Aside0.mk cl; clear c9 c1 ci c0 cl)
    all_goals
      go_wp2_with (first
        | (go_at_call 51; (with_reducible refine HOP.out.mono ?_); rintro e w3 ⟨rfl, hw3⟩; have HS3 := Aside0.mk (HS2.out.trans hw3); clear hw3))
    all_goals
      first
      | (go_ret
         refine ⟨⟨0, o2, opS s2, rfl, by omega, HV.out.opn HD2.out ?_, HS3.out⟩⟩
         have h1 := H9.out; have h2 := H1.out; have h3 := HI.out; have h4 := H0.out; omega)
      | (go_ret
         obtain ⟨hg1, hg2, hg3⟩ := HGO.out (by have h1 := H9.out; have h2 := H1.out; have h3 := HI.out; have h4 := H0.out; have h5 := HZ2.out; omega)
         rw [← HZ2.out, ← HS7.out] at hg1 hg2
         refine ⟨⟨acc + y % 128 * 2 ^ (7 * i), o2, s2, ?_, hg2, HV.out.last HD2.out ?_ HL.out, HS2.out⟩⟩
         · show Ending.returned (Value.int .u64 r) = Ending.returned (Value.int .u64 ((acc + y % 128 * 2 ^ (7 * i) : Nat) : Int))
           rw [hg1]
         · have h1 := H9.out; have h2 := H1.out; have h3 := HI.out; have h4 := H0.out; omega)
      | (go_roundg (gk - 1)
         all_goals
           obtain ⟨hg1, hg2, hg3⟩ := HGO.out (by have h1 := H9.out; have h2 := H1.out; have h3 := HI.out; have h4 := H0.out; have h5 := HZ2.out; omega)
           rw [← HZ2.out, ← HS7.out] at hg1 hg2 hg3
           have hnx := HV.out.next HD2.out (by have h1 := H9.out; have h2 := H1.out; have h3 := HI.out; have h4 := H0.out; omega) HL.out HY.out hg3
           have hkk := HK.out
         all_goals first
           | omega
           | (refine ⟨i + 1, acc + y % 128 * 2 ^ (7 * i), o2, s2, ?_, by go_num, by omega, ⟨hnx.2⟩, ⟨HS2.out⟩, ⟨by omega⟩⟩
              show Value.int .u64 r = Value.int .u64 ((acc + y % 128 * 2 ^ (7 * i) : Nat) : Int)
              rw [hg1]))
end Go.Proofs.YtcboegodjlfmnaaDoor.Tsc

/-! The reader of the specification: numbers with a sign, sizes, types, bytes. -/
namespace Go.Proofs.YtcboegodjlfmnaaDoor.Tsd
open Go.Proofs.YtcboegodjlfmnaaDoor.Tsc Go.Proofs.YtcboegodjlfmnaaDoor.Tsb Go.Proofs.YtcboegodjlfmnaaDoor.Tzm Go.Proofs.YtcboegodjlfmnaaDoor.Tzl Go.Proofs.YtcboegodjlfmnaaDoor.Trh Go.Proofs.YtcboegodjlfmnaaDoor.Trn Go.Proofs.YtcboegodjlfmnaaDoor.Trm Go.Proofs.YtcboegodjlfmnaaDoor.Tuv Go.Proofs.YtcboegodjlfmnaaDoor.Tpa Go.Proofs.YtcboegodjlfmnaaDoor.Duv Go.Proofs.YtcboegodjlfmnaaDoor.Dpu Go.Proofs.YtcboegodjlfmnaaDoor.Pak Go.Proofs.YtcboegodjlfmnaaDoor.Buf Go.Proofs.YtcboegodjlfmnaaDoor.Fit Go.Proofs.YtcboegodjlfmnaaDoor.Bit Go.Proofs.YtcboegodjlfmnaaDoor.Wrd Go.Proofs.YtcboegodjlfmnaaDoor.Spl Go.Proofs.YtcboegodjlfmnaaDoor.Str Go.Proofs.YtcboegodjlfmnaaDoor.Flt Go.Proofs.YtcboegodjlfmnaaDoor.Owe Go.Proofs.YtcboegodjlfmnaaDoor.Num Go.Proofs.YtcboegodjlfmnaaDoor.Le Go.Proofs.YtcboegodjlfmnaaDoor.Lst Go.Proofs.YtcboegodjlfmnaaDoor.Aid Go.RowKit Go.Proofs.YtcboegodjlfmnaaDoorW.PrintWords Go.Proofs.YtcboegodjlfmnaaDoorW.PrintLast Go.Proofs.YtcboegodjlfmnaaDoorW.PrintMore
set_option linter.unusedVariables false
set_option linter.unusedSimpArgs false
theorem xor_i64_m1 (a : Nat) (ha : a < 9223372036854775808) : bits .xor .i64 (a : Int) (-1) = -1 - (a : Int) := by
  have h1 : (BitVec.ofInt 64 (a : Int)).toNat = a := by
    rw [BitVec.ofInt_natCast, BitVec.toNat_ofNat]; exact Nat.mod_eq_of_lt (by omega)
  have h2 : (BitVec.ofInt 64 (-1)).toNat = 2 ^ 64 - 1 := by decide
  show IntKind.i64.wrap ((BitVec.ofInt 64 (a : Int) ^^^ BitVec.ofInt 64 (-1)).toNat : Int) = _
  rw [BitVec.toNat_xor, h1, h2, Nat.xor_comm, xor_ones a (by omega), IntKind.wrap_i64]
  omega
theorem xor_i64_0 (a : Nat) (ha : a < 9223372036854775808) : bits .xor .i64 (a : Int) 0 = (a : Int) := by
  have h1 : (BitVec.ofInt 64 (a : Int)).toNat = a := by
    rw [BitVec.ofInt_natCast, BitVec.toNat_ofNat]; exact Nat.mod_eq_of_lt (by omega)
  have h2 : (BitVec.ofInt 64 0).toNat = 0 := by decide
  show IntKind.i64.wrap ((BitVec.ofInt 64 (a : Int) ^^^ BitVec.ofInt 64 0).toNat : Int) = _
  rw [BitVec.toNat_xor, h1, h2, Nat.xor_zero, IntKind.wrap_i64]
  omega
theorem cutTo64_calls (n : Int) (h0 : 0 ≤ n) (h1 : n < 18446744073709551616) (w : World) :
    Calls Tryd.prog 20 #[.int .i64 64, .int .u64 n] w fun e w' => e = .returned (.int .i64 (IntKind.i64.wrap n)) ∧ w = w' := by
  obtain ⟨y, hy⟩ : ∃ y, IntKind.i64.wrap n = y := ⟨_, rfl⟩
  rw [hy]
  go_enter Tryd.func20, Tryd.ntmps20
  go_wp2_with (fail)
  go_ret
  exact ⟨rfl, rfl⟩
theorem cut32 (n : Int) (h0 : 0 ≤ n) (h1 : n < 18446744073709551616) : IntKind.i64.wrap (IntKind.u64.wrap (n * 4294967296)) / 4294967296 = IntKind.i32.wrap n := by
  rw [IntKind.wrap_u64, IntKind.wrap_i64, IntKind.wrap_i32]; omega
theorem cutTo32_calls (n : Int) (h0 : 0 ≤ n) (h1 : n < 18446744073709551616) (w : World) :
    Calls Tryd.prog 20 #[.int .i64 32, .int .u64 n] w fun e w' => e = .returned (.int .i64 (IntKind.i32.wrap n)) ∧ w = w' := by
  have HC := Aside0.mk (cut32 n h0 h1)
  obtain ⟨y, hy⟩ : ∃ y, IntKind.i32.wrap n = y := ⟨_, rfl⟩
  rw [hy] at HC ⊢
  obtain ⟨u, hu⟩ : ∃ u, IntKind.u64.wrap (n * 4294967296) = u := ⟨_, rfl⟩
  rw [hu] at HC
  obtain ⟨v, hv⟩ : ∃ v, IntKind.i64.wrap u = v := ⟨_, rfl⟩
  rw [hv] at HC
  have hq := HC.out
  go_enter Tryd.func20, Tryd.ntmps20
  go_wp2_with (fail)
  go_ret
  exact ⟨rfl, rfl⟩
theorem cut16 (n : Int) (h0 : 0 ≤ n) (h1 : n < 18446744073709551616) : IntKind.i64.wrap (IntKind.u64.wrap (n * 281474976710656)) / 281474976710656 = IntKind.i16.wrap n := by
  rw [IntKind.wrap_u64, IntKind.wrap_i64, wrap_i16]; omega
theorem cutTo16_calls (n : Int) (h0 : 0 ≤ n) (h1 : n < 18446744073709551616) (w : World) :
    Calls Tryd.prog 20 #[.int .i64 16, .int .u64 n] w fun e w' => e = .returned (.int .i64 (IntKind.i16.wrap n)) ∧ w = w' := by
  have HC := Aside0.mk (cut16 n h0 h1)
  obtain ⟨y, hy⟩ : ∃ y, IntKind.i16.wrap n = y := ⟨_, rfl⟩
  rw [hy] at HC ⊢
  obtain ⟨u, hu⟩ : ∃ u, IntKind.u64.wrap (n * 281474976710656) = u := ⟨_, rfl⟩
  rw [hu] at HC
  obtain ⟨v, hv⟩ : ∃ v, IntKind.i64.wrap u = v := ⟨_, rfl⟩
  rw [hv] at HC
  have hq := HC.out
  go_enter Tryd.func20, Tryd.ntmps20
  go_wp2_with (fail)
  go_ret
  exact ⟨rfl, rfl⟩
theorem cut8 (n : Int) (h0 : 0 ≤ n) (h1 : n < 18446744073709551616) : IntKind.i64.wrap (IntKind.u64.wrap (n * 72057594037927936)) / 72057594037927936 = IntKind.i8.wrap n := by
  rw [IntKind.wrap_u64, IntKind.wrap_i64, wrap_i8]; omega
theorem cutTo8_calls (n : Int) (h0 : 0 ≤ n) (h1 : n < 18446744073709551616) (w : World) :
    Calls Tryd.prog 20 #[.int .i64 8, .int .u64 n] w fun e w' => e = .returned (.int .i64 (IntKind.i8.wrap n)) ∧ w = w' := by
  have HC := Aside0.mk (cut8 n h0 h1)
  obtain ⟨y, hy⟩ : ∃ y, IntKind.i8.wrap n = y := ⟨_, rfl⟩
  rw [hy] at HC ⊢
  obtain ⟨u, hu⟩ : ∃ u, IntKind.u64.wrap (n * 72057594037927936) = u := ⟨_, rfl⟩
  rw [hu] at HC
  obtain ⟨v, hv⟩ : ∃ v, IntKind.i64.wrap u = v := ⟨_, rfl⟩
  rw [hv] at HC
  have hq := HC.out
  go_enter Tryd.func20, Tryd.ntmps20
  go_wp2_with (fail)
  go_ret
  exact ⟨rfl, rfl⟩
/-- numbers of b bits -/
def Bits (b m : Int) : Prop := (b = 8 ∧ m = 128) ∨ (b = 16 ∧ m = 32768) ∨ (b = 32 ∧ m = 2147483648) ∨ (b = 64 ∧ m = 9223372036854775808)
theorem cut_of (b m : Int) (hbm : Bits b m) (x : Int) (h0 : -9223372036854775808 ≤ x) (h1 : x < 9223372036854775808) :
    ∃ y, (∀ W, Calls Tryd.prog 20 #[.int .i64 b, .int .u64 (IntKind.u64.wrap x)] W fun e w' => e = .returned (.int .i64 y) ∧ W = w') ∧ (y = x ↔ -m ≤ x ∧ x < m) := by
  have h2 : 0 ≤ IntKind.u64.wrap x ∧ IntKind.u64.wrap x < 18446744073709551616 := by rw [IntKind.wrap_u64]; omega
  rcases hbm with ⟨rfl, rfl⟩ | ⟨rfl, rfl⟩ | ⟨rfl, rfl⟩ | ⟨rfl, rfl⟩
  · exact ⟨_, fun W => cutTo8_calls _ h2.1 h2.2 W, by rw [IntKind.wrap_u64, wrap_i8]; omega⟩
  · exact ⟨_, fun W => cutTo16_calls _ h2.1 h2.2 W, by rw [IntKind.wrap_u64, wrap_i16]; omega⟩
  · exact ⟨_, fun W => cutTo32_calls _ h2.1 h2.2 W, by rw [IntKind.wrap_u64, IntKind.wrap_i32]; omega⟩
  · exact ⟨_, fun W => cutTo64_calls _ h2.1 h2.2 W, by rw [IntKind.wrap_u64, IntKind.wrap_i64]; omega⟩
theorem zig_does {bs : List Int} {o s v o' s' : Nat} {m : Int} (d : Does (varP 10 true) bs o s v o' s') : ((-m ≤ unzz v ∧ unzz v < m) → Does (zigP m) bs o s (unzz v) o' s') ∧ (¬ (-m ≤ unzz v ∧ unzz v < m) → Does (zigP m) bs o s (unzz v) o' (opS s')) := by
  have r : Runs (zigP m) bs o s _ (fun x => x) o' s' := Runs.does (p := varP 10 true) (Runs.start (zigP m) bs o s) d
  refine ⟨fun h => ?_, fun h => ?_⟩
  · rw [if_pos h] at r; exact r.ret
  · rw [if_neg h] at r; exact runs_opn r _ o' _ opS_0 opS_n
theorem size_does {bs : List Int} {o s v o' s' m : Nat} (d : Does (varP 10 true) bs o s v o' s') : (¬ m < v → Does (sizeP m) bs o s v o' s') ∧ (m < v → Does (sizeP m) bs o s 0 o' (opS s')) := by
  have r : Runs (sizeP m) bs o s _ (fun x => x) o' s' := Runs.does (p := varP 10 true) (Runs.start (sizeP m) bs o s) d
  refine ⟨fun h => ?_, fun h => ?_⟩
  · rw [if_neg h] at r; exact r.ret
  · rw [if_pos h] at r; exact runs_opn r _ o' _ opS_0 opS_n
theorem elem_does (bs : List Int) (o s : Nat) (t : Int) : (¬ (t < 3 ∨ 12 < t) → Does (elemP t) bs o s t o s) ∧ ((t < 3 ∨ 12 < t) → Does (elemP t) bs o s t o (opS s)) := by
  have r := Runs.start (elemP t) bs o s
  unfold elemP at r ⊢
  refine ⟨fun h => ?_, fun h => ?_⟩
  · rw [if_neg h] at r ⊢; exact r.ret
  · rw [if_pos h] at r ⊢; exact runs_opn r _ o _ opS_0 opS_n
theorem unzz_bd (v : Nat) (h : v < 18446744073709551616) : -9223372036854775808 ≤ unzz v ∧ unzz v < 9223372036854775808 := by
  unfold unzz; split <;> omega
set_option maxHeartbeats 4000000 in
set_option maxRecDepth 100000 in
theorem zigzag_calls (g : Nat) (A : Option Addr) (n c o s : Nat) (bs : List Int) (b m : Int) (hbm : Bits b m) (w : World) (hR : Sr w g A n c o s) (hC : (Kd.int .u8).C w A n bs) (hn : n ≤ 2147483647) (hb : bytesB bs = true) :
    Calls Tryd.prog 53 #[gP g, .int .i64 b] w fun e w' => SOut (zigP m) bs o s (fun v => .int .i64 v) (fun v => -9223372036854775808 ≤ v ∧ v < 9223372036854775808) w w' g A n c e := by
  have HV := Aside0.mk (varint_calls g A n c o s bs w hR hC hn hb)
  have HBM := Aside0.mk hbm
  clear hR hC hb hbm
  go_enter Tryd.func53, Tryd.ntmps53
  go_upto_region 2 with (first
    | (go_at_call 64; (with_reducible refine HV.out.mono ?_); rintro e w2 HQ; obtain ⟨v, o2, s2, rfl, hv, hd, hw⟩ := HQ.out; have HD := Aside0.mk (zig_does (m := m) hd); have HW := Aside0.mk hw; have HO := Aside0.mk (open_calls g A n c o2 s2 w2 hw.rd); clear HQ hd hw))
  have HX := Aside0.mk (unzz_bd v hv)
  obtain ⟨y, hcy, hyy⟩ := cut_of b m HBM.out (unzz v) HX.out.1 HX.out.2
  have HCY := Aside0.mk hcy
  have HYY := Aside0.mk hyy
  clear hcy hyy
  obtain ⟨a, ha⟩ : ∃ a, v / 2 = a := ⟨_, rfl⟩
  have qh : (v : Int) / 2 = (a : Int) := by omega
  have ha9 : a < 9223372036854775808 := by omega
  by_cases c2 : v % 2 = 0
  · have qand : bits .and .u64 (v : Int) 1 = 0 := by
      rw [show (1 : Int) = ((2 ^ 1 - 1 : Nat) : Int) by decide, u64_and_nat _ _ (by omega) (by decide), Nat.and_two_pow_sub_one_eq_mod]; omega
    have qn := xor_i64_0 a (by omega)
    have hx : (a : Int) = unzz v := by unfold unzz; rw [if_pos c2, ha]
    obtain ⟨x, hxx⟩ : ∃ x, unzz v = x := ⟨_, rfl⟩
    rw [hxx] at hx HX HD HCY HYY
    rw [hx] at qn qh
    rw [IntWalk.u64_in x (by omega)] at HCY
    have qwa : IntKind.i64.wrap x = x := IntWalk.i64_in _ (by have := HX.out; omega)
    by_cases cy : y = x
    · have q1 : ((y : Int) == x) = true := by rw [beq_iff_eq]; exact cy
      have HDD := Aside0.mk (HD.out.1 (HYY.out.1 cy))
      clear cy hx hxx c2 ha ha9
      go_wp2_with (first
        | (go_at_call 20; (with_reducible refine (HCY.out _).mono ?_); rintro e w3 ⟨rfl, rfl⟩))
      go_ret
      exact ⟨⟨_, o2, s2, rfl, HX.out, HDD.out, HW.out⟩⟩
    · have q1 : ((y : Int) == x) = false := by rw [beq_eq_false_iff_ne]; exact cy
      have HDD := Aside0.mk (HD.out.2 (fun h => cy (HYY.out.2 h)))
      clear cy hx hxx c2 ha ha9
      go_wp2_with (first
        | (go_at_call 20; (with_reducible refine (HCY.out _).mono ?_); rintro e w3 ⟨rfl, rfl⟩)
        | (go_at_call 51; (with_reducible refine HO.out.mono ?_); rintro e w3 ⟨rfl, hw3⟩))
      go_ret
      exact ⟨⟨_, o2, opS s2, rfl, HX.out, HDD.out, HW.out.trans hw3⟩⟩
  · have qand : bits .and .u64 (v : Int) 1 = 1 := by
      rw [show (1 : Int) = ((2 ^ 1 - 1 : Nat) : Int) by decide, u64_and_nat _ _ (by omega) (by decide), Nat.and_two_pow_sub_one_eq_mod]; omega
    have qn := xor_i64_m1 a (by omega)
    have hx : -1 - (a : Int) = unzz v := by unfold unzz; rw [if_neg c2, ha]; omega
    obtain ⟨x, hxx⟩ : ∃ x, unzz v = x := ⟨_, rfl⟩
    rw [hxx] at hx HX HD HCY HYY
    rw [hx] at qn
    have qwa : IntKind.i64.wrap x = x := IntWalk.i64_in _ (by have := HX.out; omega)
    by_cases cy : y = x
    · have q1 : ((y : Int) == x) = true := by rw [beq_iff_eq]; exact cy
      have HDD := Aside0.mk (HD.out.1 (HYY.out.1 cy))
      clear cy hx hxx c2 ha
      go_wp2_with (first
        | (go_at_call 20; (with_reducible refine (HCY.out _).mono ?_); rintro e w3 ⟨rfl, rfl⟩))
      go_ret
      exact ⟨⟨_, o2, s2, rfl, HX.out, HDD.out, HW.out⟩⟩
    · have q1 : ((y : Int) == x) = false := by rw [beq_eq_false_iff_ne]; exact cy
      have HDD := Aside0.mk (HD.out.2 (fun h => cy (HYY.out.2 h)))
      clear cy hx hxx c2 ha
      go_wp2_with (first
        | (go_at_call 20; (with_reducible refine (HCY.out _).mono ?_); rintro e w3 ⟨rfl, rfl⟩)
        | (go_at_call 51; (with_reducible refine HO.out.mono ?_); rintro e w3 ⟨rfl, hw3⟩))
      go_ret
      exact ⟨⟨_, o2, opS s2, rfl, HX.out, HDD.out, HW.out.trans hw3⟩⟩
set_option maxHeartbeats 4000000 in
set_option maxRecDepth 100000 in
theorem size_calls (g : Nat) (A : Option Addr) (n c o s : Nat) (bs : List Int) (m : Nat) (hm : m ≤ 1000000) (w : World) (hR : Sr w g A n c o s) (hC : (Kd.int .u8).C w A n bs) (hn : n ≤ 2147483647) (hb : bytesB bs = true) :
    Calls Tryd.prog 55 #[gP g, .int .i64 m] w fun e w' => SOut (sizeP m) bs o s (fun v => .int .i64 v) (fun v => v ≤ m) w w' g A n c e := by
  have HV := Aside0.mk (varint_calls g A n c o s bs w hR hC hn hb)
  have qm : IntKind.u64.wrap (m : Int) = m := IntWalk.u64_in _ (by omega)
  clear hR hC hb
  go_enter Tryd.func55, Tryd.ntmps55
  go_upto_region 2 with (first
    | (go_at_call 64; (with_reducible refine HV.out.mono ?_); rintro e w2 HQ; obtain ⟨v, o2, s2, rfl, hv, hd, hw⟩ := HQ.out; have HD := Aside0.mk (size_does (m := m) hd); have HW := Aside0.mk hw; have HO := Aside0.mk (open_calls g A n c o2 s2 w2 hw.rd); clear HQ hd hw))
  by_cases cy : m < v
  · have q1 : decide ((m : Int) < (v : Int)) = true := decide_eq_true (by omega)
    have q2 : decide (m < v) = true := decide_eq_true cy
    have HDD := Aside0.mk (HD.out.2 cy)
    clear cy
    go_wp2_with (first
      | (go_at_call 51; (with_reducible refine HO.out.mono ?_); rintro e w3 ⟨rfl, hw3⟩))
    go_ret
    exact ⟨⟨0, o2, opS s2, rfl, Nat.zero_le _, HDD.out, HW.out.trans hw3⟩⟩
  · have q1 : decide ((m : Int) < (v : Int)) = false := decide_eq_false (by omega)
    have q2 : decide (m < v) = false := decide_eq_false cy
    have HDD := Aside0.mk (HD.out.1 cy)
    have qv : IntKind.i64.wrap (v : Int) = v := IntWalk.i64_in _ (by omega)
    have HVM := Aside0.mk (Nat.le_of_not_lt cy)
    clear cy
    go_wp2_with (fail)
    go_ret
    exact ⟨⟨v, o2, s2, rfl, HVM.out, HDD.out, HW.out⟩⟩
set_option maxHeartbeats 4000000 in
set_option maxRecDepth 100000 in
theorem elem_calls (g : Nat) (A : Option Addr) (n c o s : Nat) (bs : List Int) (t : Int) (w : World) (hR : Sr w g A n c o s) :
    Calls Tryd.prog 56 #[gP g, .int .i64 t] w fun e w' => SOut (elemP t) bs o s (fun v => .int .i64 v) (fun v => v = t) w w' g A n c e := by
  have HD := Aside0.mk (elem_does bs o s t)
  have HR := Aside0.mk hR
  have HO := Aside0.mk (open_calls g A n c o s w hR)
  clear hR
  go_enter Tryd.func56, Tryd.ntmps56
  by_cases c1 : t < 3
  · have q1 : decide (t < 3) = true := decide_eq_true c1
    have HDD := Aside0.mk (HD.out.2 (.inl c1))
    clear c1
    go_wp2_with (first
      | (go_at_call 51; (with_reducible refine HO.out.mono ?_); rintro e w3 ⟨rfl, hw3⟩))
    go_ret
    exact ⟨⟨t, o, opS s, rfl, rfl, HDD.out, hw3⟩⟩
  · have q1 : decide (t < 3) = false := decide_eq_false c1
    by_cases c2 : 12 < t
    · have q2 : decide (12 < t) = true := decide_eq_true c2
      have HDD := Aside0.mk (HD.out.2 (.inr c2))
      clear c1 c2
      go_wp2_with (first
        | (go_at_call 51; (with_reducible refine HO.out.mono ?_); rintro e w3 ⟨rfl, hw3⟩))
      go_ret
      exact ⟨⟨t, o, opS s, rfl, rfl, HDD.out, hw3⟩⟩
    · have q2 : decide (12 < t) = false := decide_eq_false c2
      have HDD := Aside0.mk (HD.out.1 (by omega))
      clear c1 c2
      go_wp2_with (fail)
      go_ret
      exact ⟨⟨t, o, s, rfl, rfl, HDD.out, HR.out.stay⟩⟩
/-- bytes, as a part of those that are read -/
structure BOut (bs : List Int) (m o s : Nat) (w w' : World) (g : Nat) (A : Option Addr) (n c : Nat) (e : Ending) : Prop where
  mk :: (out : ∃ (l : List Int) (A' : Option Addr) (c' o' s' : Nat), e = .returned (.slice A' l.length c') ∧ l.length ≤ c' ∧ l.length ≤ m ∧ bytesB l = true ∧ (∀ W, (Kd.int .u8).C W A n bs → (Kd.int .u8).C W A' l.length l) ∧ Does (takeP m) bs o s l o' s' ∧ SWent w w' g A n c o' s')
theorem nilC (W : World) : (Kd.int .u8).C W none 0 [] := ⟨rfl, by simp, fun h => absurd h (by simp)⟩
set_option maxHeartbeats 4000000 in
set_option maxRecDepth 100000 in
theorem bytes_calls (g : Nat) (A : Option Addr) (n c o s : Nat) (bs : List Int) (m : Nat) (hm : m ≤ 1000000) (w : World) (hR : Sr w g A n c o s) (hC : (Kd.int .u8).C w A n bs) (hc : n ≤ c) (hn : n ≤ 2147483647) (hb : bytesB bs = true) :
    Calls Tryd.prog 54 #[gP g, .int .i64 m] w fun e w' => BOut bs m o s w w' g A n c e := by
  have c0 := hR.blk.cell (j := 0) rfl
  have c1 := hR.blk.cell (j := 1) rfl
  have c2 := hR.blk.cell (j := 2) rfl
  have cz := hR.blk.free 2
  have cz1 := hR.blk.free 1
  have hle := hR.le
  have hln : bs.length = n := hC.1
  have HR := Aside0.mk hR
  have HBB := Aside0.mk hb
  have HLN := Aside0.mk hln
  clear hR hC hb hln
  go_enter Tryd.func54, Tryd.ntmps54
  by_cases cs : s = 0
  · subst cs
    have qw0 : IntKind.i64.wrap ((n : Int) - (o : Int)) = (n : Int) - o := IntWalk.i64_in _ (by omega)
    by_cases co : n < o + m
    · have q1 : decide ((n : Int) - (o : Int) < (m : Int)) = true := decide_eq_true (by omega)
      have HDD := Aside0.mk (does_take_cut (bs := bs) (o := o) (m := m) [] (by rw [HLN.out]; exact co) (by rw [HLN.out]; exact hle))
      clear co
      go_upto_region 3 with (first
        | (go_quiet (fail)))
      generalize hw1 : World.setCell _ _ _ = w1
      have HW : Aside0 (SWent w w1 g A n c o 1) := ⟨by rw [← hw1]; exact (HR.out.drewN _).trans ((HR.out.drewN _).rd.say 1 (by omega) _ rfl)⟩
      have d2 := HW.out.rd.blk.cell (j := 2) rfl
      clear hw1 c0 c1 c2 cz cz1
      go_wp2_with (first
        | (go_quiet (fail)))
      go_ret
      exact ⟨⟨[], none, 0, o, 1, rfl, Nat.le_refl _, Nat.zero_le _, rfl, fun W _ => nilC W, HDD.out, HW.out⟩⟩
    · have q1 : decide ((n : Int) - (o : Int) < (m : Int)) = false := decide_eq_false (by omega)
      have HDD := Aside0.mk (does_take (bs := bs) (o := o) (m := m) (by rw [HLN.out]; omega))
      obtain ⟨l, hl⟩ : ∃ l, (bs.drop o).take m = l := ⟨_, rfl⟩
      have hll : l.length = m := by rw [← hl, List.length_take, List.length_drop, HLN.out]; omega
      have HLB : Aside0 (bytesB l = true) := ⟨by rw [← hl]; exact bytesB_take (bytesB_drop HBB.out o) m⟩
      obtain ⟨i8, h8⟩ := h8
      obtain ⟨A2, qcut, hC2, hB2⟩ := cutMidB (P := Tryd.prog) 23 5 Tryd.underlying23 h8.1 h8.2 A n c .i64 .i64 (o : Int) ((o : Int) + m) o (o + m) rfl (by push_cast; rfl) (by omega) (by omega) hc
      rw [show o + m - o = m by omega] at qcut hC2
      have HCC : Aside0 (∀ W, (Kd.int .u8).C W A n bs → (Kd.int .u8).C W A2 l.length l) := ⟨fun W hW => by
        have := hC2 _ W bs rfl hW
        rw [List.drop_take, show o + m - o = m by omega, hl] at this
        rw [hll]; exact this⟩
      rw [hl] at HDD
      have HLL := Aside0.mk hll
      have hcc : m ≤ c - o := by omega
      obtain ⟨cc, hcc2⟩ : ∃ y, c - o = y := ⟨_, rfl⟩
      rw [hcc2] at qcut hcc
      have qw : IntKind.i64.wrap ((o : Int) + m) = (o : Int) + m := IntWalk.i64_in _ (by omega)
      have qw2 : (o : Int) + m - m = (o : Int) := by omega
      have qw3 : IntKind.i64.wrap (o : Int) = (o : Int) := IntWalk.i64_in _ (by omega)
      have hom : o + m ≤ n := by omega
      clear co hl hC2 hB2 hcc2 hll
      go_upto_region 6 with (first
        | (go_quiet (fail)))
      generalize hw1 : World.setCell _ _ _ = w1
      have HW : Aside0 (SWent w w1 g A n c (o + m) 0) := ⟨by rw [← hw1]; exact (HR.out.drewN _).trans ((HR.out.drewN _).rd.at (o + m) hom _ (by push_cast; rfl))⟩
      have d0 := HW.out.rd.blk.cell (j := 0) rfl
      have d1 := HW.out.rd.blk.cell (j := 1) rfl
      have e1 : ((o + m : Nat) : Int) = (o : Int) + m := by push_cast; rfl
      rw [e1] at d1
      clear hw1 c0 c1 c2 cz cz1 e1
      go_wp2_with (first
        | (go_quiet (fail)))
      go_ret
      exact ⟨⟨l, A2, cc, o + m, 0, by rw [HLL.out]; rfl, by rw [HLL.out]; exact hcc, by rw [HLL.out]; exact Nat.le_refl _, HLB.out, HCC.out, HDD.out, HW.out.drewN _⟩⟩
  · have q : ((s : Int) == 0) = false := by rw [beq_eq_false_iff_ne]; omega
    have HD := Aside0.mk (Does.dead (takeP m) [] bs o o s cs)
    clear cs
    go_wp2_with (first
      | (go_quiet (fail)))
    go_ret
    exact ⟨⟨[], none, 0, o, s, rfl, Nat.le_refl _, Nat.zero_le _, rfl, fun W _ => nilC W, HD.out, HR.out.drewN _⟩⟩
end Go.Proofs.YtcboegodjlfmnaaDoor.Tsd

/-! The reader of the specification: lists. -/
namespace Go.Proofs.YtcboegodjlfmnaaDoor.Tse
open Go.Proofs.YtcboegodjlfmnaaDoor.Tsd Go.Proofs.YtcboegodjlfmnaaDoor.Tpv Go.Proofs.YtcboegodjlfmnaaDoor.Tsc Go.Proofs.YtcboegodjlfmnaaDoor.Tsb Go.Proofs.YtcboegodjlfmnaaDoor.Tzm Go.Proofs.YtcboegodjlfmnaaDoor.Tzl Go.Proofs.YtcboegodjlfmnaaDoor.Trh Go.Proofs.YtcboegodjlfmnaaDoor.Trn Go.Proofs.YtcboegodjlfmnaaDoor.Trm Go.Proofs.YtcboegodjlfmnaaDoor.Tuv Go.Proofs.YtcboegodjlfmnaaDoor.Tpa Go.Proofs.YtcboegodjlfmnaaDoor.Duv Go.Proofs.YtcboegodjlfmnaaDoor.Dpu Go.Proofs.YtcboegodjlfmnaaDoor.Pak Go.Proofs.YtcboegodjlfmnaaDoor.Buf Go.Proofs.YtcboegodjlfmnaaDoor.Fit Go.Proofs.YtcboegodjlfmnaaDoor.Bit Go.Proofs.YtcboegodjlfmnaaDoor.Wrd Go.Proofs.YtcboegodjlfmnaaDoor.Spl Go.Proofs.YtcboegodjlfmnaaDoor.Str Go.Proofs.YtcboegodjlfmnaaDoor.Flt Go.Proofs.YtcboegodjlfmnaaDoor.Owe Go.Proofs.YtcboegodjlfmnaaDoor.Num Go.Proofs.YtcboegodjlfmnaaDoor.Le Go.Proofs.YtcboegodjlfmnaaDoor.Lst Go.Proofs.YtcboegodjlfmnaaDoor.Aid Go.RowKit Go.Proofs.YtcboegodjlfmnaaDoorW.PrintWords Go.Proofs.YtcboegodjlfmnaaDoorW.PrintLast Go.Proofs.YtcboegodjlfmnaaDoorW.PrintMore
set_option linter.unusedVariables false
set_option linter.unusedSimpArgs false
/-- a value has been read, as the parser says, or bytes have broken off, or nothing is said -/
structure TOut (k : Nat) (ty : Int) (bs : List Int) (o s : Nat) (w w' : World) (g : Nat) (A : Option Addr) (n c : Nat) (e : Ending) : Prop where
  mk :: (out : ∃ (x : N) (cs : List Value) (o' s' : Nat), e = .returned (.agg (List.toArray cs)) ∧ x.In flT w' (PnO 0 (some g) w.heap.size w'.heap.size) cs ∧ Does (thP k ty) bs o s x o' s' ∧ SWent w w' g A n c o' s')
/-- the reader on values of less than k levels -/
structure TH (g : Nat) (A : Option Addr) (n c : Nat) (bs : List Int) (k : Nat) : Prop where
  mk :: (out : ∀ (ty : Int) (o s : Nat) (w : World), Sr w g A n c o s → (Kd.int .u8).C w A n bs → Calls Tryd.prog 39 #[gP g, .int .i64 ty, .int .i64 ((k : Int) - 1)] w fun e w' => TOut k ty bs o s w w' g A n c e)
/-- values in a row have been read -/
structure LOut (p : Psr F) (m : Nat) (fld : Bool) (bs : List Int) (o s : Nat) (w w' : World) (g : Nat) (A : Option Addr) (n c : Nat) (e : Ending) : Prop where
  mk :: (out : ∃ (X : F) (Al : Option Addr) (cl : Nat) (cs : List Value) (o' s' : Nat), e = .returned (.slice Al X.len cl) ∧ X.len ≤ m ∧ Lies w' (PnO 0 (some g) w.heap.size w'.heap.size) (.slice Al X.len cl) X.len cs ∧ X.In flT w' (PnO 0 (some g) w.heap.size w'.heap.size) fld cs ∧ Does p bs o s X o' s' ∧ SWent w w' g A n c o' s')
theorem sr_lt {w : World} {g : Nat} {A : Option Addr} {n c o s : Nat} (h : Sr w g A n c o s) : g < w.heap.size := h.blk.lt
theorem lrow0 {w : World} {g : Nat} {rc : Array Value} {rt : TypeId} {fld : Bool} {te : TypeId} (h : Blk w g rc rt) : LRow w w (some g) rc rt 0 flT fld te w.heap.size (.slice none 0 0) .nil [] :=
  ⟨grownRefl w _, fun g' e => Option.some.inj e ▸ h, ownNil w _ _ _, rfl, Nat.le_refl _⟩
theorem lrow_out {w w1 : World} {g : Nat} {A Al : Option Addr} {n c o s o1 s1 i cl m : Nat} {fld : Bool} {te : TypeId} {p : Psr F} {bs : List Int} {D : F} {cs : List Value} (hL : LRow w w1 (some g) #[.slice A n c, .int .i64 (o1 : Int), .int .i64 (s1 : Int)] 91 0 flT fld te w.heap.size (.slice Al i cl) D cs) (hi : D.len = i) (him : i ≤ m) (hS : Sr w1 g A n c o1 s1) (hd : Does p bs o s D o1 s1) :
    LOut p m fld bs o s w w1 g A n c (.returned (.slice Al i cl)) := by
  subst hi
  obtain ⟨h1, h2⟩ := hL.lies (Nat.le_refl _)
  exact ⟨⟨D, Al, cl, cs, o1, s1, rfl, him, h1, h2, hd, hL.grown, hS⟩⟩
def evod (i : Nat) (ev od : Int) : Int := if i % 2 = 0 then ev else od
theorem evod_next (i : Nat) (ev od : Int) : evod (i + 1) ev od = evod i od ev := by
  unfold evod; by_cases c : i % 2 = 0
  · rw [if_neg (by omega), if_pos c]
  · rw [if_pos (by omega), if_neg c]
theorem runs_next {P : Psr F} {bs : List Int} {o s o1 s1 o2 s2 i m : Nat} {p : Int → Psr N} {ev od : Int} {D : F} {x : N} (hi : i < m) (r : Runs P bs o s (listP p (evod i ev od) (evod i od ev) (m - i)) (fun tl => D.app tl) o1 s1) (d : Does (p (evod i ev od)) bs o1 s1 x o2 s2) :
    Runs P bs o s (listP p (evod (i + 1) ev od) (evod (i + 1) od ev) (m - (i + 1))) (fun tl => (D.snoc x.d 0 x.ls x.fs).app tl) o2 s2 := by
  rw [evod_next, evod_next]
  rw [show m - i = (m - (i + 1)) + 1 by omega] at r
  exact Runs.elem (h := fun x => x) r d
theorem runs_end {P : Psr F} {bs : List Int} {o s o1 s1 i m : Nat} {p : Int → Psr N} {ev od : Int} {D : F} (r : Runs P bs o s (listP p (evod i ev od) (evod i od ev) (m - i)) (fun tl => D.app tl) o1 s1) (h : s1 ≠ 0 ∨ m ≤ i) : Does P bs o s D o1 s1 := by
  rcases h with h | h
  · exact (r.dead h (retP D) (fun x => x) o1).ret
  · rw [show m - i = 0 by omega] at r
    have r2 : Runs P bs o s (retP F.nil) (fun tl => D.app tl) o1 s1 := r
    have := r2.ret
    rw [F.app_nil] at this
    exact this
set_option maxHeartbeats 8000000 in
set_option maxRecDepth 100000 in
theorem list_calls (g : Nat) (A : Option Addr) (n c : Nat) (bs : List Int) (k : Nat) (hk : k ≤ 100) (hth : TH g A n c bs k) (m : Nat) (hm : m ≤ 1000) (ev od : Int) (o s : Nat) (w : World) (hR : Sr w g A n c o s) (hC : (Kd.int .u8).C w A n bs) :
    Calls Tryd.prog 57 #[gP g, .int .i64 m, .int .i64 ev, .int .i64 od, .int .i64 (k : Int)] w fun e w' => LOut (listP (thP k) ev od m) m false bs o s w w' g A n c e := by
  have HR := Aside0.mk hR
  have HC := Aside0.mk hC
  have HT := Aside0.mk hth
  have HG := Aside0.mk hR.blk.lt
  have qk : IntKind.i64.wrap ((k : Int) - 1) = (k : Int) - 1 := IntWalk.i64_in _ (by omega)
  clear hR hC hth
  go_enter Tryd.func57, Tryd.ntmps57
  go_wp2_with (fail)
  go_loopg [11, 12, 13] m (fun kq v11 v12 v13 w' => ∃ (i cl o1 s1 : Nat) (D : F) (Al : Option Addr) (cs : List Value), i ≤ m ∧ v11 = .slice Al i cl ∧ v12 = .int .i64 i ∧ Aside0 (D.len = i) ∧ Aside0 (Runs (listP (thP k) ev od m) bs o s (listP (thP k) (evod i ev od) (evod i od ev) (m - i)) (fun tl => D.app tl) o1 s1) ∧ Aside0 (LRow w w' (some g) #[.slice A n c, .int .i64 (o1 : Int), .int .i64 (s1 : Int)] 91 0 flT false 27 w.heap.size (.slice Al i cl) D cs) ∧ Aside0 (Sr w' g A n c o1 s1) ∧ Aside0 (m - i ≤ kq))
  case atStart => exact ⟨0, 0, o, s, .nil, none, [], Nat.zero_le _, rfl, rfl, ⟨rfl⟩, ⟨Runs.start _ bs o s⟩, ⟨lrow0 HR.out.blk⟩, ⟨HR.out⟩, ⟨by omega⟩⟩
  case round =>
    obtain ⟨i, cl, o1, s1, D, Al, cs, hi, rfl, rfl, HDl, HRN, HL, HS, HK⟩ := hrel
    have d2 := HS.out.blk.cell (j := 2) rfl
    by_cases c1 : i < m
    · have q1 : decide ((i : Int) < m) = true := decide_eq_true (by omega)
      have q11 : decide (i < m) = true := decide_eq_true c1
      by_cases c2 : s1 = 0
      · have q2 : ((s1 : Int) == 0) = true := by rw [beq_iff_eq]; omega
        have HTH := Aside0.mk fun ty => HT.out.out ty o1 s1 _ HS.out (grownC HC.out HL.out.grown HS.out.apart)
        have HC1 := Aside0.mk c1
        have hgl : ∀ g', some g = some g' → g' < w.heap.size := fun g' e => Option.some.inj e ▸ HG.out
        have HGL := Aside0.mk hgl
        have hi9 : i < 1000 := by omega
        subst c2
        by_cases c3 : i % 2 = 1
        · have q33 : ((i : Int) % 2 == 1) = true := by rw [beq_iff_eq]; omega
          have q34 : (i % 2 == 1) = true := by rw [beq_iff_eq]; omega
          have HTY : Aside0 (od = evod i ev od) := ⟨by unfold evod; rw [if_neg (by omega)]⟩
          clear c3 c1 hgl
          go_wp2_with (first
            | (go_at_call 39; (with_reducible refine (HTH.out _).mono ?_); rintro e w2 HZ; obtain ⟨x, xcs, o2, s2, rfl, hxin, hd, hw⟩ := HZ.out; obtain ⟨B5, m5, j5, B7, m7, j7, B8, m8, j8, hxe⟩ := openT hxin; rw [hxe]; have HXI := Aside0.mk hxin; have HXE := Aside0.mk hxe; rw [HTY.out] at hd; have HDO := Aside0.mk hd; have HW2 := Aside0.mk hw; clear HZ hxin hd hw hxe)
            | (at_builtin; refine appendCells (W := w2) w.heap.size rfl (.tmp 31) (.tmp 37) 24 27 9 120 rfl Tryd.underlying24 infoThing (by decide) (.slice Al i cl) i cs [.int .i64 x.d.ty, .bool x.d.bo, .int .i64 x.d.n, .int .u64 (x.d.bits : Int), .slice B5 m5 j5, .int .i64 x.d.ky, .int .i64 x.d.el, .slice B7 m7 j7, .slice B8 m8 j8] rfl rfl rfl (by simp [Value.oneCell']) ?HO ?hb (by omega) (by unfold maxLen; omega) ?_; (case HO => exact own_move (HDl.out ▸ HL.out.row) (fun b hb => HW2.out.grown.block b (own_lt HL.out.row hb).2 (fun e => by have := own_lt HL.out.row hb; have := Option.some.inj e; have := HG.out; omega))); (case hb => have := HL.out.sz; have := HW2.out.grown.size; omega); intro v1 w4 ho hgr hor; obtain ⟨Al2, cl2, rfl⟩ := ownSlice ho; have HNX := Aside0.mk (HL.out.step (Nat.le_refl _) (Nat.zero_le _) HGL.out (x := x) (id := 0) (Nat.le_refl _) HXI.out HW2.out.grown (fun g' e => Option.some.inj e ▸ HW2.out.rd.blk) hgr (by rw [HDl.out, HXE.out]; exact ho) hor); clear ho hgr hor))
          go_roundg (gk - 1)
          all_goals first
            | (have := HK.out; have := HC1.out; omega)
            | (refine ⟨i + 1, cl2, o2, s2, D.snoc x.d 0 x.ls x.fs, Al2, _, HC1.out, rfl, by go_num, ⟨by rw [F.len_snoc, HDl.out]⟩, ⟨runs_next HC1.out HRN.out HDO.out⟩, ⟨HNX.out⟩, ⟨HNX.out.rb g rfl, HS.out.apart, HW2.out.rd.le, HW2.out.rd.st⟩, ⟨by have := HK.out; omega⟩⟩)
        · have q33 : ((i : Int) % 2 == 1) = false := by rw [beq_eq_false_iff_ne]; omega
          have q34 : (i % 2 == 1) = false := by rw [beq_eq_false_iff_ne]; omega
          have HTY : Aside0 (ev = evod i ev od) := ⟨by unfold evod; rw [if_pos (by omega)]⟩
          clear c3 c1 hgl
          go_wp2_with (first
            | (go_at_call 39; (with_reducible refine (HTH.out _).mono ?_); rintro e w2 HZ; obtain ⟨x, xcs, o2, s2, rfl, hxin, hd, hw⟩ := HZ.out; obtain ⟨B5, m5, j5, B7, m7, j7, B8, m8, j8, hxe⟩ := openT hxin; rw [hxe]; have HXI := Aside0.mk hxin; have HXE := Aside0.mk hxe; rw [HTY.out] at hd; have HDO := Aside0.mk hd; have HW2 := Aside0.mk hw; clear HZ hxin hd hw hxe)
            | (at_builtin; refine appendCells (W := w2) w.heap.size rfl (.tmp 31) (.tmp 37) 24 27 9 120 rfl Tryd.underlying24 infoThing (by decide) (.slice Al i cl) i cs [.int .i64 x.d.ty, .bool x.d.bo, .int .i64 x.d.n, .int .u64 (x.d.bits : Int), .slice B5 m5 j5, .int .i64 x.d.ky, .int .i64 x.d.el, .slice B7 m7 j7, .slice B8 m8 j8] rfl rfl rfl (by simp [Value.oneCell']) ?HO ?hb (by omega) (by unfold maxLen; omega) ?_; (case HO => exact own_move (HDl.out ▸ HL.out.row) (fun b hb => HW2.out.grown.block b (own_lt HL.out.row hb).2 (fun e => by have := own_lt HL.out.row hb; have := Option.some.inj e; have := HG.out; omega))); (case hb => have := HL.out.sz; have := HW2.out.grown.size; omega); intro v1 w4 ho hgr hor; obtain ⟨Al2, cl2, rfl⟩ := ownSlice ho; have HNX := Aside0.mk (HL.out.step (Nat.le_refl _) (Nat.zero_le _) HGL.out (x := x) (id := 0) (Nat.le_refl _) HXI.out HW2.out.grown (fun g' e => Option.some.inj e ▸ HW2.out.rd.blk) hgr (by rw [HDl.out, HXE.out]; exact ho) hor); clear ho hgr hor))
          go_roundg (gk - 1)
          all_goals first
            | (have := HK.out; have := HC1.out; omega)
            | (refine ⟨i + 1, cl2, o2, s2, D.snoc x.d 0 x.ls x.fs, Al2, _, HC1.out, rfl, by go_num, ⟨by rw [F.len_snoc, HDl.out]⟩, ⟨runs_next HC1.out HRN.out HDO.out⟩, ⟨HNX.out⟩, ⟨HNX.out.rb g rfl, HS.out.apart, HW2.out.rd.le, HW2.out.rd.st⟩, ⟨by have := HK.out; omega⟩⟩)
      · have q2 : ((s1 : Int) == 0) = false := by rw [beq_eq_false_iff_ne]; omega
        have HFIN := Aside0.mk (lrow_out HL.out HDl.out hi HS.out (runs_end HRN.out (.inl c2)))
        clear c2 c1
        go_wp2_with (fail)
        go_ret
        exact HFIN.out
    · have q1 : decide ((i : Int) < m) = false := decide_eq_false (by omega)
      have q11 : decide (i < m) = false := decide_eq_false c1
      have HFIN := Aside0.mk (lrow_out HL.out HDl.out hi HS.out (runs_end HRN.out (.inr (by omega))))
      clear c1
      go_wp2_with (fail)
      go_ret
      exact HFIN.out
end Go.Proofs.YtcboegodjlfmnaaDoor.Tse
