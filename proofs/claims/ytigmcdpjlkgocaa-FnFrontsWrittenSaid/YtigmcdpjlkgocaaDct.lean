import Derived.Test.YtigmcdpjlkgocaaMdt
import Derived.Test.YtigmcdpjlkgocaaMdb
import Derived.Deep.RegionHeld3
/-! Small functions of the statements. -/
namespace Go.Proofs.Ytigmcdpjlkgocaa.Dct
open Go.Proofs.Ytigmcdpjlkgocaa.Dun Go.Proofs.Ytigmcdpjlkgocaa.Duv Go.Proofs.Ytigmcdpjlkgocaa.Dst Go.Proofs.Ytigmcdpjlkgocaa.Deo Go.Proofs.Ytigmcdpjlkgocaa.Den Go.Proofs.Ytigmcdpjlkgocaa.Deb Go.Proofs.Ytigmcdpjlkgocaa.Drx Go.Proofs.Ytigmcdpjlkgocaa.Dds Go.Proofs.Ytigmcdpjlkgocaa.Dbw Go.Proofs.Ytigmcdpjlkgocaa.Dbk Go.Proofs.Ytigmcdpjlkgocaa.Dhd Go.Proofs.Ytigmcdpjlkgocaa.Dgr Go.Proofs.Ytigmcdpjlkgocaa.Dpu Go.Proofs.Ytigmcdpjlkgocaa.Pak Go.Proofs.Ytigmcdpjlkgocaa.Buf Go.Proofs.Ytigmcdpjlkgocaa.Fit Go.Proofs.Ytigmcdpjlkgocaa.Bit Go.Proofs.Ytigmcdpjlkgocaa.Wrd Go.Proofs.Ytigmcdpjlkgocaa.Spl Go.Proofs.Ytigmcdpjlkgocaa.Str Go.Proofs.Ytigmcdpjlkgocaa.Flt Go.Proofs.Ytigmcdpjlkgocaa.Owe Go.Proofs.Ytigmcdpjlkgocaa.Num Go.Proofs.Ytigmcdpjlkgocaa.Le Go.Proofs.Ytigmcdpjlkgocaa.Lst Go.Proofs.Ytigmcdpjlkgocaa.Aid Go.RowKit Go.Proofs.YtigmcdpjlkgocaaW.PrintWords Go.Proofs.YtigmcdpjlkgocaaW.PrintLast Go.Proofs.YtigmcdpjlkgocaaW.PrintMore
set_option linter.unusedVariables false
set_option linter.unusedSimpArgs false
theorem xor_i64_m1 (a : Nat) (ha : a < 9223372036854775808) : bits .xor .i64 (a : Int) (-1) = -1 - (a : Int) := by
  have h1 : (BitVec.ofInt 64 (a : Int)).toNat = a := by
    rw [BitVec.ofInt_natCast, BitVec.toNat_ofNat]; exact Nat.mod_eq_of_lt (by omega)
  have h2 : (BitVec.ofInt 64 (-1)).toNat = 2 ^ 64 - 1 := by decide
  show IntKind.i64.wrap ((BitVec.ofInt 64 (a : Int) ^^^ BitVec.ofInt 64 (-1)).toNat : Int) = _
  rw [BitVec.toNat_xor, h1, h2, Nat.xor_comm, xor_ones a (by omega), IntKind.wrap_i64]
  omega
theorem xor_i64_0 (a : Nat) (ha : a < 9223372036854775808) : bits .xor .i64 (a : Int) 0 = (a : Int) := by
  have h1 : (BitVec.ofInt 64 (a : Int)).toNat = a := by
    rw [BitVec.ofInt_natCast, BitVec.toNat_ofNat]; exact Nat.mod_eq_of_lt (by omega)
  have h2 : (BitVec.ofInt 64 0).toNat = 0 := by decide
  show IntKind.i64.wrap ((BitVec.ofInt 64 (a : Int) ^^^ BitVec.ofInt 64 0).toNat : Int) = _
  rw [BitVec.toNat_xor, h1, h2, Nat.xor_zero, IntKind.wrap_i64]
  omega
theorem grown_step {w wr w1 : World} {row row0 : Option Nat} (h : w.grownBy wr row) (k : wr.grownBy w1 row0) (hr : row0 = row ∨ ∃ b, row0 = some b ∧ w.heap.size ≤ b) : w.grownBy w1 row := by
  refine ⟨k.os.trans h.os, k.tape.trans h.tape, k.output.trans h.output, Nat.le_trans h.size k.size, fun i hi hne => (k.block i (Nat.lt_of_lt_of_le hi h.size) ?_).trans (h.block i hi hne)⟩
  rcases hr with e | ⟨b, e, hb⟩
  · rw [e]; exact hne
  · rw [e]; intro h2; injection h2 with h2; omega
theorem hat_step {w wr : World} {r r0 r1 : Option Nat} (hs : w.heap.size ≤ wr.heap.size) (h : r0 = r ∨ ∃ b, r0 = some b ∧ w.heap.size ≤ b) (k : r1 = r0 ∨ ∃ b, r1 = some b ∧ wr.heap.size ≤ b) : r1 = r ∨ ∃ b, r1 = some b ∧ w.heap.size ≤ b := by
  rcases k with e | ⟨b, e, hb⟩
  · rw [e]; exact h
  · exact .inr ⟨b, e, by omega⟩
theorem infoI64z : (Try.prog.info? 2).map (fun i => (i.zero, i.size, i.bytes)) = some (some (.int .i64 0), 1, 8) := by kernel_rfl
theorem unzigzag_calls (x : Int) (hx0 : -9223372036854775808 ≤ x) (hx1 : x ≤ 9223372036854775807) (w : World) :
    Calls Try.prog 22 #[.int .u64 (zz x : Int)] w fun e w' => e = .returned (.int .i64 x) ∧ w = w' := by
  by_cases c0 : x < 0
  · have hz := zz_half_neg x c0
    obtain ⟨Z, hZ⟩ : ∃ Z, zz x = Z := ⟨_, rfl⟩
    rw [hZ] at hz ⊢
    obtain ⟨a, ha⟩ : ∃ a : Nat, -x - 1 = (a : Int) := ⟨(-x - 1).toNat, by omega⟩
    have qand : bits .and .u64 (Z : Int) 1 = 1 := by
      rw [show (1 : Int) = ((2 ^ 1 - 1 : Nat) : Int) by decide, u64_and_nat _ _ (by omega) (by decide), Nat.and_two_pow_sub_one_eq_mod]; omega
    have qh : (Z : Int) / 2 = (a : Int) := by omega
    have qn := xor_i64_m1 a (by omega)
    rw [show -1 - (a : Int) = x by omega] at qn
    have ha9 : a < 9223372036854775808 := by omega
    clear hz hZ ha
    go_enter Try.func22, Try.ntmps22
    go_wp2_with (fail)
    go_ret
    exact ⟨rfl, rfl⟩
  · have hz := zz_half_pos x (by omega)
    obtain ⟨Z, hZ⟩ : ∃ Z, zz x = Z := ⟨_, rfl⟩
    rw [hZ] at hz ⊢
    obtain ⟨a, ha⟩ : ∃ a : Nat, x = (a : Int) := ⟨x.toNat, by omega⟩
    have qand : bits .and .u64 (Z : Int) 1 = 0 := by
      rw [show (1 : Int) = ((2 ^ 1 - 1 : Nat) : Int) by decide, u64_and_nat _ _ (by omega) (by decide), Nat.and_two_pow_sub_one_eq_mod]; omega
    have qh : (Z : Int) / 2 = (a : Int) := by omega
    have qn := xor_i64_0 a (by omega)
    have ha9 : a < 9223372036854775808 := by omega
    clear hz hZ
    subst ha
    go_enter Try.func22, Try.ntmps22
    go_wp2_with (fail)
    go_ret
    exact ⟨rfl, rfl⟩
theorem cutTo64_calls (n : Int) (h0 : 0 ≤ n) (h1 : n < 18446744073709551616) (w : World) :
    Calls Try.prog 24 #[.int .i64 64, .int .u64 n] w fun e w' => e = .returned (.int .i64 (IntKind.i64.wrap n)) ∧ w = w' := by
  obtain ⟨y, hy⟩ : ∃ y, IntKind.i64.wrap n = y := ⟨_, rfl⟩
  rw [hy]
  go_enter Try.func24, Try.ntmps24
  go_wp2_with (fail)
  go_ret
  exact ⟨rfl, rfl⟩
theorem cut32 (n : Int) (h0 : 0 ≤ n) (h1 : n < 18446744073709551616) : IntKind.i64.wrap (IntKind.u64.wrap (n * 4294967296)) / 4294967296 = IntKind.i32.wrap n := by
  rw [IntKind.wrap_u64, IntKind.wrap_i64, IntKind.wrap_i32]; omega
theorem cutTo32_calls (n : Int) (h0 : 0 ≤ n) (h1 : n < 18446744073709551616) (w : World) :
    Calls Try.prog 24 #[.int .i64 32, .int .u64 n] w fun e w' => e = .returned (.int .i64 (IntKind.i32.wrap n)) ∧ w = w' := by
  have HC := Aside0.mk (cut32 n h0 h1)
  obtain ⟨y, hy⟩ : ∃ y, IntKind.i32.wrap n = y := ⟨_, rfl⟩
  rw [hy] at HC ⊢
  obtain ⟨u, hu⟩ : ∃ u, IntKind.u64.wrap (n * 4294967296) = u := ⟨_, rfl⟩
  rw [hu] at HC
  obtain ⟨v, hv⟩ : ∃ v, IntKind.i64.wrap u = v := ⟨_, rfl⟩
  rw [hv] at HC
  have hq := HC.out
  go_enter Try.func24, Try.ntmps24
  go_wp2_with (fail)
  go_ret
  exact ⟨rfl, rfl⟩
section
variable {P : Program} {ops : Array Oper} {o : Oper} {a : Act} {Q : Exit → Act → World → Prop} {K : Act → World → Prop} {E : Prop}
/-- append(v, ys...) as a step of a region that draws its order -/
theorem appendReadStep {w0 W : World} (base : Nat) (hgd : o.guard = none) (s x : Operand) (t e : TypeId) (k : IntKind) (bytes : Nat)
    (ho : o.op = .call { callee := .builtin .append, args := #[s, x], argTypes := #[t, t] })
    (ht : P.underlying t = some (.slice e)) (hinfo : (P.info? e).map (fun i => (i.zero, i.size, i.bytes)) = some (some (.int k 0), 1, bytes)) (hb0 : 0 < bytes)
    (v : Value) (xs : List Int) (A : Option Addr) (m c : Nat) (ys : List Int) (hs : a.eval s = v) (hx : a.eval x = .slice A m c)
    (HO : Own W base e k v xs) (HB : Below base w0 W) (hbase : base ≤ W.heap.size) (hC : (Kd.int k).C W A m ys) (hl : (xs.length + m) * bytes ≤ 140737488355328)
    (h : ∀ v1 w1, Own w1 base e k v1 (xs ++ ys) → Below base w0 w1 → W.grownBy w1 v.ownBlock → K (a.put o.dst v1) w1) :
    if Region.wanted o (yielded ops a.tmps) = true then Oper.wp P o a W K Q else E := by
  have hw : Region.wanted o (yielded ops a.tmps) = true := by simp [Region.wanted, hgd]
  rw [if_pos hw]
  obtain ⟨i0, hi, hzz⟩ := Option.map_eq_some_iff.1 hinfo
  simp only [Prod.mk.injEq] at hzz
  obtain ⟨hz0, hz1, hz2⟩ := hzz
  have hm : ys.length = m := hC.1
  have hlen : xs.length + m ≤ 140737488355328 := Nat.le_trans (Nat.le_mul_of_pos_right _ hb0) hl
  have key : ∀ v1 w1, w1.ownsRow base e 1 v1 (xs.length + m) (nums k xs ++ nums k ys) → W.grownBy w1 v.ownBlock → K (a.put o.dst v1) w1 := by
    intro v1 w1 h1 hg
    refine h v1 w1 ⟨?_⟩ (HB.grown hg hbase (own_base HO.out)) hg
    rw [List.length_append, hm, nums_append]; exact h1
  rcases A with _ | ad
  · have h0 : m = 0 := by
      rcases Nat.eq_zero_or_pos m with h0 | h0
      · exact h0
      · obtain ⟨ad, h', _⟩ := hC.2.2 h0
        cases h'
    subst h0
    obtain rfl : ys = [] := List.eq_nil_of_length_eq_zero hm
    have hk := key v W (by simpa [nums] using HO.out) (grownRefl W _)
    have hrun : (Builtin.append_ #[t, t] o.type #[v, .slice none 0 c]).run P W = .ok v W := by
      rcases HO.out.2 with ⟨rfl, _⟩ | ⟨g, cap, cur, rfl, _, _, hnc, _⟩
      · simp [Builtin.append_, run_underlying ht, sizeOf, typeInfo, hi, Builtin.lenOf, Builtin.firstCells]
      · simp [Builtin.append_, run_underlying ht, sizeOf, typeInfo, hi, Builtin.lenOf, Builtin.firstCells, hnc, storeCells]
    unfold Oper.wp
    simp [execOp, ho, resolve, invoke, builtin, hs, hx, hrun, Result.andThen]
    exact hk
  · exact wp_append_own W s x t ho base e i0 (.int k 0) 1 bytes ht hi hz0 hz1 hz2 rfl (by omega) v xs.length (nums k xs) hs HO.out ad m c (nums k ys) hx (by simp [nums, hm]) (C_cells hC) (by intro u hu; simp [nums] at hu; obtain ⟨q, _, rfl⟩ := hu; rfl) (by simp only [maxLen]; omega) hl hbase
      (fun v1 w1 h1 hg _ => key v1 w1 h1 hg)
end
section
variable {P : Program} {ops : Array Oper} {o : Oper} {a : Act} {Q : Exit → Act → World → Prop} {K : Act → World → Prop} {E : Prop}
/-- append(v, ys...) as a step of a region that draws its order, and where the new slice lies -/
theorem appendReadStepAt {w0 W : World} (base : Nat) (hgd : o.guard = none) (s x : Operand) (t e : TypeId) (k : IntKind) (bytes : Nat)
    (ho : o.op = .call { callee := .builtin .append, args := #[s, x], argTypes := #[t, t] })
    (ht : P.underlying t = some (.slice e)) (hinfo : (P.info? e).map (fun i => (i.zero, i.size, i.bytes)) = some (some (.int k 0), 1, bytes)) (hb0 : 0 < bytes)
    (v : Value) (xs : List Int) (A : Option Addr) (m c : Nat) (ys : List Int) (hs : a.eval s = v) (hx : a.eval x = .slice A m c)
    (HO : Own W base e k v xs) (HB : Below base w0 W) (hbase : base ≤ W.heap.size) (hC : (Kd.int k).C W A m ys) (hl : (xs.length + m) * bytes ≤ 140737488355328)
    (h : ∀ v1 w1, Own w1 base e k v1 (xs ++ ys) → Below base w0 w1 → W.grownBy w1 v.ownBlock → (v1.ownBlock = v.ownBlock ∨ v1.ownBlock = some W.heap.size) → K (a.put o.dst v1) w1) :
    if Region.wanted o (yielded ops a.tmps) = true then Oper.wp P o a W K Q else E := by
  have hw : Region.wanted o (yielded ops a.tmps) = true := by simp [Region.wanted, hgd]
  rw [if_pos hw]
  obtain ⟨i0, hi, hzz⟩ := Option.map_eq_some_iff.1 hinfo
  simp only [Prod.mk.injEq] at hzz
  obtain ⟨hz0, hz1, hz2⟩ := hzz
  have hm : ys.length = m := hC.1
  have hlen : xs.length + m ≤ 140737488355328 := Nat.le_trans (Nat.le_mul_of_pos_right _ hb0) hl
  have key : ∀ v1 w1, w1.ownsRow base e 1 v1 (xs.length + m) (nums k xs ++ nums k ys) → W.grownBy w1 v.ownBlock → (v1.ownBlock = v.ownBlock ∨ v1.ownBlock = some W.heap.size) → K (a.put o.dst v1) w1 := by
    intro v1 w1 h1 hg hat
    refine h v1 w1 ⟨?_⟩ (HB.grown hg hbase (own_base HO.out)) hg hat
    rw [List.length_append, hm, nums_append]; exact h1
  rcases A with _ | ad
  · have h0 : m = 0 := by
      rcases Nat.eq_zero_or_pos m with h0 | h0
      · exact h0
      · obtain ⟨ad, h', _⟩ := hC.2.2 h0
        cases h'
    subst h0
    obtain rfl : ys = [] := List.eq_nil_of_length_eq_zero hm
    have hk := key v W (by simpa [nums] using HO.out) (grownRefl W _) (.inl rfl)
    have hrun : (Builtin.append_ #[t, t] o.type #[v, .slice none 0 c]).run P W = .ok v W := by
      rcases HO.out.2 with ⟨rfl, _⟩ | ⟨g, cap, cur, rfl, _, _, hnc, _⟩
      · simp [Builtin.append_, run_underlying ht, sizeOf, typeInfo, hi, Builtin.lenOf, Builtin.firstCells]
      · simp [Builtin.append_, run_underlying ht, sizeOf, typeInfo, hi, Builtin.lenOf, Builtin.firstCells, hnc, storeCells]
    unfold Oper.wp
    simp [execOp, ho, resolve, invoke, builtin, hs, hx, hrun, Result.andThen]
    exact hk
  · obtain ⟨v', w', hr, h2, h3, _, h5⟩ := run_append_own_at (P := P) W base t o.type e i0 (.int k 0) 1 bytes ht hi hz0 hz1 hz2 rfl (by omega) v xs.length (nums k xs) HO.out ad m c (nums k ys) (by simp [nums, hm]) (C_cells hC) (by intro u hu; simp [nums] at hu; obtain ⟨q, _, rfl⟩ := hu; rfl) (by simp only [maxLen]; omega) hl hbase
    unfold Oper.wp execOp
    simp only [ho, resolve, invoke, builtin, Sem.run_bind, Sem.run_pure, Result.andThen_ok, List.map_toArray, List.map_cons, List.map_nil, hs, hx, hr]
    exact key v' w' h2 h3 h5
end
theorem bit_and64 (y k : Nat) (hy : y < 18446744073709551616) : bits .and .u64 ((y : Int) / 2 ^ k) 1 = (((y.testBit k).toNat : Nat) : Int) := by
  have e : (y : Int) / 2 ^ k = ((y / 2 ^ k : Nat) : Int) := by push_cast; rfl
  rw [e, show (1 : Int) = ((2 ^ 1 - 1 : Nat) : Int) by decide, u64_and_nat _ _ (Nat.lt_of_le_of_lt (Nat.div_le_self _ _) hy) (by decide), Nat.and_two_pow_sub_one_eq_mod]
  congr 1
  rw [Nat.testBit_eq_decide_div_mod_eq]
  have := Nat.mod_lt (y / 2 ^ k) (show 0 < 2 by omega)
  rw [Nat.pow_one]
  rcases (show y / 2 ^ k % 2 = 0 ∨ y / 2 ^ k % 2 = 1 by omega) with h | h <;> simp [h]
/-- how many bits a number needs -/
def bitsOf : Nat → Nat
  | 0 => 0
  | n + 1 => bitsOf ((n + 1) / 2) + 1
decreasing_by omega
theorem bitsOf_0 : bitsOf 0 = 0 := by unfold bitsOf; rfl
theorem bitsOf_pos {n : Nat} (h : 0 < n) : bitsOf n = bitsOf (n / 2) + 1 := by
  obtain ⟨m, rfl⟩ : ∃ m, n = m + 1 := ⟨n - 1, by omega⟩
  rw [bitsOf]
theorem bitsOf_le : ∀ (k n : Nat), n < 2 ^ k → bitsOf n ≤ k
  | 0, n, h => by
    obtain rfl : n = 0 := by simpa using h
    rw [bitsOf_0]; omega
  | k + 1, n, h => by
    rcases Nat.eq_zero_or_pos n with e | e
    · subst e; rw [bitsOf_0]; omega
    · rw [bitsOf_pos e]
      have := bitsOf_le k (n / 2) (by rw [Nat.pow_succ] at h; omega)
      omega
theorem lt_bitsOf : ∀ (k n : Nat), bitsOf n ≤ k → n < 2 ^ k
  | 0, n, h => by
    rcases Nat.eq_zero_or_pos n with e | e
    · subst e; simp
    · rw [bitsOf_pos e] at h; omega
  | k + 1, n, h => by
    rcases Nat.eq_zero_or_pos n with e | e
    · subst e; exact Nat.two_pow_pos _
    · rw [bitsOf_pos e] at h
      have := lt_bitsOf k (n / 2) (by omega)
      rw [Nat.pow_succ]; omega
end Go.Proofs.Ytigmcdpjlkgocaa.Dct
