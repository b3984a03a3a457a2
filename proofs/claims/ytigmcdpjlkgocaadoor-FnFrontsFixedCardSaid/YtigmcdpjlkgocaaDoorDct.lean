import Derived.Test.YtigmcdpjlkgocaaDoorMdt
import Derived.Test.YtigmcdpjlkgocaaDoorMdb
import Derived.Deep.RegionHeld3
/-! Small functions of the statements. -/
namespace Go.Proofs.YtigmcdpjlkgocaaDoor.Dct
open Go.Proofs.YtigmcdpjlkgocaaDoor.Dun Go.Proofs.YtigmcdpjlkgocaaDoor.Duv Go.Proofs.YtigmcdpjlkgocaaDoor.Dst Go.Proofs.YtigmcdpjlkgocaaDoor.Deo Go.Proofs.YtigmcdpjlkgocaaDoor.Den Go.Proofs.YtigmcdpjlkgocaaDoor.Deb Go.Proofs.YtigmcdpjlkgocaaDoor.Drx Go.Proofs.YtigmcdpjlkgocaaDoor.Dds Go.Proofs.YtigmcdpjlkgocaaDoor.Dbw Go.Proofs.YtigmcdpjlkgocaaDoor.Dbk Go.Proofs.YtigmcdpjlkgocaaDoor.Dhd Go.Proofs.YtigmcdpjlkgocaaDoor.Dgr Go.Proofs.YtigmcdpjlkgocaaDoor.Dpu Go.Proofs.YtigmcdpjlkgocaaDoor.Pak Go.Proofs.YtigmcdpjlkgocaaDoor.Buf Go.Proofs.YtigmcdpjlkgocaaDoor.Fit Go.Proofs.YtigmcdpjlkgocaaDoor.Bit Go.Proofs.YtigmcdpjlkgocaaDoor.Wrd Go.Proofs.YtigmcdpjlkgocaaDoor.Spl Go.Proofs.YtigmcdpjlkgocaaDoor.Str Go.Proofs.YtigmcdpjlkgocaaDoor.Flt Go.Proofs.YtigmcdpjlkgocaaDoor.Owe Go.Proofs.YtigmcdpjlkgocaaDoor.Num Go.Proofs.YtigmcdpjlkgocaaDoor.Le Go.Proofs.YtigmcdpjlkgocaaDoor.Lst Go.Proofs.YtigmcdpjlkgocaaDoor.Aid Go.RowKit Go.Proofs.YtigmcdpjlkgocaaDoorW.PrintWords Go.Proofs.YtigmcdpjlkgocaaDoorW.PrintLast Go.Proofs.YtigmcdpjlkgocaaDoorW.PrintMore
set_option linter.unusedVariables false
set_option linter.unusedSimpArgs false
theorem xor_i64_m1 (a : Nat) (ha : a < 9223372036854775808) : bits .xor .i64 (a : Int) (-1) = -1 - (a : Int) := by
  have h1 : (BitVec.ofInt 64 (a : Int)).toNat = a := by
    rw [BitVec.ofInt_natCast, BitVec.toNat_ofNat]; exact Nat.mod_eq_of_lt (by omega)
  have h2 : (BitVec.ofInt 64 (-1)).toNat = 2 ^ 64 - 1 := by decide
  show IntKind.i64.wrap ((BitVec.ofInt 64 (a : Int) ^^^ BitVec.ofInt 64 (-1)).toNat : Int) = _
  rw [BitVec.toNat_xor, h1, h2, Nat.xor_comm, xor_ones a (by omega), IntKind.wrap_i64]
  omega
theorem xor_i64_0 (a : Nat) (ha : a < 9223372036854775808) : bits .xor .i64 (a : Int) 0 = (a : Int) := by
  have h1 : (BitVec.ofInt 64 (a : Int)).toNat = a := by
    rw [BitVec.ofInt_natCast, BitVec.toNat_ofNat]; exact Nat.mod_eq_of_lt (by omega)
  have h2 : (BitVec.ofInt 64 0).toNat = 0 := by decide
  show IntKind.i64.wrap ((BitVec.ofInt 64 (a : Int) ^^^ BitVec.ofInt 64 0).toNat : Int) = _
  rw [BitVec.toNat_xor, h1, h2, Nat.xor_zero, IntKind.wrap_i64]
  omega
theorem grown_step {w wr w1 : World} {row row0 : Option Nat} (h : w.grownBy wr row) (k : wr.grownBy w1 row0) (hr : row0 = row ∨ ∃ b, row0 = some b ∧ w.heap.size ≤ b) : w.grownBy w1 row := by
  refine ⟨k.os.trans h.os, k.tape.trans h.tape, k.output.trans h.output, Nat.le_trans h.size k.size, fun i hi hne => (k.block i (Nat.lt_of_lt_of_le hi h.size) ?_).trans (h.block i hi hne)⟩
  rcases hr with e | ⟨b, e, hb⟩
  · rw [e]; exact hne
  · rw [e]; intro h2; injection h2 with h2; omega
theorem hat_step {w wr : World} {r r0 r1 : Option Nat} (hs : w.heap.size ≤ wr.heap.size) (h : r0 = r ∨ ∃ b, r0 = some b ∧ w.heap.size ≤ b) (k : r1 = r0 ∨ ∃ b, r1 = some b ∧ wr.heap.size ≤ b) : r1 = r ∨ ∃ b, r1 = some b ∧ w.heap.size ≤ b := by
  rcases k with e | ⟨b, e, hb⟩
  · rw [e]; exact h
  · exact .inr ⟨b, e, by omega⟩
theorem infoI64z : (Tryd.prog.info? 2).map (fun i => (i.zero, i.size, i.bytes)) = some (some (.int .i64 0), 1, 8) := by kernel_rfl
theorem unzigzag_calls (x : Int) (hx0 : -9223372036854775808 ≤ x) (hx1 : x ≤ 9223372036854775807) (w : World) :
    Calls Tryd.prog 98 #[.int .u64 (zz x : Int)] w fun e w' => e = .returned (.int .i64 x) ∧ w = w' := by
  by_cases c0 : x < 0
  · have hz := zz_half_neg x c0
    obtain ⟨Z, hZ⟩ : ∃ Z, zz x = Z := ⟨_, rfl⟩
    rw [hZ] at hz ⊢
    obtain ⟨a, ha⟩ : ∃ a : Nat, -x - 1 = (a : Int) := ⟨(-x - 1).toNat, by omega⟩
    have qand : bits .and .u64 (Z : Int) 1 = 1 := by
      rw [show (1 : Int) = ((2 ^ 1 - 1 : Nat) : Int) by decide, u64_and_nat _ _ (by omega) (by decide), Nat.and_two_pow_sub_one_eq_mod]; omega
    have qh : (Z : Int) / 2 = (a : Int) := by omega
    have qn := xor_i64_m1 a (by omega)
    rw [show -1 - (a : Int) = x by omega] at qn
    have ha9 : a < 9223372036854775808 := by omega
    clear hz hZ ha
    go_enter Tryd.func98, Tryd.ntmps98
    go_wp2_with (fail)
    go_ret
    exact ⟨rfl, rfl⟩
  · have hz := zz_half_pos x (by omega)
    obtain ⟨Z, hZ⟩ : ∃ Z, zz x = Z := ⟨_, rfl⟩
    rw [hZ] at hz ⊢
    obtain ⟨a, ha⟩ : ∃ a : Nat, x = (a : Int) := ⟨x.toNat, by omega⟩
    have qand : bits .and .u64 (Z : Int) 1 = 0 := by
      rw [show (1 : Int) = ((2 ^ 1 - 1 : Nat) : Int) by decide, u64_and_nat _ _ (by omega) (by decide), Nat.and_two_pow_sub_one_eq_mod]; omega
    have qh : (Z : Int) / 2 = (a : Int) := by omega
    have qn := xor_i64_0 a (by omega)
    have ha9 : a < 9223372036854775808 := by omega
    clear hz hZ
    subst ha
    go_enter Tryd.func98, Tryd.ntmps98
    go_wp2_with (fail)
    go_ret
    exact ⟨rfl, rfl⟩
theorem cutTo64_calls (n : Int) (h0 : 0 ≤ n) (h1 : n < 18446744073709551616) (w : World) :
    Calls Tryd.prog 38 #[.int .i64 64, .int .u64 n] w fun e w' => e = .returned (.int .i64 (IntKind.i64.wrap n)) ∧ w = w' := by
  obtain ⟨y, hy⟩ : ∃ y, IntKind.i64.wrap n = y := ⟨_, rfl⟩
  rw [hy]
  go_enter Tryd.func38, Tryd.ntmps38
  go_wp2_with (fail)
  go_ret
  exact ⟨rfl, rfl⟩
theorem cut32 (n : Int) (h0 : 0 ≤ n) (h1 : n < 18446744073709551616) : IntKind.i64.wrap (IntKind.u64.wrap (n * 4294967296)) / 4294967296 = IntKind.i32.wrap n := by
  rw [IntKind.wrap_u64, IntKind.wrap_i64, IntKind.wrap_i32]; omega
theorem cutTo32_calls (n : Int) (h0 : 0 ≤ n) (h1 : n < 18446744073709551616) (w : World) :
    Calls Tryd.prog 38 #[.int .i64 32, .int .u64 n] w fun e w' => e = .returned (.int .i64 (IntKind.i32.wrap n)) ∧ w = w' := by
  have HC := Aside0.mk (cut32 n h0 h1)
  obtain ⟨y, hy⟩ : ∃ y, IntKind.i32.wrap n = y := ⟨_, rfl⟩
  rw [hy] at HC ⊢
  obtain ⟨u, hu⟩ : ∃ u, IntKind.u64.wrap (n * 4294967296) = u := ⟨_, rfl⟩
  rw [hu] at HC
  obtain ⟨v, hv⟩ : ∃ v, IntKind.i64.wrap u = v := ⟨_, rfl⟩
  rw [hv] at HC
  have hq := HC.out
  go_enter Tryd.func38, Tryd.ntmps38
  go_wp2_with (fail)
  go_ret
  exact ⟨rfl, rfl⟩
section
variable {P : Program} {ops : Array Oper} {o : Oper} {a : Act} {Q : Exit → Act → World → Prop} {K : Act → World → Prop} {E : Prop}
/-- append(v, ys...) as a step of a region that draws its order -/
theorem appendReadStep {w0 W : World} (base : Nat) (hgd : o.guard = none) (s x : Operand) (t e : TypeId) (k : IntKind) (bytes : Nat)
    (ho : o.op = .call { callee := .builtin .append, args := #[s, x], argTypes := #[t, t] })
    (ht : P.underlying t = some (.slice e)) (hinfo : (P.info? e).map (fun i => (i.zero, i.size, i.bytes)) = some (some (.int k 0), 1, bytes)) (hb0 : 0 < bytes)
    (v : Value) (xs : List Int) (A : Option Addr) (m c : Nat) (ys : List Int) (hs : a.eval s = v) (hx : a.eval x = .slice A m c)
    (HO : Own W base e k v xs) (HB : Below base w0 W) (hbase : base ≤ W.heap.size) (hC : (Kd.int k).C W A m ys) (hl : (xs.length + m) * bytes ≤ 140737488355328)
    (h : ∀ v1 w1, Own w1 base e k v1 (xs ++ ys) → Below base w0 w1 → W.grownBy w1 v.ownBlock → K (a.put o.dst v1) w1) :
    if Region.wanted o (yielded ops a.tmps) = true then Oper.wp P o a W K Q else E := by
  have hw : Region.wanted o (yielded ops a.tmps) = true := by simp [Region.wanted, hgd]
  rw [if_pos hw]
  obtain ⟨i0, hi, hzz⟩ := Option.map_eq_some_iff.1 hinfo
  simp only [Prod.mk.injEq] at hzz
  obtain ⟨hz0, hz1, hz2⟩ := hzz
  have hm : ys.length = m := hC.1
  have hlen : xs.length + m ≤ 140737488355328 := Nat.le_trans (Nat.le_mul_of_pos_right _ hb0) hl
  have key : ∀ v1 w1, w1.ownsRow base e 1 v1 (xs.length + m) (nums k xs ++ nums k ys) → W.grownBy w1 v.ownBlock → K (a.put o.dst v1) w1 := by
    intro v1 w1 h1 hg
    refine h v1 w1 ⟨?_⟩ (HB.grown hg hbase (own_base HO.out)) hg
    rw [List.length_append, hm, nums_append]; exact h1
  rcases A with _ | ad
  · have h0 : m = 0 := by
      rcases Nat.eq_zero_or_pos m with h0 | h0
      · exact h0
      · obtain ⟨ad, h', _⟩ := hC.2.2 h0
        cases h'
    subst h0
    obtain rfl : ys = [] := List.eq_nil_of_length_eq_zero hm
    have hk := key v W (by simpa [nums] using HO.out) (grownRefl W _)
    have hrun : (Builtin.append_ #[t, t] o.type #[v, .slice none 0 c]).run P W = .ok v W := by
      rcases HO.out.2 with ⟨rfl, _⟩ | ⟨g, cap, cur, rfl, _, _, hnc, _⟩
      · simp [Builtin.append_, run_underlying ht, sizeOf, typeInfo, hi, Builtin.lenOf, Builtin.firstCells]
      · simp [Builtin.append_, run_underlying ht, sizeOf, typeInfo, hi, Builtin.lenOf, Builtin.firstCells, hnc, storeCells]
    unfold Oper.wp
    simp [execOp, ho, resolve, invoke, builtin, hs, hx, hrun, Result.andThen]
    exact hk
  · exact wp_append_own W s x t ho base e i0 (.int k 0) 1 bytes ht hi hz0 hz1 hz2 rfl (by omega) v xs.length (nums k xs) hs HO.out ad m c (nums k ys) hx (by simp [nums, hm]) (C_cells hC) (by intro u hu; simp [nums] at hu; obtain ⟨q, _, rfl⟩ := hu; rfl) (by simp only [maxLen]; omega) hl hbase
      (fun v1 w1 h1 hg _ => key v1 w1 h1 hg)
end
section
variable {P : Program} {ops : Array Oper} {o : Oper} {a : Act} {Q : Exit → Act → World → Prop} {K : Act → World → Prop} {E : Prop}
/-- append(v, ys...) as a step of a region that draws its order, and where the new slice lies -/
theorem appendReadStepAt {w0 W : World} (base : Nat) (hgd : o.guard = none) (s x : Operand) (t e : TypeId) (k : IntKind) (bytes : Nat)
    (ho : o.op = .call { callee := .builtin .append, args := #[s, x], argTypes := #[t, t] })
    (ht : P.underlying t = some (.slice e)) (hinfo : (P.info? e).map (fun i => (i.zero, i.size, i.bytes)) = some (some (.int k 0), 1, bytes)) (hb0 : 0 < bytes)
    (v : Value) (xs : List Int) (A : Option Addr) (m c : Nat) (ys : List Int) (hs : a.eval s = v) (hx : a.eval x = .slice A m c)
    (HO : Own W base e k v xs) (HB : Below base w0 W) (hbase : base ≤ W.heap.size) (hC : (Kd.int k).C W A m ys) (hl : (xs.length + m) * bytes ≤ 140737488355328)
    (h : ∀ v1 w1, Own w1 base e k v1 (xs ++ ys) → Below base w0 w1 → W.grownBy w1 v.ownBlock → (v1.ownBlock = v.ownBlock ∨ v1.ownBlock = some W.heap.size) → K (a.put o.dst v1) w1) :
    if Region.wanted o (yielded ops a.tmps) = true then Oper.wp P o a W K Q else E := by
  have hw : Region.wanted o (yielded ops a.tmps) = true := by simp [Region.wanted, hgd]
  rw [if_pos hw]
  obtain ⟨i0, hi, hzz⟩ := Option.map_eq_some_iff.1 hinfo
  simp only [Prod.mk.injEq] at hzz
  obtain ⟨hz0, hz1, hz2⟩ := hzz
  have hm : ys.length = m := hC.1
  have hlen : xs.length + m ≤ 140737488355328 := Nat.le_trans (Nat.le_mul_of_pos_right _ hb0) hl
  have key : ∀ v1 w1, w1.ownsRow base e 1 v1 (xs.length + m) (nums k xs ++ nums k ys) → W.grownBy w1 v.ownBlock → (v1.ownBlock = v.ownBlock ∨ v1.ownBlock = some W.heap.size) → K (a.put o.dst v1) w1 := by
    intro v1 w1 h1 hg hat
    refine h v1 w1 ⟨?_⟩ (HB.grown hg hbase (own_base HO.out)) hg hat
    rw [List.length_append, hm, nums_append]; exact h1
  rcases A with _ | ad
  · have h0 : m = 0 := by
      rcases Nat.eq_zero_or_pos m with h0 | h0
      · exact h0
      · obtain ⟨ad, h', _⟩ := hC.2.2 h0
        cases h'
    subst h0
    obtain rfl : ys = [] := List.eq_nil_of_length_eq_zero hm
    have hk := key v W (by simpa [nums] using HO.out) (grownRefl W _) (.inl rfl)
    have hrun : (Builtin.append_ #[t, t] o.type #[v, .slice none 0 c]).run P W = .ok v W := by
      rcases HO.out.2 with ⟨rfl, _⟩ | ⟨g, cap, cur, rfl, _, _, hnc, _⟩
      · simp [Builtin.append_, run_underlying ht, sizeOf, typeInfo, hi, Builtin.lenOf, Builtin.firstCells]
      · simp [Builtin.append_, run_underlying ht, sizeOf, typeInfo, hi, Builtin.lenOf, Builtin.firstCells, hnc, storeCells]
    unfold Oper.wp
    simp [execOp, ho, resolve, invoke, builtin, hs, hx, hrun, Result.andThen]
    exact hk
  · obtain ⟨v', w', hr, h2, h3, _, h5⟩ := run_append_own_at (P := P) W base t o.type e i0 (.int k 0) 1 bytes ht hi hz0 hz1 hz2 rfl (by omega) v xs.length (nums k xs) HO.out ad m c (nums k ys) (by simp [nums, hm]) (C_cells hC) (by intro u hu; simp [nums] at hu; obtain ⟨q, _, rfl⟩ := hu; rfl) (by simp only [maxLen]; omega) hl hbase
    unfold Oper.wp execOp
    simp only [ho, resolve, invoke, builtin, Sem.run_bind, Sem.run_pure, Result.andThen_ok, List.map_toArray, List.map_cons, List.map_nil, hs, hx, hr]
    exact key v' w' h2 h3 h5
end
theorem bit_and64 (y k : Nat) (hy : y < 18446744073709551616) : bits .and .u64 ((y : Int) / 2 ^ k) 1 = (((y.testBit k).toNat : Nat) : Int) := by
  have e : (y : Int) / 2 ^ k = ((y / 2 ^ k : Nat) : Int) := by push_cast; rfl
  rw [e, show (1 : Int) = ((2 ^ 1 - 1 : Nat) : Int) by decide, u64_and_nat _ _ (Nat.lt_of_le_of_lt (Nat.div_le_self _ _) hy) (by decide), Nat.and_two_pow_sub_one_eq_mod]
  congr 1
  rw [Nat.testBit_eq_decide_div_mod_eq]
  have := Nat.mod_lt (y / 2 ^ k) (show 0 < 2 by omega)
  rw [Nat.pow_one]
  rcases (show y / 2 ^ k % 2 = 0 ∨ y / 2 ^ k % 2 = 1 by omega) with h | h <;> simp [h]
set_option maxHeartbeats 8000000 in
set_option maxRecDepth 100000 in
theorem packLow_calls (A : Option Addr) (n c w : Nat) (l : List Int) (W : World) (hC : (Kd.int .u64).C W A n l) (hc : n ≤ c) (hn : n ≤ 1000000) (hu : u64L l) (hw : w ≤ 64) :
    Calls Tryd.prog 40 #[.int .i64 w, .slice A n c] W fun e w' => ∃ v, e = .returned v ∧ Own w' W.heap.size 5 .u8 v (bytesLo (upTo (bitsLo w l) (n * w)) ((n * w + 7) / 8)) ∧ Below W.heap.size W w' := by
  have HC := Aside0.mk hC
  have HLN : Aside0 (l.length = n) := ⟨hC.1⟩
  have HU := Aside0.mk hu
  obtain ⟨nw, hnw⟩ : ∃ nw, n * w = nw := ⟨_, rfl⟩
  have hnwI : (n : Int) * (w : Int) = (nw : Int) := by rw [← hnw]; push_cast; rfl
  have hnw9 : nw ≤ 64000000 := by rw [← hnw]; exact Nat.le_trans (Nat.mul_le_mul hn hw) (by omega)
  obtain ⟨M, hM⟩ : ∃ M, (nw + 7) / 8 = M := ⟨_, rfl⟩
  have hMI : ((nw : Int) + 7) / 8 = (M : Int) := by omega
  have hMw : IntKind.i64.wrap (M : Int) = (M : Int) := IntWalk.i64_in _ (by omega)
  have HNW := Aside0.mk hnw
  obtain ⟨f, hf⟩ : ∃ f : Nat → Bool, bitsLo w l = f := ⟨_, rfl⟩
  have HF := Aside0.mk hf
  have hmk := print_make (P := Tryd.prog) 29 5 .u8 1 Tryd.underlying29 infoU8 (by decide) M (by omega)
  rw [hnw, hf, hM]
  clear hC hu hnw hf
  go_enter Tryd.func40, Tryd.ntmps40
  go_wp2_with (fail)
  rw [hMI]
  have HR : Aside0 (Row (W.alloc (.cells (madeCells #[.int .u8 0] M) 5)) W.heap.size 5 .u8 (bytesLo (upTo f 0) M)) := ⟨by rw [bytesLo_zero]; exact madeRow W 5 .u8 M⟩
  have HB : Aside0 (Below W.heap.size W (W.alloc (.cells (madeCells #[.int .u8 0] M) 5))) := ⟨(Below.refl _ _).alloc (Nat.le_refl _) _⟩
  generalize W.alloc (.cells (madeCells #[.int .u8 0] M) 5) = wm at *
  clear hmk hMI
  go_loopg [6, 7, 19] n (fun kq v6 v7 v19 w' => ∃ (j o : Nat), j ≤ n ∧ v19 = .int .i64 j ∧ Aside0 (o = j * w) ∧ Aside0 (Row w' W.heap.size 5 .u8 (bytesLo (upTo f o) M)) ∧ Aside0 (Below W.heap.size W w') ∧ Aside0 (n - j ≤ kq))
  case atStart => exact ⟨0, 0, by omega, rfl, ⟨by simp⟩, HR, HB, ⟨by omega⟩⟩
  case round =>
    clear HR HB
    obtain ⟨j, jw, hj, rfl, HJW, HR, HB, HK⟩ := hrel
    by_cases cj : j < n
    · have cjb : decide ((j : Int) < n) = true := decide_eq_true (by omega)
      obtain ⟨gk0, rfl⟩ : ∃ gk0, gk = gk0 + 1 := ⟨gk - 1, by have := HK.out; omega⟩
      have hjwI : (j : Int) * (w : Int) = (jw : Int) := by rw [HJW.out]; push_cast; rfl
      have hjw9 : jw + w ≤ nw := by
        have h1 : (j + 1) * w ≤ n * w := Nat.mul_le_mul_right w cj
        rw [Nat.succ_mul] at h1
        have := HNW.out; have := HJW.out; omega
      obtain ⟨ad, ead, hcell⟩ := Kd.at_int (Kd.C_below HC.out HB.out) (j : Int) (by omega) (by omega)
      have hxu := HU.out _ (rd_mem (l := l) (i := j) (by rw [HLN.out]; exact cj))
      obtain ⟨y, hy⟩ : ∃ y : Nat, rd l (j : Int) = (y : Int) := ⟨(rd l (j : Int)).toNat, by unfold u64B at hxu; omega⟩
      rw [Int.toNat_natCast, hy] at hcell
      have hy9 : y < 18446744073709551616 := by rw [hy] at hxu; unfold u64B at hxu; omega
      have HYQ := Aside0.mk hy
      subst ead
      clear hy hxu
      have HR0 : Aside0 (Row wr W.heap.size 5 .u8 (bytesLo (upTo f (jw + 0)) M)) := ⟨by rw [Nat.add_zero]; exact HR.out⟩
      go_wp2_with (fail)
      go_loopg [8, 9, 25] w (fun kq v8 v9 v25 w' => ∃ (k : Nat), k ≤ w ∧ v25 = .int .i64 k ∧ Aside0 (Row w' W.heap.size 5 .u8 (bytesLo (upTo f (jw + k)) M)) ∧ Aside0 (Below W.heap.size W w') ∧ Aside0 (w - k ≤ kq))
      case atStart => exact ⟨0, by omega, rfl, HR0, HB, ⟨by omega⟩⟩
      case round =>
        clear HR HB HR0
        obtain ⟨k, hk, rfl, HR, HB, HK2⟩ := hrel
        by_cases ck : k < w
        · have ckb : decide ((k : Int) < w) = true := decide_eq_true (by omega)
          have hand := bit_and64 y k hy9
          have hfo : f (jw + k) = y.testBit k := by rw [← HF.out]; exact bitsLo_at w l j k (jw + k) y ck (by rw [HJW.out]) HYQ.out
          have hk64 : k < 64 := by omega
          by_cases cb : y.testBit k = true
          · rw [cb] at hand hfo
            obtain ⟨o, ho⟩ : ∃ o, jw + k = o := ⟨_, rfl⟩
            have hoI : (jw : Int) + (k : Int) = (o : Int) := by omega
            obtain ⟨q, hq⟩ : ∃ q, o / 8 = q := ⟨_, rfl⟩
            obtain ⟨r, hr⟩ : ∃ r, o % 8 = r := ⟨_, rfl⟩
            have hq1 : (o : Int) / 8 = (q : Int) := by omega
            have hq2 : (o : Int).tdiv 8 = (q : Int) := by rw [Int.tdiv_eq_ediv_of_nonneg (by omega)]; exact hq1
            have hr1 : (o : Int) % 8 = (r : Int) := by omega
            have hr2 : (o : Int).tmod 8 = (r : Int) := by rw [Int.tmod_eq_emod_of_nonneg (by omega)]; exact hr1
            have hr8 : r < 8 := by omega
            have hqM : q < M := by omega
            have hqw : IntKind.i64.wrap (q : Int) = (q : Int) := IntWalk.i64_in _ (by omega)
            have rc := HR.out.cell (j := q) (by rw [bytesLo_length]; exact hqM)
            have rf := HR.out.free q
            rw [rd_bytesLo _ _ _ hqM] at rc
            have hset := bytesLo_set f o M (by rw [← ho]; exact hfo) (by omega)
            rw [ho] at rc
            rw [hq, hr] at hset
            obtain ⟨z, hz⟩ : ∃ z, byteLo (upTo f o) q = z := ⟨_, rfl⟩
            have hz8 : z < 256 := by rw [← hz]; exact byteLo_lt _ _
            rw [hz] at rc hset
            have hp := two_pow_le (show r ≤ 7 by omega)
            have e7 : (2 : Nat) ^ 7 = 128 := by decide
            obtain ⟨pw, hpw⟩ : ∃ pw, 2 ^ r = pw := ⟨_, rfl⟩
            have hpI : (2 : Int) ^ r = (pw : Int) := by rw [← hpw]; push_cast; rfl
            have hpm : (pw : Int) % 256 = (pw : Int) := by omega
            have hp9 : pw < 256 := by omega
            have hpwrap : IntKind.u8.wrap (pw : Int) = (pw : Int) := by rw [IntKind.wrap_u8]; omega
            have HOR := Aside0.mk (u8_or_nat z pw hz8 hp9)
            rw [hpw] at hset
            have HSET := Aside0.mk hset
            have HO := Aside0.mk ho
            have qi1 : (q < M) = True := eq_true hqM
            have qi2 : ((q : Int) < (M : Int)) = True := eq_true (by omega)
            have qi3 : (0 ≤ (q : Int)) = True := eq_true (by omega)
            have qi7 : (0 ≤ (r : Int)) = True := eq_true (by omega)
            clear hfo hq hr hset hz hp hpw ho cb
            go_wp2_with (fail)
            refine region_tail 9 (by kernel_rfl) (by kernel_rfl) ?_
            simp only [List.take_succ_cons, List.take_zero, List.drop_succ_cons, List.drop_zero]
            repeat (quiet_step ((fail)))
            refine wpQuiet_nil ?_
            rintro _ ⟨nq, rfl⟩
            go_wp2_with (fail)
            rw [HOR.out]
            go_roundg (gk - 1)
            case measure => have := HK2.out; omega
            case rel =>
              refine ⟨k + 1, by omega, by go_num, ⟨?_⟩, ⟨Below.setCell (p := ⟨W.heap.size, q, none⟩) (HB.out.trans ((drewN_below wr nq).mono HB.out.size)) (Nat.le_refl _) _⟩, ⟨by have := HK2.out; omega⟩⟩
              have h := (HR.out.drewN nq).set q ((z ||| pw : Nat) : Int)
              rw [HO.out, HSET.out] at h
              rw [← Nat.add_assoc, HO.out]
              exact h
          · have cb2 : y.testBit k = false := by simpa using cb
            rw [cb2] at hand hfo
            have HUS := Aside0.mk (upTo_succ_false f (jw + k) hfo)
            clear hfo cb cb2
            go_wp2_with (fail)
            go_roundg (gk - 1)
            case measure => have := HK2.out; omega
            case rel =>
              refine ⟨k + 1, by omega, by go_num, ⟨?_⟩, HB, ⟨by have := HK2.out; omega⟩⟩
              rw [← Nat.add_assoc, HUS.out]; exact HR.out
        · obtain rfl : k = w := by omega
          have ckb : decide ((k : Int) < k) = false := decide_eq_false (by omega)
          go_wp2_with (fail)
          go_roundg gk0
          case measure => omega
          case rel => exact ⟨j + 1, jw + k, by omega, by go_num, ⟨by rw [HJW.out, Nat.succ_mul]⟩, HR, HB, ⟨by have := HK.out; omega⟩⟩
    · obtain rfl : j = n := by omega
      have cjb : decide ((j : Int) < j) = false := decide_eq_false (by omega)
      have HJN : Aside0 (jw = nw) := ⟨by rw [HJW.out]; exact HNW.out⟩
      go_wp2_with (fail)
      go_ret
      have := HR.out.toOwn (base := W.heap.size) (n := M) (Nat.le_refl _) (by rw [bytesLo_length]; omega) (by rw [bytesLo_length]; omega)
      rw [bytesLo_length, List.take_of_length_le (by rw [bytesLo_length]; omega), HJN.out] at this
      exact ⟨_, rfl, this, HB.out⟩
set_option maxHeartbeats 4000000 in
theorem varint_calls (x : Nat) (w : World) (hx : x < 18446744073709551616) :
    Calls Tryd.prog 36 #[.int .u64 x] w fun e w' => ∃ v, e = .returned v ∧ Own w' w.heap.size 5 .u8 v (varL x) ∧ Below w.heap.size w w' := by
  have HL5 := varL_len10 x hx
  go_enter Tryd.func36, Tryd.ntmps36
  go_wp2_with (fail)
  go_loopg [0, 3] 10 (fun kq v0 v3 w' => ∃ (y i : Nat) (pre : List Int), v0 = .int .u64 y ∧ y ≤ x ∧ i ≤ 10 ∧ Aside0 (pre.length = i) ∧ Aside0 (pre ++ varL y = varL x) ∧ Aside0 (Own w' w.heap.size 5 .u8 v3 pre) ∧ Aside0 (Below w.heap.size w w') ∧ Aside0 (10 - i ≤ kq))
  case atStart => exact ⟨x, 0, [], rfl, Nat.le_refl _, by omega, ⟨rfl⟩, ⟨rfl⟩, ⟨Own.nil _ _ _ _⟩, ⟨Below.refl _ _⟩, ⟨by omega⟩⟩
  case round =>
    obtain ⟨y, i, pre, rfl, hyx, hi5, HP, HV, HO, HB, HK⟩ := hrel
    have hlen : i + (varL y).length = (varL x).length := by rw [← HV.out, List.length_append, HP.out]
    have hpos := varL_pos y
    by_cases c : 128 ≤ y
    · have qc : decide (128 ≤ (y : Int)) = true := decide_eq_true (by omega)
      have qc2 : decide (128 ≤ y) = true := decide_eq_true c
      have e := varL_hi (n := y) (by omega)
      have hl2 : (varL y).length = (varL (y / 128)).length + 1 := by rw [e]; simp
      have hp2 := varL_pos (y / 128)
      have hor : bits BinOp.or IntKind.u8 ((y : Int) % 256) 128 = ((y % 128 + 128 : Nat) : Int) := by
        rw [show ((y : Int) % 256) = ((y % 256 : Nat) : Int) by omega, show (128 : Int) = ((128 : Nat) : Int) from rfl, u8_or_nat (y % 256) 128 (Nat.mod_lt _ (by omega)) (by omega), or128]
      have HE := Aside0.mk e
      obtain ⟨t, ht⟩ : ∃ t, y % 128 + 128 = t := ⟨_, rfl⟩
      rw [ht] at hor
      have HTT := Aside0.mk ht
      clear e ht
      go_wp2_with (first
        | (at_builtin; refine appendOwn (w0 := w) w.heap.size rfl (.tmp 6) (.tmp 10) 29 5 .u8 1 rfl Tryd.underlying29 infoU8 (by decide) u3 pre (t : Int) rfl rfl HO.out HB.out ?hb ?hl ?_; (case hb => exact HB.out.size); (case hl => rw [HP.out]; omega); intro v1 w1 ho hb hg; have HO1 := Aside0.mk ho; have HB1 := Aside0.mk hb; clear ho hb hg))
      go_roundg (gk - 1)
      case measure => have := HK.out; omega
      case rel =>
        refine ⟨y / 128, i + 1, pre ++ [(t : Int)], by first | rfl | (congr 1; omega), by omega, by omega, ⟨by rw [List.length_append, HP.out]; rfl⟩, ⟨?_⟩, HO1, HB1, ⟨by have := HK.out; omega⟩⟩
        rw [List.append_assoc, List.singleton_append, ← HTT.out, ← HE.out]; exact HV.out
    · have qc : decide (128 ≤ (y : Int)) = false := decide_eq_false (by omega)
      have qc2 : decide (128 ≤ y) = false := decide_eq_false c
      have HE : Aside0 (pre ++ [(y : Int)] = varL x) := ⟨by rw [← HV.out, varL_lo (by omega)]⟩
      go_wp2_with (first
        | (at_builtin; refine appendOwn (w0 := w) w.heap.size rfl (.tmp 14) (.tmp 17) 29 5 .u8 1 rfl Tryd.underlying29 infoU8 (by decide) u3 pre (y : Int) rfl rfl HO.out HB.out ?hb ?hl ?_; (case hb => exact HB.out.size); (case hl => rw [HP.out]; omega); intro v1 w1 ho hb hg; have HO1 := Aside0.mk ho; have HB1 := Aside0.mk hb; clear ho hb hg))
      go_ret
      refine ⟨v1, rfl, ?_, HB1.out⟩
      rw [← HE.out]; exact HO1.out
theorem zigzag_calls (x : Int) (hx0 : -9223372036854775808 ≤ x) (hx1 : x ≤ 9223372036854775807) (w : World) :
    Calls Tryd.prog 37 #[.int .i64 x] w fun e w' => e = .returned (.int .u64 (zz x : Int)) ∧ w = w' := by
  by_cases c0 : x < 0
  · have hz := zz_half_neg x c0
    obtain ⟨Z, hZ⟩ : ∃ Z, zz x = Z := ⟨_, rfl⟩
    rw [hZ] at hz ⊢
    obtain ⟨u, hu⟩ : ∃ u, IntKind.u64.wrap x = u := ⟨_, rfl⟩
    have hu2 : u = x + 18446744073709551616 := by rw [← hu, IntKind.wrap_u64]; omega
    obtain ⟨s, hs⟩ : ∃ s, IntKind.u64.wrap (u * 2) = s := ⟨_, rfl⟩
    have hs3 : s = 2 * x + 18446744073709551616 := by rw [← hs, IntKind.wrap_u64]; omega
    obtain ⟨n, hn⟩ : ∃ n : Nat, s = (n : Int) := ⟨s.toNat, by omega⟩
    have hd : x / 9223372036854775808 = -1 := by omega
    have hw : IntKind.u64.wrap (-1) = 18446744073709551615 := by decide
    have hx : bits .xor .u64 s 18446744073709551615 = (Z : Int) := by
      rw [hn, show (18446744073709551615 : Int) = ((2 ^ 64 - 1 : Nat) : Int) by decide, bits_xor_u64_nat _ _ (by omega) (by decide), Nat.xor_comm, xor_ones n (by omega)]
      omega
    clear hu2 hs3 hz hZ hn
    go_enter Tryd.func37, Tryd.ntmps37
    go_wp2_with (fail)
    go_ret
    exact ⟨rfl, rfl⟩
  · have hz := zz_half_pos x (by omega)
    obtain ⟨Z, hZ⟩ : ∃ Z, zz x = Z := ⟨_, rfl⟩
    rw [hZ] at hz ⊢
    have hu : IntKind.u64.wrap x = x := IntWalk.u64_in _ (by omega)
    have hz2 : x * 2 = (Z : Int) := by omega
    have hs : IntKind.u64.wrap (Z : Int) = (Z : Int) := IntWalk.u64_in _ (by omega)
    have hd : x / 9223372036854775808 = 0 := by omega
    have hx : bits .xor .u64 (Z : Int) 0 = (Z : Int) := by
      rw [show (0 : Int) = ((0 : Nat) : Int) from rfl, bits_xor_u64_nat _ _ (by omega) (by decide), Nat.xor_zero]
    clear hz hZ
    go_enter Tryd.func37, Tryd.ntmps37
    go_wp2_with (fail)
    go_ret
    exact ⟨rfl, rfl⟩
/-- how many bits a number needs -/
def bitsOf : Nat → Nat
  | 0 => 0
  | n + 1 => bitsOf ((n + 1) / 2) + 1
decreasing_by omega
theorem bitsOf_0 : bitsOf 0 = 0 := by unfold bitsOf; rfl
theorem bitsOf_pos {n : Nat} (h : 0 < n) : bitsOf n = bitsOf (n / 2) + 1 := by
  obtain ⟨m, rfl⟩ : ∃ m, n = m + 1 := ⟨n - 1, by omega⟩
  rw [bitsOf]
theorem bitsOf_le : ∀ (k n : Nat), n < 2 ^ k → bitsOf n ≤ k
  | 0, n, h => by
    obtain rfl : n = 0 := by simpa using h
    rw [bitsOf_0]; omega
  | k + 1, n, h => by
    rcases Nat.eq_zero_or_pos n with e | e
    · subst e; rw [bitsOf_0]; omega
    · rw [bitsOf_pos e]
      have := bitsOf_le k (n / 2) (by rw [Nat.pow_succ] at h; omega)
      omega
theorem lt_bitsOf : ∀ (k n : Nat), bitsOf n ≤ k → n < 2 ^ k
  | 0, n, h => by
    rcases Nat.eq_zero_or_pos n with e | e
    · subst e; simp
    · rw [bitsOf_pos e] at h; omega
  | k + 1, n, h => by
    rcases Nat.eq_zero_or_pos n with e | e
    · subst e; exact Nat.two_pow_pos _
    · rw [bitsOf_pos e] at h
      have := lt_bitsOf k (n / 2) (by omega)
      rw [Nat.pow_succ]; omega
set_option maxHeartbeats 4000000 in
theorem bits_calls (x : Nat) (hx : x < 18446744073709551616) (w : World) :
    Calls Tryd.prog 39 #[.int .u64 x] w fun e w' => e = .returned (.int .i64 (bitsOf x : Int)) ∧ w = w' := by
  have hb := bitsOf_le 64 x (by omega)
  go_enter Tryd.func39, Tryd.ntmps39
  go_wp2_with (fail)
  go_loopg [0, 3] 64 (fun kq v0 v3 w' => ∃ (y i : Nat), v0 = .int .u64 y ∧ v3 = .int .i64 i ∧ y ≤ x ∧ i ≤ 64 ∧ Aside0 (i + bitsOf y = bitsOf x) ∧ w = w' ∧ Aside0 (64 - i ≤ kq))
  case atStart => exact ⟨x, 0, rfl, rfl, Nat.le_refl _, by omega, ⟨by omega⟩, rfl, ⟨by omega⟩⟩
  case round =>
    obtain ⟨y, i, rfl, rfl, hyx, hi, HI, rfl, HK⟩ := hrel
    by_cases c : 0 < y
    · have qc : decide (0 < (y : Int)) = true := decide_eq_true (by omega)
      have qc2 : decide (0 < y) = true := decide_eq_true c
      have e := bitsOf_pos c
      have hi2 := HI.out
      have hi3 : i + 1 + bitsOf (y / 2) = bitsOf x := by omega
      have HI3 := Aside0.mk hi3
      have hi64 : i + 1 ≤ 64 := by omega
      clear e hi2 hi3
      go_wp2_with (fail)
      go_roundg (gk - 1)
      case measure => have := HK.out; omega
      case rel => exact ⟨y / 2, i + 1, by first | rfl | (congr 1; omega), by go_num, by omega, hi64, HI3, rfl, ⟨by have := HK.out; omega⟩⟩
    · obtain rfl : y = 0 := by omega
      have hbi : i = bitsOf x := by have := HI.out; rw [bitsOf_0] at this; omega
      have HBI := Aside0.mk hbi
      clear hbi hb
      go_wp2_with (fail)
      go_ret
      exact ⟨by rw [← HBI.out]; rfl, rfl⟩
end Go.Proofs.YtigmcdpjlkgocaaDoor.Dct
