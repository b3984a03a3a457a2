import Derived.Test.YtigmcdpjlkgocaaFit
import Derived.Laws.CopyOwn
/-! Buffers that are filled from the front; numbers in groups of 7 bits. -/
namespace Go.Proofs.Ytigmcdpjlkgocaa.Buf
open Go.Proofs.Ytigmcdpjlkgocaa.Fit Go.Proofs.Ytigmcdpjlkgocaa.Bit Go.Proofs.Ytigmcdpjlkgocaa.Wrd Go.Proofs.Ytigmcdpjlkgocaa.Spl Go.Proofs.Ytigmcdpjlkgocaa.Str Go.Proofs.Ytigmcdpjlkgocaa.Flt Go.Proofs.Ytigmcdpjlkgocaa.Owe Go.Proofs.Ytigmcdpjlkgocaa.Num Go.Proofs.Ytigmcdpjlkgocaa.Le Go.Proofs.Ytigmcdpjlkgocaa.Lst Go.Proofs.Ytigmcdpjlkgocaa.Aid Go.RowKit Go.Proofs.YtigmcdpjlkgocaaW.PrintWords Go.Proofs.YtigmcdpjlkgocaaW.PrintLast Go.Proofs.YtigmcdpjlkgocaaW.PrintMore
set_option linter.unusedVariables false
set_option linter.unusedSimpArgs false
/-- a block of C cells that begins with some numbers; what stands behind them is anything -/
structure Front (w : World) (g C t : Nat) (k : IntKind) (xs : List Int) : Prop where
  mk :: (out : ∃ cs : Array Value, Blk w g cs t ∧ cs.size = C ∧ xs.length ≤ C ∧ ∀ j : Nat, j < xs.length → cs[j]? = some (.int k (rd xs (j : Nat))))
namespace Front
variable {w : World} {g C t : Nat} {k : IntKind} {xs : List Int}
theorem le (h : Front w g C t k xs) : xs.length ≤ C := by obtain ⟨cs, _, _, h, _⟩ := h.out; exact h
theorem cell (h : Front w g C t k xs) (j : Nat) (hj : j < C) : ∃ v, w.cell? ⟨g, j, none⟩ = some v := by
  obtain ⟨cs, hb, hc, _, _⟩ := h.out
  exact ⟨cs[j], hb.cell (Array.getElem?_eq_getElem (by rw [hc]; exact hj))⟩
theorem at' (h : Front w g C t k xs) (j : Nat) (hj : j < xs.length) : w.cell? ⟨g, j, none⟩ = some (.int k (rd xs (j : Nat))) := by
  obtain ⟨cs, hb, hc, _, hx⟩ := h.out
  exact hb.cell (hx j hj)
theorem free (h : Front w g C t k xs) (j : Nat) : w.frozen? ⟨g, j, none⟩ = false := by obtain ⟨cs, hb, _⟩ := h.out; exact hb.free j
theorem lt (h : Front w g C t k xs) : g < w.heap.size := by obtain ⟨cs, hb, _⟩ := h.out; exact hb.lt
theorem push (h : Front w g C t k xs) (hl : xs.length < C) (y : Int) (o : Nat) (ho : o = xs.length) : Front (w.setCell ⟨g, o, none⟩ (.int k y)) g C t k (xs ++ [y]) := by
  subst ho
  obtain ⟨cs, hb, hc, hle, hx⟩ := h.out
  refine ⟨_, hb.set xs.length (.int k y), by simp [hc], by simp; omega, fun j hj => ?_⟩
  rw [List.length_append, List.length_singleton] at hj
  rw [Array.getElem?_setIfInBounds]
  by_cases e : xs.length = j
  · subst e
    rw [if_pos rfl, if_pos (by omega)]
    unfold rd
    simp
  · rw [if_neg e, hx j (by omega)]
    unfold rd
    rw [Int.toNat_natCast, List.getD_eq_getElem?_getD, List.getD_eq_getElem?_getD, List.getElem?_append_left (by omega)]
theorem take (h : Front w g C t k xs) (n : Nat) : Front w g C t k (xs.take n) := by
  obtain ⟨cs, hb, hc, hle, hx⟩ := h.out
  refine ⟨cs, hb, hc, by rw [List.length_take]; omega, fun j hj => ?_⟩
  rw [List.length_take] at hj
  rw [hx j (by omega)]
  unfold rd
  rw [Int.toNat_natCast, List.getD_eq_getElem?_getD, List.getD_eq_getElem?_getD, List.getElem?_take, if_pos (by omega)]
theorem drewN (h : Front w g C t k xs) (n : Nat) : Front (w.drewN n) g C t k xs := by
  obtain ⟨cs, hb, hr⟩ := h.out
  exact ⟨cs, hb.drewN n, hr⟩
theorem below {w1 : World} (h : Front w g C t k xs) {B : Nat} (hb : Below B w w1) (hg : g < B) : Front w1 g C t k xs := by
  obtain ⟨cs, hb', hr⟩ := h.out
  exact ⟨cs, hb'.below hb hg, hr⟩
theorem toOwn (h : Front w g C t k xs) {base : Nat} (hb : base ≤ g) (hm : C ≤ 9223372036854775807) : Own w base t k (.slice (some ⟨g, 0, none⟩) xs.length C) xs := by
  obtain ⟨cs, hbk, hc, hle, hx⟩ := h.out
  refine ⟨⟨by simp [nums], .inr ⟨g, C, cs, rfl, hb, hbk.out, hle, by simpa [maxLen] using hm, by simp [hc], ?_⟩⟩⟩
  apply List.ext_getElem?
  intro j
  rw [Nat.mul_one, List.getElem?_take]
  by_cases hj : j < xs.length
  · rw [if_pos hj, Array.getElem?_toList, hx j hj]
    simp [nums, rd, List.getD_eq_getElem?_getD, List.getElem?_eq_getElem hj]
  · rw [if_neg hj, List.getElem?_eq_none (by simp [nums]; omega)]
theorem ofRow {ys : List Int} (h : Row w g t k ys) (n : Nat) (hn : n ≤ ys.length) : Front w g ys.length t k (ys.take n) := by
  refine ⟨_, h.out, by simp [nums], by rw [List.length_take]; omega, fun j hj => ?_⟩
  rw [List.length_take] at hj
  simp [nums, rd, List.getD_eq_getElem?_getD, List.getElem?_take, (show j < n by omega), (show j < ys.length by omega)]
end Front
theorem own_front {w : World} {base t : Nat} {k : IntKind} {v : Value} {xs : List Int} (h : Own w base t k v xs) :
    (v = .slice none 0 0 ∧ xs = []) ∨ ∃ g C, v = .slice (some ⟨g, 0, none⟩) xs.length C ∧ base ≤ g ∧ C ≤ 9223372036854775807 ∧ Front w g C t k xs := by
  obtain ⟨h1, h2 | ⟨g, c, cur, e, hg, hb, hn, hm, hs, ht⟩⟩ := h.out
  · left
    refine ⟨h2.1, ?_⟩
    have := h2.2
    exact List.eq_nil_of_length_eq_zero this
  · right
    refine ⟨g, c, e, hg, by simpa [maxLen] using hm, ⟨cur, ⟨hb⟩, by simpa using hs, hn, fun j hj => ?_⟩⟩
    have : (cur.toList.take (xs.length * 1))[j]? = (nums k xs)[j]? := by rw [ht]
    rw [List.getElem?_take, if_pos (by omega), Array.getElem?_toList] at this
    rw [this]
    simp [nums, rd, List.getD_eq_getElem?_getD, List.getElem?_eq_getElem hj]
/-- v[:size], past v's length -/
theorem cutAtMid0 {P : Program} (t e : TypeId) {i : TypeInfo} (ht : P.underlying t = some (.slice e)) (hi : P.info? e = some i) (hsz : i.size = 1) (g n C size : Nat) (h : size ≤ C) :
    ∀ W : World, (Instr.slice t (.slice (some ⟨g, 0, none⟩) n C) none (some (.int .i64 (size : Int))) none).run P W = .ok (.slice (some ⟨g, 0, none⟩) size C) W := by
  intro W
  have hel : P.elem t = e := by simp [Program.elem, ht]
  have hu : P.underlying t = some (.slice (P.elem t)) := by rw [hel]; exact ht
  rw [run_slice_h W t (some ⟨g, 0, none⟩) n C hu .i64 size (by omega) (by omega), hel]
  simp [sizeOf, typeInfo, hi, hsz, sliced, Result.andThen, Addr.add]
/-- a number in groups of 7 bits -/
def varL (n : Nat) : List Int := if n < 128 then [(n : Int)] else ((n % 128 + 128 : Nat) : Int) :: varL (n / 128)
termination_by n
decreasing_by omega
theorem varL_lo {n : Nat} (h : n < 128) : varL n = [(n : Int)] := by rw [varL, if_pos h]
theorem varL_hi {n : Nat} (h : ¬ n < 128) : varL n = ((n % 128 + 128 : Nat) : Int) :: varL (n / 128) := by rw [varL, if_neg h]
theorem varL_pos (n : Nat) : 0 < (varL n).length := by
  rw [varL]; split <;> simp
theorem varL_len5 (n : Nat) (h : n < 34359738368) : (varL n).length ≤ 5 := by
  by_cases h1 : n < 128
  · rw [varL_lo h1]; simp
  rw [varL_hi h1]
  by_cases h2 : n / 128 < 128
  · rw [varL_lo h2]; simp
  rw [varL_hi h2]
  by_cases h3 : n / 128 / 128 < 128
  · rw [varL_lo h3]; simp
  rw [varL_hi h3]
  by_cases h4 : n / 128 / 128 / 128 < 128
  · rw [varL_lo h4]; simp
  rw [varL_hi h4, varL_lo (by omega)]; simp
theorem or128 (y : Nat) : y % 256 ||| 128 = y % 128 + 128 := by
  apply Nat.eq_of_testBit_eq
  intro q
  rw [Nat.testBit_or, show (256 : Nat) = 2 ^ 8 from rfl, Nat.testBit_mod_two_pow, show (128 : Nat) = 2 ^ 7 from rfl, Nat.testBit_two_pow, show y % 2 ^ 7 + 2 ^ 7 = 2 ^ 7 * 1 + y % 2 ^ 7 by omega, Nat.testBit_two_pow_mul_add 1 (Nat.mod_lt _ (by omega)), Nat.testBit_mod_two_pow]
  by_cases c : q < 7
  · simp [c, show q < 8 by omega, show ¬ 7 = q by omega]
  · by_cases c2 : q = 7
    · subst c2; simp
    · simp [c, show ¬ q < 8 by omega, show ¬ 7 = q by omega]
      exact bit_high (w := 1) (by omega) (by omega)
set_option maxHeartbeats 4000000 in
theorem putUvarint_calls (g C t n c : Nat) (xs : List Int) (x : Nat) (w : World) (hF : Front w g C t .u8 xs) (hx : x < 34359738368) (hn : (varL x).length ≤ n) (hC : xs.length + n ≤ C) :
    Calls Try.prog 92 #[.slice (some ⟨g, xs.length, none⟩) n c, .int .u64 x] w fun e w' => e = .returned (.int .i64 ((varL x).length : Int)) ∧ Front w' g C t .u8 (xs ++ varL x) ∧ w.grownBy w' (some g) := by
  have HF := Aside0.mk hF
  have HL5 := varL_len5 x hx
  obtain ⟨o, ho⟩ : ∃ o, xs.length = o := ⟨_, rfl⟩
  have HO := Aside0.mk ho
  rw [ho] at hC ⊢
  clear hF ho
  go_enter Try.func92, Try.ntmps92
  go_wp2_with (fail)
  have HB0 : Aside0 (w.grownBy w (some g)) := ⟨grownRefl _ _⟩
  go_loopg [1, 5] 5 (fun kq v1 v5 w' => ∃ (y i : Nat) (pre : List Int), v1 = .int .u64 y ∧ v5 = .int .i64 i ∧ y ≤ x ∧ i ≤ 5 ∧ Aside0 (pre.length = i) ∧ Aside0 (pre ++ varL y = varL x) ∧ Aside0 (Front w' g C t .u8 (xs ++ pre)) ∧ Aside0 (w.grownBy w' (some g)) ∧ Aside0 (5 - i ≤ kq))
  case atStart => exact ⟨x, 0, [], rfl, rfl, Nat.le_refl _, by omega, ⟨rfl⟩, ⟨rfl⟩, ⟨by rw [List.append_nil]; exact HF.out⟩, HB0, ⟨by omega⟩⟩
  case round =>
    obtain ⟨y, i, pre, rfl, rfl, hyx, hi5, HP, HV, HR, HG, HK⟩ := hrel
    have hlen : i + (varL y).length = (varL x).length := by rw [← HV.out, List.length_append, HP.out]
    have hpos := varL_pos y
    have hin : i < n := by omega
    obtain ⟨z, rc⟩ := HR.out.cell (o + i) (by omega)
    have rf := HR.out.free (o + i)
    have qin : ((i : Int) < (n : Int)) = True := eq_true (by omega)
    by_cases c : 128 ≤ y
    · have qc : decide (128 ≤ (y : Int)) = true := decide_eq_true (by omega)
      have qc2 : decide (128 ≤ y) = true := decide_eq_true c
      have e := varL_hi (n := y) (by omega)
      have hl2 : (varL y).length = (varL (y / 128)).length + 1 := by rw [e]; simp
      have hp2 := varL_pos (y / 128)
      have hor : bits BinOp.or IntKind.u8 ((y : Int) % 256) 128 = ((y % 128 + 128 : Nat) : Int) := by
        rw [show ((y : Int) % 256) = ((y % 256 : Nat) : Int) by omega, show (128 : Int) = ((128 : Nat) : Int) from rfl, u8_or_nat (y % 256) 128 (Nat.mod_lt _ (by omega)) (by omega), or128]
      have HE := Aside0.mk e
      clear e
      go_wp2_with (fail)
      go_roundg (gk - 1)
      case measure => have := HK.out; omega
      case rel =>
        refine ⟨y / 128, i + 1, pre ++ [((y % 128 + 128 : Nat) : Int)], by push_cast; rfl, by go_num, by omega, by omega, ⟨by rw [List.length_append, HP.out]; rfl⟩, ⟨by rw [List.append_assoc, List.singleton_append, ← HE.out]; exact HV.out⟩, ⟨?_⟩, ⟨grownSet HG.out _ _⟩, ⟨by have := HK.out; omega⟩⟩
        have := HR.out.push (by rw [List.length_append, HP.out, HO.out]; omega) ((y % 128 + 128 : Nat) : Int) (o + i) (by rw [List.length_append, HP.out, HO.out])
        rw [List.append_assoc] at this
        exact this
    · have qc : decide (128 ≤ (y : Int)) = false := decide_eq_false (by omega)
      have qc2 : decide (128 ≤ y) = false := decide_eq_false c
      have e := varL_lo (n := y) (by omega)
      have hl2 : (varL y).length = 1 := by rw [e]; rfl
      have hi1 : i + 1 = (varL x).length := by omega
      have HE := Aside0.mk e
      have HI := Aside0.mk hi1
      clear e
      go_wp2_with (fail)
      go_ret
      refine ⟨by rw [← HI.out]; push_cast; rfl, ?_, grownSet HG.out _ _⟩
      have := HR.out.push (by rw [List.length_append, HP.out, HO.out]; omega) (y : Int) (o + i) (by rw [List.length_append, HP.out, HO.out])
      rw [List.append_assoc, ← HE.out, HV.out] at this
      exact this
theorem copySrc {w : World} {A : Option Addr} {n : Nat} {k : IntKind} {xs : List Int} (h : (Kd.int k).C w A n xs) (hpos : 0 < xs.length) : ∃ ad, A = some ad ∧ ∀ j v, (nums k xs)[j]? = some v → w.cell? (ad.add j) = some v := by
  have hn : xs.length = n := h.1
  obtain ⟨ad, e, _⟩ := Kd.at_int h 0 (by omega) (by omega)
  refine ⟨ad, e, fun j v hj => ?_⟩
  have hjl : j < xs.length := by
    have := (List.getElem?_eq_some_iff.1 hj).1
    simpa [nums] using this
  obtain ⟨ad', e', hc⟩ := Kd.at_int h (j : Int) (by omega) (by omega)
  rw [e] at e'
  injection e' with e'
  subst e'
  rw [Int.toNat_natCast] at hc
  rw [hc]
  simp [nums, hjl] at hj
  rw [← hj, rd_nat _ _ hjl]
theorem nums_one (k : IntKind) (xs : List Int) : ∀ v ∈ nums k xs, v.oneCell' = true := by
  intro v hv
  simp only [nums, List.mem_map] at hv
  obtain ⟨x, _, rfl⟩ := hv
  rfl
theorem frontSplice {w : World} {g M t : Nat} {k : IntKind} {xs : List Int} (h : Hid (w.heap[g]? = some (.cells (splice (nums k (List.replicate M 0)) 0 (nums k xs)).toArray t (0, 0)))) (hl : xs.length ≤ M) : Front w g M t k xs := by
  refine ⟨_, ⟨h⟩, by simp [splice, nums]; omega, hl, fun j hj => ?_⟩
  simp [splice, nums, rd, List.getElem?_append, hj]
set_option maxHeartbeats 4000000 in
set_option maxRecDepth 100000 in
theorem grow_calls (A : Option Addr) (n C size : Nat) (xs : List Int) (w : World) (hC : (Kd.int .u8).C w A n xs) (hc : n ≤ C) (hs : C < size) (hs9 : size ≤ 1073741824) :
    Calls Try.prog 106 #[.slice A n C, .int .i64 size] w fun e w' => ∃ M, e = .returned (.slice (some ⟨w.heap.size, 0, none⟩) size M) ∧ Front w' w.heap.size M 5 .u8 xs ∧ size ≤ M ∧ M ≤ 4294967296 ∧ Below w.heap.size w w' := by
  have HLN : Aside0 (xs.length = n) := ⟨hC.1⟩
  have HC := Aside0.mk hC
  clear hC
  by_cases hcs : 2 * C < size
  · have hmk : ∀ W : World, (Instr.makeSlice 23 (.int .i64 (size : Int)) (.int .i64 (size : Int))).run Try.prog W = .ok (.slice (some ⟨W.heap.size, 0, none⟩) size (size)) (W.alloc (.cells (madeCells #[.int .u8 0] (size)) 5)) := by
      have := make1 (P := Try.prog) 23 5 (.int .u8 0) 1 Try.underlying23 infoU8 rfl size (size) (by omega) (by omega) (by omega)
      intro W
      have h := this W
      push_cast at h
      exact h
    have qm : decide (2 * (C : Int) < (size : Int)) = true := decide_eq_true (by omega)
    have qm2 : 2 * (C : Int) < (size : Int) := by omega
    have HC1 : Aside0 ((Kd.int .u8).C (w.alloc (.cells (madeCells #[.int .u8 0] (size)) 5)) A n xs) := ⟨Kd.C_alloc HC.out _⟩
    have HG1 : Aside0 ((w.alloc (.cells (madeCells #[.int .u8 0] (size)) 5)).heap[w.heap.size]? = some (.cells (nums .u8 (List.replicate (size) 0)).toArray 5 (0, 0))) := ⟨(madeRow w 5 .u8 (size)).out.out⟩
    have HB1 : Aside0 (Below w.heap.size w (w.alloc (.cells (madeCells #[.int .u8 0] (size)) 5))) := ⟨(Below.refl _ _).alloc (Nat.le_refl _) _⟩
    go_enter Try.func106, Try.ntmps106
    go_wp2_with (first
      | ((refine wpList_copy_splice ?hgd (.tmp 15) (.tmp 16) 23 23 ?ho0 5 Try.underlying23 ?h1 (some ⟨w.heap.size, 0, none⟩) A size (size) n C ?hd ?hs w.heap.size 0 (nums .u8 (List.replicate (size) 0)) 5 HG1.out (nums .u8 xs) ?hn ?hp ?hf ?ho w.heap.size w HB1.out (Nat.le_refl _) ?_); (case ho0 => rfl); (case hgd => rfl); (case hd => rfl); (case hs => rfl); go_loud ((case h1 => kernel_rfl)); go_loud ((case hn => simp only [nums, List.length_map]; rw [HLN.out]; exact (Nat.min_eq_left (by omega)).symm)); go_loud ((case hp => exact fun hpos => ⟨rfl, copySrc HC1.out (by simpa [nums] using hpos)⟩)); go_loud ((case hf => simp only [nums, List.length_map, List.length_replicate]; rw [HLN.out]; omega)); go_loud ((case ho => exact nums_one _ _)); intro w2 hw2 hb2; have HW2 := Aside0.mk hw2; have HB2 := Aside0.mk hb2; clear hw2 hb2))
    go_ret
    exact ⟨size, rfl, frontSplice HW2.out (by rw [HLN.out]; omega), by omega, by omega, HB2.out⟩
  · have hmk : ∀ W : World, (Instr.makeSlice 23 (.int .i64 (size : Int)) (.int .i64 (2 * (C : Int)))).run Try.prog W = .ok (.slice (some ⟨W.heap.size, 0, none⟩) size (2 * C)) (W.alloc (.cells (madeCells #[.int .u8 0] (2 * C)) 5)) := by
      have := make1 (P := Try.prog) 23 5 (.int .u8 0) 1 Try.underlying23 infoU8 rfl size (2 * C) (by omega) (by omega) (by omega)
      intro W
      have h := this W
      push_cast at h
      exact h
    have qm : decide (2 * (C : Int) < (size : Int)) = false := decide_eq_false (by omega)
    have qm2 : ¬ 2 * (C : Int) < (size : Int) := by omega
    have HC1 : Aside0 ((Kd.int .u8).C (w.alloc (.cells (madeCells #[.int .u8 0] (2 * C)) 5)) A n xs) := ⟨Kd.C_alloc HC.out _⟩
    have HG1 : Aside0 ((w.alloc (.cells (madeCells #[.int .u8 0] (2 * C)) 5)).heap[w.heap.size]? = some (.cells (nums .u8 (List.replicate (2 * C) 0)).toArray 5 (0, 0))) := ⟨(madeRow w 5 .u8 (2 * C)).out.out⟩
    have HB1 : Aside0 (Below w.heap.size w (w.alloc (.cells (madeCells #[.int .u8 0] (2 * C)) 5))) := ⟨(Below.refl _ _).alloc (Nat.le_refl _) _⟩
    go_enter Try.func106, Try.ntmps106
    go_wp2_with (first
      | ((refine wpList_copy_splice ?hgd (.tmp 15) (.tmp 16) 23 23 ?ho0 5 Try.underlying23 ?h1 (some ⟨w.heap.size, 0, none⟩) A size (2 * C) n C ?hd ?hs w.heap.size 0 (nums .u8 (List.replicate (2 * C) 0)) 5 HG1.out (nums .u8 xs) ?hn ?hp ?hf ?ho w.heap.size w HB1.out (Nat.le_refl _) ?_); (case ho0 => rfl); (case hgd => rfl); (case hd => rfl); (case hs => rfl); go_loud ((case h1 => kernel_rfl)); go_loud ((case hn => simp only [nums, List.length_map]; rw [HLN.out]; exact (Nat.min_eq_left (by omega)).symm)); go_loud ((case hp => exact fun hpos => ⟨rfl, copySrc HC1.out (by simpa [nums] using hpos)⟩)); go_loud ((case hf => simp only [nums, List.length_map, List.length_replicate]; rw [HLN.out]; omega)); go_loud ((case ho => exact nums_one _ _)); intro w2 hw2 hb2; have HW2 := Aside0.mk hw2; have HB2 := Aside0.mk hb2; clear hw2 hb2))
    go_ret
    exact ⟨2 * C, rfl, frontSplice HW2.out (by rw [HLN.out]; omega), by omega, by omega, HB2.out⟩
set_option maxHeartbeats 4000000 in
set_option maxRecDepth 100000 in
theorem resize_calls (base : Nat) (v : Value) (xs : List Int) (size : Nat) (w : World) (hO : Own w base 5 .u8 v xs) (hb : base ≤ w.heap.size) (hs : xs.length ≤ size) (hs0 : 0 < size) (hs9 : size ≤ 1073741824) :
    Calls Try.prog 93 #[v, .int .i64 size] w fun e w' => ∃ g M, e = .returned (.slice (some ⟨g, 0, none⟩) size M) ∧ Front w' g M 5 .u8 xs ∧ size ≤ M ∧ M ≤ 9223372036854775807 ∧ base ≤ g ∧ (w.heap.size ≤ g ∨ v.ownBlock = some g) ∧ Below w.heap.size w w' := by
  rcases own_front hO with ⟨rfl, rfl⟩ | ⟨g, C, rfl, hbg, hC9, hF⟩
  · have HG := Aside0.mk (grow_calls none 0 0 size [] w ⟨rfl, by omega, fun h => absurd h (by omega)⟩ (Nat.le_refl _) (by omega) hs9)
    have qc : decide (0 < (size : Int)) = true := decide_eq_true (by omega)
    have qc2 : decide (0 < size) = true := decide_eq_true hs0
    clear hO
    go_enter Try.func93, Try.ntmps93
    go_wp2_with (first
      | (go_at_call 106; (with_reducible refine HG.out.mono ?_); rintro e w2 ⟨M, rfl, hf, h1, h2, hb2⟩; have HF2 := Aside0.mk hf; have HB2 := Aside0.mk hb2; clear hf hb2))
    go_ret
    exact ⟨w.heap.size, M, rfl, HF2.out, h1, by omega, hb, .inl (Nat.le_refl _), HB2.out⟩
  · by_cases c : C < size
    · obtain ⟨A, c', e, hc', hr⟩ := hO.read
      injection e with e1 e2 e3
      subst e3
      rw [← e1] at hr
      have HG := Aside0.mk (grow_calls (some ⟨g, 0, none⟩) xs.length C size xs w hr hc' c hs9)
      have qc : decide ((C : Int) < (size : Int)) = true := decide_eq_true (by omega)
      have qc2 : decide (C < size) = true := decide_eq_true c
      obtain ⟨n, hn⟩ : ∃ n, xs.length = n := ⟨_, rfl⟩
      rw [hn] at HG ⊢
      clear hO hF hr e1
      go_enter Try.func93, Try.ntmps93
      go_wp2_with (first
        | (go_at_call 106; (with_reducible refine HG.out.mono ?_); rintro e w2 ⟨M, rfl, hf, h1, h2, hb2⟩; have HF2 := Aside0.mk hf; have HB2 := Aside0.mk hb2; clear hf hb2))
      go_ret
      exact ⟨w.heap.size, M, rfl, HF2.out, h1, by omega, hb, .inl (Nat.le_refl _), HB2.out⟩
    · have qc : decide ((C : Int) < (size : Int)) = false := decide_eq_false (by omega)
      have qc2 : decide (C < size) = false := decide_eq_false c
      obtain ⟨i8, h8⟩ := h8
      have cut1 := cutAtMid0 (P := Try.prog) 23 5 Try.underlying23 h8.1 h8.2 g xs.length C size (by omega)
      have HF := Aside0.mk hF
      have hle := hF.le
      obtain ⟨n, hn⟩ : ∃ n, xs.length = n := ⟨_, rfl⟩
      rw [hn] at cut1 hle ⊢
      clear hO hF
      go_enter Try.func93, Try.ntmps93
      go_wp2_with (fail)
      go_ret
      exact ⟨g, C, rfl, HF.out, by omega, hC9, hbg, .inr rfl, Below.refl _ _⟩
end Go.Proofs.Ytigmcdpjlkgocaa.Buf
