import Derived.Test.YtigmcdpjlkgocaaBuf
/-! Numbers packed, low bits first: what needs no program (for packages that have no runs). -/
namespace Go.Proofs.Ytigmcdpjlkgocaa.Pak
open Go.Proofs.Ytigmcdpjlkgocaa.Buf Go.Proofs.Ytigmcdpjlkgocaa.Fit Go.Proofs.Ytigmcdpjlkgocaa.Bit Go.Proofs.Ytigmcdpjlkgocaa.Wrd Go.Proofs.Ytigmcdpjlkgocaa.Spl Go.Proofs.Ytigmcdpjlkgocaa.Str Go.Proofs.Ytigmcdpjlkgocaa.Flt Go.Proofs.Ytigmcdpjlkgocaa.Owe Go.Proofs.Ytigmcdpjlkgocaa.Num Go.Proofs.Ytigmcdpjlkgocaa.Le Go.Proofs.Ytigmcdpjlkgocaa.Lst Go.Proofs.Ytigmcdpjlkgocaa.Aid Go.RowKit Go.Proofs.YtigmcdpjlkgocaaW.PrintWords Go.Proofs.YtigmcdpjlkgocaaW.PrintLast Go.Proofs.YtigmcdpjlkgocaaW.PrintMore
set_option linter.unusedVariables false
set_option linter.unusedSimpArgs false
theorem two_pow_le {a b : Nat} (h : a ≤ b) : 2 ^ a ≤ 2 ^ b := Nat.pow_le_pow_right (by omega) h
def byteLo (f : Nat → Bool) (i : Nat) : Nat := bitsN (fun q => f (8 * i + q)) 8
def bytesLo (f : Nat → Bool) (n : Nat) : List Int := (List.range n).map fun i => (byteLo f i : Int)
theorem bytesLo_length (f : Nat → Bool) (n : Nat) : (bytesLo f n).length = n := by simp [bytesLo]
theorem byteLo_lt (f : Nat → Bool) (i : Nat) : byteLo f i < 256 := bitsN_lt 8 _
theorem byteLo_bit (f : Nat → Bool) (i q : Nat) (hq : q < 8) : (byteLo f i).testBit q = f (8 * i + q) := by
  unfold byteLo; rw [bitsN_testBit]; simp [hq]
theorem rd_bytesLo (f : Nat → Bool) (n i : Nat) (hi : i < n) : rd (bytesLo f n) (i : Nat) = (byteLo f i : Nat) := by
  rw [rd_nat _ _ (by rw [bytesLo_length]; exact hi)]
  simp [bytesLo]
/-- the bits of numbers of so many bits, the low ones first -/
def bitsLo (w : Nat) (l : List Int) (p : Nat) : Bool := (rd l (p / w : Nat)).toNat.testBit (p % w)
def packLo (w : Nat) (l : List Int) : List Int := bytesLo (bitsLo w l) (l.length * w / 8)
/-- a bit of bytes, the low ones first -/
def bitLo (bs : List Int) (p : Nat) : Bool := (rd bs (p / 8 : Nat)).toNat.testBit (p % 8)
theorem bitLo_bytesLo (f : Nat → Bool) (n p : Nat) (hp : p < 8 * n) : bitLo (bytesLo f n) p = f p := by
  unfold bitLo
  rw [rd_bytesLo _ _ _ (by omega), Int.toNat_natCast, byteLo_bit _ _ _ (by omega)]
  congr 1; omega
/-- a number of so many bits at a place -/
def valLo (bs : List Int) (w o : Nat) : Nat := bitsN (fun r => bitLo bs (o + r)) w
theorem valLo_pack (w : Nat) (l : List Int) (k : Nat) (hw : 0 < w) (hk : k < l.length) (h8 : 8 * (l.length * w / 8) = l.length * w) (hf : fitL w l) : (valLo (packLo w l) w (k * w) : Int) = rd l (k : Nat) := by
  have hx := hf _ (rd_mem (l := l) (i := k) hk)
  obtain ⟨y, hy⟩ : ∃ y : Nat, rd l (k : Nat) = (y : Int) := ⟨(rd l (k : Nat)).toNat, by omega⟩
  rw [hy] at hx ⊢
  have hyw : y < 2 ^ w := by have := hx.2; exact_mod_cast this
  have hkw : k * w + w ≤ l.length * w := by rw [← Nat.succ_mul]; exact Nat.mul_le_mul_right w hk
  congr 1
  symm
  refine eq_bitsN hyw fun r hr => ?_
  unfold packLo
  rw [bitLo_bytesLo _ _ _ (by omega)]
  unfold bitsLo
  rw [Nat.mul_comm k w, Nat.mul_add_div hw, Nat.div_eq_of_lt hr, Nat.mul_add_mod, Nat.mod_eq_of_lt hr, Nat.add_zero, hy, Int.toNat_natCast]
theorem byteLo_congr {f f' : Nat → Bool} {i : Nat} (h : ∀ p, 8 * i ≤ p → p < 8 * i + 8 → f p = f' p) : byteLo f i = byteLo f' i :=
  bitsN_congr fun q hq => h _ (by omega) (by omega)
theorem upTo_succ_false (f : Nat → Bool) (o : Nat) (h : f o = false) : upTo f (o + 1) = upTo f o := by
  funext p
  unfold upTo
  by_cases c : p < o
  · simp [c, show p < o + 1 by omega]
  · by_cases c2 : p = o
    · subst c2; simp [h]
    · simp [c, show ¬ p < o + 1 by omega]
theorem byteLo_set (f : Nat → Bool) (o : Nat) (h : f o = true) : byteLo (upTo f (o + 1)) (o / 8) = byteLo (upTo f o) (o / 8) ||| 2 ^ (o % 8) := by
  symm
  refine eq_bitsN ?_ fun q hq => ?_
  · refine Nat.or_lt_two_pow (byteLo_lt _ _) ?_
    have := two_pow_le (show o % 8 ≤ 7 by omega)
    have e : (2 : Nat) ^ 7 = 128 := by decide
    have e8 : (2 : Nat) ^ 8 = 256 := by decide
    omega
  · rw [Nat.testBit_or, byteLo_bit _ _ _ hq, Nat.testBit_two_pow]
    unfold upTo
    by_cases c : 8 * (o / 8) + q = o
    · rw [c, h]; simp [show o % 8 = q by omega]
    · by_cases c2 : 8 * (o / 8) + q < o
      · simp [c2, show 8 * (o / 8) + q < o + 1 by omega, show ¬ o % 8 = q by omega]
      · simp [c2, show ¬ 8 * (o / 8) + q < o + 1 by omega, show ¬ o % 8 = q by omega]
theorem bytesLo_set (f : Nat → Bool) (o M : Nat) (h : f o = true) (ho : o / 8 < M) : (bytesLo (upTo f o) M).set (o / 8) ((byteLo (upTo f o) (o / 8) ||| 2 ^ (o % 8) : Nat) : Int) = bytesLo (upTo f (o + 1)) M := by
  apply rd_ext
  · simp [bytesLo]
  · intro i hi
    rw [List.length_set, bytesLo_length] at hi
    rw [rd_set _ _ _ _ (by rw [bytesLo_length]; exact ho)]
    by_cases c : i = o / 8
    · subst c; rw [if_pos rfl, rd_bytesLo _ _ _ hi, byteLo_set f o h]
    · rw [if_neg c, rd_bytesLo _ _ _ hi, rd_bytesLo _ _ _ hi]
      congr 1
      refine byteLo_congr fun p h1 h2 => ?_
      unfold upTo
      simp [show (p < o) = (p < o + 1) from by apply propext; omega]
theorem bytesLo_zero (f : Nat → Bool) (M : Nat) : bytesLo (upTo f 0) M = List.replicate M 0 := by
  apply rd_ext
  · simp [bytesLo]
  · intro i hi
    rw [bytesLo_length] at hi
    rw [rd_bytesLo _ _ _ hi, rd_nat _ _ (by simpa using hi)]
    have : byteLo (upTo f 0) i = 0 := by
      symm
      refine eq_bitsN (by decide) fun q hq => ?_
      unfold upTo; simp
    rw [this]; simp
theorem packLo_upTo (w : Nat) (l : List Int) (h8 : 8 * (l.length * w / 8) = l.length * w) : bytesLo (upTo (bitsLo w l) (l.length * w)) ((l.length * w + 7) / 8) = packLo w l := by
  unfold packLo
  rw [show (l.length * w + 7) / 8 = l.length * w / 8 by omega]
  unfold bytesLo
  apply List.map_congr_left
  intro i hi
  rw [List.mem_range] at hi
  congr 1
  refine byteLo_congr fun p h1 h2 => ?_
  unfold upTo
  rw [decide_eq_true (by omega), Bool.true_and]
theorem bitsLo_at (w : Nat) (l : List Int) (j k o y : Nat) (hk : k < w) (ho : o = j * w + k) (hy : rd l (j : Nat) = (y : Int)) : bitsLo w l o = y.testBit k := by
  unfold bitsLo
  rw [ho, Nat.mul_comm j w, Nat.mul_add_div (by omega), Nat.div_eq_of_lt hk, Nat.mul_add_mod, Nat.mod_eq_of_lt hk, Nat.add_zero, hy, Int.toNat_natCast]
theorem setF {w : World} {g C t : Nat} {k : IntKind} {xs : List Int} (h : Front w g C t k xs) (j : Nat) (hj : j < xs.length) (y : Int) : Front (w.setCell ⟨g, j, none⟩ (.int k y)) g C t k (xs.set j y) := by
  obtain ⟨cs, hb, hc, hle, hx⟩ := h.out
  refine ⟨_, hb.set j (.int k y), by simp [hc], by simpa using hle, fun i hi => ?_⟩
  rw [List.length_set] at hi
  rw [Array.getElem?_setIfInBounds, rd_set _ _ _ _ hj]
  by_cases e : j = i
  · subst e; rw [if_pos rfl, if_pos (by omega), if_pos rfl]
  · rw [if_neg e, hx i hi, if_neg (fun h => e h.symm)]
theorem set_right (xs B : List Int) (o q : Nat) (y : Int) (ho : xs.length = o) : (xs ++ B).set (o + q) y = xs ++ B.set q y := by
  rw [List.set_append_right _ _ (by omega), show o + q - xs.length = q by omega]
end Go.Proofs.Ytigmcdpjlkgocaa.Pak

/-! Blocks of differences: what works on a block of 128 numbers. -/
namespace Go.Proofs.Ytigmcdpjlkgocaa.Dbk
open Go.Proofs.Ytigmcdpjlkgocaa.Pak Go.Proofs.Ytigmcdpjlkgocaa.Buf Go.Proofs.Ytigmcdpjlkgocaa.Fit Go.Proofs.Ytigmcdpjlkgocaa.Bit Go.Proofs.Ytigmcdpjlkgocaa.Wrd Go.Proofs.Ytigmcdpjlkgocaa.Spl Go.Proofs.Ytigmcdpjlkgocaa.Str Go.Proofs.Ytigmcdpjlkgocaa.Flt Go.Proofs.Ytigmcdpjlkgocaa.Owe Go.Proofs.Ytigmcdpjlkgocaa.Num Go.Proofs.Ytigmcdpjlkgocaa.Le Go.Proofs.Ytigmcdpjlkgocaa.Lst Go.Proofs.Ytigmcdpjlkgocaa.Aid Go.RowKit Go.Proofs.YtigmcdpjlkgocaaW.PrintWords Go.Proofs.YtigmcdpjlkgocaaW.PrintLast Go.Proofs.YtigmcdpjlkgocaaW.PrintMore
set_option linter.unusedVariables false
set_option linter.unusedSimpArgs false
/-- a list of which the first numbers have been worked on -/
def mixI (f : Nat → Int) (xs : List Int) (j : Nat) : List Int := (List.range j).map f ++ xs.drop j
theorem mixI_zero (f : Nat → Int) (xs : List Int) : mixI f xs 0 = xs := by simp [mixI]
theorem mixI_length (f : Nat → Int) (xs : List Int) (j : Nat) (h : j ≤ xs.length) : (mixI f xs j).length = xs.length := by simp [mixI]; omega
theorem rd_mixI (f : Nat → Int) (xs : List Int) (j : Nat) (h : j < xs.length) : rd (mixI f xs j) (j : Nat) = rd xs (j : Nat) := by
  unfold mixI
  rw [rd_append, if_neg (by simp), rd_drop]
  simp
theorem mixI_set (f : Nat → Int) (xs : List Int) (j : Nat) (h : j < xs.length) : (mixI f xs j).set j (f j) = mixI f xs (j + 1) := by
  unfold mixI
  rw [List.set_append_right _ _ (by simp), List.range_succ, List.map_append, List.append_assoc]
  congr 1
  rw [show j - ((List.range j).map f).length = 0 by simp, List.drop_eq_getElem_cons h]
  rfl
theorem mixI_full (f : Nat → Int) (xs : List Int) : mixI f xs xs.length = (List.range xs.length).map f := by simp [mixI]
/-- the number ahead of one -/
def prv (last : Int) (xs : List Int) (j : Nat) : Int := if j = 0 then last else rd xs (j - 1 : Nat)
def dltF (k : IntKind) (last : Int) (xs : List Int) (j : Nat) : Int := k.wrap (rd xs (j : Nat) - prv last xs j)
/-- the differences of neighbors -/
def dlt (k : IntKind) (last : Int) (xs : List Int) : List Int := (List.range xs.length).map (dltF k last xs)
theorem dlt_length (k : IntKind) (last : Int) (xs : List Int) : (dlt k last xs).length = xs.length := by simp [dlt]
def subF (k : IntKind) (m : Int) (xs : List Int) (j : Nat) : Int := k.wrap (rd xs (j : Nat) - m)
def subL (k : IntKind) (m : Int) (xs : List Int) : List Int := (List.range xs.length).map (subF k m xs)
theorem subL_length (k : IntKind) (m : Int) (xs : List Int) : (subL k m xs).length = xs.length := by simp [subL]
theorem cutArr {P : Program} (t e : TypeId) (n : Nat) {i : TypeInfo} (ht : P.underlying t = some (.array n e)) (hi : P.info? e = some i) (hsz : i.size = 1) (g l : Nat) (hl : l < n) :
    ∀ W : World, (Instr.sliceAt t (.pointer (some ⟨g, 0, none⟩)) (some (.int .i64 (l : Int))) none none).run P W = .ok (.slice (some ⟨g, l, none⟩) (n - l) (n - l)) W := by
  intro W
  have hn : P.arrayLen t = n := by simp [Program.arrayLen, ht]
  have he : P.elem t = e := by simp [Program.elem, ht]
  rw [run_sliceAt_array_l W t ⟨g, 0, none⟩ (by rw [hn, he]; exact ht) .i64 (l : Int) (by omega) (by rw [hn]; omega), hn, he]
  simp [sizeOf, typeInfo, hi, hsz, slicedAt, Result.andThen, Addr.add, show ¬ n = l by omega]
  intro h; omega
theorem cutArrLH {P : Program} (t e : TypeId) (n : Nat) {i : TypeInfo} (ht : P.underlying t = some (.array n e)) (hi : P.info? e = some i) (hsz : i.size = 1) (g l h : Nat) (hl : l < n) (hlh : l ≤ h) (hh : h ≤ n) :
    ∀ W : World, (Instr.sliceAt t (.pointer (some ⟨g, 0, none⟩)) (some (.int .i64 (l : Int))) (some (.int .i64 (h : Int))) none).run P W = .ok (.slice (some ⟨g, l, none⟩) (h - l) (n - l)) W := by
  intro W
  have hn : P.arrayLen t = n := by simp [Program.arrayLen, ht]
  have he : P.elem t = e := by simp [Program.elem, ht]
  rw [run_sliceAt_array_lh W t ⟨g, 0, none⟩ (by rw [hn, he]; exact ht) .i64 .i64 (l : Int) (h : Int) (by omega) (by omega) (by rw [hn]; omega), hn, he]
  simp [sizeOf, typeInfo, hi, hsz, slicedAt, Result.andThen, Addr.add, show ¬ n = l by omega]
  intro h; omega

theorem infoInt64 : (Try.prog.info? 2).map (fun i => i.size) = some 1 := by kernel_rfl
set_option maxHeartbeats 4000000 in
theorem blockDeltaInt64_calls (g : Nat) (xs : List Int) (last : Int) (w : World) (hR : Row w g 113 .i64 xs) (hl : xs.length = 128) :
    Calls Try.prog 77 #[.pointer (some ⟨g, 0, none⟩), .int .i64 last] w fun e w' => e = .returned (.int .i64 (rd xs (127 : Nat))) ∧ Row w' g 113 .i64 (dlt .i64 last xs) ∧ w.grownBy w' (some g) := by
  have HL := Aside0.mk hl
  have HR0 : Aside0 (Row w g 113 .i64 (mixI (dltF .i64 last xs) xs 0)) := ⟨by rw [mixI_zero]; exact hR⟩
  clear hR hl
  go_enter Try.func77, Try.ntmps77
  go_wp2_with (fail)
  go_loopg [1, 5, 6, 8] 128 (fun kq v1 v5 v6 v8 w' => ∃ (j : Nat) (p : Int), j ≤ 128 ∧ v8 = .int .i64 j ∧ v1 = .int .i64 p ∧ Aside0 (p = prv last xs j) ∧ Aside0 (Row w' g 113 .i64 (mixI (dltF .i64 last xs) xs j)) ∧ Aside0 (w.grownBy w' (some g)) ∧ Aside0 (128 - j ≤ kq))
  case atStart => exact ⟨0, last, by omega, rfl, rfl, ⟨rfl⟩, HR0, ⟨grownRefl _ _⟩, ⟨by omega⟩⟩
  case round =>
    clear HR0
    obtain ⟨j, p, hj, rfl, rfl, HP, HR, HG, HK⟩ := hrel
    by_cases cj : j < 128
    · have cjb : decide ((j : Int) < 128) = true := decide_eq_true (by omega)
      have cjn : decide (j < 128) = true := decide_eq_true (by omega)
      have rc := HR.out.cell (j := j) (by rw [mixI_length _ _ _ (by rw [HL.out]; omega), HL.out]; exact cj)
      have rf := HR.out.free j
      rw [rd_mixI _ _ _ (by rw [HL.out]; exact cj)] at rc
      have b0 := World.block_lt_of_cell? wr _ rc
      obtain ⟨y, hy⟩ : ∃ y, rd xs (j : Nat) = y := ⟨_, rfl⟩
      rw [hy] at rc
      obtain ⟨d, hd⟩ : ∃ d, IntKind.i64.wrap (y - p) = d := ⟨_, rfl⟩
      have HD : Aside0 (dltF .i64 last xs j = d) := ⟨by unfold dltF; rw [hy, ← HP.out]; exact hd⟩
      have HY := Aside0.mk hy
      have qi0 : (0 : Int) ≤ (j : Int) := by omega
      have qi1 : (j : Int) < 128 := by omega
      clear hy
      go_wp2_with (first
        | (go_quiet (fail)))
      go_roundg (gk - 1)
      case measure => have := HK.out; omega
      case rel =>
        refine ⟨j + 1, y, by omega, by go_num, rfl, ⟨by unfold prv; rw [if_neg (by omega), show j + 1 - 1 = j by omega, HY.out]⟩, ⟨?_⟩, ⟨grownSet (grownDrewN HG.out _) _ _⟩, ⟨by have := HK.out; omega⟩⟩
        have := (HR.out.drewN nq).set j (dltF .i64 last xs j)
        rw [mixI_set _ _ _ (by rw [HL.out]; exact cj), HD.out] at this
        exact this
    · obtain rfl : j = 128 := by omega
      have cjb : decide (((128 : Nat) : Int) < 128) = false := by decide
      have HRF := HR.out
      rw [show 128 = xs.length from HL.out.symm, mixI_full] at HRF
      have HPF : Aside0 (p = rd xs (127 : Nat)) := ⟨by rw [HP.out]; rfl⟩
      go_wp2_with (fail)
      go_ret
      exact ⟨by rw [HPF.out]; rfl, HRF, HG.out⟩
set_option maxHeartbeats 4000000 in
theorem blockMinInt64_calls (g : Nat) (xs : List Int) (w : World) (hR : Row w g 113 .i64 xs) (hl : xs.length = 128) :
    Calls Try.prog 78 #[.pointer (some ⟨g, 0, none⟩)] w fun e w' => ∃ m, e = .returned (.int .i64 m) ∧ m ∈ xs ∧ w = w' := by
  have HL := Aside0.mk hl
  have HR := Aside0.mk hR
  obtain ⟨i0, hi0⟩ := Option.map_eq_some_iff.1 infoInt64
  have cut1 := cutArr (P := Try.prog) 113 2 128 (by first | exact Try.underlying113 | kernel_rfl) hi0.1 hi0.2 g 1 (by omega)
  have c0 := hR.cell (j := 0) (by omega)
  have hm0 : rd xs ((0 : Nat) : Int) ∈ xs := rd_mem (by omega)
  obtain ⟨y0, hy0⟩ : ∃ y, rd xs ((0 : Nat) : Int) = y := ⟨_, rfl⟩
  rw [hy0] at c0 hm0
  have HM0 := Aside0.mk hm0
  clear hR hl hy0 hm0
  go_enter Try.func78, Try.ntmps78
  go_wp2_with (fail)
  go_loopg [3, 5, 14] 127 (fun kq v3 v5 v14 w' => ∃ (j : Nat) (m : Int), j ≤ 127 ∧ v14 = .int .i64 j ∧ v3 = .int .i64 m ∧ Aside0 (m ∈ xs) ∧ w = w' ∧ Aside0 (127 - j ≤ kq))
  case atStart => exact ⟨0, y0, by omega, rfl, rfl, HM0, rfl, ⟨by omega⟩⟩
  case round =>
    obtain ⟨j, m, hj, rfl, rfl, HM, rfl, HK⟩ := hrel
    by_cases cj : j < 127
    · have cjb : decide ((j : Int) < 127) = true := decide_eq_true (by omega)
      have cjn : decide (j < 127) = true := decide_eq_true (by omega)
      have rc := HR.out.cell (j := 1 + j) (by rw [HL.out]; omega)
      have hmy : rd xs ((1 + j : Nat) : Int) ∈ xs := rd_mem (by rw [HL.out]; omega)
      obtain ⟨y, hy⟩ : ∃ y, rd xs ((1 + j : Nat) : Int) = y := ⟨_, rfl⟩
      rw [hy] at rc hmy
      have HMY := Aside0.mk hmy
      clear hy hmy
      have qi0 : (0 : Int) ≤ (j : Int) := by omega
      have qi1 : (j : Int) < 127 := by omega
      by_cases c : y < m
      · have cb : decide (y < m) = true := decide_eq_true c
        go_wp2_with (fail)
        go_roundg (gk - 1)
        case measure => have := HK.out; omega
        case rel => exact ⟨j + 1, y, by omega, by go_num, rfl, HMY, rfl, ⟨by have := HK.out; omega⟩⟩
      · have cb : decide (y < m) = false := decide_eq_false c
        go_wp2_with (fail)
        go_roundg (gk - 1)
        case measure => have := HK.out; omega
        case rel => exact ⟨j + 1, m, by omega, by go_num, rfl, HM, rfl, ⟨by have := HK.out; omega⟩⟩
    · obtain rfl : j = 127 := by omega
      have cjb : decide (((127 : Nat) : Int) < 127) = false := by decide
      go_wp2_with (fail)
      go_ret
      exact ⟨m, rfl, HM.out, rfl⟩
set_option maxHeartbeats 4000000 in
theorem blockClearInt64_calls (g L : Nat) (xs : List Int) (w : World) (hR : Row w g 113 .i64 xs) (hl : xs.length = 128) (hL : L ≤ 128) :
    Calls Try.prog 80 #[.pointer (some ⟨g, 0, none⟩), .int .i64 L] w fun e w' => e = .returned (.tuple #[]) ∧ Row w' g 113 .i64 (xs.take L ++ List.replicate (128 - L) 0) ∧ w.grownBy w' (some g) := by
  have HL := Aside0.mk hl
  by_cases c : L < 128
  · have qc : decide ((L : Int) < 128) = true := decide_eq_true (by omega)
    have qc2 : decide (L < 128) = true := decide_eq_true c
    obtain ⟨i0, hi0⟩ := Option.map_eq_some_iff.1 infoInt64
    have cut1 := cutArr (P := Try.prog) 113 2 128 (by first | exact Try.underlying113 | kernel_rfl) hi0.1 hi0.2 g L c
    obtain ⟨n, hn⟩ : ∃ n, 128 - L = n := ⟨_, rfl⟩
    rw [hn] at cut1 ⊢
    have HR0 : Aside0 (Row w g 113 .i64 (xs.take L ++ List.replicate 0 0 ++ xs.drop (L + 0))) := ⟨by simpa using hR⟩
    clear hR hl
    go_enter Try.func80, Try.ntmps80
    go_wp2_with (fail)
    go_loopg [5, 14] n (fun kq v5 v14 w' => ∃ (j : Nat), j ≤ n ∧ v14 = .int .i64 j ∧ Aside0 (Row w' g 113 .i64 (xs.take L ++ List.replicate j 0 ++ xs.drop (L + j))) ∧ Aside0 (w.grownBy w' (some g)) ∧ Aside0 (n - j ≤ kq))
    case atStart => exact ⟨0, by omega, rfl, HR0, ⟨grownRefl _ _⟩, ⟨by omega⟩⟩
    case round =>
      clear HR0
      obtain ⟨j, hj, rfl, HR, HG, HK⟩ := hrel
      have HTL : Aside0 ((xs.take L).length = L) := ⟨by rw [List.length_take, HL.out]; omega⟩
      by_cases cj : j < n
      · have cjb : decide ((j : Int) < (n : Int)) = true := decide_eq_true (by omega)
        have cjn : decide (j < n) = true := decide_eq_true cj
        have rc := HR.out.cell (j := L + j) (by rw [List.length_append, List.length_append, List.length_replicate, HTL.out, List.length_drop, HL.out]; omega)
        have rf := HR.out.free (L + j)
        obtain ⟨y, hy⟩ : ∃ y, rd (xs.take L ++ List.replicate j 0 ++ xs.drop (L + j)) ((L + j : Nat) : Int) = y := ⟨_, rfl⟩
        rw [hy] at rc
        clear hy
        have qi0 : (0 : Int) ≤ (j : Int) := by omega
        have qi1 : (j : Int) < (n : Int) := by omega
        go_wp2_with (fail)
        go_roundg (gk - 1)
        case measure => have := HK.out; omega
        case rel =>
          refine ⟨j + 1, by omega, by go_num, ⟨?_⟩, ⟨grownSet HG.out _ _⟩, ⟨by have := HK.out; omega⟩⟩
          have := HR.out.set (L + j) 0
          rw [List.set_append_right _ _ (by rw [List.length_append, List.length_replicate, HTL.out]; omega), List.length_append, List.length_replicate, HTL.out, Nat.sub_self, List.drop_eq_getElem_cons (show L + j < xs.length by rw [HL.out]; omega), List.set_cons_zero] at this
          rw [List.replicate_succ', ← List.append_assoc, List.append_assoc _ [0]]
          exact this
      · obtain rfl : j = n := by omega
        have cjb : decide ((j : Int) < (j : Int)) = false := decide_eq_false (by omega)
        have HRF := HR.out
        rw [List.drop_eq_nil_of_le (by rw [HL.out]; omega), List.append_nil] at HRF
        go_wp2_with (fail)
        go_end0
        exact ⟨rfl, HRF, HG.out⟩
  · obtain rfl : L = 128 := by omega
    have qc : decide (((128 : Nat) : Int) < 128) = false := by decide
    have HRF : Aside0 (Row w g 113 .i64 (xs.take 128 ++ List.replicate (128 - 128) 0)) := ⟨by rw [show 128 = xs.length from hl.symm, List.take_length, Nat.sub_self, List.replicate_zero, List.append_nil]; exact hR⟩
    clear hR hl
    go_enter Try.func80, Try.ntmps80
    go_wp2_with (fail)
    go_end0
    exact ⟨rfl, HRF.out, grownRefl _ _⟩
set_option maxHeartbeats 4000000 in
theorem blockSubInt64_calls (g : Nat) (xs : List Int) (m : Int) (w : World) (hR : Row w g 113 .i64 xs) (hl : xs.length = 128) :
    Calls Try.prog 79 #[.pointer (some ⟨g, 0, none⟩), .int .i64 m] w fun e w' => e = .returned (.tuple #[]) ∧ Row w' g 113 .i64 (subL .i64 m xs) ∧ w.grownBy w' (some g) := by
  have HL := Aside0.mk hl
  have HR0 : Aside0 (Row w g 113 .i64 (mixI (subF .i64 m xs) xs 0)) := ⟨by rw [mixI_zero]; exact hR⟩
  clear hR hl
  go_enter Try.func79, Try.ntmps79
  go_wp2_with (fail)
  go_loopg [4, 5] 128 (fun kq v4 v5 w' => ∃ (j : Nat), j ≤ 128 ∧ v5 = .int .i64 j ∧ Aside0 (Row w' g 113 .i64 (mixI (subF .i64 m xs) xs j)) ∧ Aside0 (w.grownBy w' (some g)) ∧ Aside0 (128 - j ≤ kq))
  case atStart => exact ⟨0, by omega, rfl, HR0, ⟨grownRefl _ _⟩, ⟨by omega⟩⟩
  case round =>
    clear HR0
    obtain ⟨j, hj, rfl, HR, HG, HK⟩ := hrel
    by_cases cj : j < 128
    · have cjb : decide ((j : Int) < 128) = true := decide_eq_true (by omega)
      have cjn : decide (j < 128) = true := decide_eq_true (by omega)
      have rc := HR.out.cell (j := j) (by rw [mixI_length _ _ _ (by rw [HL.out]; omega), HL.out]; exact cj)
      have rf := HR.out.free j
      rw [rd_mixI _ _ _ (by rw [HL.out]; exact cj)] at rc
      have b0 := World.block_lt_of_cell? wr _ rc
      obtain ⟨y, hy⟩ : ∃ y, rd xs (j : Nat) = y := ⟨_, rfl⟩
      rw [hy] at rc
      obtain ⟨d, hd⟩ : ∃ d, IntKind.i64.wrap (y - m) = d := ⟨_, rfl⟩
      have HD : Aside0 (subF .i64 m xs j = d) := ⟨by unfold subF; rw [hy]; exact hd⟩
      have qi0 : (0 : Int) ≤ (j : Int) := by omega
      have qi1 : (j : Int) < 128 := by omega
      clear hy
      go_wp2_with (fail)
      refine region_tail 9 (by kernel_rfl) (by kernel_rfl) ?_
      simp only [List.take_succ_cons, List.take_zero, List.drop_succ_cons, List.drop_zero]
      repeat (quiet_step ((fail)))
      refine wpQuiet_nil ?_
      rintro _ ⟨nq, rfl⟩
      go_wp2_with (fail)
      go_roundg (gk - 1)
      case measure => have := HK.out; omega
      case rel =>
        refine ⟨j + 1, by omega, by go_num, ⟨?_⟩, ⟨grownSet (grownDrewN HG.out _) _ _⟩, ⟨by have := HK.out; omega⟩⟩
        have := (HR.out.drewN nq).set j (subF .i64 m xs j)
        rw [mixI_set _ _ _ (by rw [HL.out]; exact cj), HD.out] at this
        exact this
    · obtain rfl : j = 128 := by omega
      have cjb : decide (((128 : Nat) : Int) < 128) = false := by decide
      have HRF := HR.out
      rw [show 128 = xs.length from HL.out.symm, mixI_full] at HRF
      go_wp2_with (fail)
      go_end0
      exact ⟨rfl, HRF, HG.out⟩

theorem infoInt32 : (Try.prog.info? 21).map (fun i => i.size) = some 1 := by kernel_rfl
set_option maxHeartbeats 4000000 in
theorem blockDeltaInt32_calls (g : Nat) (xs : List Int) (last : Int) (w : World) (hR : Row w g 125 .i32 xs) (hl : xs.length = 128) :
    Calls Try.prog 85 #[.pointer (some ⟨g, 0, none⟩), .int .i32 last] w fun e w' => e = .returned (.int .i32 (rd xs (127 : Nat))) ∧ Row w' g 125 .i32 (dlt .i32 last xs) ∧ w.grownBy w' (some g) := by
  have HL := Aside0.mk hl
  have HR0 : Aside0 (Row w g 125 .i32 (mixI (dltF .i32 last xs) xs 0)) := ⟨by rw [mixI_zero]; exact hR⟩
  clear hR hl
  go_enter Try.func85, Try.ntmps85
  go_wp2_with (fail)
  go_loopg [1, 5, 6, 8] 128 (fun kq v1 v5 v6 v8 w' => ∃ (j : Nat) (p : Int), j ≤ 128 ∧ v8 = .int .i64 j ∧ v1 = .int .i32 p ∧ Aside0 (p = prv last xs j) ∧ Aside0 (Row w' g 125 .i32 (mixI (dltF .i32 last xs) xs j)) ∧ Aside0 (w.grownBy w' (some g)) ∧ Aside0 (128 - j ≤ kq))
  case atStart => exact ⟨0, last, by omega, rfl, rfl, ⟨rfl⟩, HR0, ⟨grownRefl _ _⟩, ⟨by omega⟩⟩
  case round =>
    clear HR0
    obtain ⟨j, p, hj, rfl, rfl, HP, HR, HG, HK⟩ := hrel
    by_cases cj : j < 128
    · have cjb : decide ((j : Int) < 128) = true := decide_eq_true (by omega)
      have cjn : decide (j < 128) = true := decide_eq_true (by omega)
      have rc := HR.out.cell (j := j) (by rw [mixI_length _ _ _ (by rw [HL.out]; omega), HL.out]; exact cj)
      have rf := HR.out.free j
      rw [rd_mixI _ _ _ (by rw [HL.out]; exact cj)] at rc
      have b0 := World.block_lt_of_cell? wr _ rc
      obtain ⟨y, hy⟩ : ∃ y, rd xs (j : Nat) = y := ⟨_, rfl⟩
      rw [hy] at rc
      obtain ⟨d, hd⟩ : ∃ d, IntKind.i32.wrap (y - p) = d := ⟨_, rfl⟩
      have HD : Aside0 (dltF .i32 last xs j = d) := ⟨by unfold dltF; rw [hy, ← HP.out]; exact hd⟩
      have HY := Aside0.mk hy
      have qi0 : (0 : Int) ≤ (j : Int) := by omega
      have qi1 : (j : Int) < 128 := by omega
      clear hy
      go_wp2_with (first
        | (go_quiet (fail)))
      go_roundg (gk - 1)
      case measure => have := HK.out; omega
      case rel =>
        refine ⟨j + 1, y, by omega, by go_num, rfl, ⟨by unfold prv; rw [if_neg (by omega), show j + 1 - 1 = j by omega, HY.out]⟩, ⟨?_⟩, ⟨grownSet (grownDrewN HG.out _) _ _⟩, ⟨by have := HK.out; omega⟩⟩
        have := (HR.out.drewN nq).set j (dltF .i32 last xs j)
        rw [mixI_set _ _ _ (by rw [HL.out]; exact cj), HD.out] at this
        exact this
    · obtain rfl : j = 128 := by omega
      have cjb : decide (((128 : Nat) : Int) < 128) = false := by decide
      have HRF := HR.out
      rw [show 128 = xs.length from HL.out.symm, mixI_full] at HRF
      have HPF : Aside0 (p = rd xs (127 : Nat)) := ⟨by rw [HP.out]; rfl⟩
      go_wp2_with (fail)
      go_ret
      exact ⟨by rw [HPF.out]; rfl, HRF, HG.out⟩
set_option maxHeartbeats 4000000 in
theorem blockMinInt32_calls (g : Nat) (xs : List Int) (w : World) (hR : Row w g 125 .i32 xs) (hl : xs.length = 128) :
    Calls Try.prog 86 #[.pointer (some ⟨g, 0, none⟩)] w fun e w' => ∃ m, e = .returned (.int .i32 m) ∧ m ∈ xs ∧ w = w' := by
  have HL := Aside0.mk hl
  have HR := Aside0.mk hR
  obtain ⟨i0, hi0⟩ := Option.map_eq_some_iff.1 infoInt32
  have cut1 := cutArr (P := Try.prog) 125 21 128 (by first | exact Try.underlying125 | kernel_rfl) hi0.1 hi0.2 g 1 (by omega)
  have c0 := hR.cell (j := 0) (by omega)
  have hm0 : rd xs ((0 : Nat) : Int) ∈ xs := rd_mem (by omega)
  obtain ⟨y0, hy0⟩ : ∃ y, rd xs ((0 : Nat) : Int) = y := ⟨_, rfl⟩
  rw [hy0] at c0 hm0
  have HM0 := Aside0.mk hm0
  clear hR hl hy0 hm0
  go_enter Try.func86, Try.ntmps86
  go_wp2_with (fail)
  go_loopg [3, 5, 14] 127 (fun kq v3 v5 v14 w' => ∃ (j : Nat) (m : Int), j ≤ 127 ∧ v14 = .int .i64 j ∧ v3 = .int .i32 m ∧ Aside0 (m ∈ xs) ∧ w = w' ∧ Aside0 (127 - j ≤ kq))
  case atStart => exact ⟨0, y0, by omega, rfl, rfl, HM0, rfl, ⟨by omega⟩⟩
  case round =>
    obtain ⟨j, m, hj, rfl, rfl, HM, rfl, HK⟩ := hrel
    by_cases cj : j < 127
    · have cjb : decide ((j : Int) < 127) = true := decide_eq_true (by omega)
      have cjn : decide (j < 127) = true := decide_eq_true (by omega)
      have rc := HR.out.cell (j := 1 + j) (by rw [HL.out]; omega)
      have hmy : rd xs ((1 + j : Nat) : Int) ∈ xs := rd_mem (by rw [HL.out]; omega)
      obtain ⟨y, hy⟩ : ∃ y, rd xs ((1 + j : Nat) : Int) = y := ⟨_, rfl⟩
      rw [hy] at rc hmy
      have HMY := Aside0.mk hmy
      clear hy hmy
      have qi0 : (0 : Int) ≤ (j : Int) := by omega
      have qi1 : (j : Int) < 127 := by omega
      by_cases c : y < m
      · have cb : decide (y < m) = true := decide_eq_true c
        go_wp2_with (fail)
        go_roundg (gk - 1)
        case measure => have := HK.out; omega
        case rel => exact ⟨j + 1, y, by omega, by go_num, rfl, HMY, rfl, ⟨by have := HK.out; omega⟩⟩
      · have cb : decide (y < m) = false := decide_eq_false c
        go_wp2_with (fail)
        go_roundg (gk - 1)
        case measure => have := HK.out; omega
        case rel => exact ⟨j + 1, m, by omega, by go_num, rfl, HM, rfl, ⟨by have := HK.out; omega⟩⟩
    · obtain rfl : j = 127 := by omega
      have cjb : decide (((127 : Nat) : Int) < 127) = false := by decide
      go_wp2_with (fail)
      go_ret
      exact ⟨m, rfl, HM.out, rfl⟩
set_option maxHeartbeats 4000000 in
theorem blockClearInt32_calls (g L : Nat) (xs : List Int) (w : World) (hR : Row w g 125 .i32 xs) (hl : xs.length = 128) (hL : L ≤ 128) :
    Calls Try.prog 88 #[.pointer (some ⟨g, 0, none⟩), .int .i64 L] w fun e w' => e = .returned (.tuple #[]) ∧ Row w' g 125 .i32 (xs.take L ++ List.replicate (128 - L) 0) ∧ w.grownBy w' (some g) := by
  have HL := Aside0.mk hl
  by_cases c : L < 128
  · have qc : decide ((L : Int) < 128) = true := decide_eq_true (by omega)
    have qc2 : decide (L < 128) = true := decide_eq_true c
    obtain ⟨i0, hi0⟩ := Option.map_eq_some_iff.1 infoInt32
    have cut1 := cutArr (P := Try.prog) 125 21 128 (by first | exact Try.underlying125 | kernel_rfl) hi0.1 hi0.2 g L c
    obtain ⟨n, hn⟩ : ∃ n, 128 - L = n := ⟨_, rfl⟩
    rw [hn] at cut1 ⊢
    have HR0 : Aside0 (Row w g 125 .i32 (xs.take L ++ List.replicate 0 0 ++ xs.drop (L + 0))) := ⟨by simpa using hR⟩
    clear hR hl
    go_enter Try.func88, Try.ntmps88
    go_wp2_with (fail)
    go_loopg [5, 14] n (fun kq v5 v14 w' => ∃ (j : Nat), j ≤ n ∧ v14 = .int .i64 j ∧ Aside0 (Row w' g 125 .i32 (xs.take L ++ List.replicate j 0 ++ xs.drop (L + j))) ∧ Aside0 (w.grownBy w' (some g)) ∧ Aside0 (n - j ≤ kq))
    case atStart => exact ⟨0, by omega, rfl, HR0, ⟨grownRefl _ _⟩, ⟨by omega⟩⟩
    case round =>
      clear HR0
      obtain ⟨j, hj, rfl, HR, HG, HK⟩ := hrel
      have HTL : Aside0 ((xs.take L).length = L) := ⟨by rw [List.length_take, HL.out]; omega⟩
      by_cases cj : j < n
      · have cjb : decide ((j : Int) < (n : Int)) = true := decide_eq_true (by omega)
        have cjn : decide (j < n) = true := decide_eq_true cj
        have rc := HR.out.cell (j := L + j) (by rw [List.length_append, List.length_append, List.length_replicate, HTL.out, List.length_drop, HL.out]; omega)
        have rf := HR.out.free (L + j)
        obtain ⟨y, hy⟩ : ∃ y, rd (xs.take L ++ List.replicate j 0 ++ xs.drop (L + j)) ((L + j : Nat) : Int) = y := ⟨_, rfl⟩
        rw [hy] at rc
        clear hy
        have qi0 : (0 : Int) ≤ (j : Int) := by omega
        have qi1 : (j : Int) < (n : Int) := by omega
        go_wp2_with (fail)
        go_roundg (gk - 1)
        case measure => have := HK.out; omega
        case rel =>
          refine ⟨j + 1, by omega, by go_num, ⟨?_⟩, ⟨grownSet HG.out _ _⟩, ⟨by have := HK.out; omega⟩⟩
          have := HR.out.set (L + j) 0
          rw [List.set_append_right _ _ (by rw [List.length_append, List.length_replicate, HTL.out]; omega), List.length_append, List.length_replicate, HTL.out, Nat.sub_self, List.drop_eq_getElem_cons (show L + j < xs.length by rw [HL.out]; omega), List.set_cons_zero] at this
          rw [List.replicate_succ', ← List.append_assoc, List.append_assoc _ [0]]
          exact this
      · obtain rfl : j = n := by omega
        have cjb : decide ((j : Int) < (j : Int)) = false := decide_eq_false (by omega)
        have HRF := HR.out
        rw [List.drop_eq_nil_of_le (by rw [HL.out]; omega), List.append_nil] at HRF
        go_wp2_with (fail)
        go_end0
        exact ⟨rfl, HRF, HG.out⟩
  · obtain rfl : L = 128 := by omega
    have qc : decide (((128 : Nat) : Int) < 128) = false := by decide
    have HRF : Aside0 (Row w g 125 .i32 (xs.take 128 ++ List.replicate (128 - 128) 0)) := ⟨by rw [show 128 = xs.length from hl.symm, List.take_length, Nat.sub_self, List.replicate_zero, List.append_nil]; exact hR⟩
    clear hR hl
    go_enter Try.func88, Try.ntmps88
    go_wp2_with (fail)
    go_end0
    exact ⟨rfl, HRF.out, grownRefl _ _⟩
set_option maxHeartbeats 4000000 in
theorem blockSubInt32_calls (g : Nat) (xs : List Int) (m : Int) (w : World) (hR : Row w g 125 .i32 xs) (hl : xs.length = 128) :
    Calls Try.prog 87 #[.pointer (some ⟨g, 0, none⟩), .int .i32 m] w fun e w' => e = .returned (.tuple #[]) ∧ Row w' g 125 .i32 (subL .i32 m xs) ∧ w.grownBy w' (some g) := by
  have HL := Aside0.mk hl
  have HR0 : Aside0 (Row w g 125 .i32 (mixI (subF .i32 m xs) xs 0)) := ⟨by rw [mixI_zero]; exact hR⟩
  clear hR hl
  go_enter Try.func87, Try.ntmps87
  go_wp2_with (fail)
  go_loopg [4, 5] 128 (fun kq v4 v5 w' => ∃ (j : Nat), j ≤ 128 ∧ v5 = .int .i64 j ∧ Aside0 (Row w' g 125 .i32 (mixI (subF .i32 m xs) xs j)) ∧ Aside0 (w.grownBy w' (some g)) ∧ Aside0 (128 - j ≤ kq))
  case atStart => exact ⟨0, by omega, rfl, HR0, ⟨grownRefl _ _⟩, ⟨by omega⟩⟩
  case round =>
    clear HR0
    obtain ⟨j, hj, rfl, HR, HG, HK⟩ := hrel
    by_cases cj : j < 128
    · have cjb : decide ((j : Int) < 128) = true := decide_eq_true (by omega)
      have cjn : decide (j < 128) = true := decide_eq_true (by omega)
      have rc := HR.out.cell (j := j) (by rw [mixI_length _ _ _ (by rw [HL.out]; omega), HL.out]; exact cj)
      have rf := HR.out.free j
      rw [rd_mixI _ _ _ (by rw [HL.out]; exact cj)] at rc
      have b0 := World.block_lt_of_cell? wr _ rc
      obtain ⟨y, hy⟩ : ∃ y, rd xs (j : Nat) = y := ⟨_, rfl⟩
      rw [hy] at rc
      obtain ⟨d, hd⟩ : ∃ d, IntKind.i32.wrap (y - m) = d := ⟨_, rfl⟩
      have HD : Aside0 (subF .i32 m xs j = d) := ⟨by unfold subF; rw [hy]; exact hd⟩
      have qi0 : (0 : Int) ≤ (j : Int) := by omega
      have qi1 : (j : Int) < 128 := by omega
      clear hy
      go_wp2_with (fail)
      refine region_tail 9 (by kernel_rfl) (by kernel_rfl) ?_
      simp only [List.take_succ_cons, List.take_zero, List.drop_succ_cons, List.drop_zero]
      repeat (quiet_step ((fail)))
      refine wpQuiet_nil ?_
      rintro _ ⟨nq, rfl⟩
      go_wp2_with (fail)
      go_roundg (gk - 1)
      case measure => have := HK.out; omega
      case rel =>
        refine ⟨j + 1, by omega, by go_num, ⟨?_⟩, ⟨grownSet (grownDrewN HG.out _) _ _⟩, ⟨by have := HK.out; omega⟩⟩
        have := (HR.out.drewN nq).set j (subF .i32 m xs j)
        rw [mixI_set _ _ _ (by rw [HL.out]; exact cj), HD.out] at this
        exact this
    · obtain rfl : j = 128 := by omega
      have cjb : decide (((128 : Nat) : Int) < 128) = false := by decide
      have HRF := HR.out
      rw [show 128 = xs.length from HL.out.symm, mixI_full] at HRF
      go_wp2_with (fail)
      go_end0
      exact ⟨rfl, HRF, HG.out⟩
end Go.Proofs.Ytigmcdpjlkgocaa.Dbk

/-! Numbers in groups of 7 bits, written into a buffer whose rest stays. -/
namespace Go.Proofs.Ytigmcdpjlkgocaa.Dpu
open Go.Proofs.Ytigmcdpjlkgocaa.Pak Go.Proofs.Ytigmcdpjlkgocaa.Buf Go.Proofs.Ytigmcdpjlkgocaa.Fit Go.Proofs.Ytigmcdpjlkgocaa.Bit Go.Proofs.Ytigmcdpjlkgocaa.Wrd Go.Proofs.Ytigmcdpjlkgocaa.Spl Go.Proofs.Ytigmcdpjlkgocaa.Str Go.Proofs.Ytigmcdpjlkgocaa.Flt Go.Proofs.Ytigmcdpjlkgocaa.Owe Go.Proofs.Ytigmcdpjlkgocaa.Num Go.Proofs.Ytigmcdpjlkgocaa.Le Go.Proofs.Ytigmcdpjlkgocaa.Lst Go.Proofs.Ytigmcdpjlkgocaa.Aid Go.RowKit Go.Proofs.YtigmcdpjlkgocaaW.PrintWords Go.Proofs.YtigmcdpjlkgocaaW.PrintLast Go.Proofs.YtigmcdpjlkgocaaW.PrintMore
set_option linter.unusedVariables false
set_option linter.unusedSimpArgs false
theorem varL_lenk : ∀ k n : Nat, n < 128 ^ (k + 1) → (varL n).length ≤ k + 1
  | 0, n, h => by rw [varL_lo (by simpa using h)]; simp
  | k + 1, n, h => by
    by_cases c : n < 128
    · rw [varL_lo c]; simp
    · rw [varL_hi c, List.length_cons]
      have := varL_lenk k (n / 128) (by rw [Nat.pow_succ] at h; exact Nat.div_lt_of_lt_mul (by rw [Nat.mul_comm]; exact h))
      omega
theorem varL_len10 (n : Nat) (h : n < 18446744073709551616) : (varL n).length ≤ 10 := by
  have := varL_lenk 9 n (by have e : (128 : Nat) ^ (9 + 1) = 1180591620717411303424 := (by decide); omega)
  omega
theorem setMid (xs pre zs : List Int) (y : Int) (o i : Nat) (ho : xs.length = o) (hp : pre.length = i) (hi : i < zs.length) : (xs ++ pre ++ zs.drop i).set (o + i) y = xs ++ (pre ++ [y]) ++ zs.drop (i + 1) := by
  have hl : (xs ++ pre).length = o + i := by rw [List.length_append, ho, hp]
  rw [List.set_append_right _ _ (by omega), hl, Nat.sub_self, List.drop_eq_getElem_cons hi, List.set_cons_zero]
  simp
theorem xor_ones (s : Nat) (h : s < 2 ^ 64) : (2 ^ 64 - 1) ^^^ s = 2 ^ 64 - (s + 1) := by
  apply Nat.eq_of_testBit_eq
  intro q
  rw [Nat.testBit_xor, Nat.testBit_two_pow_sub_one, Nat.testBit_two_pow_sub_succ h]
  by_cases c : q < 64
  · simp [c]
  · simp [c, bit_high h (by omega : 64 ≤ q)]
theorem not64 (s : Int) (h0 : 0 ≤ s) (h1 : s < 18446744073709551616) : bits .xor .u64 IntKind.u64.max s = 18446744073709551615 - s := by
  obtain ⟨n, rfl⟩ := Int.eq_ofNat_of_zero_le h0
  have e : IntKind.u64.max = ((2 ^ 64 - 1 : Nat) : Int) := by decide
  rw [e, bits_xor_u64_nat _ _ (by decide) (by omega), xor_ones n (by omega)]
  omega
/-- a whole number as one of at least 0 -/
def zz (x : Int) : Nat := if 0 ≤ x then (2 * x).toNat else (-2 * x - 1).toNat
theorem zz_lt (x : Int) (h0 : -9223372036854775808 ≤ x) (h1 : x ≤ 9223372036854775807) : zz x < 18446744073709551616 := by
  unfold zz; split <;> omega
set_option maxHeartbeats 4000000 in
theorem putUvarintR_calls (g C t n c : Nat) (xs zs : List Int) (x : Nat) (w : World) (hF : Front w g C t .u8 (xs ++ zs)) (hx : x < 18446744073709551616) (hn : (varL x).length ≤ n) (hz : (varL x).length ≤ zs.length) :
    Calls Try.prog 92 #[.slice (some ⟨g, xs.length, none⟩) n c, .int .u64 x] w fun e w' => e = .returned (.int .i64 ((varL x).length : Int)) ∧ Front w' g C t .u8 (xs ++ varL x ++ zs.drop (varL x).length) ∧ w.grownBy w' (some g) := by
  have HF := Aside0.mk hF
  have HL10 := varL_len10 x hx
  have hle := hF.le
  rw [List.length_append] at hle
  obtain ⟨o, ho⟩ : ∃ o, xs.length = o := ⟨_, rfl⟩
  have HO := Aside0.mk ho
  rw [ho] at hle ⊢
  clear hF ho
  go_enter Try.func92, Try.ntmps92
  go_wp2_with (fail)
  have HB0 : Aside0 (w.grownBy w (some g)) := ⟨grownRefl _ _⟩
  go_loopg [1, 5] 10 (fun kq v1 v5 w' => ∃ (y i : Nat) (pre : List Int), v1 = .int .u64 y ∧ v5 = .int .i64 i ∧ y ≤ x ∧ i ≤ 10 ∧ Aside0 (pre.length = i) ∧ Aside0 (pre ++ varL y = varL x) ∧ Aside0 (Front w' g C t .u8 (xs ++ pre ++ zs.drop i)) ∧ Aside0 (w.grownBy w' (some g)) ∧ Aside0 (10 - i ≤ kq))
  case atStart => exact ⟨x, 0, [], rfl, rfl, Nat.le_refl _, by omega, ⟨rfl⟩, ⟨rfl⟩, ⟨by rw [List.append_nil]; exact HF.out⟩, HB0, ⟨by omega⟩⟩
  case round =>
    obtain ⟨y, i, pre, rfl, rfl, hyx, hi5, HP, HV, HR, HG, HK⟩ := hrel
    have hlen : i + (varL y).length = (varL x).length := by rw [← HV.out, List.length_append, HP.out]
    have hpos := varL_pos y
    have hin : i < n := by omega
    have hiz : i < zs.length := by omega
    obtain ⟨z, rc⟩ := HR.out.cell (o + i) (by omega)
    have rf := HR.out.free (o + i)
    have qin : ((i : Int) < (n : Int)) = True := eq_true (by omega)
    by_cases c : 128 ≤ y
    · have qc : decide (128 ≤ (y : Int)) = true := decide_eq_true (by omega)
      have qc2 : decide (128 ≤ y) = true := decide_eq_true c
      have e := varL_hi (n := y) (by omega)
      have hl2 : (varL y).length = (varL (y / 128)).length + 1 := by rw [e]; simp
      have hp2 := varL_pos (y / 128)
      have hor : bits BinOp.or IntKind.u8 ((y : Int) % 256) 128 = ((y % 128 + 128 : Nat) : Int) := by
        rw [show ((y : Int) % 256) = ((y % 256 : Nat) : Int) by omega, show (128 : Int) = ((128 : Nat) : Int) from rfl, u8_or_nat (y % 256) 128 (Nat.mod_lt _ (by omega)) (by omega), or128]
      have HE := Aside0.mk e
      clear e
      go_wp2_with (fail)
      go_roundg (gk - 1)
      case measure => have := HK.out; omega
      case rel =>
        refine ⟨y / 128, i + 1, pre ++ [((y % 128 + 128 : Nat) : Int)], by push_cast; rfl, by go_num, by omega, by omega, ⟨by rw [List.length_append, HP.out]; rfl⟩, ⟨by rw [List.append_assoc, List.singleton_append, ← HE.out]; exact HV.out⟩, ⟨?_⟩, ⟨grownSet HG.out _ _⟩, ⟨by have := HK.out; omega⟩⟩
        have := setF HR.out (o + i) (by rw [List.length_append, List.length_append, List.length_drop, HP.out, HO.out]; omega) ((y % 128 + 128 : Nat) : Int)
        rw [setMid xs pre zs _ o i HO.out HP.out hiz] at this
        exact this
    · have qc : decide (128 ≤ (y : Int)) = false := decide_eq_false (by omega)
      have qc2 : decide (128 ≤ y) = false := decide_eq_false c
      have e := varL_lo (n := y) (by omega)
      have hl2 : (varL y).length = 1 := by rw [e]; rfl
      have hi1 : i + 1 = (varL x).length := by omega
      have HE := Aside0.mk e
      have HI := Aside0.mk hi1
      clear e
      go_wp2_with (fail)
      go_ret
      refine ⟨by rw [← HI.out]; push_cast; rfl, ?_, grownSet HG.out _ _⟩
      have := setF HR.out (o + i) (by rw [List.length_append, List.length_append, List.length_drop, HP.out, HO.out]; omega) (y : Int)
      rw [setMid xs pre zs _ o i HO.out HP.out hiz, ← HE.out, HV.out] at this
      rw [← HI.out]
      exact this
set_option maxHeartbeats 4000000 in
theorem putVarintR_calls (g C t n c : Nat) (xs zs : List Int) (x : Int) (w : World) (hF : Front w g C t .u8 (xs ++ zs)) (hx0 : -9223372036854775808 ≤ x) (hx1 : x ≤ 9223372036854775807) (hn : (varL (zz x)).length ≤ n) (hz : (varL (zz x)).length ≤ zs.length) :
    Calls Try.prog 98 #[.slice (some ⟨g, xs.length, none⟩) n c, .int .i64 x] w fun e w' => e = .returned (.int .i64 ((varL (zz x)).length : Int)) ∧ Front w' g C t .u8 (xs ++ varL (zz x) ++ zs.drop (varL (zz x)).length) ∧ w.grownBy w' (some g) := by
  have HPU := Aside0.mk (putUvarintR_calls g C t n c xs zs (zz x) w hF (zz_lt x hx0 hx1) hn hz)
  obtain ⟨o, ho⟩ : ∃ o, xs.length = o := ⟨_, rfl⟩
  rw [ho] at HPU ⊢
  obtain ⟨Z, hZ⟩ : ∃ Z, zz x = Z := ⟨_, rfl⟩
  rw [hZ] at HPU ⊢
  clear hF hn hz ho
  by_cases c : x < 0
  · have qc : decide (x < 0) = true := decide_eq_true c
    have hzI : (Z : Int) = -2 * x - 1 := by rw [← hZ]; unfold zz; rw [if_neg (by omega)]; omega
    obtain ⟨u, hu⟩ : ∃ u, IntKind.u64.wrap x = u := ⟨_, rfl⟩
    have hu2 : u = x + 18446744073709551616 := by rw [← hu, IntKind.wrap_u64]; omega
    obtain ⟨s, hs⟩ : ∃ s, IntKind.u64.wrap (u * 2) = s := ⟨_, rfl⟩
    have hs3 : s = 2 * x + 18446744073709551616 := by rw [← hs, IntKind.wrap_u64]; omega
    have hx := not64 s (by omega) (by omega)
    rw [show 18446744073709551615 - s = (Z : Int) by omega] at hx
    clear hu2 hs3 hzI
    clear hZ
    go_enter Try.func98, Try.ntmps98
    go_wp2_with (first
      | (go_at_call 92; go_loud (with_reducible refine HPU.out.mono ?_); rintro e w2 ⟨rfl, hf, hg⟩))
    go_ret
    exact ⟨rfl, hf, hg⟩
  · have qc : decide (x < 0) = false := decide_eq_false c
    have hzI : x * 2 = (Z : Int) := by rw [← hZ]; unfold zz; rw [if_pos (by omega)]; omega
    have hu : IntKind.u64.wrap x = x := IntWalk.u64_in _ (by omega)
    clear hZ
    go_enter Try.func98, Try.ntmps98
    go_wp2_with (first
      | (go_at_call 92; go_loud (with_reducible refine HPU.out.mono ?_); rintro e w2 ⟨rfl, hf, hg⟩))
    go_ret
    exact ⟨rfl, hf, hg⟩
end Go.Proofs.Ytigmcdpjlkgocaa.Dpu

/-! Buffers that grow with zeros; the heads of differences. -/
namespace Go.Proofs.Ytigmcdpjlkgocaa.Dgr
open Go.Proofs.Ytigmcdpjlkgocaa.Dpu Go.Proofs.Ytigmcdpjlkgocaa.Pak Go.Proofs.Ytigmcdpjlkgocaa.Buf Go.Proofs.Ytigmcdpjlkgocaa.Fit Go.Proofs.Ytigmcdpjlkgocaa.Bit Go.Proofs.Ytigmcdpjlkgocaa.Wrd Go.Proofs.Ytigmcdpjlkgocaa.Spl Go.Proofs.Ytigmcdpjlkgocaa.Str Go.Proofs.Ytigmcdpjlkgocaa.Flt Go.Proofs.Ytigmcdpjlkgocaa.Owe Go.Proofs.Ytigmcdpjlkgocaa.Num Go.Proofs.Ytigmcdpjlkgocaa.Le Go.Proofs.Ytigmcdpjlkgocaa.Lst Go.Proofs.Ytigmcdpjlkgocaa.Aid Go.RowKit Go.Proofs.YtigmcdpjlkgocaaW.PrintWords Go.Proofs.YtigmcdpjlkgocaaW.PrintLast Go.Proofs.YtigmcdpjlkgocaaW.PrintMore
set_option linter.unusedVariables false
set_option linter.unusedSimpArgs false
theorem frontGrown {w : World} {g M t : Nat} {k : IntKind} {xs : List Int} (h : Hid (w.heap[g]? = some (.cells (splice (nums k (List.replicate M 0)) 0 (nums k xs)).toArray t (0, 0)))) (size : Nat) (h1 : xs.length ≤ size) (h2 : size ≤ M) : Front w g M t k (xs ++ List.replicate (size - xs.length) 0) := by
  have hr : Row w g t k (xs ++ List.replicate (M - xs.length) 0) := by
    refine ⟨⟨?_⟩⟩
    have h3 : w.heap[g]? = some (.cells (splice (nums k (List.replicate M 0)) 0 (nums k xs)).toArray t (0, 0)) := h
    have e : splice (nums k (List.replicate M 0)) 0 (nums k xs) = nums k (xs ++ List.replicate (M - xs.length) 0) := by simp [splice, nums]
    rw [e] at h3
    exact h3
  have hl : (xs ++ List.replicate (M - xs.length) 0).length = M := by rw [List.length_append, List.length_replicate]; omega
  have := Front.ofRow hr size (by rw [hl]; exact h2)
  have e : (xs ++ List.replicate (M - xs.length) 0).take size = xs ++ List.replicate (size - xs.length) (0 : Int) := by
    rw [List.take_append, List.take_of_length_le h1, List.take_replicate, Nat.min_eq_left (by omega)]
  rw [hl, e] at this
  exact this
theorem cutFrom0 {P : Program} (t e : TypeId) {i : TypeInfo} (ht : P.underlying t = some (.slice e)) (hi : P.info? e = some i) (hsz : i.size = 1) (g n C l : Nat) (hln : l ≤ n) (hn : n ≤ C) (hl : l < C) :
    ∀ W : World, (Instr.slice t (.slice (some ⟨g, 0, none⟩) n C) (some (.int .i64 (l : Int))) none none).run P W = .ok (.slice (some ⟨g, l, none⟩) (n - l) (C - l)) W := by
  intro W
  have hel : P.elem t = e := by simp [Program.elem, ht]
  have hu : P.underlying t = some (.slice (P.elem t)) := by rw [hel]; exact ht
  rw [run_slice_l W t (some ⟨g, 0, none⟩) n C hu .i64 l (by omega) (by omega), hel]
  have hne : ¬ C = l := by omega
  by_cases h0 : l = 0
  · subst h0; simp [sizeOf, typeInfo, hi, hsz, sliced, Result.andThen, Addr.add]
  · simp [sizeOf, typeInfo, hi, hsz, sliced, Result.andThen, Addr.add, hne, h0]
/-- v[l:h], also past v's length -/
theorem cutTail {P : Program} (t e : TypeId) {i : TypeInfo} (ht : P.underlying t = some (.slice e)) (hi : P.info? e = some i) (hsz : i.size = 1) (g n C l h : Nat) (hl : l < C) (hlh : l ≤ h) (hh : h ≤ C) :
    ∀ W : World, (Instr.slice t (.slice (some ⟨g, 0, none⟩) n C) (some (.int .i64 (l : Int))) (some (.int .i64 (h : Int))) none).run P W = .ok (.slice (some ⟨g, l, none⟩) (h - l) (C - l)) W := by
  intro W
  have hel : P.elem t = e := by simp [Program.elem, ht]
  have hu : P.underlying t = some (.slice (P.elem t)) := by rw [hel]; exact ht
  rw [run_slice_lh W t (some ⟨g, 0, none⟩) n C hu .i64 .i64 l h (by omega) (by omega) (by omega), hel]
  have hne : ¬ C = l := by omega
  by_cases h0 : l = 0
  · subst h0; simp [sizeOf, typeInfo, hi, hsz, sliced, Result.andThen, Addr.add]
  · simp [sizeOf, typeInfo, hi, hsz, sliced, Result.andThen, Addr.add, hne, h0]
theorem grownNew {w w' : World} (h : Below w.heap.size w w') (row : Option Nat) : w.grownBy w' row := ⟨h.os, h.tape, h.output, h.size, fun k hk _ => h.block k hk⟩
set_option maxHeartbeats 4000000 in
set_option maxRecDepth 100000 in
theorem grow_calls (A : Option Addr) (n C size : Nat) (xs : List Int) (w : World) (hC : (Kd.int .u8).C w A n xs) (hc : n ≤ C) (hs : C < size) (hs9 : size ≤ 1073741824) :
    Calls Try.prog 64 #[.slice A n C, .int .i64 size] w fun e w' => ∃ M, e = .returned (.slice (some ⟨w.heap.size, 0, none⟩) size M) ∧ Front w' w.heap.size M 5 .u8 (xs ++ List.replicate (size - n) 0) ∧ size ≤ M ∧ M ≤ 4294967296 ∧ Below w.heap.size w w' := by
  have HLN : Aside0 (xs.length = n) := ⟨hC.1⟩
  have HC := Aside0.mk hC
  clear hC
  by_cases hcs : 2 * C < size
  · have hmk : ∀ W : World, (Instr.makeSlice 23 (.int .i64 (size : Int)) (.int .i64 (size : Int))).run Try.prog W = .ok (.slice (some ⟨W.heap.size, 0, none⟩) size (size)) (W.alloc (.cells (madeCells #[.int .u8 0] (size)) 5)) := by
      have := make1 (P := Try.prog) 23 5 (.int .u8 0) 1 Try.underlying23 infoU8 rfl size (size) (by omega) (by omega) (by omega)
      intro W
      have h := this W
      push_cast at h
      exact h
    have qm : decide (2 * (C : Int) < (size : Int)) = true := decide_eq_true (by omega)
    have qm2 : 2 * (C : Int) < (size : Int) := by omega
    have HC1 : Aside0 ((Kd.int .u8).C (w.alloc (.cells (madeCells #[.int .u8 0] (size)) 5)) A n xs) := ⟨Kd.C_alloc HC.out _⟩
    have HG1 : Aside0 ((w.alloc (.cells (madeCells #[.int .u8 0] (size)) 5)).heap[w.heap.size]? = some (.cells (nums .u8 (List.replicate (size) 0)).toArray 5 (0, 0))) := ⟨(madeRow w 5 .u8 (size)).out.out⟩
    have HB1 : Aside0 (Below w.heap.size w (w.alloc (.cells (madeCells #[.int .u8 0] (size)) 5))) := ⟨(Below.refl _ _).alloc (Nat.le_refl _) _⟩
    go_enter Try.func64, Try.ntmps64
    go_wp2_with (first
      | ((refine wpList_copy_splice ?hgd (.tmp 15) (.tmp 16) 23 23 ?ho0 5 Try.underlying23 ?h1 (some ⟨w.heap.size, 0, none⟩) A size (size) n C ?hd ?hs w.heap.size 0 (nums .u8 (List.replicate (size) 0)) 5 HG1.out (nums .u8 xs) ?hn ?hp ?hf ?ho w.heap.size w HB1.out (Nat.le_refl _) ?_); (case ho0 => rfl); (case hgd => rfl); (case hd => rfl); (case hs => rfl); go_loud ((case h1 => kernel_rfl)); go_loud ((case hn => simp only [nums, List.length_map]; rw [HLN.out]; exact (Nat.min_eq_left (by omega)).symm)); go_loud ((case hp => exact fun hpos => ⟨rfl, copySrc HC1.out (by simpa [nums] using hpos)⟩)); go_loud ((case hf => simp only [nums, List.length_map, List.length_replicate]; rw [HLN.out]; omega)); go_loud ((case ho => exact nums_one _ _)); intro w2 hw2 hb2; have HW2 := Aside0.mk hw2; have HB2 := Aside0.mk hb2; clear hw2 hb2))
    go_ret
    exact ⟨size, rfl, by have := frontGrown HW2.out size (by rw [HLN.out]; omega) (Nat.le_refl _); rw [HLN.out] at this; exact this, by omega, by omega, HB2.out⟩
  · have hmk : ∀ W : World, (Instr.makeSlice 23 (.int .i64 (size : Int)) (.int .i64 (2 * (C : Int)))).run Try.prog W = .ok (.slice (some ⟨W.heap.size, 0, none⟩) size (2 * C)) (W.alloc (.cells (madeCells #[.int .u8 0] (2 * C)) 5)) := by
      have := make1 (P := Try.prog) 23 5 (.int .u8 0) 1 Try.underlying23 infoU8 rfl size (2 * C) (by omega) (by omega) (by omega)
      intro W
      have h := this W
      push_cast at h
      exact h
    have qm : decide (2 * (C : Int) < (size : Int)) = false := decide_eq_false (by omega)
    have qm2 : ¬ 2 * (C : Int) < (size : Int) := by omega
    have HC1 : Aside0 ((Kd.int .u8).C (w.alloc (.cells (madeCells #[.int .u8 0] (2 * C)) 5)) A n xs) := ⟨Kd.C_alloc HC.out _⟩
    have HG1 : Aside0 ((w.alloc (.cells (madeCells #[.int .u8 0] (2 * C)) 5)).heap[w.heap.size]? = some (.cells (nums .u8 (List.replicate (2 * C) 0)).toArray 5 (0, 0))) := ⟨(madeRow w 5 .u8 (2 * C)).out.out⟩
    have HB1 : Aside0 (Below w.heap.size w (w.alloc (.cells (madeCells #[.int .u8 0] (2 * C)) 5))) := ⟨(Below.refl _ _).alloc (Nat.le_refl _) _⟩
    go_enter Try.func64, Try.ntmps64
    go_wp2_with (first
      | ((refine wpList_copy_splice ?hgd (.tmp 15) (.tmp 16) 23 23 ?ho0 5 Try.underlying23 ?h1 (some ⟨w.heap.size, 0, none⟩) A size (2 * C) n C ?hd ?hs w.heap.size 0 (nums .u8 (List.replicate (2 * C) 0)) 5 HG1.out (nums .u8 xs) ?hn ?hp ?hf ?ho w.heap.size w HB1.out (Nat.le_refl _) ?_); (case ho0 => rfl); (case hgd => rfl); (case hd => rfl); (case hs => rfl); go_loud ((case h1 => kernel_rfl)); go_loud ((case hn => simp only [nums, List.length_map]; rw [HLN.out]; exact (Nat.min_eq_left (by omega)).symm)); go_loud ((case hp => exact fun hpos => ⟨rfl, copySrc HC1.out (by simpa [nums] using hpos)⟩)); go_loud ((case hf => simp only [nums, List.length_map, List.length_replicate]; rw [HLN.out]; omega)); go_loud ((case ho => exact nums_one _ _)); intro w2 hw2 hb2; have HW2 := Aside0.mk hw2; have HB2 := Aside0.mk hb2; clear hw2 hb2))
    go_ret
    exact ⟨2 * C, rfl, by have := frontGrown HW2.out size (by rw [HLN.out]; omega) (by omega); rw [HLN.out] at this; exact this, by omega, by omega, HB2.out⟩
set_option maxHeartbeats 4000000 in
set_option maxRecDepth 100000 in
theorem resizeZ_calls (base : Nat) (v : Value) (xs : List Int) (size : Nat) (w : World) (hO : Own w base 5 .u8 v xs) (hb : base ≤ w.heap.size) (hs : xs.length < size) (hs9 : size ≤ 1073741824) :
    Calls Try.prog 48 #[v, .int .i64 size] w fun e w' => ∃ g M, e = .returned (.slice (some ⟨g, 0, none⟩) size M) ∧ Front w' g M 5 .u8 (xs ++ List.replicate (size - xs.length) 0) ∧ size ≤ M ∧ M ≤ 9223372036854775807 ∧ base ≤ g ∧ (w.heap.size ≤ g ∨ v.ownBlock = some g) ∧ w.grownBy w' (some g) := by
  rcases own_front hO with ⟨rfl, rfl⟩ | ⟨g, C, rfl, hbg, hC9, hF⟩
  · have HG := Aside0.mk (grow_calls none 0 0 size [] w ⟨rfl, by omega, fun h => absurd h (by omega)⟩ (Nat.le_refl _) (by simpa using hs) hs9)
    have qc : decide (0 < (size : Int)) = true := decide_eq_true (by simp at hs; omega)
    have qc2 : decide (0 < size) = true := decide_eq_true (by simpa using hs)
    clear hO
    go_enter Try.func48, Try.ntmps48
    go_wp2_with (first
      | (go_at_call 64; (with_reducible refine HG.out.mono ?_); rintro e w2 ⟨M, rfl, hf, h1, h2, hb2⟩; have HF2 := Aside0.mk hf; have HB2 := Aside0.mk hb2; clear hf hb2))
    go_ret
    exact ⟨w.heap.size, M, rfl, HF2.out, h1, by omega, hb, .inl (Nat.le_refl _), grownNew HB2.out _⟩
  · by_cases c : C < size
    · obtain ⟨A, c', e, hc', hr⟩ := hO.read
      injection e with e1 e2 e3
      subst e3
      rw [← e1] at hr
      have HG := Aside0.mk (grow_calls (some ⟨g, 0, none⟩) xs.length C size xs w hr hc' c hs9)
      have qc : decide ((C : Int) < (size : Int)) = true := decide_eq_true (by omega)
      have qc2 : decide (C < size) = true := decide_eq_true c
      obtain ⟨n, hn⟩ : ∃ n, xs.length = n := ⟨_, rfl⟩
      rw [hn] at HG ⊢
      clear hO hF hr e1
      go_enter Try.func48, Try.ntmps48
      go_wp2_with (first
        | (go_at_call 64; (with_reducible refine HG.out.mono ?_); rintro e w2 ⟨M, rfl, hf, h1, h2, hb2⟩; have HF2 := Aside0.mk hf; have HB2 := Aside0.mk hb2; clear hf hb2))
      go_ret
      exact ⟨w.heap.size, M, rfl, HF2.out, h1, by omega, hb, .inl (Nat.le_refl _), grownNew HB2.out _⟩
    · have qc : decide ((C : Int) < (size : Int)) = false := decide_eq_false (by omega)
      have qc2 : decide (C < size) = false := decide_eq_false c
      obtain ⟨i8, h8⟩ := h8
      obtain ⟨n, hn⟩ : ∃ n, xs.length = n := ⟨_, rfl⟩
      have cut1 := cutAtMid0 (P := Try.prog) 23 5 Try.underlying23 h8.1 h8.2 g n C size (by omega)
      have cut2 := cutTail (P := Try.prog) 23 5 Try.underlying23 h8.1 h8.2 g n C n size (by omega) (by omega) (by omega)
      have HF := Aside0.mk hF
      have hle := hF.le
      have HN := Aside0.mk hn
      rw [hn] at hle hs ⊢
      obtain ⟨z, hz⟩ : ∃ z, size - n = z := ⟨_, rfl⟩
      rw [hz] at cut2 ⊢
      have qg : decide ((n : Int) < (size : Int)) = true := decide_eq_true (by omega)
      have qg2 : decide (n < size) = true := decide_eq_true (by omega)
      have HSZ : Aside0 (n + z ≤ C) := ⟨by omega⟩
      clear hO hF hn
      go_enter Try.func48, Try.ntmps48
      go_wp2_with (fail)
      go_loopg [6, 25] z (fun kq v6 v25 w' => ∃ (j : Nat), j ≤ z ∧ v25 = .int .i64 j ∧ Aside0 (Front w' g C 5 .u8 (xs ++ List.replicate j 0)) ∧ Aside0 (w.grownBy w' (some g)) ∧ Aside0 (z - j ≤ kq))
      case atStart => exact ⟨0, by omega, rfl, ⟨by rw [List.replicate_zero, List.append_nil]; exact HF.out⟩, ⟨grownRefl _ _⟩, ⟨by omega⟩⟩
      case round =>
        obtain ⟨j, hj, rfl, HR, HG, HK⟩ := hrel
        by_cases cj : j < z
        · have cjb : decide ((j : Int) < (z : Int)) = true := decide_eq_true (by omega)
          have cjn : decide (j < z) = true := decide_eq_true cj
          obtain ⟨y, rc⟩ := HR.out.cell (n + j) (by have := HSZ.out; omega)
          have rf := HR.out.free (n + j)
          have qi0 : (0 : Int) ≤ (j : Int) := by omega
          have qi1 : (j : Int) < (z : Int) := by omega
          go_wp2_with (fail)
          go_roundg (gk - 1)
          case measure => have := HK.out; omega
          case rel =>
            refine ⟨j + 1, by omega, by go_num, ⟨?_⟩, ⟨grownSet HG.out _ _⟩, ⟨by have := HK.out; omega⟩⟩
            have := HR.out.push (by rw [List.length_append, List.length_replicate, HN.out]; have := HSZ.out; omega) 0 (n + j) (by rw [List.length_append, List.length_replicate, HN.out])
            rw [List.append_assoc, ← List.replicate_succ'] at this
            exact this
        · obtain rfl : j = z := by omega
          have cjb : decide ((j : Int) < (j : Int)) = false := decide_eq_false (by omega)
          go_wp2_with (fail)
          go_ret
          exact ⟨g, C, rfl, HR.out, by omega, hC9, hbg, .inr rfl, HG.out⟩
end Go.Proofs.Ytigmcdpjlkgocaa.Dgr

/-! The heads of differences, and of their blocks. -/
namespace Go.Proofs.Ytigmcdpjlkgocaa.Dhd
open Go.Proofs.Ytigmcdpjlkgocaa.Dgr Go.Proofs.Ytigmcdpjlkgocaa.Dpu Go.Proofs.Ytigmcdpjlkgocaa.Pak Go.Proofs.Ytigmcdpjlkgocaa.Buf Go.Proofs.Ytigmcdpjlkgocaa.Fit Go.Proofs.Ytigmcdpjlkgocaa.Bit Go.Proofs.Ytigmcdpjlkgocaa.Wrd Go.Proofs.Ytigmcdpjlkgocaa.Spl Go.Proofs.Ytigmcdpjlkgocaa.Str Go.Proofs.Ytigmcdpjlkgocaa.Flt Go.Proofs.Ytigmcdpjlkgocaa.Owe Go.Proofs.Ytigmcdpjlkgocaa.Num Go.Proofs.Ytigmcdpjlkgocaa.Le Go.Proofs.Ytigmcdpjlkgocaa.Lst Go.Proofs.Ytigmcdpjlkgocaa.Aid Go.RowKit Go.Proofs.YtigmcdpjlkgocaaW.PrintWords Go.Proofs.YtigmcdpjlkgocaaW.PrintLast Go.Proofs.YtigmcdpjlkgocaaW.PrintMore
set_option linter.unusedVariables false
set_option linter.unusedSimpArgs false
theorem cutFromO {P : Program} (t e : TypeId) {i : TypeInfo} (ht : P.underlying t = some (.slice e)) (hi : P.info? e = some i) (hsz : i.size = 1) (g o n C l : Nat) (hln : l ≤ n) (hn : n ≤ C) (hl : l < C) :
    ∀ W : World, (Instr.slice t (.slice (some ⟨g, o, none⟩) n C) (some (.int .i64 (l : Int))) none none).run P W = .ok (.slice (some ⟨g, o + l, none⟩) (n - l) (C - l)) W := by
  intro W
  have hel : P.elem t = e := by simp [Program.elem, ht]
  have hu : P.underlying t = some (.slice (P.elem t)) := by rw [hel]; exact ht
  rw [run_slice_l W t (some ⟨g, o, none⟩) n C hu .i64 l (by omega) (by omega), hel]
  have hne : ¬ C = l := by omega
  by_cases h0 : l = 0
  · subst h0; simp [sizeOf, typeInfo, hi, hsz, sliced, Result.andThen, Addr.add]
  · simp [sizeOf, typeInfo, hi, hsz, sliced, Result.andThen, Addr.add, hne, h0]
theorem frontSet {w1 : World} {g C t : Nat} {k : IntKind} {xs ys zs : List Int} {cs : Array Value} (hx : ∀ j : Nat, j < (xs ++ zs).length → cs[j]? = some (.int k (rd (xs ++ zs) (j : Nat)))) (hc : cs.size = C) (hle : (xs ++ zs).length ≤ C) (hy : ys.length ≤ zs.length)
    (hb : Blk w1 g (cs.toList.take xs.length ++ (nums k ys ++ cs.toList.drop (xs.length + (nums k ys).length))).toArray t) : Front w1 g C t k (xs ++ ys ++ zs.drop ys.length) := by
  have hnl : (nums k ys).length = ys.length := by simp [nums]
  rw [List.length_append] at hle
  refine ⟨_, hb, ?_, ?_, fun j hj => ?_⟩
  · simp [hc, hnl]; omega
  · simp; omega
  · rw [List.length_append, List.length_append, List.length_drop] at hj
    rw [List.getElem?_toArray]
    have hlt : (cs.toList.take xs.length).length = xs.length := by simp; omega
    by_cases c1 : j < xs.length
    · rw [List.getElem?_append_left (by omega), List.getElem?_take, if_pos c1, Array.getElem?_toList, hx j (by rw [List.length_append]; omega), rd_append, if_pos c1, rd_append, if_pos (by rw [List.length_append]; omega), rd_append, if_pos c1]
    · rw [List.getElem?_append_right (by omega), hlt]
      by_cases c2 : j - xs.length < ys.length
      · rw [List.getElem?_append_left (by omega), rd_append, if_pos (by rw [List.length_append]; omega), rd_append, if_neg c1]
        simp [nums, rd, List.getD_eq_getElem?_getD, c2]
      · rw [List.getElem?_append_right (by omega), hnl, List.getElem?_drop, Array.getElem?_toList, show xs.length + ys.length + (j - xs.length - ys.length) = j by omega, hx j (by rw [List.length_append]; omega), rd_append, if_neg c1, rd_append, if_neg (by rw [List.length_append]; omega), rd_drop, List.length_append, show ys.length + (j - (xs.length + ys.length)) = j - xs.length by omega]
section
variable {P : Program} {ops : Array Oper} {rest : List Oper} {o : Oper} {a : Act} {Q : Exit → Act → World → Prop} {w : World}
/-- copy into a buffer whose rest stays -/
theorem wpList_copy_front (hgd : o.guard = none) (d s : Operand) (dT sT : TypeId)
    (ho : o.op = .call { callee := .builtin .copy, args := #[d, s], argTypes := #[dT, sT] }) (elem : TypeId) (hu : P.underlying dT = some (.slice elem)) (hsz : (P.info? elem).map (·.size) = some 1)
    (g n C0 : Nat) (ad : Addr) (sLen sCap : Nat) (xs ys zs : List Int) (hd : a.eval d = .slice (some ⟨g, xs.length, none⟩) n C0) (hs : a.eval s = .slice (some ad) sLen sCap)
    (t C : Nat) (k : IntKind) (hF : Front w g C t k (xs ++ zs)) (hn : ys.length = Nat.min sLen n) (hsrc : ∀ j v, (nums k ys)[j]? = some v → w.cell? (ad.add j) = some v) (hy : ys.length ≤ zs.length)
    (h : ∀ w1, Front w1 g C t k (xs ++ ys ++ zs.drop ys.length) → w.grownBy w1 (some g) → wpList P ops Q rest (a.put o.dst (goInt ys.length)) w1) :
    wpList P ops Q (o :: rest) a w := by
  obtain ⟨cs, hb, hc, hle, hx⟩ := hF.out
  refine wpList_copy_own hgd d s dT sT ho elem hu hsz g xs.length n C0 ad sLen sCap hd hs cs t hb.out (nums k ys) (by simpa [nums] using hn) hsrc (by rw [List.length_append] at hle; simp [nums, hc]; omega) (nums_one _ _) ?_
  have hnl : (nums k ys).length = ys.length := by simp [nums]
  have := h _ (frontSet hx hc hle hy ⟨setRow_heap w g _ _ t _ hb.out⟩) ⟨rfl, rfl, rfl, by simp [World.setRow], fun k hk he => setRow_other w g k _ (fun e => he (by rw [e]))⟩
  have e : goInt ((nums k ys).length : Int) = goInt (ys.length : Int) := by rw [hnl]
  rw [e]
  exact this
end
section
variable {P : Program} {ops : Array Oper} {o : Oper} {a : Act} {Q : Exit → Act → World → Prop} {K : Act → World → Prop} {E : Prop} {w : World}
/-- copy into a buffer whose rest stays, as a step of a region that draws its order -/
theorem copyFrontStep (hgd : o.guard = none) (d s : Operand) (dT sT : TypeId)
    (ho : o.op = .call { callee := .builtin .copy, args := #[d, s], argTypes := #[dT, sT] }) (elem : TypeId) (hu : P.underlying dT = some (.slice elem)) (hsz : (P.info? elem).map (·.size) = some 1)
    (g n C0 : Nat) (ad : Addr) (sLen sCap : Nat) (xs ys zs : List Int) (hd : a.eval d = .slice (some ⟨g, xs.length, none⟩) n C0) (hs : a.eval s = .slice (some ad) sLen sCap)
    (t C : Nat) (k : IntKind) (hF : Front w g C t k (xs ++ zs)) (hn : ys.length = Nat.min sLen n) (hsrc : ∀ j v, (nums k ys)[j]? = some v → w.cell? (ad.add j) = some v) (hy : ys.length ≤ zs.length)
    (h : ∀ w1, Front w1 g C t k (xs ++ ys ++ zs.drop ys.length) → w.grownBy w1 (some g) → K (a.put o.dst (goInt ys.length)) w1) :
    if Region.wanted o (yielded ops a.tmps) = true then Oper.wp P o a w K Q else E := by
  have hw : Region.wanted o (yielded ops a.tmps) = true := by simp [Region.wanted, hgd]
  rw [if_pos hw]
  obtain ⟨cs, hb, hc, hle, hx⟩ := hF.out
  have hnl : (nums k ys).length = ys.length := by simp [nums]
  have hrun := run_copy_row (P := P) w dT sT o.type elem g xs.length n C0 ad sLen sCap cs t (nums k ys) hu hsz hb.out (by simpa [nums] using hn) hsrc (by rw [List.length_append] at hle; simp [nums, hc]; omega) (nums_one _ _)
  have hk := h _ (frontSet hx hc hle hy ⟨setRow_heap w g _ _ t _ hb.out⟩) ⟨rfl, rfl, rfl, by simp [World.setRow], fun k hk he => setRow_other w g k _ (fun e => he (by rw [e]))⟩
  have e : goInt ((nums k ys).length : Int) = goInt (ys.length : Int) := by rw [hnl]
  have hk2 : K (a.put o.dst (goInt ((nums k ys).length : Int))) (w.setRow g (cs.toList.take xs.length ++ (nums k ys ++ cs.toList.drop (xs.length + (nums k ys).length))).toArray) := by rw [e]; exact hk
  clear hk
  unfold Oper.wp
  simp [execOp, ho, resolve, invoke, builtin, hd, hs, hrun, Result.andThen]
  exact hk2
end
/-- the head of a list of differences -/
def hdL (T : Nat) (first : Int) : List Int := varL 128 ++ varL 4 ++ varL T ++ varL (zz first)
set_option maxHeartbeats 8000000 in
set_option maxRecDepth 100000 in
theorem header_calls (g C t n c : Nat) (xs zs : List Int) (T : Nat) (first : Int) (w : World) (hF : Front w g C t .u8 (xs ++ zs)) (hT : T ≤ 4294967296) (hf0 : -9223372036854775808 ≤ first) (hf1 : first ≤ 9223372036854775807) (hn : 40 ≤ n) (hnc : n ≤ c) (hc9 : c ≤ 9223372036854775807) (hz : 40 ≤ zs.length) :
    Calls Try.prog 76 #[.slice (some ⟨g, xs.length, none⟩) n c, .int .i64 128, .int .i64 4, .int .i64 T, .int .i64 first] w fun e w' => e = .returned (.int .i64 ((hdL T first).length : Int)) ∧ (hdL T first).length ≤ 40 ∧ Front w' g C t .u8 (xs ++ hdL T first ++ zs.drop (hdL T first).length) ∧ w.grownBy w' (some g) := by
  obtain ⟨o, ho⟩ : ∃ o, xs.length = o := ⟨_, rfl⟩
  have b1 := varL_len10 128 (by omega)
  have b2 := varL_len10 4 (by omega)
  have b3 := varL_len10 T (by omega)
  have b4 := varL_len10 (zz first) (zz_lt first hf0 hf1)
  have p1 := varL_pos 128
  have p2 := varL_pos 4
  have p3 := varL_pos T
  have H1 : ∀ W, Front W g C t .u8 (xs ++ zs) → _ := fun W hf => putUvarintR_calls g C t n c xs zs 128 W hf (by omega) (by omega) (by omega)
  have H2 : ∀ W, Front W g C t .u8 (xs ++ varL 128 ++ zs.drop (varL 128).length) → _ := fun W hf => putUvarintR_calls g C t (n - (varL 128).length) (c - (varL 128).length) (xs ++ varL 128) (zs.drop (varL 128).length) 4 W hf (by omega) (by omega) (by rw [List.length_drop]; omega)
  have H3 : ∀ W, Front W g C t .u8 (xs ++ varL 128 ++ varL 4 ++ (zs.drop (varL 128).length).drop (varL 4).length) → _ := fun W hf => putUvarintR_calls g C t (n - ((varL 128).length + (varL 4).length)) (c - ((varL 128).length + (varL 4).length)) (xs ++ varL 128 ++ varL 4) ((zs.drop (varL 128).length).drop (varL 4).length) T W hf (by omega) (by omega) (by rw [List.length_drop, List.length_drop]; omega)
  have H4 : ∀ W, Front W g C t .u8 (xs ++ varL 128 ++ varL 4 ++ varL T ++ ((zs.drop (varL 128).length).drop (varL 4).length).drop (varL T).length) → _ := fun W hf => putVarintR_calls g C t (n - ((varL 128).length + (varL 4).length + (varL T).length)) (c - ((varL 128).length + (varL 4).length + (varL T).length)) (xs ++ varL 128 ++ varL 4 ++ varL T) (((zs.drop (varL 128).length).drop (varL 4).length).drop (varL T).length) first W hf hf0 hf1 (by omega) (by rw [List.length_drop, List.length_drop, List.length_drop]; omega)
  have HH : Aside0 ((hdL T first).length = (varL 128).length + (varL 4).length + (varL T).length + (varL (zz first)).length) := ⟨by unfold hdL; simp only [List.length_append]⟩
  have HXX : Aside0 (xs ++ varL 128 ++ varL 4 ++ varL T ++ varL (zz first) = xs ++ hdL T first) := ⟨by unfold hdL; simp only [List.append_assoc]⟩
  simp only [List.length_append, ho] at H1 H2 H3 H4
  rw [ho]
  obtain ⟨v1, hv1⟩ : ∃ v, varL 128 = v := ⟨_, rfl⟩
  obtain ⟨v2, hv2⟩ : ∃ v, varL 4 = v := ⟨_, rfl⟩
  obtain ⟨v3, hv3⟩ : ∃ v, varL T = v := ⟨_, rfl⟩
  obtain ⟨v4, hv4⟩ : ∃ v, varL (zz first) = v := ⟨_, rfl⟩
  simp only [hv1, hv2, hv3, hv4] at H1 H2 H3 H4 HH HXX b1 b2 b3 b4 p1 p2 p3
  obtain ⟨L1, hL1⟩ : ∃ L, v1.length = L := ⟨_, rfl⟩
  obtain ⟨L2, hL2⟩ : ∃ L, v2.length = L := ⟨_, rfl⟩
  obtain ⟨L3, hL3⟩ : ∃ L, v3.length = L := ⟨_, rfl⟩
  obtain ⟨L4, hL4⟩ : ∃ L, v4.length = L := ⟨_, rfl⟩
  simp only [hL1, hL2, hL3, hL4] at H1 H2 H3 H4 HH b1 b2 b3 b4 p1 p2 p3
  obtain ⟨N2, hN2⟩ : ∃ N, L1 + L2 = N := ⟨_, rfl⟩
  obtain ⟨N3, hN3⟩ : ∃ N, N2 + L3 = N := ⟨_, rfl⟩
  rw [hN2] at H3 H4 HH
  rw [hN3] at H4 HH
  rw [Nat.add_assoc o L1 L2, hN2] at H3
  rw [Nat.add_assoc o L1 L2, hN2, Nat.add_assoc o N2 L3, hN3] at H4
  have hN2I : (L1 : Int) + (L2 : Int) = (N2 : Int) := by omega
  have hN3I : (N2 : Int) + (L3 : Int) = (N3 : Int) := by omega
  simp only [show ((128 : Nat) : Int) = 128 from rfl] at H1
  simp only [show ((4 : Nat) : Int) = 4 from rfl] at H2
  obtain ⟨i8, h8⟩ := h8
  have cut0 := cutFromO (P := Try.prog) 23 5 Try.underlying23 h8.1 h8.2 g o n c 0 (by omega) hnc (by omega)
  have cut1 := cutFromO (P := Try.prog) 23 5 Try.underlying23 h8.1 h8.2 g o n c L1 (by omega) hnc (by omega)
  have cut2 := cutFromO (P := Try.prog) 23 5 Try.underlying23 h8.1 h8.2 g o n c N2 (by omega) hnc (by omega)
  have cut3 := cutFromO (P := Try.prog) 23 5 Try.underlying23 h8.1 h8.2 g o n c N3 (by omega) hnc (by omega)
  have H1 := Aside0.mk H1
  have H2 := Aside0.mk H2
  have H3 := Aside0.mk H3
  have H4 := Aside0.mk H4
  have HF := Aside0.mk hF
  have hTw : IntKind.u64.wrap (T : Int) = (T : Int) := IntWalk.u64_in _ (by omega)
  clear hF ho hv1 hv2 hv3 hv4 hL1 hL2 hL3 hL4
  go_enter Try.func76, Try.ntmps76
  go_wp2_with (first
    | (go_at_call 92; (first
      | (go_loud (with_reducible refine (H1.out w HF.out).mono ?_); rintro e w1 ⟨rfl, hf, hg⟩; have HF1 := Aside0.mk hf; have HG1 := Aside0.mk hg; clear hf hg)
      | (go_loud (with_reducible refine (H2.out w1 HF1.out).mono ?_); rintro e w2 ⟨rfl, hf, hg⟩; have HF2 := Aside0.mk hf; have HG2 := Aside0.mk (HG1.out.trans hg); clear hf hg)
      | (go_loud (with_reducible refine (H3.out w2 HF2.out).mono ?_); rintro e w3 ⟨rfl, hf, hg⟩; have HF3 := Aside0.mk hf; have HG3 := Aside0.mk (HG2.out.trans hg); clear hf hg)))
    | (go_at_call 98; go_loud (with_reducible refine (H4.out w3 HF3.out).mono ?_); rintro e w4 ⟨rfl, hf, hg⟩; have HF4 := Aside0.mk hf; have HG4 := Aside0.mk (HG3.out.trans hg); clear hf hg))
  go_ret
  have hfin := HF4.out
  rw [HXX.out, List.drop_drop, List.drop_drop, List.drop_drop] at hfin
  refine ⟨by rw [HH.out]; push_cast; rfl, by rw [HH.out]; omega, ?_, HG4.out⟩
  rw [HH.out, show N3 + L4 = L1 + (L2 + (L3 + L4)) by omega]
  exact hfin
set_option maxHeartbeats 8000000 in
set_option maxRecDepth 100000 in
theorem blockHeader_calls (g C t n c : Nat) (xs zs : List Int) (m : Int) (a0 a1 a2 a3 : Int) (w : World) (hF : Front w g C t .u8 (xs ++ zs)) (hm0 : -9223372036854775808 ≤ m) (hm1 : m ≤ 9223372036854775807) (hn : 20 ≤ n) (hnc : n ≤ c) (hc9 : c ≤ 9223372036854775807) (hz : 20 ≤ zs.length) :
    Calls Try.prog 82 #[.slice (some ⟨g, xs.length, none⟩) n c, .int .i64 m, .agg #[.int .u8 a0, .int .u8 a1, .int .u8 a2, .int .u8 a3]] w fun e w' => e = .returned (.int .i64 ((varL (zz m) ++ [a0, a1, a2, a3]).length : Int)) ∧ Front w' g C t .u8 (xs ++ (varL (zz m) ++ [a0, a1, a2, a3]) ++ zs.drop (varL (zz m) ++ [a0, a1, a2, a3]).length) ∧ w.grownBy w' (some g) := by
  have b1 := varL_len10 (zz m) (zz_lt m hm0 hm1)
  have hgl := hF.lt
  have HFA : Aside0 (Front (w.alloc (.cells #[.int .u8 a0, .int .u8 a1, .int .u8 a2, .int .u8 a3] 98)) g C t .u8 (xs ++ zs)) := ⟨hF.below ((Below.refl w.heap.size w).alloc (Nat.le_refl _) _) hgl⟩
  have HRA : Aside0 (Row (w.alloc (.cells #[.int .u8 a0, .int .u8 a1, .int .u8 a2, .int .u8 a3] 98)) w.heap.size 98 .u8 [a0, a1, a2, a3]) := ⟨⟨Blk.new _ _ _⟩⟩
  have HGA : Aside0 (w.grownBy (w.alloc (.cells #[.int .u8 a0, .int .u8 a1, .int .u8 a2, .int .u8 a3] 98)) (some g)) := ⟨World.grownBy_alloc _ _ _⟩
  have HPV := Aside0.mk (putVarintR_calls g C t n c xs zs m _ HFA.out hm0 hm1 (by omega) (by omega))
  obtain ⟨o, ho⟩ : ∃ o, xs.length = o := ⟨_, rfl⟩
  have HO := Aside0.mk ho
  obtain ⟨v, hv⟩ : ∃ v, varL (zz m) = v := ⟨_, rfl⟩
  rw [hv] at b1 HPV ⊢
  obtain ⟨L, hL⟩ : ∃ L, v.length = L := ⟨_, rfl⟩
  have HL := Aside0.mk hL
  rw [hL] at b1 HPV
  rw [ho] at HPV ⊢
  have HNG : Aside0 (w.heap.size ≠ g) := ⟨by omega⟩
  obtain ⟨i8, h8⟩ := h8
  have cut1 := cutFromO (P := Try.prog) 23 5 Try.underlying23 h8.1 h8.2 g o n c L (by omega) hnc (by omega)
  have hsz4 : w.heap.size < (w.alloc (.cells #[.int .u8 a0, .int .u8 a1, .int .u8 a2, .int .u8 a3] 98)).heap.size := by simp
  clear hF ho hv hL
  go_enter Try.func82, Try.ntmps82
  go_wp2_with (first
    | (go_at_call 98; go_loud (with_reducible refine HPV.out.mono ?_); rintro e w1 ⟨rfl, hf, hg⟩; have HF1 := Aside0.mk hf; have HR1 : Aside0 (Row w1 w.heap.size 98 .u8 [a0, a1, a2, a3]) := ⟨HRA.out.grown hg (fun e => by injection e with e; exact HNG.out e)⟩; have HG1 := Aside0.mk (HGA.out.trans hg); clear hf hg))
  have hCs := rowC (HR1.out.drewN 1) (show [a0, a1, a2, a3].length = 4 from rfl) (by omega)
  obtain ⟨ad, ead, hsrc⟩ := copySrc hCs (by simp)
  injection ead with ead
  subst ead
  have HSRC := Aside0.mk hsrc
  have HF1d := Aside0.mk (HF1.out.drewN 1)
  have HG1d := Aside0.mk (grownDrewN HG1.out 1)
  have hnL : Nat.min 4 (n - L) = 4 := Nat.min_eq_left (by omega)
  have hyz : 4 ≤ (zs.drop L).length := by rw [List.length_drop]; omega
  clear hsrc hCs
  go_region_held3 (fun (w9 : World) => True) (trivial)
    ((first
      | (go_loud (refine copyFrontStep (by rfl) (.tmp 15) (.tmp 16) 23 23 (by rfl) 5 Try.underlying23 ?h1 g (n - L) (c - L) ⟨w.heap.size, 0, none⟩ 4 4 (xs ++ v) [a0, a1, a2, a3] (zs.drop L) ?hd (by rfl) t C .u8 HF1d.out ?hn HSRC.out ?hy ?_); (case h1 => kernel_rfl); (case hd => rw [List.length_append, HO.out, HL.out]; rfl); (case hn => exact hnL.symm); (case hy => exact hyz); intro w2 hf hg; have HF2 := Aside0.mk hf; have HG2 := Aside0.mk (HG1d.out.trans hg); clear hf hg)
      | fail "no arm"))
  go_wp2_with (fail)
  go_ret
  have hlen : (v ++ [a0, a1, a2, a3]).length = L + 4 := by rw [List.length_append, HL.out]; rfl
  have hLw : IntKind.i64.wrap ((L : Int) + 4) = ((L + 4 : Nat) : Int) := by
    rw [show ((L : Int) + 4) = ((L + 4 : Nat) : Int) by omega]; exact IntWalk.i64_in _ (by omega)
  refine ⟨by rw [hlen]; exact congrArg (fun z => Ending.returned (Value.int IntKind.i64 z)) hLw, ?_, HG2.out⟩
  have h := HF2.out
  rw [List.drop_drop, show [a0, a1, a2, a3].length = 4 from rfl] at h
  rw [hlen, ← List.append_assoc]
  exact h
end Go.Proofs.Ytigmcdpjlkgocaa.Dhd

/-! Words that stand in packed bits. -/
namespace Go.Proofs.Ytigmcdpjlkgocaa.Dmp
open Go.Proofs.Ytigmcdpjlkgocaa.Dhd Go.Proofs.Ytigmcdpjlkgocaa.Dgr Go.Proofs.Ytigmcdpjlkgocaa.Dpu Go.Proofs.Ytigmcdpjlkgocaa.Pak Go.Proofs.Ytigmcdpjlkgocaa.Buf Go.Proofs.Ytigmcdpjlkgocaa.Fit Go.Proofs.Ytigmcdpjlkgocaa.Bit Go.Proofs.Ytigmcdpjlkgocaa.Wrd Go.Proofs.Ytigmcdpjlkgocaa.Spl Go.Proofs.Ytigmcdpjlkgocaa.Str Go.Proofs.Ytigmcdpjlkgocaa.Flt Go.Proofs.Ytigmcdpjlkgocaa.Owe Go.Proofs.Ytigmcdpjlkgocaa.Num Go.Proofs.Ytigmcdpjlkgocaa.Le Go.Proofs.Ytigmcdpjlkgocaa.Lst Go.Proofs.Ytigmcdpjlkgocaa.Aid Go.RowKit Go.Proofs.YtigmcdpjlkgocaaW.PrintWords Go.Proofs.YtigmcdpjlkgocaaW.PrintLast Go.Proofs.YtigmcdpjlkgocaaW.PrintMore
set_option linter.unusedVariables false
set_option linter.unusedSimpArgs false
theorem hstep (a r p : Nat) (ha : a < 256) : (a + 256 * r).testBit p = if p < 8 then a.testBit p else r.testBit (p - 8) := by
  have := Nat.testBit_two_pow_mul_add (i := 8) r (b := a) ha p
  rw [show 2 ^ 8 * r + a = a + 256 * r by omega] at this
  exact this
theorem le8_bit (a0 a1 a2 a3 a4 a5 a6 a7 p : Nat) (h0 : a0 < 256) (h1 : a1 < 256) (h2 : a2 < 256) (h3 : a3 < 256) (h4 : a4 < 256) (h5 : a5 < 256) (h6 : a6 < 256) (h7 : a7 < 256) (hp : p < 64) :
    (le8 (a0 : Int) a1 a2 a3 a4 a5 a6 a7).toNat.testBit p = ([a0, a1, a2, a3, a4, a5, a6, a7].getD (p / 8) 0).testBit (p % 8) := by
  have e : (le8 (a0 : Int) a1 a2 a3 a4 a5 a6 a7).toNat = a0 + 256 * (a1 + 256 * (a2 + 256 * (a3 + 256 * (a4 + 256 * (a5 + 256 * (a6 + 256 * (a7 + 256 * 0))))))) := by
    unfold le8 le4; omega
  rw [e, hstep _ _ _ h0, hstep _ _ _ h1, hstep _ _ _ h2, hstep _ _ _ h3, hstep _ _ _ h4, hstep _ _ _ h5, hstep _ _ _ h6, hstep _ _ _ h7]
  rcases (show p / 8 = 0 ∨ p / 8 = 1 ∨ p / 8 = 2 ∨ p / 8 = 3 ∨ p / 8 = 4 ∨ p / 8 = 5 ∨ p / 8 = 6 ∨ p / 8 = 7 by omega) with h | h | h | h | h | h | h | h
  · rw [h, if_pos (by omega), show p % 8 = p by omega]; rfl
  · rw [h, if_neg (by omega), if_pos (by omega), show p % 8 = p - 8 by omega]; rfl
  · rw [h, if_neg (by omega), if_neg (by omega), if_pos (by omega), show p % 8 = p - 8 - 8 by omega]; rfl
  · rw [h, if_neg (by omega), if_neg (by omega), if_neg (by omega), if_pos (by omega), show p % 8 = p - 8 - 8 - 8 by omega]; rfl
  · rw [h, if_neg (by omega), if_neg (by omega), if_neg (by omega), if_neg (by omega), if_pos (by omega), show p % 8 = p - 8 - 8 - 8 - 8 by omega]; rfl
  · rw [h, if_neg (by omega), if_neg (by omega), if_neg (by omega), if_neg (by omega), if_neg (by omega), if_pos (by omega), show p % 8 = p - 8 - 8 - 8 - 8 - 8 by omega]; rfl
  · rw [h, if_neg (by omega), if_neg (by omega), if_neg (by omega), if_neg (by omega), if_neg (by omega), if_neg (by omega), if_pos (by omega), show p % 8 = p - 8 - 8 - 8 - 8 - 8 - 8 by omega]; rfl
  · rw [h, if_neg (by omega), if_neg (by omega), if_neg (by omega), if_neg (by omega), if_neg (by omega), if_neg (by omega), if_neg (by omega), if_pos (by omega), show p % 8 = p - 8 - 8 - 8 - 8 - 8 - 8 - 8 by omega]; rfl
theorem byteN (bs : List Int) (hb : bytesB bs = true) (i : Nat) : ∃ a : Nat, rd bs (i : Nat) = (a : Int) ∧ a < 256 := by
  by_cases h : i < bs.length
  · have := bytesB_mem hb _ (rd_mem (l := bs) (i := i) h)
    unfold byt at this
    exact ⟨(rd bs (i : Nat)).toNat, by omega, by omega⟩
  · refine ⟨0, ?_, by omega⟩
    unfold rd
    rw [Int.toNat_natCast, List.getD_eq_getElem?_getD, List.getElem?_eq_none (by omega)]; rfl
theorem wd8_bit (bs : List Int) (hb : bytesB bs = true) (j p : Nat) (hp : p < 64) : (wd8 bs j).toNat.testBit p = (rd bs (8 * j + p / 8 : Nat)).toNat.testBit (p % 8) := by
  obtain ⟨a0, e0, l0⟩ := byteN bs hb (8 * j)
  obtain ⟨a1, e1, l1⟩ := byteN bs hb (8 * j + 1)
  obtain ⟨a2, e2, l2⟩ := byteN bs hb (8 * j + 2)
  obtain ⟨a3, e3, l3⟩ := byteN bs hb (8 * j + 3)
  obtain ⟨a4, e4, l4⟩ := byteN bs hb (8 * j + 4)
  obtain ⟨a5, e5, l5⟩ := byteN bs hb (8 * j + 5)
  obtain ⟨a6, e6, l6⟩ := byteN bs hb (8 * j + 6)
  obtain ⟨a7, e7, l7⟩ := byteN bs hb (8 * j + 7)
  rw [wd8_rd, e0, e1, e2, e3, e4, e5, e6, e7, le8_bit a0 a1 a2 a3 a4 a5 a6 a7 p l0 l1 l2 l3 l4 l5 l6 l7 hp]
  rcases (show p / 8 = 0 ∨ p / 8 = 1 ∨ p / 8 = 2 ∨ p / 8 = 3 ∨ p / 8 = 4 ∨ p / 8 = 5 ∨ p / 8 = 6 ∨ p / 8 = 7 by omega) with h | h | h | h | h | h | h | h <;> rw [h]
  · rw [Nat.add_zero, e0]; rfl
  · rw [e1]; rfl
  · rw [e2]; rfl
  · rw [e3]; rfl
  · rw [e4]; rfl
  · rw [e5]; rfl
  · rw [e6]; rfl
  · rw [e7]; rfl
theorem wd8_u64 (bs : List Int) (hb : bytesB bs = true) (j : Nat) : 0 ≤ wd8 bs j ∧ wd8 bs j < 18446744073709551616 := by
  obtain ⟨a0, e0, l0⟩ := byteN bs hb (8 * j)
  obtain ⟨a1, e1, l1⟩ := byteN bs hb (8 * j + 1)
  obtain ⟨a2, e2, l2⟩ := byteN bs hb (8 * j + 2)
  obtain ⟨a3, e3, l3⟩ := byteN bs hb (8 * j + 3)
  obtain ⟨a4, e4, l4⟩ := byteN bs hb (8 * j + 4)
  obtain ⟨a5, e5, l5⟩ := byteN bs hb (8 * j + 5)
  obtain ⟨a6, e6, l6⟩ := byteN bs hb (8 * j + 6)
  obtain ⟨a7, e7, l7⟩ := byteN bs hb (8 * j + 7)
  rw [wd8_rd, e0, e1, e2, e3, e4, e5, e6, e7]
  unfold le8 le4
  omega

theorem le4_bit (a0 a1 a2 a3 p : Nat) (h0 : a0 < 256) (h1 : a1 < 256) (h2 : a2 < 256) (h3 : a3 < 256) (hp : p < 32) :
    (le4 (a0 : Int) a1 a2 a3).toNat.testBit p = ([a0, a1, a2, a3].getD (p / 8) 0).testBit (p % 8) := by
  have e : (le4 (a0 : Int) a1 a2 a3).toNat = a0 + 256 * (a1 + 256 * (a2 + 256 * (a3 + 256 * 0))) := by
    unfold le4; omega
  rw [e, hstep _ _ _ h0, hstep _ _ _ h1, hstep _ _ _ h2, hstep _ _ _ h3]
  rcases (show p / 8 = 0 ∨ p / 8 = 1 ∨ p / 8 = 2 ∨ p / 8 = 3 by omega) with h | h | h | h
  · rw [h, if_pos (by omega), show p % 8 = p by omega]; rfl
  · rw [h, if_neg (by omega), if_pos (by omega), show p % 8 = p - 8 by omega]; rfl
  · rw [h, if_neg (by omega), if_neg (by omega), if_pos (by omega), show p % 8 = p - 8 - 8 by omega]; rfl
  · rw [h, if_neg (by omega), if_neg (by omega), if_neg (by omega), if_pos (by omega), show p % 8 = p - 8 - 8 - 8 by omega]; rfl
def wd4 (bs : List Int) (j : Nat) : Int := le4L (bs.drop (4 * j))
theorem wd4_rd (bs : List Int) (j : Nat) : wd4 bs j = le4 (rd bs (4 * j : Nat)) (rd bs (4 * j + 1 : Nat)) (rd bs (4 * j + 2 : Nat)) (rd bs (4 * j + 3 : Nat)) := by
  unfold wd4 le4L
  have h0 := rd_drop bs (4 * j) 0
  have h1 := rd_drop bs (4 * j) 1
  have h2 := rd_drop bs (4 * j) 2
  have h3 := rd_drop bs (4 * j) 3
  rw [Nat.add_zero] at h0
  unfold le4
  first
    | (rw [← h0, ← h1, ← h2, ← h3]; rfl)
    | (simp only [← h0, ← h1, ← h2, ← h3]; rfl)
theorem wd4_bit (bs : List Int) (hb : bytesB bs = true) (j p : Nat) (hp : p < 32) : (wd4 bs j).toNat.testBit p = (rd bs (4 * j + p / 8 : Nat)).toNat.testBit (p % 8) := by
  obtain ⟨a0, e0, l0⟩ := byteN bs hb (4 * j)
  obtain ⟨a1, e1, l1⟩ := byteN bs hb (4 * j + 1)
  obtain ⟨a2, e2, l2⟩ := byteN bs hb (4 * j + 2)
  obtain ⟨a3, e3, l3⟩ := byteN bs hb (4 * j + 3)
  rw [wd4_rd, e0, e1, e2, e3, le4_bit a0 a1 a2 a3 p l0 l1 l2 l3 hp]
  rcases (show p / 8 = 0 ∨ p / 8 = 1 ∨ p / 8 = 2 ∨ p / 8 = 3 by omega) with h | h | h | h <;> rw [h]
  · rw [Nat.add_zero, e0]; rfl
  · rw [e1]; rfl
  · rw [e2]; rfl
  · rw [e3]; rfl
theorem wd4_u32 (bs : List Int) (hb : bytesB bs = true) (j : Nat) : 0 ≤ wd4 bs j ∧ wd4 bs j < 4294967296 := by
  obtain ⟨a0, e0, l0⟩ := byteN bs hb (4 * j)
  obtain ⟨a1, e1, l1⟩ := byteN bs hb (4 * j + 1)
  obtain ⟨a2, e2, l2⟩ := byteN bs hb (4 * j + 2)
  obtain ⟨a3, e3, l3⟩ := byteN bs hb (4 * j + 3)
  rw [wd4_rd, e0, e1, e2, e3]
  unfold le4; omega
theorem bytesLo_B (f : Nat → Bool) (M : Nat) : bytesB (bytesLo f M) = true := bytesB_of fun x hx => by
  unfold bytesLo at hx
  obtain ⟨q, _, rfl⟩ := List.mem_map.1 hx
  have := byteLo_lt f q
  exact ⟨by omega, by omega⟩
/-- a word in packed bits -/
theorem wd8_bits (f : Nat → Bool) (M i : Nat) (h : 8 * i + 8 ≤ M) : wd8 (bytesLo f M) i = ((bitsN (fun q => f (64 * i + q)) 64 : Nat) : Int) := by
  have hu := wd8_u64 _ (bytesLo_B f M) i
  have e : (wd8 (bytesLo f M) i).toNat = bitsN (fun q => f (64 * i + q)) 64 := by
    refine eq_bitsN (by omega) fun q hq => ?_
    rw [wd8_bit _ (bytesLo_B f M) i q hq, rd_bytesLo _ _ _ (by omega), Int.toNat_natCast, byteLo_bit _ _ _ (by omega)]
    congr 1; omega
  omega
theorem wd4_bits (f : Nat → Bool) (M i : Nat) (h : 4 * i + 4 ≤ M) : wd4 (bytesLo f M) i = ((bitsN (fun q => f (32 * i + q)) 32 : Nat) : Int) := by
  have hu := wd4_u32 _ (bytesLo_B f M) i
  have e : (wd4 (bytesLo f M) i).toNat = bitsN (fun q => f (32 * i + q)) 32 := by
    refine eq_bitsN (by omega) fun q hq => ?_
    rw [wd4_bit _ (bytesLo_B f M) i q hq, rd_bytesLo _ _ _ (by omega), Int.toNat_natCast, byteLo_bit _ _ _ (by omega)]
    congr 1; omega
  omega
/-- the bytes of a word of so many bits -/
theorem lowN_bits (nb : Nat) (g : Nat → Bool) : lowL nb ((bitsN g (8 * nb) : Nat) : Int) = bytesLo g nb := by
  unfold lowL bytesLo
  refine List.map_congr_left fun i hi => ?_
  rw [List.mem_range] at hi
  have e : ∀ v : Nat, (v : Int) / 256 ^ i % 256 = ((v / 2 ^ (8 * i) % 2 ^ 8 : Nat) : Int) := fun v => by
    rw [Nat.pow_mul, show (2 : Nat) ^ 8 = 256 by decide]
    first
      | (simp only [Int.natCast_emod, Int.natCast_ediv, Int.natCast_pow]; rfl)
      | (rw [Int.natCast_emod, Int.natCast_ediv, Int.natCast_pow]; rfl)
      | norm_cast
  rw [e]
  congr 1
  refine eq_bitsN (Nat.mod_lt _ (by decide)) fun q hq => ?_
  rw [Nat.testBit_mod_two_pow, Nat.testBit_div_two_pow, bitsN_testBit]
  simp [hq, show 8 * i + q < 8 * nb by omega, Nat.add_comm q]
/-- bits of which a word has been written -/
def putF (nb A : Nat) (f g : Nat → Bool) (p : Nat) : Bool := if 8 * A ≤ p ∧ p < 8 * A + 8 * nb then g (p - 8 * A) else f p
theorem bytesLo_put (nb A : Nat) (f g : Nat → Bool) (M : Nat) (h : A + nb ≤ M) : (bytesLo f M).take (A) ++ bytesLo g nb ++ (bytesLo f M).drop (A + nb) = bytesLo (putF nb A f g) M := by
  apply rd_ext
  · rw [List.length_append, List.length_append, List.length_take, List.length_drop, bytesLo_length, bytesLo_length, bytesLo_length]; omega
  · intro j hj
    rw [List.length_append, List.length_append, List.length_take, List.length_drop, bytesLo_length, bytesLo_length] at hj
    have hjM : j < M := by omega
    have htl : ((bytesLo f M).take (A)).length = A := by rw [List.length_take, bytesLo_length]; omega
    rw [rd_bytesLo _ _ _ hjM, rd_append, List.length_append, htl, bytesLo_length]
    by_cases c1 : j < A
    · rw [if_pos (by omega), rd_append, htl, if_pos c1]
      have : rd ((bytesLo f M).take (A)) (j : Nat) = rd (bytesLo f M) (j : Nat) := by
        unfold rd
        rw [Int.toNat_natCast, List.getD_eq_getElem?_getD, List.getD_eq_getElem?_getD, List.getElem?_take, if_pos c1]
      rw [this, rd_bytesLo _ _ _ hjM]
      congr 1
      unfold byteLo
      refine bitsN_congr fun q hq => ?_
      unfold putF
      rw [if_neg (by omega)]
    · by_cases c2 : j < A + nb
      · have hjA : j - A < nb := by omega
        rw [if_pos c2, rd_append, htl, if_neg c1, rd_bytesLo g nb (j - A) hjA]
        have eb : byteLo g (j - A) = byteLo (putF nb A f g) j := by
          unfold byteLo
          refine bitsN_congr fun q hq => ?_
          unfold putF
          rw [if_pos (by omega), show 8 * j + q - 8 * A = 8 * (j - A) + q by omega]
        rw [eb]
      · rw [if_neg c2, rd_drop, show A + nb + (j - (A + nb)) = j by omega, rd_bytesLo _ _ _ hjM]
        have eb : byteLo f j = byteLo (putF nb A f g) j := by
          unfold byteLo
          refine bitsN_congr fun q hq => ?_
          unfold putF
          rw [if_neg (by omega)]
        rw [eb]
end Go.Proofs.Ytigmcdpjlkgocaa.Dmp

/-! Parts of blocks of differences, packed. -/
namespace Go.Proofs.Ytigmcdpjlkgocaa.Dmb
open Go.Proofs.Ytigmcdpjlkgocaa.Dmp Go.Proofs.Ytigmcdpjlkgocaa.Dhd Go.Proofs.Ytigmcdpjlkgocaa.Dgr Go.Proofs.Ytigmcdpjlkgocaa.Dpu Go.Proofs.Ytigmcdpjlkgocaa.Pak Go.Proofs.Ytigmcdpjlkgocaa.Buf Go.Proofs.Ytigmcdpjlkgocaa.Fit Go.Proofs.Ytigmcdpjlkgocaa.Bit Go.Proofs.Ytigmcdpjlkgocaa.Wrd Go.Proofs.Ytigmcdpjlkgocaa.Spl Go.Proofs.Ytigmcdpjlkgocaa.Str Go.Proofs.Ytigmcdpjlkgocaa.Flt Go.Proofs.Ytigmcdpjlkgocaa.Owe Go.Proofs.Ytigmcdpjlkgocaa.Num Go.Proofs.Ytigmcdpjlkgocaa.Le Go.Proofs.Ytigmcdpjlkgocaa.Lst Go.Proofs.Ytigmcdpjlkgocaa.Aid Go.RowKit Go.Proofs.YtigmcdpjlkgocaaW.PrintWords Go.Proofs.YtigmcdpjlkgocaaW.PrintLast Go.Proofs.YtigmcdpjlkgocaaW.PrintMore
set_option linter.unusedVariables false
set_option linter.unusedSimpArgs false
set_option maxHeartbeats 4000000 in
theorem put4F_calls (g C t n c : Nat) (xs zs : List Int) (v : Int) (w : World) (hF : Front w g C t .u8 (xs ++ zs)) (hn : 4 ≤ n) (hz : 4 ≤ zs.length) (hv0 : 0 ≤ v) (hv1 : v < 4294967296) :
    Calls Try.prog 104 #[.slice (some ⟨g, xs.length, none⟩) n c, .int .u32 v] w fun e w' => e = .returned (.tuple #[]) ∧ Front w' g C t .u8 (xs ++ lowL 4 v ++ zs.drop 4) ∧ w.grownBy w' (some g) := by
  have HF := Aside0.mk hF
  have hle := hF.le
  rw [List.length_append] at hle
  obtain ⟨o, ho⟩ : ∃ o, xs.length = o := ⟨_, rfl⟩
  have HO := Aside0.mk ho
  rw [ho] at hle ⊢
  obtain ⟨z0, x0⟩ := hF.cell o (by omega)
  obtain ⟨z1, x1⟩ := hF.cell (o + 1) (by omega)
  obtain ⟨z2, x2⟩ := hF.cell (o + 2) (by omega)
  have x3 := hF.at' (o + 3) (by rw [List.length_append]; omega)
  obtain ⟨z3, hz3⟩ : ∃ z, rd (xs ++ zs) ((o + 3 : Nat) : Int) = z := ⟨_, rfl⟩
  rw [hz3] at x3
  have f0 := hF.free o
  have f1 := hF.free (o + 1)
  have f2 := hF.free (o + 2)
  have f3 := hF.free (o + 3)
  have i0 : decide (0 < n) = true := decide_eq_true (by omega)
  have i1 : decide (1 < n) = true := decide_eq_true (by omega)
  have i2 : decide (2 < n) = true := decide_eq_true (by omega)
  have i3 : decide (3 < n) = true := decide_eq_true (by omega)
  clear hF ho hz3
  go_enter Try.func104, Try.ntmps104
  go_wp2
  go_end0
  refine ⟨rfl, ?_, grownSet (grownSet (grownSet (grownSet (grownRefl w _) o _) (o + 1) _) (o + 2) _) (o + 3) _⟩
  have hl0 : ∀ pre : List Int, pre.length ≤ 4 → (xs ++ pre ++ zs.drop pre.length).length = o + zs.length := fun pre hp => by rw [List.length_append, List.length_append, List.length_drop, HO.out]; omega
  have h0 : Front w g C t .u8 (xs ++ [] ++ zs.drop 0) := by simpa using HF.out
  have h1 := setF h0 o (by have := hl0 [] (by simp); simp at this ⊢; omega) (v % 256)
  rw [show o = o + 0 from rfl, setMid xs [] zs _ o 0 HO.out rfl (by omega)] at h1
  have h2 := setF h1 (o + 1) (by have := hl0 [v % 256] (by simp); simp at this ⊢; omega) (v / 256 % 256)
  rw [setMid xs _ zs _ o 1 HO.out rfl (by omega)] at h2
  have h3 := setF h2 (o + 2) (by have := hl0 [v % 256, v / 256 % 256] (by simp); simp at this ⊢; omega) (v / 65536 % 256)
  rw [setMid xs _ zs _ o 2 HO.out rfl (by omega)] at h3
  have h4 := setF h3 (o + 3) (by have := hl0 [v % 256, v / 256 % 256, v / 65536 % 256] (by simp); simp at this ⊢; omega) (v / 16777216 % 256)
  rw [setMid xs _ zs _ o 3 HO.out rfl (by omega)] at h4
  have e : [] ++ [v % 256] ++ [v / 256 % 256] ++ [v / 65536 % 256] ++ [v / 16777216 % 256] = lowL 4 v := by simp [lowL, List.range_succ]
  rw [e] at h4
  first
    | exact h4
    | (have e2 : v / 16777216 % 256 = v / 16777216 := by omega
       rw [e2] at h4
       exact h4)
theorem lowL_4_4 (v : Int) : lowL 4 (v % 4294967296) ++ lowL 4 (v / 4294967296) = lowL 8 v := by
  simp [lowL, List.range_succ]
  omega
set_option maxHeartbeats 4000000 in
theorem put8F_calls (g C t n c : Nat) (xs zs : List Int) (v : Int) (w : World) (hF : Front w g C t .u8 (xs ++ zs)) (hn : 8 ≤ n) (hz : 8 ≤ zs.length) (hc : 8 ≤ c) (hnc : n ≤ c) (hv0 : 0 ≤ v) (hv1 : v < 18446744073709551616) :
    Calls Try.prog 101 #[.slice (some ⟨g, xs.length, none⟩) n c, .int .u64 v] w fun e w' => e = .returned (.tuple #[]) ∧ Front w' g C t .u8 (xs ++ lowL 8 v ++ zs.drop 8) ∧ w.grownBy w' (some g) := by
  have HF := Aside0.mk hF
  have hle := hF.le
  rw [List.length_append] at hle
  have F1 := Aside0.mk (put4F_calls g C t n c xs zs (v % 4294967296) w hF (by omega) (by omega) (by omega) (by omega))
  have F2 : Aside0 (∀ W, Front W g C t .u8 (xs ++ lowL 4 (v % 4294967296) ++ zs.drop 4) → Calls Try.prog 104 #[.slice (some ⟨g, xs.length + 4, none⟩) (n - 4) (c - 4), .int .u32 (v / 4294967296)] W fun e w' => e = .returned (.tuple #[]) ∧ Front w' g C t .u8 (xs ++ lowL 8 v ++ zs.drop 8) ∧ W.grownBy w' (some g)) := ⟨fun W hW => by
    have := put4F_calls g C t (n - 4) (c - 4) (xs ++ lowL 4 (v % 4294967296)) (zs.drop 4) (v / 4294967296) W hW (by omega) (by rw [List.length_drop]; omega) (by omega) (by omega)
    rw [List.length_append, lowL_length, List.append_assoc xs, lowL_4_4, List.drop_drop] at this
    exact this⟩
  obtain ⟨o, ho⟩ : ∃ o, xs.length = o := ⟨_, rfl⟩
  rw [ho] at hle F1 F2 ⊢
  have x7 := hF.at' (o + 7) (by rw [List.length_append]; omega)
  obtain ⟨z7, hz7⟩ : ∃ z, rd (xs ++ zs) ((o + 7 : Nat) : Int) = z := ⟨_, rfl⟩
  rw [hz7] at x7
  have i7 : decide (7 < n) = true := decide_eq_true (by omega)
  obtain ⟨i8, h8⟩ := h8
  clear hF ho hz7
  go_enter Try.func101, Try.ntmps101
  go_wp2_with (go_at_call 104; (first
    | ((with_reducible refine F1.out.mono ?_); rintro e w2 ⟨rfl, hf, hg⟩; have HF2 := Aside0.mk hf; have HG2 := Aside0.mk hg; clear hf hg)
    | ((with_reducible refine (F2.out _ HF2.out).mono ?_); rintro e w3 ⟨rfl, hf, hg⟩; have HF3 := Aside0.mk hf; have HG3 := Aside0.mk hg; clear hf hg)))
  go_end0
  exact ⟨rfl, HF3.out, HG2.out.trans HG3.out⟩
end Go.Proofs.Ytigmcdpjlkgocaa.Dmb

/-! Parts of blocks of differences, packed: what a step does to the bits. -/
namespace Go.Proofs.Ytigmcdpjlkgocaa.Dml
open Go.Proofs.Ytigmcdpjlkgocaa.Dmb Go.Proofs.Ytigmcdpjlkgocaa.Dmp Go.Proofs.Ytigmcdpjlkgocaa.Dhd Go.Proofs.Ytigmcdpjlkgocaa.Dgr Go.Proofs.Ytigmcdpjlkgocaa.Dpu Go.Proofs.Ytigmcdpjlkgocaa.Pak Go.Proofs.Ytigmcdpjlkgocaa.Buf Go.Proofs.Ytigmcdpjlkgocaa.Fit Go.Proofs.Ytigmcdpjlkgocaa.Bit Go.Proofs.Ytigmcdpjlkgocaa.Wrd Go.Proofs.Ytigmcdpjlkgocaa.Spl Go.Proofs.Ytigmcdpjlkgocaa.Str Go.Proofs.Ytigmcdpjlkgocaa.Flt Go.Proofs.Ytigmcdpjlkgocaa.Owe Go.Proofs.Ytigmcdpjlkgocaa.Num Go.Proofs.Ytigmcdpjlkgocaa.Le Go.Proofs.Ytigmcdpjlkgocaa.Lst Go.Proofs.Ytigmcdpjlkgocaa.Aid Go.RowKit Go.Proofs.YtigmcdpjlkgocaaW.PrintWords Go.Proofs.YtigmcdpjlkgocaaW.PrintLast Go.Proofs.YtigmcdpjlkgocaaW.PrintMore
set_option linter.unusedVariables false
set_option linter.unusedSimpArgs false
/-- the word that holds the number's low bits -/
theorem lo_step (F : Nat → Bool) (W B b s j v : Nat) (hB : B = s + j) (hj : j < W) (hv : v < 2 ^ b) (hF : ∀ r, r < b → F (B + r) = v.testBit r) :
    bitsN (fun q => upTo F B (s + q)) W ||| (v * 2 ^ j % 2 ^ W) = bitsN (fun q => upTo F (B + b) (s + q)) W := by
  refine eq_bitsN (Nat.or_lt_two_pow (bitsN_lt _ _) (Nat.mod_lt _ (Nat.two_pow_pos W))) fun q hq => ?_
  rw [Nat.testBit_or, bitsN_testBit, Nat.testBit_mod_two_pow, Nat.testBit_mul_two_pow]
  unfold upTo
  by_cases c : j ≤ q
  · by_cases c2 : q - j < b
    · have := hF (q - j) c2
      rw [show B + (q - j) = s + q by omega] at this
      simp [hq, c, show ¬ s + q < B by omega, show s + q < B + b by omega, this]
    · have := bit_high hv (show b ≤ q - j by omega)
      simp [hq, c, show ¬ s + q < B by omega, show ¬ s + q < B + b by omega, this]
  · simp [hq, c, show s + q < B by omega, show s + q < B + b by omega]
/-- the word that holds what is left of it -/
theorem hi_step (F : Nat → Bool) (W B b s j v : Nat) (hB : B = s + j) (hj : j < W) (hv : v < 2 ^ b) (hb : b ≤ W) (hF : ∀ r, r < b → F (B + r) = v.testBit r) :
    bitsN (fun q => upTo F B (s + W + q)) W ||| (v / 2 ^ (W - j)) = bitsN (fun q => upTo F (B + b) (s + W + q)) W := by
  have hvW : v / 2 ^ (W - j) < 2 ^ W := by
    have h1 : v / 2 ^ (W - j) ≤ v := Nat.div_le_self _ _
    have h2 : 2 ^ b ≤ 2 ^ W := two_pow_le hb
    omega
  refine eq_bitsN (Nat.or_lt_two_pow (bitsN_lt _ _) hvW) fun q hq => ?_
  rw [Nat.testBit_or, bitsN_testBit, Nat.testBit_div_two_pow]
  unfold upTo
  by_cases c2 : q + (W - j) < b
  · have := hF (q + (W - j)) c2
    rw [show B + (q + (W - j)) = s + W + q by omega] at this
    simp [hq, show ¬ s + W + q < B by omega, show s + W + q < B + b by omega, this]
  · have := bit_high hv (show b ≤ q + (W - j) by omega)
    simp [hq, show ¬ s + W + q < B by omega, show ¬ s + W + q < B + b by omega, this]
/-- both words put back -/
theorem two_puts (F : Nat → Bool) (nb B b A j M : Nat) (hB : B = 8 * A + j) (hj : j < 8 * nb) (hb : b ≤ 8 * nb) :
    bytesLo (putF nb (A + nb) (putF nb A (upTo F B) (fun q => upTo F (B + b) (8 * A + q))) (fun q => upTo F (B + b) (8 * A + 8 * nb + q))) M = bytesLo (upTo F (B + b)) M := by
  have e : putF nb (A + nb) (putF nb A (upTo F B) (fun q => upTo F (B + b) (8 * A + q))) (fun q => upTo F (B + b) (8 * A + 8 * nb + q)) = upTo F (B + b) := by
    funext p
    unfold putF
    by_cases c1 : 8 * (A + nb) ≤ p ∧ p < 8 * (A + nb) + 8 * nb
    · rw [if_pos c1]
      show upTo F (B + b) (8 * A + 8 * nb + (p - 8 * (A + nb))) = _
      rw [show 8 * A + 8 * nb + (p - 8 * (A + nb)) = p by omega]
    · rw [if_neg c1]
      by_cases c2 : 8 * A ≤ p ∧ p < 8 * A + 8 * nb
      · rw [if_pos c2]
        show upTo F (B + b) (8 * A + (p - 8 * A)) = _
        rw [show 8 * A + (p - 8 * A) = p by omega]
      · rw [if_neg c2]
        unfold upTo
        by_cases c3 : p < B
        · simp [c3, show p < B + b by omega]
        · simp [c3, show ¬ p < B + b by omega]
  rw [e]
/-- numbers as ones of so many bits without a sign -/
def unsI (M : Int) (l : List Int) : List Int := l.map (· % M)
theorem unsI_length (M : Int) (l : List Int) : (unsI M l).length = l.length := by simp [unsI]
theorem rd_unsI (M : Int) (l : List Int) (k : Nat) (h : k < l.length) : rd (unsI M l) (k : Nat) = rd l (k : Nat) % M := by
  rw [rd_nat _ _ (by rw [unsI_length]; exact h), rd_nat _ _ h]; simp [unsI]
theorem bitsLo_word (b : Nat) (l : List Int) (k v r : Nat) (hr : r < b) (hv : rd l (k : Nat) = (v : Int)) : bitsLo b l (k * b + r) = v.testBit r :=
  bitsLo_at b l k r _ v hr rfl hv
/-- a slice's bytes behind a front -/
theorem frontC {w : World} {g C t : Nat} {k : IntKind} {xs zs : List Int} (h : Front w g C t k (xs ++ zs)) (hC : C ≤ 9223372036854775807) (a : Nat) (ha : a < zs.length) : (Kd.int k).C w (some ⟨g, xs.length + a, none⟩) (zs.length - a) (zs.drop a) := by
  have hle := h.le
  rw [List.length_append] at hle
  refine ⟨by rw [List.length_drop], by omega, fun _ => ⟨_, rfl, fun j p hj => ⟨[.int k p], rfl, rfl, fun i u hu => ?_⟩⟩⟩
  have hi : i = 0 := by
    have := (List.getElem?_eq_some_iff.1 hu).1
    simp at this; exact this
  subst hi
  have hu' : Value.int k p = u := by simpa using hu
  subst hu'
  have hjl : j < (zs.drop a).length := (List.getElem?_eq_some_iff.1 hj).1
  rw [List.length_drop] at hjl
  have hc := h.at' (xs.length + a + j) (by rw [List.length_append]; omega)
  have e : rd (xs ++ zs) ((xs.length + a + j : Nat) : Int) = p := by
    rw [rd_append, if_neg (by omega), show xs.length + a + j - xs.length = a + j by omega, ← rd_drop]
    unfold rd
    rw [Int.toNat_natCast, List.getD_eq_getElem?_getD, hj]; rfl
  rw [e] at hc
  show w.cell? (Addr.add _ (j * 1 + 0)) = _
  rw [Nat.mul_one, Nat.add_zero, Addr.add_mid]
  exact hc
end Go.Proofs.Ytigmcdpjlkgocaa.Dml

/-! Parts of blocks of differences, packed: the walk. -/
namespace Go.Proofs.Ytigmcdpjlkgocaa.Dmw
open Go.Proofs.Ytigmcdpjlkgocaa.Dml Go.Proofs.Ytigmcdpjlkgocaa.Dmb Go.Proofs.Ytigmcdpjlkgocaa.Dmp Go.Proofs.Ytigmcdpjlkgocaa.Dhd Go.Proofs.Ytigmcdpjlkgocaa.Dgr Go.Proofs.Ytigmcdpjlkgocaa.Dpu Go.Proofs.Ytigmcdpjlkgocaa.Pak Go.Proofs.Ytigmcdpjlkgocaa.Buf Go.Proofs.Ytigmcdpjlkgocaa.Fit Go.Proofs.Ytigmcdpjlkgocaa.Bit Go.Proofs.Ytigmcdpjlkgocaa.Wrd Go.Proofs.Ytigmcdpjlkgocaa.Spl Go.Proofs.Ytigmcdpjlkgocaa.Str Go.Proofs.Ytigmcdpjlkgocaa.Flt Go.Proofs.Ytigmcdpjlkgocaa.Owe Go.Proofs.Ytigmcdpjlkgocaa.Num Go.Proofs.Ytigmcdpjlkgocaa.Le Go.Proofs.Ytigmcdpjlkgocaa.Lst Go.Proofs.Ytigmcdpjlkgocaa.Aid Go.RowKit Go.Proofs.YtigmcdpjlkgocaaW.PrintWords Go.Proofs.YtigmcdpjlkgocaaW.PrintLast Go.Proofs.YtigmcdpjlkgocaaW.PrintMore
set_option linter.unusedVariables false
set_option linter.unusedSimpArgs false
theorem mask32 (b : Nat) (hb : b ≤ 32) : IntKind.u32.wrap (IntKind.u32.wrap ((2 : Int) ^ b) - 1) = ((2 ^ b - 1 : Nat) : Int) := by
  rw [IntKind.wrap_u32, IntKind.wrap_u32]
  by_cases c : b = 32
  · subst c; decide
  · have h1 := two_pow_le (show b ≤ 31 by omega)
    have e : (2 : Nat) ^ 31 = 2147483648 := by decide
    have h2 := Nat.two_pow_pos b
    have h3 : (2 : Int) ^ b = ((2 ^ b : Nat) : Int) := by push_cast; rfl
    rw [h3]
    omega
theorem andMask32 (u b : Nat) (hu : u < 2 ^ b) (hb : b ≤ 32) : bits .and .u32 (u : Int) ((2 ^ b - 1 : Nat) : Int) = (u : Int) := by
  have h1 := two_pow_le hb
  have e : (2 : Nat) ^ 32 = 4294967296 := by decide
  rw [u32_and_nat _ _ (by omega) (by omega), Nat.and_two_pow_sub_one_eq_mod, Nat.mod_eq_of_lt hu]
theorem mask64 (b : Nat) (hb : b ≤ 64) : IntKind.u64.wrap (IntKind.u64.wrap ((2 : Int) ^ b) - 1) = ((2 ^ b - 1 : Nat) : Int) := by
  rw [IntKind.wrap_u64, IntKind.wrap_u64]
  by_cases c : b = 64
  · subst c; decide
  · have h1 := two_pow_le (show b ≤ 63 by omega)
    have e : (2 : Nat) ^ 63 = 9223372036854775808 := by decide
    have h2 := Nat.two_pow_pos b
    have h3 : (2 : Int) ^ b = ((2 ^ b : Nat) : Int) := by push_cast; rfl
    rw [h3]
    omega
theorem andMask64 (u b : Nat) (hu : u < 2 ^ b) (hb : b ≤ 64) : bits .and .u64 (u : Int) ((2 ^ b - 1 : Nat) : Int) = (u : Int) := by
  have h1 := two_pow_le hb
  have e : (2 : Nat) ^ 64 = 18446744073709551616 := by decide
  rw [u64_and_nat _ _ (by omega) (by omega), Nat.and_two_pow_sub_one_eq_mod, Nat.mod_eq_of_lt hu]
set_option maxHeartbeats 16000000 in
set_option maxRecDepth 100000 in
theorem miniInt64_calls (g C t n c : Nat) (xs : List Int) (gb off b : Nat) (ws : List Int) (w : World) (hF : Front w g C t .u8 (xs ++ List.replicate n 0)) (hA : ∀ W, w.grownBy W (some g) → ∀ j : Nat, j < 32 → W.cell? ⟨gb, off + j, none⟩ = some (.int .i64 (rd ws (j : Nat)))) (hl : ws.length = 32) (hb : 1 ≤ b) (hbW : b ≤ 64) (hfit : ∀ j : Nat, j < 32 → rd ws (j : Nat) % 18446744073709551616 < ((2 ^ b : Nat) : Int)) (hn : 264 ≤ n) (hnc : n ≤ c) (hc9 : c ≤ 9223372036854775807) (hC9 : C ≤ 9223372036854775807) :
    Calls Try.prog 83 #[.slice (some ⟨g, xs.length, none⟩) n c, .pointer (some ⟨gb, off, none⟩), .int .u64 b] w fun e w' => e = .returned (.tuple #[]) ∧ Front w' g C t .u8 (xs ++ bytesLo (upTo (bitsLo b (unsI 18446744073709551616 ws)) (32 * b)) n) ∧ w.grownBy w' (some g) := by
  have HF0 : Aside0 (Front w g C t .u8 (xs ++ bytesLo (upTo (bitsLo b (unsI 18446744073709551616 ws)) 0) n)) := ⟨by rw [bytesLo_zero]; exact hF⟩
  have HA := Aside0.mk hA
  have HL := Aside0.mk hl
  have HFIT := Aside0.mk hfit
  obtain ⟨F, hFq⟩ : ∃ F, bitsLo b (unsI 18446744073709551616 ws) = F := ⟨_, rfl⟩
  rw [hFq] at HF0 ⊢
  have HFQ := Aside0.mk hFq
  obtain ⟨o, ho⟩ : ∃ o, xs.length = o := ⟨_, rfl⟩
  have HO := Aside0.mk ho
  rw [ho]
  have hle := hF.le
  rw [List.length_append, List.length_replicate, ho] at hle
  have HLE := Aside0.mk hle
  clear hF hA hl hfit ho hFq hle
  go_enter Try.func83, Try.ntmps83
  obtain ⟨P0, hP0⟩ : ∃ P0, IntKind.u64.wrap ((2 : Int) ^ b) = P0 := ⟨_, rfl⟩
  have hMk : IntKind.u64.wrap (P0 - 1) = ((2 ^ b - 1 : Nat) : Int) := by rw [← hP0]; exact mask64 b hbW
  go_wp2_with (fail)
  go_loopg [7, 9, 10, 11, 12, 13, 18] 32 (fun kq v7 v9 v10 v11 v12 v13 v18 w' => ∃ (k B : Nat), k ≤ 32 ∧ v18 = .int .i64 k ∧ v7 = .int .u64 B ∧ B ≤ 32 * 64 ∧ Aside0 (B = k * b) ∧ Aside0 (Front w' g C t .u8 (xs ++ bytesLo (upTo F B) n)) ∧ Aside0 (w.grownBy w' (some g)) ∧ Aside0 (32 - k ≤ kq))
  case atStart => exact ⟨0, 0, by omega, rfl, rfl, by omega, ⟨by omega⟩, HF0, ⟨grownRefl _ _⟩, ⟨by omega⟩⟩
  case round =>
    clear HF0
    obtain ⟨k, B, hk, rfl, rfl, hB9, HB, HR, HG, HK⟩ := hrel
    by_cases ck : k < 32
    · have ckb : decide ((k : Int) < 32) = true := decide_eq_true (by omega)
      have ckn : decide (k < 32) = true := decide_eq_true (by omega)
      obtain ⟨gk0, rfl⟩ : ∃ gk0, gk = gk0 + 1 := ⟨gk - 1, by have := HK.out; omega⟩
      have rc := HA.out wr HG.out k ck
      have hu := HFIT.out k ck
      obtain ⟨y, hy⟩ : ∃ y, rd ws (k : Nat) = y := ⟨_, rfl⟩
      rw [hy] at rc hu
      obtain ⟨u, huy⟩ : ∃ u : Nat, y % 18446744073709551616 = (u : Int) := ⟨(y % 18446744073709551616).toNat, by omega⟩
      have hyw : IntKind.u64.wrap y = (u : Int) := by rw [IntKind.wrap_u64]; exact huy
      have hub : u < 2 ^ b := by rw [huy] at hu; exact_mod_cast hu
      have huM : u < 18446744073709551616 := by omega
      have HBIT : Aside0 (∀ r, r < b → F (B + r) = u.testBit r) := ⟨fun r hr => by
        rw [← HFQ.out, HB.out]
        exact bitsLo_word b _ k u r hr (by rw [rd_unsI _ _ _ (by rw [HL.out]; exact ck), hy]; exact huy)⟩
      have hBb : B + b ≤ 32 * b := by
        have h1 : (k + 1) * b ≤ 32 * b := Nat.mul_le_mul_right b ck
        rw [Nat.succ_mul] at h1
        have := HB.out; omega
      obtain ⟨i, hi⟩ : ∃ i, B / 64 = i := ⟨_, rfl⟩
      obtain ⟨j, hj⟩ : ∃ j, B % 64 = j := ⟨_, rfl⟩
      have hjW : j < 64 := by omega
      have hBi : (B : Int) / 64 = (i : Int) := by omega
      have hBj : (B : Int) % 64 = (j : Int) := by omega
      obtain ⟨a, ha⟩ : ∃ a, 8 * i = a := ⟨_, rfl⟩
      have haI : (i : Int) * 8 = (a : Int) := by omega
      have ha2I : ((i : Int) + 1) * 8 = ((a + 8 : Nat) : Int) := by omega
      have hBA : B = 8 * a + j := by omega
      have han : a + 8 + 8 ≤ n := by omega
      obtain ⟨lo, hlo⟩ : ∃ lo, bitsN (fun q => upTo F B (8 * a + q)) 64 = lo := ⟨_, rfl⟩
      obtain ⟨hiw, hhi⟩ : ∃ hiw, bitsN (fun q => upTo F B (8 * a + 64 + q)) 64 = hiw := ⟨_, rfl⟩
      have hloM : lo < 2 ^ 64 := by rw [← hlo]; exact bitsN_lt _ _
      have hhiM : hiw < 2 ^ 64 := by rw [← hhi]; exact bitsN_lt _ _
      have hls := lo_step F 64 B b (8 * a) j u hBA hjW hub HBIT.out
      have hhs := hi_step F 64 B b (8 * a) j u hBA hjW hub hbW HBIT.out
      rw [hlo] at hls
      rw [hhi] at hhs
      obtain ⟨s1, hs1⟩ : ∃ s1, u * 2 ^ j % 2 ^ 64 = s1 := ⟨_, rfl⟩
      obtain ⟨s2, hs2⟩ : ∃ s2, u / 2 ^ (64 - j) = s2 := ⟨_, rfl⟩
      rw [hs1] at hls
      rw [hs2] at hhs
      have hs1M : s1 < 2 ^ 64 := by rw [← hs1]; exact Nat.mod_lt _ (by decide)
      have hs2M : s2 < 2 ^ 64 := by rw [← hs2]; exact Nat.lt_of_le_of_lt (Nat.div_le_self _ _) (by omega)
      obtain ⟨l2, hl2⟩ : ∃ l2, lo ||| s1 = l2 := ⟨_, rfl⟩
      obtain ⟨h2, hh2⟩ : ∃ h2, hiw ||| s2 = h2 := ⟨_, rfl⟩
      have hor1 : bits .or .u64 (lo : Int) (s1 : Int) = (l2 : Int) := by rw [u64_or_nat _ _ (by omega) (by omega), hl2]
      have hor2 : bits .or .u64 (hiw : Int) (s2 : Int) = (h2 : Int) := by rw [u64_or_nat _ _ (by omega) (by omega), hh2]
      have hand : bits .and .u64 (u : Int) ((2 ^ b - 1 : Nat) : Int) = (u : Int) := andMask64 u b hub hbW
      have hshl : IntKind.u64.wrap ((u : Int) * 2 ^ j) = (s1 : Int) := by rw [IntKind.wrap_u64, ← hs1, Int.natCast_emod, Int.natCast_mul, Int.natCast_pow]; rfl
      have hsub : IntKind.u64.wrap (64 - (j : Int)) = ((64 - j : Nat) : Int) := by rw [IntKind.wrap_u64]; omega
      have hshr : (u : Int) / 2 ^ (64 - j) = (s2 : Int) := by rw [← hs2, Int.natCast_ediv, Int.natCast_pow]; rfl
      rw [hl2] at hls
      rw [hh2] at hhs
      obtain ⟨i8, h8⟩ := h8
      have cut1 := cutFromO (P := Try.prog) 23 5 Try.underlying23 h8.1 h8.2 g o n c a (by omega) hnc (by omega)
      have cut2 := cutFromO (P := Try.prog) 23 5 Try.underlying23 h8.1 h8.2 g o n c (a + 8) (by omega) hnc (by omega)
      have HRD : Aside0 (∀ W a1 i1, Front W g C t .u8 (xs ++ bytesLo (upTo F B) n) → 8 * i1 = a1 → a1 + 8 ≤ n → Calls Try.prog 100 #[.slice (some ⟨g, o + a1, none⟩) (n - a1) (c - a1)] W fun e w' => e = .returned (.int .u64 ((bitsN (fun q => upTo F B (64 * i1 + q)) 64 : Nat) : Int)) ∧ Drawn0 W w') := ⟨fun W a1 i1 hf h1 h2 => by
        have hC := frontC hf hC9 a1 (by rw [bytesLo_length]; omega)
        rw [bytesLo_length, HO.out] at hC
        have := pqdelta_leUint64.calls' (some ⟨g, o + a1, none⟩) (n - a1) (c - a1) _ W hC (by omega) (by omega) (bytesB_drop (bytesLo_B _ _) _)
        rw [← h1, show le8L ((bytesLo (upTo F B) n).drop (8 * i1)) = wd8 (bytesLo (upTo F B) n) i1 from rfl, Dmp.wd8_bits _ _ _ (by omega)] at this
        rw [← h1]
        exact this⟩
      have HWR : Aside0 (∀ W a1 (f g' : Nat → Bool), Front W g C t .u8 (xs ++ bytesLo f n) → a1 + 8 ≤ n → Calls Try.prog 101 #[.slice (some ⟨g, o + a1, none⟩) (n - a1) (c - a1), .int .u64 ((bitsN g' (8 * 8) : Nat) : Int)] W fun e w' => e = .returned (.tuple #[]) ∧ Front w' g C t .u8 (xs ++ bytesLo (putF 8 a1 f g') n) ∧ W.grownBy w' (some g)) := ⟨fun W a1 f g' hf h2 => by
        have hv := bitsN_lt (8 * 8) g'
        have htl : ((bytesLo f n).take a1).length = a1 := by rw [List.length_take, bytesLo_length]; omega
        have := put8F_calls g C t (n - a1) (c - a1) (xs ++ (bytesLo f n).take a1) ((bytesLo f n).drop a1) ((bitsN g' (8 * 8) : Nat) : Int) W (by rw [List.append_assoc, List.take_append_drop]; exact hf) (by omega) (by rw [List.length_drop, bytesLo_length]; omega) (by omega) (by omega) (by omega) (by omega)
        rw [List.length_append, htl, HO.out, lowN_bits, List.drop_drop, List.append_assoc xs, List.append_assoc xs, bytesLo_put _ _ _ _ _ h2] at this
        exact this⟩
      have H1 := Aside0.mk (HRD.out wr a i HR.out ha (by omega))
      have H2 : Aside0 (∀ nd, _) := ⟨fun nd => HRD.out (wr.drewN nd) (a + 8) (i + 1) (HR.out.drewN nd) (by omega) (by omega)⟩
      rw [show 64 * i = 8 * a by omega, hlo] at H1
      simp only [show 64 * (i + 1) = 8 * a + 64 by omega, hhi] at H2
      have H3 : Aside0 (∀ nd, _) := ⟨fun nd => HWR.out (wr.drewN nd) a _ (fun q => upTo F (B + b) (8 * a + q)) (HR.out.drewN nd) (by omega)⟩
      have H4 : Aside0 (∀ W, Front W g C t .u8 (xs ++ bytesLo (putF 8 a (upTo F B) (fun q => upTo F (B + b) (8 * a + q))) n) → Calls Try.prog 101 #[.slice (some ⟨g, o + (a + 8), none⟩) (n - (a + 8)) (c - (a + 8)), .int .u64 (h2 : Int)] W fun e w' => e = .returned (.tuple #[]) ∧ Front w' g C t .u8 (xs ++ bytesLo (upTo F (B + b)) n) ∧ W.grownBy w' (some g)) := ⟨fun W hf => by
        have := HWR.out W (a + 8) _ (fun q => upTo F (B + b) (8 * a + 8 * 8 + q)) hf (by omega)
        rw [two_puts F 8 B b a j n hBA hjW (by omega)] at this
        rw [hhs]
        exact this⟩
      simp only [show 8 * 8 = 64 from rfl, ← hls] at H3
      have HNX : Aside0 (B + b = (k + 1) * b) := ⟨by rw [Nat.succ_mul, HB.out]⟩
      have qi0 : (0 : Int) ≤ (k : Int) := by omega
      have qi1 : (k : Int) < 32 := by omega
      obtain ⟨B2, hB2⟩ : ∃ B2, B + b = B2 := ⟨_, rfl⟩
      have hBbI : (B : Int) + (b : Int) = (B2 : Int) := by omega
      have hB29 : B2 ≤ 32 * 64 := by omega
      have HB2 := Aside0.mk hB2
      clear hls hhs hlo hhi hs1 hs2 hl2 hh2 hy huy hu hub hi hj ha hBA HRD HWR HBIT hB2 hBb
      go_wp2_with (first
        | (go_at_call 100; (first
          | ((with_reducible refine H1.out.mono ?_); rintro e w1 ⟨rfl, ⟨nd, rfl⟩⟩)
          | (go_loud (with_reducible refine (H2.out nd).mono ?_); rintro e w2 ⟨rfl, ⟨nd2, rfl⟩⟩)))
        | (go_at_call 101; (first
          | ((with_reducible refine (H3.out _).mono ?_); rintro e w3 ⟨rfl, hf, hg⟩; have HF3 := Aside0.mk hf; have HG3 := Aside0.mk hg; clear hf hg)
          | (go_loud (with_reducible refine (H4.out w3 HF3.out).mono ?_); rintro e w4 ⟨rfl, hf, hg⟩; have HF4 := Aside0.mk hf; have HG4 := Aside0.mk hg; clear hf hg))))
      go_roundg gk0
      case measure => omega
      case rel => exact ⟨k + 1, B2, by omega, by go_num, rfl, hB29, ⟨by rw [← HB2.out]; exact HNX.out⟩, ⟨by rw [← HB2.out]; exact HF4.out⟩, ⟨(grownDrewN HG.out _).trans (HG3.out.trans HG4.out)⟩, ⟨by have := HK.out; omega⟩⟩
    · obtain rfl : k = 32 := by omega
      have ckb : decide (((32 : Nat) : Int) < 32) = false := by decide
      have HRF := HR.out
      rw [HB.out] at HRF
      go_wp2_with (fail)
      go_end0
      exact ⟨rfl, HRF, HG.out⟩
set_option maxHeartbeats 16000000 in
set_option maxRecDepth 100000 in
theorem miniInt32_calls (g C t n c : Nat) (xs : List Int) (gb off b : Nat) (ws : List Int) (w : World) (hF : Front w g C t .u8 (xs ++ List.replicate n 0)) (hA : ∀ W, w.grownBy W (some g) → ∀ j : Nat, j < 32 → W.cell? ⟨gb, off + j, none⟩ = some (.int .i32 (rd ws (j : Nat)))) (hl : ws.length = 32) (hb : 1 ≤ b) (hbW : b ≤ 32) (hfit : ∀ j : Nat, j < 32 → rd ws (j : Nat) % 4294967296 < ((2 ^ b : Nat) : Int)) (hn : 132 ≤ n) (hnc : n ≤ c) (hc9 : c ≤ 9223372036854775807) (hC9 : C ≤ 9223372036854775807) :
    Calls Try.prog 90 #[.slice (some ⟨g, xs.length, none⟩) n c, .pointer (some ⟨gb, off, none⟩), .int .u64 b] w fun e w' => e = .returned (.tuple #[]) ∧ Front w' g C t .u8 (xs ++ bytesLo (upTo (bitsLo b (unsI 4294967296 ws)) (32 * b)) n) ∧ w.grownBy w' (some g) := by
  have HF0 : Aside0 (Front w g C t .u8 (xs ++ bytesLo (upTo (bitsLo b (unsI 4294967296 ws)) 0) n)) := ⟨by rw [bytesLo_zero]; exact hF⟩
  have HA := Aside0.mk hA
  have HL := Aside0.mk hl
  have HFIT := Aside0.mk hfit
  obtain ⟨F, hFq⟩ : ∃ F, bitsLo b (unsI 4294967296 ws) = F := ⟨_, rfl⟩
  rw [hFq] at HF0 ⊢
  have HFQ := Aside0.mk hFq
  obtain ⟨o, ho⟩ : ∃ o, xs.length = o := ⟨_, rfl⟩
  have HO := Aside0.mk ho
  rw [ho]
  have hle := hF.le
  rw [List.length_append, List.length_replicate, ho] at hle
  have HLE := Aside0.mk hle
  clear hF hA hl hfit ho hFq hle
  go_enter Try.func90, Try.ntmps90
  obtain ⟨P0, hP0⟩ : ∃ P0, IntKind.u32.wrap ((2 : Int) ^ b) = P0 := ⟨_, rfl⟩
  have hMk : IntKind.u32.wrap (P0 - 1) = ((2 ^ b - 1 : Nat) : Int) := by rw [← hP0]; exact mask32 b hbW
  go_wp2_with (fail)
  go_loopg [7, 9, 10, 11, 12, 13, 18] 32 (fun kq v7 v9 v10 v11 v12 v13 v18 w' => ∃ (k B : Nat), k ≤ 32 ∧ v18 = .int .i64 k ∧ v7 = .int .u64 B ∧ B ≤ 32 * 32 ∧ Aside0 (B = k * b) ∧ Aside0 (Front w' g C t .u8 (xs ++ bytesLo (upTo F B) n)) ∧ Aside0 (w.grownBy w' (some g)) ∧ Aside0 (32 - k ≤ kq))
  case atStart => exact ⟨0, 0, by omega, rfl, rfl, by omega, ⟨by omega⟩, HF0, ⟨grownRefl _ _⟩, ⟨by omega⟩⟩
  case round =>
    clear HF0
    obtain ⟨k, B, hk, rfl, rfl, hB9, HB, HR, HG, HK⟩ := hrel
    by_cases ck : k < 32
    · have ckb : decide ((k : Int) < 32) = true := decide_eq_true (by omega)
      have ckn : decide (k < 32) = true := decide_eq_true (by omega)
      obtain ⟨gk0, rfl⟩ : ∃ gk0, gk = gk0 + 1 := ⟨gk - 1, by have := HK.out; omega⟩
      have rc := HA.out wr HG.out k ck
      have hu := HFIT.out k ck
      obtain ⟨y, hy⟩ : ∃ y, rd ws (k : Nat) = y := ⟨_, rfl⟩
      rw [hy] at rc hu
      obtain ⟨u, huy⟩ : ∃ u : Nat, y % 4294967296 = (u : Int) := ⟨(y % 4294967296).toNat, by omega⟩
      have hyw : IntKind.u32.wrap y = (u : Int) := by rw [IntKind.wrap_u32]; exact huy
      have hub : u < 2 ^ b := by rw [huy] at hu; exact_mod_cast hu
      have huM : u < 4294967296 := by omega
      have HBIT : Aside0 (∀ r, r < b → F (B + r) = u.testBit r) := ⟨fun r hr => by
        rw [← HFQ.out, HB.out]
        exact bitsLo_word b _ k u r hr (by rw [rd_unsI _ _ _ (by rw [HL.out]; exact ck), hy]; exact huy)⟩
      have hBb : B + b ≤ 32 * b := by
        have h1 : (k + 1) * b ≤ 32 * b := Nat.mul_le_mul_right b ck
        rw [Nat.succ_mul] at h1
        have := HB.out; omega
      obtain ⟨i, hi⟩ : ∃ i, B / 32 = i := ⟨_, rfl⟩
      obtain ⟨j, hj⟩ : ∃ j, B % 32 = j := ⟨_, rfl⟩
      have hjW : j < 32 := by omega
      have hBi : (B : Int) / 32 = (i : Int) := by omega
      have hBj : (B : Int) % 32 = (j : Int) := by omega
      obtain ⟨a, ha⟩ : ∃ a, 4 * i = a := ⟨_, rfl⟩
      have haI : (i : Int) * 4 = (a : Int) := by omega
      have ha2I : ((i : Int) + 1) * 4 = ((a + 4 : Nat) : Int) := by omega
      have hBA : B = 8 * a + j := by omega
      have han : a + 4 + 4 ≤ n := by omega
      obtain ⟨lo, hlo⟩ : ∃ lo, bitsN (fun q => upTo F B (8 * a + q)) 32 = lo := ⟨_, rfl⟩
      obtain ⟨hiw, hhi⟩ : ∃ hiw, bitsN (fun q => upTo F B (8 * a + 32 + q)) 32 = hiw := ⟨_, rfl⟩
      have hloM : lo < 2 ^ 32 := by rw [← hlo]; exact bitsN_lt _ _
      have hhiM : hiw < 2 ^ 32 := by rw [← hhi]; exact bitsN_lt _ _
      have hls := lo_step F 32 B b (8 * a) j u hBA hjW hub HBIT.out
      have hhs := hi_step F 32 B b (8 * a) j u hBA hjW hub hbW HBIT.out
      rw [hlo] at hls
      rw [hhi] at hhs
      obtain ⟨s1, hs1⟩ : ∃ s1, u * 2 ^ j % 2 ^ 32 = s1 := ⟨_, rfl⟩
      obtain ⟨s2, hs2⟩ : ∃ s2, u / 2 ^ (32 - j) = s2 := ⟨_, rfl⟩
      rw [hs1] at hls
      rw [hs2] at hhs
      have hs1M : s1 < 2 ^ 32 := by rw [← hs1]; exact Nat.mod_lt _ (by decide)
      have hs2M : s2 < 2 ^ 32 := by rw [← hs2]; exact Nat.lt_of_le_of_lt (Nat.div_le_self _ _) (by omega)
      obtain ⟨l2, hl2⟩ : ∃ l2, lo ||| s1 = l2 := ⟨_, rfl⟩
      obtain ⟨h2, hh2⟩ : ∃ h2, hiw ||| s2 = h2 := ⟨_, rfl⟩
      have hor1 : bits .or .u32 (lo : Int) (s1 : Int) = (l2 : Int) := by rw [u32_or_nat _ _ (by omega) (by omega), hl2]
      have hor2 : bits .or .u32 (hiw : Int) (s2 : Int) = (h2 : Int) := by rw [u32_or_nat _ _ (by omega) (by omega), hh2]
      have hand : bits .and .u32 (u : Int) ((2 ^ b - 1 : Nat) : Int) = (u : Int) := andMask32 u b hub hbW
      have hshl : IntKind.u32.wrap ((u : Int) * 2 ^ j) = (s1 : Int) := by rw [IntKind.wrap_u32, ← hs1, Int.natCast_emod, Int.natCast_mul, Int.natCast_pow]; rfl
      have hsub : IntKind.u64.wrap (32 - (j : Int)) = ((32 - j : Nat) : Int) := by rw [IntKind.wrap_u64]; omega
      have hshr : (u : Int) / 2 ^ (32 - j) = (s2 : Int) := by rw [← hs2, Int.natCast_ediv, Int.natCast_pow]; rfl
      rw [hl2] at hls
      rw [hh2] at hhs
      obtain ⟨i8, h8⟩ := h8
      have cut1 := cutFromO (P := Try.prog) 23 5 Try.underlying23 h8.1 h8.2 g o n c a (by omega) hnc (by omega)
      have cut2 := cutFromO (P := Try.prog) 23 5 Try.underlying23 h8.1 h8.2 g o n c (a + 4) (by omega) hnc (by omega)
      have HRD : Aside0 (∀ W a1 i1, Front W g C t .u8 (xs ++ bytesLo (upTo F B) n) → 4 * i1 = a1 → a1 + 4 ≤ n → Calls Try.prog 103 #[.slice (some ⟨g, o + a1, none⟩) (n - a1) (c - a1)] W fun e w' => e = .returned (.int .u32 ((bitsN (fun q => upTo F B (32 * i1 + q)) 32 : Nat) : Int)) ∧ Drawn0 W w') := ⟨fun W a1 i1 hf h1 h2 => by
        have hC := frontC hf hC9 a1 (by rw [bytesLo_length]; omega)
        rw [bytesLo_length, HO.out] at hC
        have := pqdelta_leUint32.calls' (some ⟨g, o + a1, none⟩) (n - a1) (c - a1) _ W hC (by omega) (by omega) (bytesB_drop (bytesLo_B _ _) _)
        rw [← h1, show le4L ((bytesLo (upTo F B) n).drop (4 * i1)) = Dmp.wd4 (bytesLo (upTo F B) n) i1 from rfl, Dmp.wd4_bits _ _ _ (by omega)] at this
        rw [← h1]
        exact this⟩
      have HWR : Aside0 (∀ W a1 (f g' : Nat → Bool), Front W g C t .u8 (xs ++ bytesLo f n) → a1 + 4 ≤ n → Calls Try.prog 104 #[.slice (some ⟨g, o + a1, none⟩) (n - a1) (c - a1), .int .u32 ((bitsN g' (8 * 4) : Nat) : Int)] W fun e w' => e = .returned (.tuple #[]) ∧ Front w' g C t .u8 (xs ++ bytesLo (putF 4 a1 f g') n) ∧ W.grownBy w' (some g)) := ⟨fun W a1 f g' hf h2 => by
        have hv := bitsN_lt (8 * 4) g'
        have htl : ((bytesLo f n).take a1).length = a1 := by rw [List.length_take, bytesLo_length]; omega
        have := put4F_calls g C t (n - a1) (c - a1) (xs ++ (bytesLo f n).take a1) ((bytesLo f n).drop a1) ((bitsN g' (8 * 4) : Nat) : Int) W (by rw [List.append_assoc, List.take_append_drop]; exact hf) (by omega) (by rw [List.length_drop, bytesLo_length]; omega)  (by omega) (by omega)
        rw [List.length_append, htl, HO.out, lowN_bits, List.drop_drop, List.append_assoc xs, List.append_assoc xs, bytesLo_put _ _ _ _ _ h2] at this
        exact this⟩
      have H1 := Aside0.mk (HRD.out wr a i HR.out ha (by omega))
      have H2 : Aside0 (∀ nd, _) := ⟨fun nd => HRD.out (wr.drewN nd) (a + 4) (i + 1) (HR.out.drewN nd) (by omega) (by omega)⟩
      rw [show 32 * i = 8 * a by omega, hlo] at H1
      simp only [show 32 * (i + 1) = 8 * a + 32 by omega, hhi] at H2
      have H3 : Aside0 (∀ nd, _) := ⟨fun nd => HWR.out (wr.drewN nd) a _ (fun q => upTo F (B + b) (8 * a + q)) (HR.out.drewN nd) (by omega)⟩
      have H4 : Aside0 (∀ W, Front W g C t .u8 (xs ++ bytesLo (putF 4 a (upTo F B) (fun q => upTo F (B + b) (8 * a + q))) n) → Calls Try.prog 104 #[.slice (some ⟨g, o + (a + 4), none⟩) (n - (a + 4)) (c - (a + 4)), .int .u32 (h2 : Int)] W fun e w' => e = .returned (.tuple #[]) ∧ Front w' g C t .u8 (xs ++ bytesLo (upTo F (B + b)) n) ∧ W.grownBy w' (some g)) := ⟨fun W hf => by
        have := HWR.out W (a + 4) _ (fun q => upTo F (B + b) (8 * a + 8 * 4 + q)) hf (by omega)
        rw [two_puts F 4 B b a j n hBA hjW (by omega)] at this
        rw [hhs]
        exact this⟩
      simp only [show 8 * 4 = 32 from rfl, ← hls] at H3
      have HNX : Aside0 (B + b = (k + 1) * b) := ⟨by rw [Nat.succ_mul, HB.out]⟩
      have qi0 : (0 : Int) ≤ (k : Int) := by omega
      have qi1 : (k : Int) < 32 := by omega
      obtain ⟨B2, hB2⟩ : ∃ B2, B + b = B2 := ⟨_, rfl⟩
      have hBbI : (B : Int) + (b : Int) = (B2 : Int) := by omega
      have hB29 : B2 ≤ 32 * 32 := by omega
      have HB2 := Aside0.mk hB2
      clear hls hhs hlo hhi hs1 hs2 hl2 hh2 hy huy hu hub hi hj ha hBA HRD HWR HBIT hB2 hBb
      go_wp2_with (first
        | (go_at_call 103; (first
          | ((with_reducible refine H1.out.mono ?_); rintro e w1 ⟨rfl, ⟨nd, rfl⟩⟩)
          | (go_loud (with_reducible refine (H2.out nd).mono ?_); rintro e w2 ⟨rfl, ⟨nd2, rfl⟩⟩)))
        | (go_at_call 104; (first
          | ((with_reducible refine (H3.out _).mono ?_); rintro e w3 ⟨rfl, hf, hg⟩; have HF3 := Aside0.mk hf; have HG3 := Aside0.mk hg; clear hf hg)
          | (go_loud (with_reducible refine (H4.out w3 HF3.out).mono ?_); rintro e w4 ⟨rfl, hf, hg⟩; have HF4 := Aside0.mk hf; have HG4 := Aside0.mk hg; clear hf hg))))
      go_roundg gk0
      case measure => omega
      case rel => exact ⟨k + 1, B2, by omega, by go_num, rfl, hB29, ⟨by rw [← HB2.out]; exact HNX.out⟩, ⟨by rw [← HB2.out]; exact HF4.out⟩, ⟨(grownDrewN HG.out _).trans (HG3.out.trans HG4.out)⟩, ⟨by have := HK.out; omega⟩⟩
    · obtain rfl : k = 32 := by omega
      have ckb : decide (((32 : Nat) : Int) < 32) = false := by decide
      have HRF := HR.out
      rw [HB.out] at HRF
      go_wp2_with (fail)
      go_end0
      exact ⟨rfl, HRF, HG.out⟩
end Go.Proofs.Ytigmcdpjlkgocaa.Dmw
