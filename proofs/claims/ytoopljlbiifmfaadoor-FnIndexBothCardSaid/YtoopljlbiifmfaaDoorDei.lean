import Derived.Test.YtoopljlbiifmfaaDoorUni
/-! Numbers of 32 bits in runs: the decoder's walk. -/
namespace Go.Proofs.YtoopljlbiifmfaaDoor.Dei
open Go.Proofs.YtoopljlbiifmfaaDoor.Uni Go.Proofs.YtoopljlbiifmfaaDoor.Dec Go.Proofs.YtoopljlbiifmfaaDoor.Uva Go.Proofs.YtoopljlbiifmfaaDoor.Rle Go.Proofs.YtoopljlbiifmfaaDoor.Run Go.Proofs.YtoopljlbiifmfaaDoor.Rlp Go.Proofs.YtoopljlbiifmfaaDoor.Rlb Go.Proofs.YtoopljlbiifmfaaDoor.Buf Go.Proofs.YtoopljlbiifmfaaDoor.Fit Go.Proofs.YtoopljlbiifmfaaDoor.Bit Go.Proofs.YtoopljlbiifmfaaDoor.Wrd Go.Proofs.YtoopljlbiifmfaaDoor.Spl Go.Proofs.YtoopljlbiifmfaaDoor.Str Go.Proofs.YtoopljlbiifmfaaDoor.Flt Go.Proofs.YtoopljlbiifmfaaDoor.Owe Go.Proofs.YtoopljlbiifmfaaDoor.Num Go.Proofs.YtoopljlbiifmfaaDoor.Le Go.Proofs.YtoopljlbiifmfaaDoor.Lst Go.Proofs.YtoopljlbiifmfaaDoor.Aid Go.RowKit Go.Proofs.YtoopljlbiifmfaaDoorW.PrintWords Go.Proofs.YtoopljlbiifmfaaDoorW.PrintLast Go.Proofs.YtoopljlbiifmfaaDoorW.PrintMore
set_option linter.unusedVariables false
set_option linter.unusedSimpArgs false
theorem rowSplice {w : World} {g M t : Nat} {k : IntKind} {xs : List Int} (h : Hid (w.heap[g]? = some (.cells (splice (nums k (List.replicate M 0)) 0 (nums k xs)).toArray t (0, 0)))) : Row w g t k (xs ++ List.replicate (M - xs.length) 0) := by
  refine ⟨⟨?_⟩⟩
  have h2 : w.heap[g]? = some (.cells (splice (nums k (List.replicate M 0)) 0 (nums k xs)).toArray t (0, 0)) := h
  rw [splice_nums] at h2
  exact h2
theorem rowSplice2 {w : World} {g t : Nat} {k : IntKind} {ys xs : List Int} (h : Hid (w.heap[g]? = some (.cells (splice (nums k ys) 0 (nums k xs)).toArray t (0, 0)))) : Row w g t k (xs ++ ys.drop xs.length) := by
  refine ⟨⟨?_⟩⟩
  have h2 : w.heap[g]? = some (.cells (splice (nums k ys) 0 (nums k xs)).toArray t (0, 0)) := h
  have e : splice (nums k ys) 0 (nums k xs) = nums k (xs ++ ys.drop xs.length) := by simp [splice, nums, List.map_drop]
  rw [e] at h2
  exact h2
/-- a block of so many bytes, whatever they are -/
structure RowN (w : World) (g M : Nat) : Prop where
  mk :: (out : ∃ zs, Row w g 5 .u8 zs ∧ zs.length = M)
theorem cutAny {P : Program} (t e : TypeId) {i : TypeInfo} (ht : P.underlying t = some (.slice e)) (hi : P.info? e = some i) (hsz : i.size = 1) (A : Option Addr) (n C size : Nat) (h : size ≤ C) :
    ∀ W : World, (Instr.slice t (.slice A n C) none (some (.int .i64 (size : Int))) none).run P W = .ok (.slice A size C) W := by
  intro W
  have hel : P.elem t = e := by simp [Program.elem, ht]
  have hu : P.underlying t = some (.slice (P.elem t)) := by rw [hel]; exact ht
  rw [run_slice_h W t A n C hu .i64 size (by omega) (by omega), hel]
  cases A <;> simp [sizeOf, typeInfo, hi, hsz, sliced, Result.andThen, Addr.add]
theorem row_takeC {w : World} {g t : Nat} {k : IntKind} {ys : List Int} (h : Row w g t k ys) (n : Nat) (hn : n ≤ ys.length) (hm : n ≤ 9223372036854775807) : (Kd.int k).C w (some ⟨g, 0, none⟩) n (ys.take n) := by
  have hl : (ys.take n).length = n := by rw [List.length_take]; omega
  refine ⟨hl, hm, fun _ => ⟨_, rfl, fun j p hj => ⟨[.int k p], rfl, rfl, fun i u hu => ?_⟩⟩⟩
  have hjl : j < n := by
    have h := (List.getElem?_eq_some_iff.1 hj).1
    have h : j < (ys.take n).length := h
    omega
  have hi : i = 0 := by
    have := (List.getElem?_eq_some_iff.1 hu).1
    simp at this; exact this
  subst hi
  have hu' : Value.int k p = u := by simpa using hu
  subst hu'
  have := h.cell (j := j) (by omega)
  have e : rd ys j = p := by
    rw [List.getElem?_take, if_pos hjl] at hj
    simp [rd, List.getD_eq_getElem?_getD, hj]
  rw [e] at this
  show w.cell? ((⟨g, 0, none⟩ : Addr).add (j * 1 + 0)) = _
  by_cases h0 : j = 0
  · subst h0; simpa [Addr.add] using this
  · simpa [Addr.add, h0] using this
theorem front_ne_row {w : World} {g gb C t t' : Nat} {k k' : IntKind} {xs ys : List Int} (h : Front w g C t k xs) (h' : Row w gb t' k' ys) (hne : t ≠ t') : g ≠ gb := by
  rintro rfl
  obtain ⟨cs, hb, _⟩ := h.out
  have h2 := h'.out.out
  rw [hb.out] at h2
  injection h2 with h2
  injection h2 with _ h3 _
  exact hne h3
theorem own_ne_row {w : World} {base gb t t' : Nat} {k k' : IntKind} {v : Value} {xs ys : List Int} (h : Own w base t k v xs) (h' : Row w gb t' k' ys) (hne : t ≠ t') : some gb ≠ v.ownBlock := by
  rcases own_front h with ⟨rfl, rfl⟩ | ⟨g, C, rfl, _, _, hF⟩
  · simp [Value.ownBlock]
  · intro e
    have := front_ne_row hF h' hne
    simp [Value.ownBlock] at e
    exact this e.symm
theorem tne8 : (21 : Nat) ≠ 5 := by decide
set_option maxHeartbeats 4000000 in
set_option maxRecDepth 100000 in
theorem growR_calls (A : Option Addr) (n C size : Nat) (xs : List Int) (w : World) (hC : (Kd.int .u8).C w A n xs) (hc : n ≤ C) (hs : C < size) (hs9 : size ≤ 1073741824) :
    Calls Tryd.prog 115 #[.slice A n C, .int .i64 size] w fun e w' => ∃ M, e = .returned (.slice (some ⟨w.heap.size, 0, none⟩) size M) ∧ RowN w' w.heap.size M ∧ size ≤ M ∧ M ≤ 4294967296 ∧ Below w.heap.size w w' := by
  have HLN : Aside0 (xs.length = n) := ⟨hC.1⟩
  have HC := Aside0.mk hC
  clear hC
  by_cases hcs : 2 * C < size
  · have hmk : ∀ W : World, (Instr.makeSlice 25 (.int .i64 (size : Int)) (.int .i64 (size : Int))).run Tryd.prog W = .ok (.slice (some ⟨W.heap.size, 0, none⟩) size (size)) (W.alloc (.cells (madeCells #[.int .u8 0] (size)) 5)) := by
      have := make1 (P := Tryd.prog) 25 5 (.int .u8 0) 1 Tryd.underlying25 infoU8 rfl size (size) (by omega) (by omega) (by omega)
      intro W
      have h := this W
      push_cast at h
      exact h
    have qm : decide (2 * (C : Int) < (size : Int)) = true := decide_eq_true (by omega)
    have qm2 : 2 * (C : Int) < (size : Int) := by omega
    have HC1 : Aside0 ((Kd.int .u8).C (w.alloc (.cells (madeCells #[.int .u8 0] (size)) 5)) A n xs) := ⟨Kd.C_alloc HC.out _⟩
    have HG1 : Aside0 ((w.alloc (.cells (madeCells #[.int .u8 0] (size)) 5)).heap[w.heap.size]? = some (.cells (nums .u8 (List.replicate (size) 0)).toArray 5 (0, 0))) := ⟨(madeRow w 5 .u8 (size)).out.out⟩
    have HB1 : Aside0 (Below w.heap.size w (w.alloc (.cells (madeCells #[.int .u8 0] (size)) 5))) := ⟨(Below.refl _ _).alloc (Nat.le_refl _) _⟩
    go_enter Tryd.func115, Tryd.ntmps115
    go_wp2_with (first
      | ((refine wpList_copy_splice ?hgd (.tmp 15) (.tmp 16) 25 25 ?ho0 5 Tryd.underlying25 ?h1 (some ⟨w.heap.size, 0, none⟩) A size (size) n C ?hd ?hs w.heap.size 0 (nums .u8 (List.replicate (size) 0)) 5 HG1.out (nums .u8 xs) ?hn ?hp ?hf ?ho w.heap.size w HB1.out (Nat.le_refl _) ?_); (case ho0 => rfl); (case hgd => rfl); (case hd => rfl); (case hs => rfl); go_loud ((case h1 => kernel_rfl)); go_loud ((case hn => simp only [nums, List.length_map]; rw [HLN.out]; exact (Nat.min_eq_left (by omega)).symm)); go_loud ((case hp => exact fun hpos => ⟨rfl, copySrc HC1.out (by simpa [nums] using hpos)⟩)); go_loud ((case hf => simp only [nums, List.length_map, List.length_replicate]; rw [HLN.out]; omega)); go_loud ((case ho => exact nums_one _ _)); intro w2 hw2 hb2; have HW2 := Aside0.mk hw2; have HB2 := Aside0.mk hb2; clear hw2 hb2))
    go_ret
    exact ⟨size, rfl, ⟨_, rowSplice HW2.out, by rw [List.length_append, List.length_replicate, HLN.out]; omega⟩, by omega, by omega, HB2.out⟩
  · have hmk : ∀ W : World, (Instr.makeSlice 25 (.int .i64 (size : Int)) (.int .i64 (2 * (C : Int)))).run Tryd.prog W = .ok (.slice (some ⟨W.heap.size, 0, none⟩) size (2 * C)) (W.alloc (.cells (madeCells #[.int .u8 0] (2 * C)) 5)) := by
      have := make1 (P := Tryd.prog) 25 5 (.int .u8 0) 1 Tryd.underlying25 infoU8 rfl size (2 * C) (by omega) (by omega) (by omega)
      intro W
      have h := this W
      push_cast at h
      exact h
    have qm : decide (2 * (C : Int) < (size : Int)) = false := decide_eq_false (by omega)
    have qm2 : ¬ 2 * (C : Int) < (size : Int) := by omega
    have HC1 : Aside0 ((Kd.int .u8).C (w.alloc (.cells (madeCells #[.int .u8 0] (2 * C)) 5)) A n xs) := ⟨Kd.C_alloc HC.out _⟩
    have HG1 : Aside0 ((w.alloc (.cells (madeCells #[.int .u8 0] (2 * C)) 5)).heap[w.heap.size]? = some (.cells (nums .u8 (List.replicate (2 * C) 0)).toArray 5 (0, 0))) := ⟨(madeRow w 5 .u8 (2 * C)).out.out⟩
    have HB1 : Aside0 (Below w.heap.size w (w.alloc (.cells (madeCells #[.int .u8 0] (2 * C)) 5))) := ⟨(Below.refl _ _).alloc (Nat.le_refl _) _⟩
    go_enter Tryd.func115, Tryd.ntmps115
    go_wp2_with (first
      | ((refine wpList_copy_splice ?hgd (.tmp 15) (.tmp 16) 25 25 ?ho0 5 Tryd.underlying25 ?h1 (some ⟨w.heap.size, 0, none⟩) A size (2 * C) n C ?hd ?hs w.heap.size 0 (nums .u8 (List.replicate (2 * C) 0)) 5 HG1.out (nums .u8 xs) ?hn ?hp ?hf ?ho w.heap.size w HB1.out (Nat.le_refl _) ?_); (case ho0 => rfl); (case hgd => rfl); (case hd => rfl); (case hs => rfl); go_loud ((case h1 => kernel_rfl)); go_loud ((case hn => simp only [nums, List.length_map]; rw [HLN.out]; exact (Nat.min_eq_left (by omega)).symm)); go_loud ((case hp => exact fun hpos => ⟨rfl, copySrc HC1.out (by simpa [nums] using hpos)⟩)); go_loud ((case hf => simp only [nums, List.length_map, List.length_replicate]; rw [HLN.out]; omega)); go_loud ((case ho => exact nums_one _ _)); intro w2 hw2 hb2; have HW2 := Aside0.mk hw2; have HB2 := Aside0.mk hb2; clear hw2 hb2))
    go_ret
    exact ⟨2 * C, rfl, ⟨_, rowSplice HW2.out, by rw [List.length_append, List.length_replicate, HLN.out]; omega⟩, by omega, by omega, HB2.out⟩
set_option maxHeartbeats 4000000 in
theorem resizeR_calls (base gb n C : Nat) (ys : List Int) (size : Nat) (w : World) (hR : Row w gb 5 .u8 ys) (hl : ys.length = C) (hn : n ≤ C) (hC9 : C ≤ 4294967296) (hbg : base ≤ gb) (hs0 : 0 < size) (hs9 : size ≤ 1073741824) :
    Calls Tryd.prog 83 #[.slice (some ⟨gb, 0, none⟩) n C, .int .i64 size] w fun e w' => ∃ g M, e = .returned (.slice (some ⟨g, 0, none⟩) size M) ∧ RowN w' g M ∧ size ≤ M ∧ M ≤ 4294967296 ∧ base ≤ g ∧ Below w.heap.size w w' := by
  have hgl := hR.lt
  by_cases c : C < size
  · have HG := Aside0.mk (growR_calls (some ⟨gb, 0, none⟩) n C size (ys.take n) w (row_takeC hR n (by omega) (by omega)) hn c hs9)
    have qc : decide ((C : Int) < (size : Int)) = true := decide_eq_true (by omega)
    have qc2 : decide (C < size) = true := decide_eq_true c
    clear hR hl
    go_enter Tryd.func83, Tryd.ntmps83
    go_wp2_with (first
      | (go_at_call 115; (with_reducible refine HG.out.mono ?_); rintro e w2 ⟨M, rfl, hf, h2, h3, hb2⟩; have HF2 := Aside0.mk hf; have HB2 := Aside0.mk hb2; clear hf hb2))
    go_ret
    exact ⟨w.heap.size, M, rfl, HF2.out, h2, h3, by omega, HB2.out⟩
  · have qc : decide ((C : Int) < (size : Int)) = false := decide_eq_false (by omega)
    have qc2 : decide (C < size) = false := decide_eq_false c
    obtain ⟨i8, h8⟩ := h8
    have cut1 := cutAtMid0 (P := Tryd.prog) 25 5 Tryd.underlying25 h8.1 h8.2 gb n C size (by omega)
    have HF := Aside0.mk hR
    have HL := Aside0.mk hl
    clear hR hl
    go_enter Tryd.func83, Tryd.ntmps83
    go_wp2_with (fail)
    go_ret
    exact ⟨gb, C, rfl, ⟨ys, HF.out, HL.out⟩, by omega, hC9, hbg, Below.refl _ _⟩
theorem unp_valsI (w : Nat) (l : List Int) (K : Nat) (hw : 0 < w) (hl : l.length = 8 * K) (hf : fitL w l) : unpI w (8 * K) (packLo w l) = i32L l := by
  apply List.ext_getElem
  · simp [unpI, i32L, hl]
  · intro k h1 h2
    have h2 : k < l.length := by simpa [i32L] using h2
    have := valLo_pack w l k hw h2 (by rw [hl, Nat.mul_assoc]; omega) hf
    rw [rd_nat _ _ h2] at this
    simp only [unpI, i32L, List.getElem_map, List.getElem_range]
    rw [this]
theorem le4_low (sz v : Nat) (h1 : 1 ≤ sz) (h4 : sz ≤ 4) (hv : v < 256 ^ sz) : le4L (lowL sz (v : Int) ++ List.replicate (4 - sz) 0) = (v : Int) := by
  rcases (show sz = 1 ∨ sz = 2 ∨ sz = 3 ∨ sz = 4 by omega) with h | h | h | h <;> subst h <;> simp [le4L, le4, lowL, rd, List.range_succ, List.replicate] <;> omega
theorem pow_ceil (v w : Nat) (h : v < 2 ^ w) : v < 256 ^ ((w + 7) / 8) := by
  have h1 := two_pow_le (show w ≤ 8 * ((w + 7) / 8) by omega)
  rw [Nat.pow_mul, show (2 : Nat) ^ 8 = 256 by decide] at h1
  omega
theorem i32L_app (a b : List Int) : i32L (a ++ b) = i32L a ++ i32L b := by simp [i32L]
theorem i32L_length (a : List Int) : (i32L a).length = a.length := by simp [i32L]
theorem hyb_bytes (w : Nat) (rs : List R) : bytesB (hyb w rs) = true := bytesB_of fun x hx => by
  simp only [hyb, List.mem_flatMap] at hx
  obtain ⟨r, _, hx⟩ := hx
  have hv : ∀ n, ∀ y ∈ varL n, byt y := fun n => by
    induction n using Nat.strongRecOn with
    | _ n ih =>
      intro y hy
      by_cases c : n < 128
      · rw [varL_lo c, List.mem_singleton] at hy; subst hy; exact ⟨by omega, by omega⟩
      · rw [varL_hi c] at hy
        rcases List.mem_cons.1 hy with h | h
        · subst h; exact ⟨by omega, by omega⟩
        · exact ih (n / 128) (by omega) y h
  cases r with
  | rep v k =>
    rcases List.mem_append.1 hx with h | h
    · exact hv _ x h
    · simp only [lowL, List.mem_map] at h
      obtain ⟨i, _, rfl⟩ := h
      exact ⟨by omega, by omega⟩
  | grp l =>
    rcases List.mem_append.1 hx with h | h
    · exact hv _ x h
    · simp only [packLo, bytesLo, List.mem_map] at h
      obtain ⟨q, _, rfl⟩ := h
      have := byteLo_lt (bitsLo w l) q
      exact ⟨by omega, by omega⟩
end Go.Proofs.YtoopljlbiifmfaaDoor.Dei
