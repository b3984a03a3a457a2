import Derived.Test.YtoopljlbiifmfaaDoorEna
/-! Numbers of 32 bits in runs: the encoder's parts, more. -/
namespace Go.Proofs.YtoopljlbiifmfaaDoor.Enb
open Go.Proofs.YtoopljlbiifmfaaDoor.Ena Go.Proofs.YtoopljlbiifmfaaDoor.Dec Go.Proofs.YtoopljlbiifmfaaDoor.Uva Go.Proofs.YtoopljlbiifmfaaDoor.Rle Go.Proofs.YtoopljlbiifmfaaDoor.Run Go.Proofs.YtoopljlbiifmfaaDoor.Rlp Go.Proofs.YtoopljlbiifmfaaDoor.Rlb Go.Proofs.YtoopljlbiifmfaaDoor.Buf Go.Proofs.YtoopljlbiifmfaaDoor.Fit Go.Proofs.YtoopljlbiifmfaaDoor.Bit Go.Proofs.YtoopljlbiifmfaaDoor.Wrd Go.Proofs.YtoopljlbiifmfaaDoor.Spl Go.Proofs.YtoopljlbiifmfaaDoor.Str Go.Proofs.YtoopljlbiifmfaaDoor.Flt Go.Proofs.YtoopljlbiifmfaaDoor.Owe Go.Proofs.YtoopljlbiifmfaaDoor.Num Go.Proofs.YtoopljlbiifmfaaDoor.Le Go.Proofs.YtoopljlbiifmfaaDoor.Lst Go.Proofs.YtoopljlbiifmfaaDoor.Aid Go.RowKit Go.Proofs.YtoopljlbiifmfaaDoorW.PrintWords Go.Proofs.YtoopljlbiifmfaaDoorW.PrintLast Go.Proofs.YtoopljlbiifmfaaDoorW.PrintMore
set_option linter.unusedVariables false
set_option linter.unusedSimpArgs false
theorem grownRowE (w : World) (g : Nat) (cs : Array Value) : w.grownBy (w.setRow g cs) (some g) :=
  ⟨rfl, rfl, rfl, by simp [World.setRow], fun k _ hk => setRow_other w g k cs (fun e => hk (by rw [e]))⟩
section
variable {P : Program} {ops : Array Oper} {rest : List Oper} {o : Oper} {a : Act} {Q : Exit → Act → World → Prop} {w : World}
theorem wpList_copy_at (hgd : o.guard = none) (d s : Operand) (dT sT : TypeId)
    (ho : o.op = .call { callee := .builtin .copy, args := #[d, s], argTypes := #[dT, sT] }) (elem : TypeId) (hu : P.underlying dT = some (.slice elem)) (hsz : (P.info? elem).map (·.size) = some 1)
    (g off n C : Nat) (ad : Addr) (sLen sCap : Nat) (hd : a.eval d = .slice (some ⟨g, off, none⟩) n C) (hs : a.eval s = .slice (some ad) sLen sCap)
    (t : Nat) (k : IntKind) (ys xs : List Int) (hR : Row w g t k ys) (hn : xs.length = Nat.min sLen n) (hsrc : ∀ j v, (nums k xs)[j]? = some v → w.cell? (ad.add j) = some v) (hfit : off + xs.length ≤ ys.length)
    (h : ∀ w1, Row w1 g t k (ys.take off ++ (xs ++ ys.drop (off + xs.length))) → w.grownBy w1 (some g) → wpList P ops Q rest (a.put o.dst (goInt (nums k xs).length)) w1) :
    wpList P ops Q (o :: rest) a w := by
  refine wpList_copy_own hgd d s dT sT ho elem hu hsz g off n C ad sLen sCap hd hs (nums k ys).toArray t hR.out.out (nums k xs) (by simpa [nums] using hn) hsrc (by simpa [nums] using hfit) (nums_one _ _) ?_
  refine h _ ⟨⟨?_⟩⟩ (grownRowE _ _ _)
  have e : ((nums k ys).toArray.toList.take off ++ (nums k xs ++ (nums k ys).toArray.toList.drop (off + (nums k xs).length))) = nums k (ys.take off ++ (xs ++ ys.drop (off + xs.length))) := by simp [nums, List.map_drop, List.map_take]
  rw [e]
  exact setRow_heap w g _ _ t _ hR.out.out
end
theorem take8 (l : List Int) (j : Nat) (hj : 8 * j + 8 ≤ l.length) : l.take (8 * (j + 1)) = l.take (8 * j) ++ [rd l (8 * j : Nat), rd l (8 * j + 1 : Nat), rd l (8 * j + 2 : Nat), rd l (8 * j + 3 : Nat), rd l (8 * j + 4 : Nat), rd l (8 * j + 5 : Nat), rd l (8 * j + 6 : Nat), rd l (8 * j + 7 : Nat)] := by
  have h : ∀ k, k < l.length → l.take (k + 1) = l.take k ++ [rd l (k : Nat)] := fun k hk => by
    rw [List.take_succ_eq_append_getElem hk, rd_nat _ _ hk]
  rw [show 8 * (j + 1) = 8 * j + 7 + 1 by omega, h _ (by omega), show 8 * j + 7 = 8 * j + 6 + 1 by omega, h _ (by omega), show 8 * j + 6 = 8 * j + 5 + 1 by omega, h _ (by omega), show 8 * j + 5 = 8 * j + 4 + 1 by omega, h _ (by omega), show 8 * j + 4 = 8 * j + 3 + 1 by omega, h _ (by omega), show 8 * j + 3 = 8 * j + 2 + 1 by omega, h _ (by omega), show 8 * j + 2 = 8 * j + 1 + 1 by omega, h _ (by omega), h _ (by omega)]
  simp
set_option maxHeartbeats 4000000 in
theorem broadcast8x4_calls (v : Int) (w : World) :
    Calls Tryd.prog 107 #[.int .i32 v] w fun e w' => e = .returned (.agg #[.int .i32 v, .int .i32 v, .int .i32 v, .int .i32 v, .int .i32 v, .int .i32 v, .int .i32 v, .int .i32 v]) ∧ Below w.heap.size w w' := by
  have HB : Aside0 (∀ o, Below w.heap.size w (w.alloc o)) := ⟨fun o => (Below.refl _ _).alloc (Nat.le_refl _) o⟩
  go_enter Tryd.func107, Tryd.ntmps107
  go_wp2_with (fail)
  refine bodyPost_ret (results_cell_row rfl _ _ w.heap.size 121 #[.int .i32 v, .int .i32 v, .int .i32 v, .int .i32 v, .int .i32 v, .int .i32 v, .int .i32 v, .int .i32 v] (0, 0) _ rfl (heap_alloc_new _ _) Tryd.underlying121 rfl (by kernel_rfl)) rfl ?_
  exact ⟨rfl, HB.out _⟩
set_option maxHeartbeats 8000000 in
set_option maxRecDepth 100000 in
theorem flat_calls (A : Option Addr) (m c : Nat) (l : List Int) (w : World) (hC : (Kd.int .i32).C w A (8 * m) l) (hc : m ≤ c) (hm : m ≤ 1000000) :
    Calls Tryd.prog 144 #[.slice A m c] w fun e w' => ∃ v, e = .returned v ∧ Own w' w.heap.size 21 .i32 v l ∧ Below w.heap.size w w' := by
  have HLN : Aside0 (l.length = 8 * m) := ⟨hC.1⟩
  have HC := Aside0.mk hC
  have HO0 : Aside0 (Own w w.heap.size 21 .i32 (.slice none 0 0) (l.take (8 * 0))) := ⟨Own.nil _ _ _ _⟩
  have HB0 : Aside0 (Below w.heap.size w w) := ⟨Below.refl _ _⟩
  clear hC
  go_enter Tryd.func144, Tryd.ntmps144
  go_wp2_with (fail)
  go_loopg [3, 8] m (fun kq v3 v8 w' => ∃ (j : Nat), j ≤ m ∧ v8 = .int .i64 j ∧ Aside0 (Own w' w.heap.size 21 .i32 v3 (l.take (8 * j))) ∧ Aside0 (Below w.heap.size w w') ∧ Aside0 (m - j ≤ kq))
  case atStart => exact ⟨0, by omega, rfl, HO0, HB0, ⟨by omega⟩⟩
  case round =>
    clear HO0 HB0
    obtain ⟨j, hj, rfl, HO, HB, HK⟩ := hrel
    by_cases cj : j < m
    · have cjb : decide ((j : Int) < (m : Int)) = true := decide_eq_true (by omega)
      obtain ⟨ad, ead, hc0, hc8⟩ := at8 (Kd.C_below HC.out HB.out) j cj
      have HTK := Aside0.mk (take8 l j (by rw [HLN.out]; omega))
      obtain ⟨y0, hy0⟩ : ∃ y, rd l (8 * j : Nat) = y := ⟨_, rfl⟩
      rw [hy0] at hc0
      have x1 := hc8 1 (by omega) (by omega)
      obtain ⟨y1, hy1⟩ : ∃ y, rd l (8 * j + 1 : Nat) = y := ⟨_, rfl⟩
      rw [hy1] at x1
      have x2 := hc8 2 (by omega) (by omega)
      obtain ⟨y2, hy2⟩ : ∃ y, rd l (8 * j + 2 : Nat) = y := ⟨_, rfl⟩
      rw [hy2] at x2
      have x3 := hc8 3 (by omega) (by omega)
      obtain ⟨y3, hy3⟩ : ∃ y, rd l (8 * j + 3 : Nat) = y := ⟨_, rfl⟩
      rw [hy3] at x3
      have x4 := hc8 4 (by omega) (by omega)
      obtain ⟨y4, hy4⟩ : ∃ y, rd l (8 * j + 4 : Nat) = y := ⟨_, rfl⟩
      rw [hy4] at x4
      have x5 := hc8 5 (by omega) (by omega)
      obtain ⟨y5, hy5⟩ : ∃ y, rd l (8 * j + 5 : Nat) = y := ⟨_, rfl⟩
      rw [hy5] at x5
      have x6 := hc8 6 (by omega) (by omega)
      obtain ⟨y6, hy6⟩ : ∃ y, rd l (8 * j + 6 : Nat) = y := ⟨_, rfl⟩
      rw [hy6] at x6
      have x7 := hc8 7 (by omega) (by omega)
      obtain ⟨y7, hy7⟩ : ∃ y, rd l (8 * j + 7 : Nat) = y := ⟨_, rfl⟩
      rw [hy7] at x7
      rw [hy0, hy1, hy2, hy3, hy4, hy5, hy6, hy7] at HTK
      have hln : (l.take (8 * j)).length = 8 * j := by rw [List.length_take, HLN.out]; omega
      have HLT := Aside0.mk hln
      have HOA : Aside0 (Own (wr.alloc (.cells #[.int .i32 y0, .int .i32 y1, .int .i32 y2, .int .i32 y3, .int .i32 y4, .int .i32 y5, .int .i32 y6, .int .i32 y7] 121)) w.heap.size 21 .i32 u3 (l.take (8 * j))) := ⟨HO.out.alloc _⟩
      have HBA : Aside0 (Below w.heap.size w (wr.alloc (.cells #[.int .i32 y0, .int .i32 y1, .int .i32 y2, .int .i32 y3, .int .i32 y4, .int .i32 y5, .int .i32 y6, .int .i32 y7] 121))) := ⟨HB.out.alloc HB.out.size _⟩
      have HCA : Aside0 ((Kd.int .i32).C (wr.alloc (.cells #[.int .i32 y0, .int .i32 y1, .int .i32 y2, .int .i32 y3, .int .i32 y4, .int .i32 y5, .int .i32 y6, .int .i32 y7] 121)) (some ⟨wr.heap.size, 0, none⟩) 8 [y0, y1, y2, y3, y4, y5, y6, y7]) := ⟨rowC (t := 121) ⟨Blk.new _ _ _⟩ rfl (by omega)⟩
      clear hy0 hy1 hy2 hy3 hy4 hy5 hy6 hy7 hc8 hln
      subst ead
      go_wp2_with (first
        | (at_builtin; go_loud (refine appendRead (w0 := w) w.heap.size rfl (.tmp 12) (.tmp 13) 43 21 .i32 4 rfl Tryd.underlying43 infoI32e (by decide) u3 (l.take (8 * j)) (some ⟨wr.heap.size, 0, none⟩) 8 8 [y0, y1, y2, y3, y4, y5, y6, y7] rfl rfl HOA.out HBA.out ?hb HCA.out ?hl ?_); (case hb => exact HBA.out.size); (case hl => rw [HLT.out]; omega); intro v5 w5 ho hb hg; have HO5 := Aside0.mk ho; have HB5 := Aside0.mk hb; clear ho hb hg))
      go_roundg (gk - 1)
      case measure => have := HK.out; omega
      case rel =>
        refine ⟨j + 1, by omega, by go_num, ⟨?_⟩, HB5, ⟨by have := HK.out; omega⟩⟩
        rw [HTK.out]; exact HO5.out
    · obtain rfl : j = m := by omega
      have cjb : decide ((j : Int) < (j : Int)) = false := decide_eq_false (by omega)
      have HTA : Aside0 (l.take (8 * j) = l) := ⟨by rw [← HLN.out, List.take_length]⟩
      go_wp2_with (fail)
      go_ret
      exact ⟨_, rfl, by rw [← HTA.out]; exact HO.out, HB.out⟩
set_option maxHeartbeats 8000000 in
set_option maxRecDepth 100000 in
theorem wordsOf_calls (A : Option Addr) (n c m : Nat) (l : List Int) (w : World) (hC : (Kd.int .i32).C w A n l) (hc : n ≤ c) (hn : n ≤ 1000000) (hm : n / 8 = m) :
    Calls Tryd.prog 106 #[.slice A n c] w fun e w' => e = .returned (.slice (some ⟨w.heap.size, 0, none⟩) m m) ∧ Row w' w.heap.size 121 .i32 (l.take (8 * m)) ∧ Below w.heap.size w w' ∧ w.heap.size < w'.heap.size := by
  have HLN : Aside0 (l.length = n) := ⟨hC.1⟩
  have HC := Aside0.mk hC
  have hmI : (n : Int) / 8 = (m : Int) := by omega
  have hmt : (n : Int).tdiv 8 = (m : Int) := by rw [Int.tdiv_eq_ediv_of_nonneg (by omega)]; exact hmI
  obtain ⟨i32, h32⟩ : ∃ i, (Tryd.prog.info? 21) = some i ∧ i.size = 1 := Option.map_eq_some_iff.1 (show (Tryd.prog.info? 21).map (fun i => i.size) = some 1 by kernel_rfl)
  have hmk := makeRows (P := Tryd.prog) 119 121 (.agg #[.int .i32 0, .int .i32 0, .int .i32 0, .int .i32 0, .int .i32 0, .int .i32 0, .int .i32 0, .int .i32 0]) .i32 8 32 Tryd.underlying119 (by kernel_rfl) rfl (by omega) m (by omega) (by omega)
  have HM := Aside0.mk hm
  clear hC hm
  go_enter Tryd.func106, Tryd.ntmps106
  go_wp2_with (fail)
  have HR0 : Aside0 (Row (w.alloc (.cells (nums .i32 (List.replicate (m * 8) 0)).toArray 121)) w.heap.size 121 .i32 (l.take (8 * 0) ++ List.replicate (8 * (m - 0)) 0)) := ⟨⟨by have := Blk.new w (nums .i32 (List.replicate (m * 8) 0)).toArray 121; rw [Nat.mul_comm m 8] at this ⊢; simpa using this⟩⟩
  have HB0 : Aside0 (Below w.heap.size w (w.alloc (.cells (nums .i32 (List.replicate (m * 8) 0)).toArray 121))) := ⟨(Below.refl _ _).alloc (Nat.le_refl _) _⟩
  have HS0 : Aside0 (w.heap.size < (w.alloc (.cells (nums .i32 (List.replicate (m * 8) 0)).toArray 121)).heap.size) := ⟨by simp⟩
  generalize w.alloc (.cells (nums .i32 (List.replicate (m * 8) 0)).toArray 121) = wm at *
  clear hmk
  go_loopg [4, 11] m (fun kq v4 v11 w' => ∃ (j : Nat), j ≤ m ∧ v11 = .int .i64 j ∧ Aside0 (Row w' w.heap.size 121 .i32 (l.take (8 * j) ++ List.replicate (8 * (m - j)) 0)) ∧ Aside0 (Below w.heap.size w w') ∧ Aside0 (w.heap.size < w'.heap.size) ∧ Aside0 (m - j ≤ kq))
  case atStart => exact ⟨0, by omega, rfl, HR0, HB0, HS0, ⟨by omega⟩⟩
  case round =>
    clear HR0 HB0 HS0
    obtain ⟨j, hj, rfl, HR, HB, HS, HK⟩ := hrel
    by_cases cj : j < m
    · have cjb : decide ((j : Int) < (m : Int)) = true := decide_eq_true (by omega)
      obtain ⟨o, ho⟩ : ∃ o, 8 * j = o := ⟨_, rfl⟩
      have hoI : (8 : Int) * (j : Int) = (o : Int) := by omega
      have how : IntKind.i64.wrap (o : Int) = (o : Int) := IntWalk.i64_in _ (by omega)
      have hon : o + 8 ≤ n := by have := HM.out; omega
      obtain ⟨A1, cut1, hC1⟩ := cutLo (P := Tryd.prog) 43 21 Tryd.underlying43 h32.1 h32.2 A n c .i64 (o : Int) o rfl (by omega) hc
      have qi1 : (j < m) = True := eq_true cj
      have qi2 : ((j : Int) < (m : Int)) = True := eq_true (by omega)
      have qi3 : (0 ≤ (j : Int)) = True := eq_true (by omega)
      have HC1 := Aside0.mk hC1
      clear hC1
      go_wp2_with (fail)
      refine region_tail 8 (by kernel_rfl) (by kernel_rfl) ?_
      simp only [List.take_succ_cons, List.take_zero, List.drop_succ_cons, List.drop_zero]
      repeat (quiet_step ((fail)))
      refine wpQuiet_nil ?_
      rintro _ ⟨nq, rfl⟩
      have hchunk : ((l.drop o).take 8).length = 8 := by rw [List.length_take, List.length_drop, HLN.out]; omega
      have hCs := Kd.C_take (m := 8) (by have := HC1.out (Kd.int .i32) (wr.drewN nq) l rfl (Kd.C_below HC.out (HB.out.trans ((drewN_below wr nq).mono HB.out.size))); rw [← (show (l.drop o).length = n - o by rw [List.length_drop, HLN.out])] at this; exact this) (by rw [List.length_drop, HLN.out]; omega)
      obtain ⟨ad, ead, hsrc⟩ := copySrc hCs (by rw [hchunk]; omega)
      subst ead
      refine wpList_copy_at (by rfl) (.tmp 17) (.tmp 21) 43 43 (by rfl) 21 Tryd.underlying43 ?h1 w.heap.size (j * 8) 8 8 ad (n - o) (c - o) (by rfl) (by rfl) 121 .i32 _ ((l.drop o).take 8) (HR.out.drewN nq) ?hn hsrc ?hf ?_
      case h1 => kernel_rfl
      case hn => rw [hchunk]; exact (Nat.min_eq_right (by omega)).symm
      case hf => rw [hchunk, List.length_append, List.length_replicate, List.length_take, HLN.out]; omega
      intro w1 hr hg
      have hl8 : (l.take (8 * j)).length = 8 * j := by rw [List.length_take, HLN.out]; omega
      have HR1 : Aside0 (Row w1 w.heap.size 121 .i32 (l.take (8 * (j + 1)) ++ List.replicate (8 * (m - (j + 1))) 0)) := ⟨by
        have hlo : (l.take o).length = o := by rw [← ho]; exact hl8
        have e9 : (l.take o ++ List.replicate (8 * (m - j)) (0 : Int)).drop (o + 8) = List.replicate (8 * (m - j) - 8) 0 := by
          rw [List.drop_append, List.drop_eq_nil_of_le (by omega), List.nil_append, List.drop_replicate, hlo, show o + 8 - o = 8 by omega]
        rw [hchunk, Nat.mul_comm j 8, ho, List.take_left' hlo, e9] at hr
        rw [show 8 * (j + 1) = o + 8 by omega, List.take_add, List.append_assoc, ← ho]
        rw [show 8 * (m - j) - 8 = 8 * (m - (j + 1)) by omega] at hr
        rw [ho]
        exact hr⟩
      have HB1 := Aside0.mk ((HB.out.trans ((drewN_below wr nq).mono HB.out.size)).grown hg (by have := HB.out.size; exact this) (fun j hj => by injection hj with hj; omega))
      have HS1 : Aside0 (w.heap.size < w1.heap.size) := ⟨Nat.lt_of_lt_of_le HS.out hg.size⟩
      clear hr hg hsrc hCs hchunk hl8
      go_wp2_with (fail)
      go_roundg (gk - 1)
      case measure => have := HK.out; omega
      case rel => exact ⟨j + 1, by omega, by go_num, HR1, HB1, HS1, ⟨by have := HK.out; omega⟩⟩
    · obtain rfl : j = m := by omega
      have cjb : decide ((j : Int) < (j : Int)) = false := decide_eq_false (by omega)
      go_wp2_with (fail)
      go_ret
      exact ⟨rfl, by have := HR.out; simpa using this, HB.out, HS.out⟩
end Go.Proofs.YtoopljlbiifmfaaDoor.Enb
