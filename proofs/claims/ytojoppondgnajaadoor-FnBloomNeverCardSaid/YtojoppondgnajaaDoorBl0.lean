import Derived.Test.YtojoppondgnajaaDoorPFnBloomInsertx0
namespace Go.Proofs.YtojoppondgnajaaDoor.Bl
open Go.Proofs.YtojoppondgnajaaDoor.Aid Go.RowKit Go.Proofs.YtojoppondgnajaaDoorW.PrintWords Go.Proofs.YtojoppondgnajaaDoorW.PrintLast Go.Proofs.YtojoppondgnajaaDoorW.PrintMore
set_option linter.unusedVariables false
set_option linter.unusedSimpArgs false

/-! ### words as bits -/
def bitN (x : Int) (j : Nat) : Bool := x.toNat.testBit j
def orBit (x : Int) (j : Nat) : Int := ((x.toNat ||| 2 ^ j : Nat) : Int)
def u32B (x : Int) : Prop := 0 ≤ x ∧ x < 4294967296
theorem and1_u32 (y : Int) (h0 : 0 ≤ y) (h1 : y < 4294967296) : Go.bits .and .u32 y 1 = y % 2 := by
  have := bits_mask .u32 32 (by decide) (fun n h0 h1 => by rw [IntKind.wrap_u32]; omega) 1 (by decide) y h0 (by omega)
  exact this
theorem testBit_div (x j : Nat) : x.testBit j = (x / 2 ^ j % 2 != 0) := by
  rw [Nat.testBit_eq_decide_div_mod_eq]
  have := Nat.mod_two_eq_zero_or_one (x / 2 ^ j)
  rcases this with h | h <;> simp [h]
theorem has_val (x : Int) (j : Nat) (hx : u32B x) : (Go.bits .and .u32 (x / 2 ^ j) 1 != 0) = bitN x j := by
  unfold u32B at hx
  obtain ⟨n, rfl⟩ := Int.eq_ofNat_of_zero_le hx.1
  have hd : ((n : Int) / 2 ^ j) = ((n / 2 ^ j : Nat) : Int) := by simp
  have hle : n / 2 ^ j ≤ n := Nat.div_le_self _ _
  rw [hd]
  unfold bitN
  rw [Int.toNat_natCast, testBit_div]
  generalize n / 2 ^ j = q at *
  rw [and1_u32 _ (by omega) (by omega)]
  rcases Nat.mod_two_eq_zero_or_one q with h | h
  · rw [show (q : Int) % 2 = 0 by omega, h]; rfl
  · rw [show (q : Int) % 2 = 1 by omega, h]; rfl
theorem or_val (x : Int) (j : Nat) (hx : u32B x) (hj : j < 32) : Go.bits .or .u32 x (2 ^ j % 4294967296) = orBit x j := by
  unfold u32B at hx
  obtain ⟨n, rfl⟩ := Int.eq_ofNat_of_zero_le hx.1
  have h2 : 2 ^ j < 2 ^ 32 := Nat.pow_lt_pow_right (by decide) hj
  have e : (2 : Int) ^ j % 4294967296 = ((2 ^ j : Nat) : Int) := by
    rw [show ((2 : Int) ^ j) = ((2 ^ j : Nat) : Int) by simp]
    generalize 2 ^ j = q at *
    omega
  rw [e, u32_or_nat n (2 ^ j) (by omega) (by omega)]
  unfold orBit
  rw [Int.toNat_natCast]
theorem orBit_u32 (x : Int) (j : Nat) (hx : u32B x) (hj : j < 32) : u32B (orBit x j) := by
  unfold u32B orBit at *
  have h2 : 2 ^ j < 2 ^ 32 := Nat.pow_lt_pow_right (by decide) hj
  have := Nat.or_lt_two_pow (n := 32) (show x.toNat < 2 ^ 32 by omega) h2
  omega
theorem bit_orBit (x : Int) (i j : Nat) : bitN (orBit x j) i = (bitN x i || decide (i = j)) := by
  unfold bitN orBit
  rw [Int.toNat_natCast, Nat.testBit_or, Nat.testBit_two_pow]
  by_cases h : i = j
  · subst h; simp
  · have : ¬ j = i := fun e => h e.symm
    simp [h, this]

theorem has_calls (x : Int) (j : Nat) (hx : u32B x) (hj : j < 32) (w : World) :
    Calls Tryd.prog 32 #[.int .u32 x, .int .u64 j] w fun e w' => e = .returned (.bool (bitN x j)) ∧ w = w' := by
  have hv := has_val x j hx
  have HV := Aside0.mk hv
  have q0 : (0 : Int) ≤ j := by omega
  have q1 : (j : Int) ≤ 31 := by omega
  unfold u32B at hx
  clear hv
  go_enter Tryd.func32, Tryd.ntmps32
  go_wp2
  go_ret
  exact ⟨congrArg (fun b => Ending.returned (Value.bool b)) HV.out, rfl⟩
theorem set_calls (g o : Nat) (x : Int) (j : Nat) (w : World) (hc : w.cell? ⟨g, o, none⟩ = some (.int .u32 x)) (hf : w.frozen? ⟨g, o, none⟩ = false) (hx : u32B x) (hj : j < 32) :
    Calls Tryd.prog 33 #[.pointer (some ⟨g, o, none⟩), .int .u64 j] w fun e w' => e = .returned (.tuple #[]) ∧ w.setCell ⟨g, o, none⟩ (.int .u32 (orBit x j)) = w' := by
  have hv := or_val x j hx hj
  have HV := Aside0.mk hv
  have q0 : (0 : Int) ≤ j := by omega
  have q1 : (j : Int) ≤ 31 := by omega
  clear hv
  go_enter Tryd.func33, Tryd.ntmps33
  go_wp2
  go_end0
  rw [HV.out]
  exact ⟨rfl, rfl⟩

/-! ### the mask of a number -/
def saltI : Nat → Int
  | 0 => 1203114875 | 1 => 1150766481 | 2 => 2284105051 | 3 => 2729912477 | 4 => 1884591559 | 5 => 770785867 | 6 => 2667333959 | 7 => 1550580529 | _ => 0
def place (x : Int) (i : Nat) : Nat := ((x * saltI i) % 4294967296 / 134217728).toNat
theorem place_lt (x : Int) (i : Nat) : place x i < 32 := by unfold place; omega
def maskI (x : Int) (i : Nat) : Int := orBit 0 (place x i)
def maskL (x : Int) (k : Nat) : List Int := (List.range 8).map fun i => if i < k then maskI x i else 0
theorem maskL_length (x : Int) (k : Nat) : (maskL x k).length = 8 := by simp [maskL]
theorem rd_maskL (x : Int) (k i : Nat) (hi : i < 8) : rd (maskL x k) i = if i < k then maskI x i else 0 := by
  simp [rd, maskL, List.getD_eq_getElem?_getD, hi]
theorem maskL_set (x : Int) (k : Nat) (hk : k < 8) : (maskL x k).set k (maskI x k) = maskL x (k + 1) := by
  apply List.ext_getElem
  · simp [maskL]
  · intro i h1 h2
    simp only [maskL, List.getElem_set, List.getElem_map, List.getElem_range]
    by_cases h : k = i
    · subst h; simp
    · rw [if_neg h]
      by_cases h3 : i < k
      · rw [if_pos h3, if_pos (by omega)]
      · rw [if_neg h3, if_neg (by omega)]
theorem u32B_zero : u32B 0 := by unfold u32B; omega
theorem maskI_u32 (x : Int) (i : Nat) : u32B (maskI x i) := orBit_u32 0 _ u32B_zero (place_lt x i)
theorem bit_maskI (x : Int) (i j : Nat) : bitN (maskI x i) j = decide (j = place x i) := by
  unfold maskI; rw [bit_orBit]; simp [bitN]
/-- the table of salts lies in the first block -/
def Salt (W : World) : Prop := ∀ i, i < 8 → W.cell? ⟨0, i, none⟩ = some (.int .u32 (saltI i))
theorem Salt.below {W W' : World} (h : Salt W) (hb : Below W.heap.size W W') (h0 : 0 < W.heap.size) : Salt W' := fun i hi => by
  rw [hb.cell (p := ⟨0, i, none⟩) h0]; exact h i hi
def agg8 (f : Nat → Int) : Value := .agg #[.int .u32 (f 0), .int .u32 (f 1), .int .u32 (f 2), .int .u32 (f 3), .int .u32 (f 4), .int .u32 (f 5), .int .u32 (f 6), .int .u32 (f 7)]
set_option maxHeartbeats 4000000 in
theorem mask_calls (x : Int) (hx : u32B x) (w : World) (hS : Salt w) (h0 : 0 < w.heap.size) :
    Calls Tryd.prog 31 #[.int .u32 x] w fun e w' => e = .returned (agg8 (maskI x)) ∧ Below w.heap.size w w' := by
  have HS := Aside0.mk hS
  have HX := Aside0.mk hx
  clear hS hx
  go_enter Tryd.func31, Tryd.ntmps31
  go_wp2_with (fail)
  have HR : Aside0 (Row ((w.alloc (.cells #[.int .u32 0, .int .u32 0, .int .u32 0, .int .u32 0, .int .u32 0, .int .u32 0, .int .u32 0, .int .u32 0] 43)).alloc (.cells #[.int .u32 0, .int .u32 0, .int .u32 0, .int .u32 0, .int .u32 0, .int .u32 0, .int .u32 0, .int .u32 0] 43)) (w.heap.size + 1) 43 .u32 (maskL x 0)) := by
    have := Blk.new (w.alloc (.cells #[.int .u32 0, .int .u32 0, .int .u32 0, .int .u32 0, .int .u32 0, .int .u32 0, .int .u32 0, .int .u32 0] 43)) #[.int .u32 0, .int .u32 0, .int .u32 0, .int .u32 0, .int .u32 0, .int .u32 0, .int .u32 0, .int .u32 0] 43
    simp only [World.size_alloc] at this
    exact ⟨⟨this⟩⟩
  have HB2 : Aside0 (Blk ((w.alloc (.cells #[.int .u32 0, .int .u32 0, .int .u32 0, .int .u32 0, .int .u32 0, .int .u32 0, .int .u32 0, .int .u32 0] 43)).alloc (.cells #[.int .u32 0, .int .u32 0, .int .u32 0, .int .u32 0, .int .u32 0, .int .u32 0, .int .u32 0, .int .u32 0] 43)) w.heap.size #[.int .u32 0, .int .u32 0, .int .u32 0, .int .u32 0, .int .u32 0, .int .u32 0, .int .u32 0, .int .u32 0] 43) := ⟨(Blk.new _ _ _).alloc _⟩
  have HB : Aside0 (Below w.heap.size w ((w.alloc (.cells #[.int .u32 0, .int .u32 0, .int .u32 0, .int .u32 0, .int .u32 0, .int .u32 0, .int .u32 0, .int .u32 0] 43)).alloc (.cells #[.int .u32 0, .int .u32 0, .int .u32 0, .int .u32 0, .int .u32 0, .int .u32 0, .int .u32 0, .int .u32 0] 43))) := ⟨((Below.refl _ _).alloc (Nat.le_refl _) _).alloc (by simp) _⟩
  generalize (w.alloc (.cells #[.int .u32 0, .int .u32 0, .int .u32 0, .int .u32 0, .int .u32 0, .int .u32 0, .int .u32 0, .int .u32 0] 43)).alloc (.cells #[.int .u32 0, .int .u32 0, .int .u32 0, .int .u32 0, .int .u32 0, .int .u32 0, .int .u32 0, .int .u32 0] 43) = wm at *
  go_loopg [4, 5] 8 (fun kq v4 v5 w' => ∃ k : Nat, k ≤ 8 ∧ v4 = .int .u64 k ∧ Aside0 (Row w' (w.heap.size + 1) 43 .u32 (maskL x k)) ∧ Aside0 (Blk w' w.heap.size #[.int .u32 0, .int .u32 0, .int .u32 0, .int .u32 0, .int .u32 0, .int .u32 0, .int .u32 0, .int .u32 0] 43) ∧ Aside0 (Below w.heap.size w w') ∧ Aside0 (8 - k ≤ kq))
  case atStart => exact ⟨0, by omega, rfl, HR, HB2, HB, ⟨by omega⟩⟩
  case round =>
    clear HR HB2 HB
    obtain ⟨k, hk, rfl, HR, HB2, HB, HK⟩ := hrel
    by_cases ck : k < 8
    · have ckb : decide ((k : Int) < 8) = true := decide_eq_true (by omega)
      have sk := (HS.out.below HB.out h0) k ck
      have rk := HR.out.cell (j := k) (by rw [maskL_length]; exact ck)
      rw [rd_maskL x k k ck, if_neg (by omega)] at rk
      have fk := HR.out.free k
      have hp : ((x * saltI k) % 4294967296 / 134217728) = ((place x k : Nat) : Int) := by unfold place; omega
      have HP := Aside0.mk hp
      have b0 : 0 ≤ x * saltI k % 4294967296 := by omega
      have b1 : x * saltI k % 4294967296 < 4294967296 := by omega
      clear hp
      go_wp2_with (first
        | (go_at_call 33; rw [HP.out]; (with_reducible refine (set_calls (w.heap.size + 1) k 0 (place x k) _ rk fk u32B_zero (place_lt x k)).mono ?_); rintro e w' ⟨rfl, rfl⟩))
      go_roundg (gk - 1)
      case measure => have := HK.out; omega
      case rel =>
        refine ⟨k + 1, by omega, by go_num, ⟨?_⟩, ⟨HB2.out.far (by simp) _⟩, ⟨HB.out.setCell (by simp) _⟩, ⟨by have := HK.out; omega⟩⟩
        have := HR.out.set k (maskI x k)
        rw [maskL_set x k ck] at this
        exact this
    · obtain rfl : k = 8 := by omega
      have ckb : decide (((8 : Nat) : Int) < 8) = false := by decide
      have hc : ∀ j, j < 8 → wr.cell? ⟨w.heap.size + 1, j, none⟩ = some (.int .u32 (maskI x j)) := fun j hj => by
        have := HR.out.cell (j := j) (by rw [maskL_length]; exact hj)
        rw [rd_maskL x 8 j hj, if_pos hj] at this; exact this
      have hd : ∀ j, j < 8 → wr.cell? ⟨w.heap.size, j, none⟩ = some (.int .u32 0) := fun j hj => HB2.out.cell (by rcases (show j = 0 ∨ j = 1 ∨ j = 2 ∨ j = 3 ∨ j = 4 ∨ j = 5 ∨ j = 6 ∨ j = 7 by omega) with rfl | rfl | rfl | rfl | rfl | rfl | rfl | rfl <;> rfl)
      have c0 := hc 0 (by decide)
      have c1 := hc 1 (by decide)
      have c2 := hc 2 (by decide)
      have c3 := hc 3 (by decide)
      have c4 := hc 4 (by decide)
      have c5 := hc 5 (by decide)
      have c6 := hc 6 (by decide)
      have c7 := hc 7 (by decide)
      have d0 := hd 0 (by decide)
      have d1 := hd 1 (by decide)
      have d2 := hd 2 (by decide)
      have d3 := hd 3 (by decide)
      have d4 := hd 4 (by decide)
      have d5 := hd 5 (by decide)
      have d6 := hd 6 (by decide)
      have d7 := hd 7 (by decide)
      have hf := HB2.out.free
      clear hc hd
      go_wp2_with (fail)
      have hb := (((((((HB2.out.set 0 (.int .u32 (maskI x 0))).set 1 (.int .u32 (maskI x 1))).set 2 (.int .u32 (maskI x 2))).set 3 (.int .u32 (maskI x 3))).set 4 (.int .u32 (maskI x 4))).set 5 (.int .u32 (maskI x 5))).set 6 (.int .u32 (maskI x 6))).set 7 (.int .u32 (maskI x 7))
      have hb' := hb.cast (cs' := #[.int .u32 (maskI x 0), .int .u32 (maskI x 1), .int .u32 (maskI x 2), .int .u32 (maskI x 3), .int .u32 (maskI x 4), .int .u32 (maskI x 5), .int .u32 (maskI x 6), .int .u32 (maskI x 7)]) rfl
      clear hb
      have HB8 := Aside0.mk hb'
      clear hb'
      refine bodyPost_ret (v := agg8 (maskI x)) ?_ rfl ⟨rfl, ?_⟩
      · exact results_cell_row (P := Tryd.prog) rfl _ _ w.heap.size 43 _ (0, 0) _ rfl HB8.out.out Tryd.underlying43 rfl (by kernel_rfl)
      exact (((((((HB.out.setCell (p := ⟨w.heap.size, 0, none⟩) (Nat.le_refl _) _).setCell (p := ⟨w.heap.size, 1, none⟩) (Nat.le_refl _) _).setCell (p := ⟨w.heap.size, 2, none⟩) (Nat.le_refl _) _).setCell (p := ⟨w.heap.size, 3, none⟩) (Nat.le_refl _) _).setCell (p := ⟨w.heap.size, 4, none⟩) (Nat.le_refl _) _).setCell (p := ⟨w.heap.size, 5, none⟩) (Nat.le_refl _) _).setCell (p := ⟨w.heap.size, 6, none⟩) (Nat.le_refl _) _).setCell (p := ⟨w.heap.size, 7, none⟩) (Nat.le_refl _) _
end Go.Proofs.YtojoppondgnajaaDoor.Bl
