import Derived.Test.YtojoppondgnajaaDoorPFnBloomInsertx1
import Derived.Test.YtojoppondgnajaaDoorBl0
namespace Go.Proofs.YtojoppondgnajaaDoor.Bl
open Go.Proofs.YtojoppondgnajaaDoor.Aid Go.RowKit Go.Proofs.YtojoppondgnajaaDoorW.PrintWords Go.Proofs.YtojoppondgnajaaDoorW.PrintLast Go.Proofs.YtojoppondgnajaaDoorW.PrintMore
set_option linter.unusedVariables false
set_option linter.unusedSimpArgs false

/-! ### a block is checked -/
def mask8 (x : Int) : List Int := (List.range 8).map (maskI x)
theorem rd_mask8 (x : Int) (i : Nat) (hi : i < 8) : rd (mask8 x) i = maskI x i := by
  simp [rd, mask8, List.getD_eq_getElem?_getD, hi]
theorem mask8_length (x : Int) : (mask8 x).length = 8 := by simp [mask8]
/-- the first k words of a block hold the mask's bits -/
def checkI (ws : List Int) (o : Nat) (x : Int) (k : Nat) : Bool := (List.range k).all fun i => bitN (rd ws (o + i : Nat)) (place x i)
theorem checkI_succ (ws : List Int) (o : Nat) (x : Int) (k : Nat) : checkI ws o x (k + 1) = (checkI ws o x k && bitN (rd ws (o + k : Nat)) (place x k)) := by
  simp [checkI, List.range_succ]
theorem checkI_false {ws : List Int} {o : Nat} {x : Int} {k n : Nat} (hk : k < n) (h : bitN (rd ws (o + k : Nat)) (place x k) = false) : checkI ws o x n = false := by
  unfold checkI
  rw [List.all_eq_false]
  exact ⟨k, List.mem_range.2 hk, by rw [h]; decide⟩
def u32L (ws : List Int) : Prop := ∀ x ∈ ws, u32B x
theorem u32L_rd {ws : List Int} (h : u32L ws) {i : Nat} (hi : i < ws.length) : u32B (rd ws i) := h _ (rd_mem hi)
set_option maxHeartbeats 4000000 in
theorem check_calls (g o : Nat) (ws : List Int) (x : Int) (hx : u32B x) (w : World) (hS : Salt w) (h0 : 0 < w.heap.size) (hR : Row w g 43 .u32 ws) (ho : o + 8 ≤ ws.length) (hu : u32L ws) :
    Calls Tryd.prog 28 #[.pointer (some ⟨g, o, none⟩), .int .u32 x] w fun e w' => e = .returned (.bool (checkI ws o x 8)) ∧ Below w.heap.size w w' := by
  have HS := Aside0.mk hS
  have HX := Aside0.mk hx
  have HR := Aside0.mk hR
  have HU := Aside0.mk hu
  have HG := Aside0.mk hR.lt
  clear hS hx hR hu
  go_enter Tryd.func28, Tryd.ntmps28
  go_wp2_with (first
    | (go_at_call 31; (with_reducible refine (mask_calls x HX.out _ HS.out h0).mono ?_); rintro e w1 ⟨he, hb1⟩; unfold agg8 at he; subst he))
  have HM : Aside0 (Row (w1.alloc (.cells #[.int .u32 (maskI x 0), .int .u32 (maskI x 1), .int .u32 (maskI x 2), .int .u32 (maskI x 3), .int .u32 (maskI x 4), .int .u32 (maskI x 5), .int .u32 (maskI x 6), .int .u32 (maskI x 7)] 43)) w1.heap.size 43 .u32 (mask8 x)) := ⟨⟨Blk.new w1 #[.int .u32 (maskI x 0), .int .u32 (maskI x 1), .int .u32 (maskI x 2), .int .u32 (maskI x 3), .int .u32 (maskI x 4), .int .u32 (maskI x 5), .int .u32 (maskI x 6), .int .u32 (maskI x 7)] 43⟩⟩
  have HR1 : Aside0 (Row (w1.alloc (.cells #[.int .u32 (maskI x 0), .int .u32 (maskI x 1), .int .u32 (maskI x 2), .int .u32 (maskI x 3), .int .u32 (maskI x 4), .int .u32 (maskI x 5), .int .u32 (maskI x 6), .int .u32 (maskI x 7)] 43)) g 43 .u32 ws) := ⟨(HR.out.below hb1 HG.out).alloc _⟩
  have HB : Aside0 (Below w.heap.size w (w1.alloc (.cells #[.int .u32 (maskI x 0), .int .u32 (maskI x 1), .int .u32 (maskI x 2), .int .u32 (maskI x 3), .int .u32 (maskI x 4), .int .u32 (maskI x 5), .int .u32 (maskI x 6), .int .u32 (maskI x 7)] 43))) := ⟨hb1.alloc hb1.size _⟩
  clear hb1
  generalize w1.heap.size = g5 at *
  generalize w1.alloc (.cells #[.int .u32 (maskI x 0), .int .u32 (maskI x 1), .int .u32 (maskI x 2), .int .u32 (maskI x 3), .int .u32 (maskI x 4), .int .u32 (maskI x 5), .int .u32 (maskI x 6), .int .u32 (maskI x 7)] 43) = wm at *
  go_loopg [6, 7] 8 (fun kq v6 v7 w' => ∃ i : Nat, i ≤ 8 ∧ v6 = .int .u64 i ∧ Aside0 (checkI ws o x i = true) ∧ wm = w' ∧ Aside0 (8 - i ≤ kq))
  case atStart => exact ⟨0, by omega, rfl, ⟨rfl⟩, rfl, ⟨by omega⟩⟩
  case round =>
    obtain ⟨i, hi, rfl, HI, rfl, HK⟩ := hrel
    by_cases ci : i < 8
    · have cib : decide ((i : Int) < 8) = true := decide_eq_true (by omega)
      obtain ⟨gk0, rfl⟩ : ∃ gk0, gk = gk0 + 1 := ⟨gk - 1, by have := HK.out; omega⟩
      go_wp2_with (fail)
      go_loopg [7] 32 (fun kq v7 w' => ∃ j : Nat, j ≤ 32 ∧ v7 = .int .u64 j ∧ Aside0 (place x i < j → bitN (rd ws (o + i : Nat)) (place x i) = true) ∧ wm = w' ∧ Aside0 (32 - j ≤ kq))
      case atStart => exact ⟨0, by omega, rfl, ⟨by omega⟩, rfl, ⟨by omega⟩⟩
      case round =>
        obtain ⟨j, hj, rfl, HJ, rfl, HK2⟩ := hrel
        by_cases cj : j < 32
        · have cjb : decide ((j : Int) < 32) = true := decide_eq_true (by omega)
          have mi := HM.out.cell (j := i) (by rw [mask8_length]; exact ci)
          rw [rd_mask8 x i ci] at mi
          have bi := HR1.out.cell (j := o + i) (by omega)
          have hu1 := Aside0.mk (u32L_rd HU.out (i := o + i) (by omega))
          obtain ⟨bv, hbv⟩ : ∃ bv, rd ws (o + i : Nat) = bv := ⟨_, rfl⟩
          rw [hbv] at bi hu1
          have HBV := Aside0.mk hbv
          clear hbv
          by_cases cp : j = place x i
          · have cpb : bitN (maskI x i) j = true := by rw [bit_maskI]; exact decide_eq_true cp
            have CP := Aside0.mk cp
            clear cp
            cases cq : bitN bv j
            · go_wp2_with (first
                | (go_at_call_of 32 (Value.int .u32 (maskI x i)); (with_reducible refine (has_calls (maskI x i) j (maskI_u32 x i) cj _).mono ?_); rintro e w' ⟨rfl, rfl⟩; rw [cpb])
                | (go_at_call 32; (with_reducible refine (has_calls bv j hu1.out cj _).mono ?_); rintro e w' ⟨rfl, rfl⟩; rw [cq]))
              go_ret
              exact ⟨by rw [checkI_false ci (by rw [← CP.out, HBV.out]; exact cq)]; rfl, HB.out⟩
            · go_wp2_with (first
                | (go_at_call_of 32 (Value.int .u32 (maskI x i)); (with_reducible refine (has_calls (maskI x i) j (maskI_u32 x i) cj _).mono ?_); rintro e w' ⟨rfl, rfl⟩; rw [cpb])
                | (go_at_call 32; (with_reducible refine (has_calls bv j hu1.out cj _).mono ?_); rintro e w' ⟨rfl, rfl⟩; rw [cq]))
              go_roundg (gk - 1)
              case measure => have := HK2.out; omega
              case rel => exact ⟨j + 1, by omega, by go_num, ⟨fun _ => by rw [← CP.out, HBV.out]; exact cq⟩, rfl, ⟨by have := HK2.out; omega⟩⟩
          · have cpb : bitN (maskI x i) j = false := by rw [bit_maskI]; exact decide_eq_false cp
            have CP := Aside0.mk cp
            clear cp
            go_wp2_with (first
                | (go_at_call 32; (with_reducible refine (has_calls (maskI x i) j (maskI_u32 x i) cj _).mono ?_); rintro e w' ⟨rfl, rfl⟩; rw [cpb]))
            go_roundg (gk - 1)
            case measure => have := HK2.out; omega
            case rel => exact ⟨j + 1, by omega, by go_num, ⟨fun h => HJ.out (by have := CP.out; omega)⟩, rfl, ⟨by have := HK2.out; omega⟩⟩
        · obtain rfl : j = 32 := by omega
          have cjb : decide (((32 : Nat) : Int) < 32) = false := by decide
          go_wp2_with (fail)
          go_roundg gk0
          case measure => omega
          case rel =>
            refine ⟨i + 1, by omega, by go_num, ⟨?_⟩, rfl, ⟨by have := HK.out; omega⟩⟩
            rw [checkI_succ, HI.out, HJ.out (place_lt x i)]; rfl
    · obtain rfl : i = 8 := by omega
      have cib : decide (((8 : Nat) : Int) < 8) = false := by decide
      go_wp2_with (fail)
      go_ret
      exact ⟨by rw [HI.out]; rfl, HB.out⟩

/-! ### a block takes a number -/
def insW (ws : List Int) (o : Nat) (x : Int) : Nat → List Int
  | 0 => ws
  | k + 1 => (insW ws o x k).set (o + k) (orBit (rd (insW ws o x k) (o + k : Nat)) (place x k))
theorem insW_length (ws : List Int) (o : Nat) (x : Int) (k : Nat) : (insW ws o x k).length = ws.length := by
  induction k with
  | zero => rfl
  | succ k ih => simp [insW, ih]
theorem u32L_set {ws : List Int} (h : u32L ws) (i : Nat) {v : Int} (hv : u32B v) : u32L (ws.set i v) := fun x hx => by
  rcases List.mem_or_eq_of_mem_set hx with h1 | rfl
  · exact h x h1
  · exact hv
theorem insW_u32 {ws : List Int} (h : u32L ws) {o : Nat} (x : Int) (k : Nat) (ho : o + k ≤ ws.length) : u32L (insW ws o x k) := by
  induction k with
  | zero => exact h
  | succ k ih =>
    have ih' := ih (by omega)
    exact u32L_set ih' _ (orBit_u32 _ _ (u32L_rd ih' (by rw [insW_length]; omega)) (place_lt x k))
set_option maxHeartbeats 4000000 in
theorem insert_calls (g o : Nat) (ws : List Int) (x : Int) (hx : u32B x) (w : World) (hS : Salt w) (h0 : 0 < w.heap.size) (hR : Row w g 43 .u32 ws) (ho : o + 8 ≤ ws.length) (hu : u32L ws) :
    Calls Tryd.prog 29 #[.pointer (some ⟨g, o, none⟩), .int .u32 x] w fun e w' => e = .returned (.tuple #[]) ∧ w.grownBy w' (some g) ∧ Row w' g 43 .u32 (insW ws o x 8) := by
  have HS := Aside0.mk hS
  have HX := Aside0.mk hx
  have HR := Aside0.mk hR
  have HU := Aside0.mk hu
  have HG := Aside0.mk hR.lt
  clear hS hx hR hu
  go_enter Tryd.func29, Tryd.ntmps29
  go_wp2_with (first
    | (go_at_call 31; (with_reducible refine (mask_calls x HX.out _ HS.out h0).mono ?_); rintro e w1 ⟨he, hb1⟩; unfold agg8 at he; subst he))
  have HM : Aside0 (Row (w1.alloc (.cells #[.int .u32 (maskI x 0), .int .u32 (maskI x 1), .int .u32 (maskI x 2), .int .u32 (maskI x 3), .int .u32 (maskI x 4), .int .u32 (maskI x 5), .int .u32 (maskI x 6), .int .u32 (maskI x 7)] 43)) w1.heap.size 43 .u32 (mask8 x)) := ⟨⟨Blk.new w1 #[.int .u32 (maskI x 0), .int .u32 (maskI x 1), .int .u32 (maskI x 2), .int .u32 (maskI x 3), .int .u32 (maskI x 4), .int .u32 (maskI x 5), .int .u32 (maskI x 6), .int .u32 (maskI x 7)] 43⟩⟩
  have HR1 : Aside0 (Row (w1.alloc (.cells #[.int .u32 (maskI x 0), .int .u32 (maskI x 1), .int .u32 (maskI x 2), .int .u32 (maskI x 3), .int .u32 (maskI x 4), .int .u32 (maskI x 5), .int .u32 (maskI x 6), .int .u32 (maskI x 7)] 43)) g 43 .u32 (insW ws o x 0)) := ⟨(HR.out.below hb1 HG.out).alloc _⟩
  have HB : Aside0 (w.grownBy (w1.alloc (.cells #[.int .u32 (maskI x 0), .int .u32 (maskI x 1), .int .u32 (maskI x 2), .int .u32 (maskI x 3), .int .u32 (maskI x 4), .int .u32 (maskI x 5), .int .u32 (maskI x 6), .int .u32 (maskI x 7)] 43)) (some g)) := by
    have := hb1.alloc hb1.size (.cells #[.int .u32 (maskI x 0), .int .u32 (maskI x 1), .int .u32 (maskI x 2), .int .u32 (maskI x 3), .int .u32 (maskI x 4), .int .u32 (maskI x 5), .int .u32 (maskI x 6), .int .u32 (maskI x 7)] 43)
    exact ⟨⟨this.os, this.tape, this.output, this.size, fun k hk _ => this.block k hk⟩⟩
  have HGN : Aside0 (g ≠ w1.heap.size) := ⟨by have := HG.out; have := hb1.size; omega⟩
  clear hb1
  generalize w1.heap.size = g5 at *
  generalize w1.alloc (.cells #[.int .u32 (maskI x 0), .int .u32 (maskI x 1), .int .u32 (maskI x 2), .int .u32 (maskI x 3), .int .u32 (maskI x 4), .int .u32 (maskI x 5), .int .u32 (maskI x 6), .int .u32 (maskI x 7)] 43) = wm at *
  go_loopg [5, 6] 8 (fun kq v5 v6 w' => ∃ i : Nat, i ≤ 8 ∧ v5 = .int .u64 i ∧ Aside0 (Row w' g 43 .u32 (insW ws o x i)) ∧ Aside0 (Row w' g5 43 .u32 (mask8 x)) ∧ Aside0 (w.grownBy w' (some g)) ∧ Aside0 (8 - i ≤ kq))
  case atStart => exact ⟨0, by omega, rfl, HR1, HM, HB, ⟨by omega⟩⟩
  case round =>
    clear HR1 HM HB
    obtain ⟨i, hi, rfl, HR1, HM, HB, HK⟩ := hrel
    by_cases ci : i < 8
    · have cib : decide ((i : Int) < 8) = true := decide_eq_true (by omega)
      obtain ⟨gk0, rfl⟩ : ∃ gk0, gk = gk0 + 1 := ⟨gk - 1, by have := HK.out; omega⟩
      go_wp2_with (fail)
      go_loopg [6] 32 (fun kq v6 w' => ∃ j : Nat, j ≤ 32 ∧ v6 = .int .u64 j ∧ Aside0 (Row w' g 43 .u32 (if place x i < j then insW ws o x (i + 1) else insW ws o x i)) ∧ Aside0 (Row w' g5 43 .u32 (mask8 x)) ∧ Aside0 (w.grownBy w' (some g)) ∧ Aside0 (32 - j ≤ kq))
      case atStart => exact ⟨0, by omega, rfl, ⟨by rw [if_neg (Nat.not_lt_zero _)]; exact HR1.out⟩, HM, HB, ⟨by omega⟩⟩
      case round =>
        clear HR1 HM HB
        obtain ⟨j, hj, rfl, HR1, HM, HB, HK2⟩ := hrel
        by_cases cj : j < 32
        · have cjb : decide ((j : Int) < 32) = true := decide_eq_true (by omega)
          have mi := HM.out.cell (j := i) (by rw [mask8_length]; exact ci)
          rw [rd_mask8 x i ci] at mi
          by_cases cp : j = place x i
          · have cpb : bitN (maskI x i) j = true := by rw [bit_maskI]; exact decide_eq_true cp
            have hw : (if place x i < j then insW ws o x (i + 1) else insW ws o x i) = insW ws o x i := if_neg (by omega)
            rw [hw] at HR1
            have bi := HR1.out.cell (j := o + i) (by rw [insW_length]; omega)
            have bf := HR1.out.free (o + i)
            have hu1 := Aside0.mk (u32L_rd (insW_u32 HU.out (o := o) x i (by omega)) (i := o + i) (by rw [insW_length]; omega))
            obtain ⟨bv, hbv⟩ : ∃ bv, rd (insW ws o x i) (o + i : Nat) = bv := ⟨_, rfl⟩
            rw [hbv] at bi hu1
            have HBV := Aside0.mk hbv
            have CP := Aside0.mk cp
            clear hbv cp hw
            go_wp2_with (first
                | (go_at_call 32; (with_reducible refine (has_calls (maskI x i) j (maskI_u32 x i) cj _).mono ?_); rintro e w' ⟨rfl, rfl⟩; rw [cpb])
                | (go_at_call 33; (with_reducible refine (set_calls g (o + i) bv j _ bi bf hu1.out cj).mono ?_); rintro e w' ⟨rfl, rfl⟩))
            go_roundg (gk - 1)
            case measure => have := HK2.out; omega
            case rel =>
              refine ⟨j + 1, by omega, by go_num, ⟨?_⟩, ⟨HM.out.far (p := ⟨g, o + i, none⟩) (fun h => HGN.out h.symm) _⟩, ⟨grownSet HB.out _ _⟩, ⟨by have := HK2.out; omega⟩⟩
              rw [if_pos (by have := CP.out; omega)]
              have := HR1.out.set (o + i) (orBit bv j)
              rw [CP.out, ← HBV.out] at this
              rw [CP.out, ← HBV.out]
              exact this
          · have cpb : bitN (maskI x i) j = false := by rw [bit_maskI]; exact decide_eq_false cp
            have CP := Aside0.mk cp
            clear cp
            go_wp2_with (first
                | (go_at_call 32; (with_reducible refine (has_calls (maskI x i) j (maskI_u32 x i) cj _).mono ?_); rintro e w' ⟨rfl, rfl⟩; rw [cpb]))
            go_roundg (gk - 1)
            case measure => have := HK2.out; omega
            case rel =>
              refine ⟨j + 1, by omega, by go_num, ⟨?_⟩, HM, HB, ⟨by have := HK2.out; omega⟩⟩
              have := HR1.out
              by_cases h : place x i < j
              · rw [if_pos h] at this; rw [if_pos (by omega)]; exact this
              · rw [if_neg h] at this; rw [if_neg (by have := CP.out; omega)]; exact this
        · obtain rfl : j = 32 := by omega
          have cjb : decide (((32 : Nat) : Int) < 32) = false := by decide
          go_wp2_with (fail)
          go_roundg gk0
          case measure => omega
          case rel =>
            refine ⟨i + 1, by omega, by go_num, ⟨?_⟩, HM, HB, ⟨by have := HK.out; omega⟩⟩
            have := HR1.out
            rw [if_pos (place_lt x i)] at this; exact this
    · obtain rfl : i = 8 := by omega
      have cib : decide (((8 : Nat) : Int) < 8) = false := by decide
      go_wp2_with (fail)
      go_end0
      exact ⟨rfl, HB.out, HR1.out⟩

/-! ### the block of a hash -/
def blk (x : Int) (n : Nat) : Nat := (x / 4294967296 * n / 4294967296).toNat
def u64B (x : Int) : Prop := 0 ≤ x ∧ x < 18446744073709551616
theorem blk_lt (x : Int) (n : Nat) (hx : u64B x) (hn : 0 < n) : blk x n < n := by
  unfold u64B at hx; unfold blk
  have h1 : x / 4294967296 ≤ 4294967295 := by omega
  have h2 : x / 4294967296 * n ≤ 4294967295 * n := Int.mul_le_mul_of_nonneg_right h1 (by omega)
  omega
theorem fast_val (x : Int) (n : Nat) (hx : u64B x) (hn : n < 65536) : PFnBloomInsert.pqbloom_fasthash1x64.f x n = some (blk x n : Int) := by
  unfold u64B at hx
  unfold PFnBloomInsert.pqbloom_fasthash1x64.f blk
  have h1 : x / 4294967296 ≤ 4294967295 := by omega
  have h2 : x / 4294967296 * n ≤ 4294967295 * n := Int.mul_le_mul_of_nonneg_right h1 (by omega)
  have h3 : 0 ≤ x / 4294967296 * n := Int.mul_nonneg (by omega) (by omega)
  rw [IntWalk.u64_in (n : Int) (by omega), IntWalk.u64_in _ (by omega)]
  congr 1
  generalize x / 4294967296 * n = q at *
  omega
/-- the number whose bits stand in the words -/

theorem low_u32 (x : Int) : u32B (x % 4294967296) := by unfold u32B; omega
set_option maxHeartbeats 4000000 in
theorem filterCheck_calls (g n c : Nat) (ws : List Int) (x : Int) (hx : u64B x) (w : World) (hS : Salt w) (h0 : 0 < w.heap.size) (hR : Row w g 43 .u32 ws) (hn : 0 < n) (hn2 : n < 65536) (hl : n * 8 = ws.length) (hu : u32L ws) :
    Calls Tryd.prog 21 #[.slice (some ⟨g, 0, none⟩) n c, .int .u64 x] w fun e w' => e = .returned (.bool (checkI ws (blk x n * 8) (x % 4294967296) 8)) ∧ Below w.heap.size w w' := by
  have HS := Aside0.mk hS
  have HX := Aside0.mk hx
  have HR := Aside0.mk hR
  have HU := Aside0.mk hu
  have hb := blk_lt x n hx hn
  have HF := Aside0.mk (fast_val x n hx hn2)
  obtain ⟨b, hbv⟩ : ∃ b, blk x n = b := ⟨_, rfl⟩
  rw [hbv] at hb HF ⊢
  have HS2 : Aside0 (∀ nd, Salt (w.drewN nd) ∧ 0 < (w.drewN nd).heap.size) := ⟨fun nd => ⟨hS, h0⟩⟩
  clear hS hx hR hu hbv
  go_enter Tryd.func21, Tryd.ntmps21
  go_wp2_with (first
    | (go_at_call 27; (with_reducible refine (PFnBloomInsert.pqbloom_fasthash1x64.calls x n b _ HF.out).mono ?_); rintro e w' ⟨rfl, ⟨nd, rfl⟩⟩)
    | (go_at_call 28; (with_reducible refine (check_calls g (b * 8) ws (x % 4294967296) (low_u32 x) _ (HS2.out nd).1 (HS2.out nd).2 (HR.out.drewN nd) (by omega) HU.out).mono ?_); rintro e w' ⟨rfl, hb1⟩))
  go_ret
  exact ⟨rfl, (drewN_below w nd).trans hb1⟩
set_option maxHeartbeats 4000000 in
theorem filterInsert_calls (g n c : Nat) (ws : List Int) (x : Int) (hx : u64B x) (w : World) (hS : Salt w) (h0 : 0 < w.heap.size) (hR : Row w g 43 .u32 ws) (hn : 0 < n) (hn2 : n < 65536) (hl : n * 8 = ws.length) (hu : u32L ws) :
    Calls Tryd.prog 23 #[.slice (some ⟨g, 0, none⟩) n c, .int .u64 x] w fun e w' => e = .returned (.tuple #[]) ∧ w.grownBy w' (some g) ∧ Row w' g 43 .u32 (insW ws (blk x n * 8) (x % 4294967296) 8) := by
  have HS := Aside0.mk hS
  have HX := Aside0.mk hx
  have HR := Aside0.mk hR
  have HU := Aside0.mk hu
  have hb := blk_lt x n hx hn
  have HF := Aside0.mk (fast_val x n hx hn2)
  obtain ⟨b, hbv⟩ : ∃ b, blk x n = b := ⟨_, rfl⟩
  rw [hbv] at hb HF ⊢
  have HS2 : Aside0 (∀ nd, Salt (w.drewN nd) ∧ 0 < (w.drewN nd).heap.size) := ⟨fun nd => ⟨hS, h0⟩⟩
  clear hS hx hR hu hbv
  go_enter Tryd.func23, Tryd.ntmps23
  go_wp2_with (first
    | (go_at_call 27; (with_reducible refine (PFnBloomInsert.pqbloom_fasthash1x64.calls x n b _ HF.out).mono ?_); rintro e w' ⟨rfl, ⟨nd, rfl⟩⟩)
    | (go_at_call 29; (with_reducible refine (insert_calls g (b * 8) ws (x % 4294967296) (low_u32 x) _ (HS2.out nd).1 (HS2.out nd).2 (HR.out.drewN nd) (by omega) HU.out).mono ?_); rintro e w' ⟨rfl, hb1, hr1⟩))
  go_end0
  exact ⟨rfl, ⟨hb1.os, hb1.tape, hb1.output, hb1.size, hb1.block⟩, hr1⟩
end Go.Proofs.YtojoppondgnajaaDoor.Bl
