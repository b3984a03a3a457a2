import Derived.Test.YtojoppondgnajaaDoorBl2
namespace Go.Proofs.YtojoppondgnajaaDoor.Bl
open Go.Proofs.YtojoppondgnajaaDoor.Aid Go.RowKit Go.Proofs.YtojoppondgnajaaDoorW.PrintWords Go.Proofs.YtojoppondgnajaaDoorW.PrintLast Go.Proofs.YtojoppondgnajaaDoorW.PrintMore
set_option linter.unusedVariables false
set_option linter.unusedSimpArgs false

theorem salt_at (k : Nat) (hk : k < 8) : ∀ W : World, (Instr.index 53 (.agg #[.int .u32 1203114875, .int .u32 1150766481, .int .u32 2284105051, .int .u32 2729912477, .int .u32 1884591559, .int .u32 770785867, .int .u32 2667333959, .int .u32 1550580529]) (.int .i64 (k : Int))).run Tryd.prog W = .ok (.int .u32 (saltI k)) W := by
  rcases (show k = 0 ∨ k = 1 ∨ k = 2 ∨ k = 3 ∨ k = 4 ∨ k = 5 ∨ k = 6 ∨ k = 7 by omega) with rfl | rfl | rfl | rfl | rfl | rfl | rfl | rfl <;> exact fun W => by kernel_rfl
set_option maxHeartbeats 4000000 in
theorem salt_calls (k : Nat) (hk : k < 8) (w : World) :
    Calls Tryd.prog 22 #[.int .i64 k] w fun e w' => e = .returned (.int .u32 (saltI k)) ∧ w = w' := by
  have hix := salt_at k hk
  go_enter Tryd.func22, Tryd.ntmps22
  go_wp2_with (fail)
  go_ret
  exact ⟨rfl, rfl⟩
/-- the place of a hash in a filter, by its number -/
def placeI (x : Int) (B k : Nat) : Int := (blk x B : Int) * 256 + (k : Int) * 32 + (place (x % 4294967296) k : Int)
set_option maxHeartbeats 4000000 in
theorem places_calls (A : Option Addr) (n c : Nat) (x : Int) (hx : u64B x) (B : Nat) (hn : n = 32 * B) (hB : B < 65536) (hB0 : 0 < B) (w : World) :
    Calls Tryd.prog 16 #[.slice A n c, .int .u64 x] w fun e w' => e = .returned (.agg #[.int .i64 (placeI x B 0), .int .i64 (placeI x B 1), .int .i64 (placeI x B 2), .int .i64 (placeI x B 3), .int .i64 (placeI x B 4), .int .i64 (placeI x B 5), .int .i64 (placeI x B 6), .int .i64 (placeI x B 7)]) ∧ Below w.heap.size w w' := by
  have HX := Aside0.mk hx
  have HN := Aside0.mk hn
  have hq : (n : Int) / 32 = (B : Int) := by omega
  clear hx hn
  go_enter Tryd.func16, Tryd.ntmps16
  go_wp2_with (fail)
  have hbk : wrap64 (IntKind.u64.wrap (x / 4294967296 * ↑B) / 4294967296) = (blk x B : Int) := by
    have hx := HX.out
    unfold u64B at hx; unfold blk
    have h1 : x / 4294967296 ≤ 4294967295 := by omega
    have h2 : x / 4294967296 * B ≤ 4294967295 * B := Int.mul_le_mul_of_nonneg_right h1 (by omega)
    have h3 : 0 ≤ x / 4294967296 * B := Int.mul_nonneg (by omega) (by omega)
    rw [IntWalk.u64_in _ (by omega)]
    generalize x / 4294967296 * (B : Int) = q at *
    rw [IntWalk.wrap64_in _ (by omega)]
    omega
  rw [hbk]
  obtain ⟨b, hb⟩ : ∃ b, blk x B = b := ⟨_, rfl⟩
  have hbl : b < 65536 := by have := blk_lt x B HX.out hB0; omega
  have HB0 := Aside0.mk hb
  rw [hb]
  clear hbk hb
  have HM : Aside0 (Row ((w.alloc (.cells #[.int .i64 0, .int .i64 0, .int .i64 0, .int .i64 0, .int .i64 0, .int .i64 0, .int .i64 0, .int .i64 0] 35)).alloc (.cells #[.int .i64 0, .int .i64 0, .int .i64 0, .int .i64 0, .int .i64 0, .int .i64 0, .int .i64 0, .int .i64 0] 35)) (w.heap.size + 1) 35 .i64 (part (placeI x B) 8 0)) := by
    have := Blk.new (w.alloc (.cells #[.int .i64 0, .int .i64 0, .int .i64 0, .int .i64 0, .int .i64 0, .int .i64 0, .int .i64 0, .int .i64 0] 35)) #[.int .i64 0, .int .i64 0, .int .i64 0, .int .i64 0, .int .i64 0, .int .i64 0, .int .i64 0, .int .i64 0] 35
    simp only [World.size_alloc] at this
    exact ⟨⟨this⟩⟩
  have HR0 : Aside0 (Row ((w.alloc (.cells #[.int .i64 0, .int .i64 0, .int .i64 0, .int .i64 0, .int .i64 0, .int .i64 0, .int .i64 0, .int .i64 0] 35)).alloc (.cells #[.int .i64 0, .int .i64 0, .int .i64 0, .int .i64 0, .int .i64 0, .int .i64 0, .int .i64 0, .int .i64 0] 35)) w.heap.size 35 .i64 [0, 0, 0, 0, 0, 0, 0, 0]) := ⟨⟨(Blk.new _ _ _).alloc _⟩⟩
  have HB : Aside0 (Below w.heap.size w ((w.alloc (.cells #[.int .i64 0, .int .i64 0, .int .i64 0, .int .i64 0, .int .i64 0, .int .i64 0, .int .i64 0, .int .i64 0] 35)).alloc (.cells #[.int .i64 0, .int .i64 0, .int .i64 0, .int .i64 0, .int .i64 0, .int .i64 0, .int .i64 0, .int .i64 0] 35))) := ⟨((Below.refl _ _).alloc (Nat.le_refl _) _).alloc (by simp) _⟩
  generalize (w.alloc (.cells #[.int .i64 0, .int .i64 0, .int .i64 0, .int .i64 0, .int .i64 0, .int .i64 0, .int .i64 0, .int .i64 0] 35)).alloc (.cells #[.int .i64 0, .int .i64 0, .int .i64 0, .int .i64 0, .int .i64 0, .int .i64 0, .int .i64 0, .int .i64 0] 35) = wm at *
  go_loopg [8, 19] 8 (fun kq v8 v19 w' => ∃ k : Nat, k ≤ 8 ∧ v19 = .int .i64 k ∧ Aside0 (Row w' (w.heap.size + 1) 35 .i64 (part (placeI x B) 8 k)) ∧ Aside0 (Row w' w.heap.size 35 .i64 [0, 0, 0, 0, 0, 0, 0, 0]) ∧ Aside0 (Below w.heap.size w w') ∧ Aside0 (8 - k ≤ kq))
  case atStart => exact ⟨0, by omega, rfl, HM, HR0, HB, ⟨by omega⟩⟩
  case round =>
    clear HM HR0 HB
    obtain ⟨k, hk, rfl, HM, HR0, HB, HK⟩ := hrel
    by_cases ck : k < 8
    · have ckb : decide ((k : Int) < 8) = true := decide_eq_true (by omega)
      have fk := HM.out.free k
      have mk := HM.out.cell (j := k) (by rw [part_length]; exact ck)
      have hp : 0 ≤ x % 4294967296 * saltI k % 4294967296 / 134217728 := by omega
      have hp2 : x % 4294967296 * saltI k % 4294967296 / 134217728 < 32 := by omega
      go_wp2_with (first
        | (go_at_call 22; (with_reducible refine (salt_calls k ck _).mono ?_); rintro e w' ⟨rfl, rfl⟩))
      have hB2 : Below w.heap.size w wr := HB.out
      have hv : (b : Int) * 256 + (k : Int) * 32 + x % 4294967296 * saltI k % 4294967296 / 134217728 = placeI x B k := by
        unfold placeI place; rw [HB0.out]; omega
      rw [hv]
      go_roundg (gk - 1)
      case measure => have := HK.out; omega
      case rel =>
        refine ⟨k + 1, by omega, by go_num, ⟨?_⟩, ⟨HR0.out.far (p := ⟨w.heap.size + 1, k, none⟩) (by simp) _⟩, ⟨Below.setCell (p := ⟨w.heap.size + 1, k, none⟩) hB2 (Nat.le_succ _) _⟩, ⟨by have := HK.out; omega⟩⟩
        have := HM.out.set k (placeI x B k)
        rw [part_set] at this
        exact this
    · obtain rfl : k = 8 := by omega
      have ckb : decide (((8 : Nat) : Int) < 8) = false := by decide
      have hc' : ∀ j, j < 8 → wr.cell? ⟨w.heap.size + 1, j, none⟩ = some (.int .i64 (placeI x B j)) := fun j hj => by
        have := HM.out.cell (j := j) (by rw [part_length]; exact hj)
        rw [rd_part _ 8 8 j hj, if_pos hj] at this; exact this
      have hd' : ∀ j, j < 8 → wr.cell? ⟨w.heap.size, j, none⟩ = some (.int .i64 0) := fun j hj => by
        have := HR0.out.cell (j := j) hj
        rw [this]
        rcases (show j = 0 ∨ j = 1 ∨ j = 2 ∨ j = 3 ∨ j = 4 ∨ j = 5 ∨ j = 6 ∨ j = 7 by omega) with rfl | rfl | rfl | rfl | rfl | rfl | rfl | rfl <;> rfl
      have c0 := hc' 0 (by decide)
      have c1 := hc' 1 (by decide)
      have c2 := hc' 2 (by decide)
      have c3 := hc' 3 (by decide)
      have c4 := hc' 4 (by decide)
      have c5 := hc' 5 (by decide)
      have c6 := hc' 6 (by decide)
      have c7 := hc' 7 (by decide)
      have d0 := hd' 0 (by decide)
      have d1 := hd' 1 (by decide)
      have d2 := hd' 2 (by decide)
      have d3 := hd' 3 (by decide)
      have d4 := hd' 4 (by decide)
      have d5 := hd' 5 (by decide)
      have d6 := hd' 6 (by decide)
      have d7 := hd' 7 (by decide)
      have hf := HR0.out.free
      clear hc' hd'
      go_wp2_with (fail)
      have hb : Row _ w.heap.size 35 .i64 [placeI x B 0, placeI x B 1, placeI x B 2, placeI x B 3, placeI x B 4, placeI x B 5, placeI x B 6, placeI x B 7] := (((((((HR0.out.set 0 (placeI x B 0)).set 1 (placeI x B 1)).set 2 (placeI x B 2)).set 3 (placeI x B 3)).set 4 (placeI x B 4)).set 5 (placeI x B 5)).set 6 (placeI x B 6)).set 7 (placeI x B 7)
      have hb' := hb.out.cast (cs' := #[.int .i64 (placeI x B 0), .int .i64 (placeI x B 1), .int .i64 (placeI x B 2), .int .i64 (placeI x B 3), .int .i64 (placeI x B 4), .int .i64 (placeI x B 5), .int .i64 (placeI x B 6), .int .i64 (placeI x B 7)]) rfl
      clear hb
      have HB8 := Aside0.mk hb'
      clear hb'
      refine bodyPost_ret (v := .agg #[.int .i64 (placeI x B 0), .int .i64 (placeI x B 1), .int .i64 (placeI x B 2), .int .i64 (placeI x B 3), .int .i64 (placeI x B 4), .int .i64 (placeI x B 5), .int .i64 (placeI x B 6), .int .i64 (placeI x B 7)]) ?_ rfl ⟨rfl, ?_⟩
      · exact results_cell_row (P := Tryd.prog) rfl _ _ w.heap.size 35 _ (0, 0) _ rfl HB8.out.out Tryd.underlying35 rfl (by kernel_rfl)
      exact below_set8 HB.out (Nat.le_refl _) _ _ _ _ _ _ _ _ _ _ _ _ _ _ _ _

/-! ### Has -/
def bitB (l : List Int) (at_ : Int) : Bool := bitN (rd l (at_.toNat / 8 : Nat)) (at_.toNat % 8)
def hasB (l : List Int) (x : Int) (B k : Nat) : Bool := (List.range k).all fun i => bitB l (placeI x B i)
theorem hasB_succ (l : List Int) (x : Int) (B k : Nat) : hasB l x B (k + 1) = (hasB l x B k && bitB l (placeI x B k)) := by
  simp [hasB, List.range_succ]
theorem hasB_false {l : List Int} {x : Int} {B k n : Nat} (hk : k < n) (h : bitB l (placeI x B k) = false) : hasB l x B n = false := by
  unfold hasB
  rw [List.all_eq_false]
  exact ⟨k, List.mem_range.2 hk, by rw [h]; decide⟩
theorem placeI_bd (x : Int) (B k : Nat) (hx : u64B x) (hB : 0 < B) (hk : k < 8) : 0 ≤ placeI x B k ∧ placeI x B k < 256 * B := by
  have := blk_lt x B hx hB
  have := place_lt (x % 4294967296) k
  unfold placeI; omega
theorem agg_at (F : Nat → Int) (k : Nat) (hk : k < 8) : ∀ W : World, (Instr.index 35 (.agg #[.int .i64 (F 0), .int .i64 (F 1), .int .i64 (F 2), .int .i64 (F 3), .int .i64 (F 4), .int .i64 (F 5), .int .i64 (F 6), .int .i64 (F 7)]) (.int .i64 (k : Int))).run Tryd.prog W = .ok (.int .i64 (F k)) W := by
  rcases (show k = 0 ∨ k = 1 ∨ k = 2 ∨ k = 3 ∨ k = 4 ∨ k = 5 ∨ k = 6 ∨ k = 7 by omega) with rfl | rfl | rfl | rfl | rfl | rfl | rfl | rfl <;> exact fun W => by kernel_rfl
theorem and1_u8 (y : Int) (h0 : 0 ≤ y) (h1 : y < 256) : Go.bits .and .u8 y 1 = y % 2 := by
  have := bits_mask .u8 8 (by decide) (fun n h0 h1 => by rw [IntKind.wrap_u8]; omega) 1 (by decide) y h0 (by omega)
  exact this
theorem bit8_val (x : Int) (j : Nat) (hx : byt x) : (Go.bits .and .u8 (x / 2 ^ j) 1 == 0) = !bitN x j := by
  unfold byt at hx
  obtain ⟨n, rfl⟩ := Int.eq_ofNat_of_zero_le hx.1
  have hd : ((n : Int) / 2 ^ j) = ((n / 2 ^ j : Nat) : Int) := by simp
  have hle : n / 2 ^ j ≤ n := Nat.div_le_self _ _
  rw [hd]
  unfold bitN
  rw [Int.toNat_natCast, testBit_div]
  generalize n / 2 ^ j = q at *
  rw [and1_u8 _ (by omega) (by omega)]
  rcases Nat.mod_two_eq_zero_or_one q with h | h
  · rw [show (q : Int) % 2 = 0 by omega, h]; rfl
  · rw [show (q : Int) % 2 = 1 by omega, h]; rfl
set_option maxHeartbeats 4000000 in
theorem has2_calls (A : Option Addr) (n c : Nat) (l : List Int) (x : Int) (hx : u64B x) (B : Nat) (hn : n = 32 * B) (hB : B < 65536) (hB0 : 0 < B) (w : World) (hC : (Kd.int .u8).C w A n l) (hc : n ≤ c) (hb : bytesB l = true) :
    Calls Tryd.prog 9 #[.slice A n c, .int .u64 x] w fun e w' => e = .returned (.bool (hasB l x B 8)) ∧ Below w.heap.size w w' := by
  have HP := Aside0.mk (places_calls A n c x hx B hn hB hB0 w)
  have hbd := fun k hk => placeI_bd x B k hx hB0 hk
  have HC := Aside0.mk hC
  have HBY := Aside0.mk hb
  have HN := Aside0.mk hn
  have HLN : Aside0 (l.length = n) := ⟨hC.1⟩
  have hix := agg_at (placeI x B)
  obtain ⟨H0, hH0⟩ : ∃ H : Nat → Bool, (fun k => hasB l x B k) = H := ⟨_, rfl⟩
  have HBD := Aside0.mk hbd
  have HIX := Aside0.mk hix
  clear hx hn hC hb hbd hix
  go_enter Tryd.func9, Tryd.ntmps9
  go_wp2_with (first
    | (go_at_call 16; (with_reducible refine HP.out.mono ?_); rintro e w1 ⟨rfl, hb1⟩))
  have HB1 := Aside0.mk hb1
  clear hb1
  go_loopg [6, 10] 8 (fun kq v6 v10 w' => ∃ k : Nat, k ≤ 8 ∧ v10 = .int .i64 k ∧ Aside0 (hasB l x B k = true) ∧ w1 = w' ∧ Aside0 (8 - k ≤ kq))
  case atStart => exact ⟨0, by omega, rfl, ⟨rfl⟩, rfl, ⟨by omega⟩⟩
  case round =>
    obtain ⟨k, hk, rfl, HH, rfl, HK⟩ := hrel
    by_cases ck : k < 8
    · have ckb : decide ((k : Int) < 8) = true := decide_eq_true (by omega)
      have hix := HIX.out k ck
      obtain ⟨hp0, hp1⟩ := HBD.out k ck
      obtain ⟨p, hp⟩ : ∃ p : Nat, placeI x B k = p := ⟨(placeI x B k).toNat, by omega⟩
      rw [hp] at hix hp0 hp1
      have hp8 : p / 8 < n := by have := HN.out; omega
      obtain ⟨ad, ead, hcell⟩ := Kd.at_int (Kd.C_below HC.out HB1.out) ((p : Int) / 8) (by omega) (by omega)
      obtain ⟨y, hy⟩ : ∃ y, rd l (p / 8 : Nat) = y := ⟨_, rfl⟩
      have hrd : rd l ((p : Int) / 8) = y := by rw [← hy, show ((p : Int) / 8) = ((p / 8 : Nat) : Int) by omega]
      rw [hrd, show ((p : Int) / 8).toNat = p / 8 by omega] at hcell
      subst ead
      have hy8 : Aside0 (byt y) := ⟨by rw [← hy]; exact bytesB_rd HBY.out (k := p / 8) rfl (by rw [HLN.out]; exact hp8)⟩
      have HBIT : Aside0 (bitB l (placeI x B k) = bitN y (p % 8)) := ⟨by unfold bitB; rw [hp, Int.toNat_natCast, hy]⟩
      have hy0 := hy8.out.1
      have hy1 := hy8.out.2
      have HVAL := Aside0.mk (bit8_val y (p % 8) hy8.out)
      have cpi : decide ((p : Int) / 8 < (n : Int)) = true := decide_eq_true (by omega)
      clear hy hrd
      cases cq : bitN y (p % 8)
      · have hv : (Go.bits .and .u8 (y / 2 ^ (p % 8)) 1 == 0) = true := by rw [HVAL.out, cq]; rfl
        go_wp2_with (fail)
        go_ret
        exact ⟨by rw [hasB_false ck (by rw [HBIT.out]; exact cq)]; rfl, HB1.out⟩
      · have hv : (Go.bits .and .u8 (y / 2 ^ (p % 8)) 1 == 0) = false := by rw [HVAL.out, cq]; rfl
        go_wp2_with (fail)
        go_roundg (gk - 1)
        case measure => have := HK.out; omega
        case rel => exact ⟨k + 1, by omega, by go_num, ⟨by rw [hasB_succ, HH.out, HBIT.out, cq]; rfl⟩, rfl, ⟨by have := HK.out; omega⟩⟩
    · obtain rfl : k = 8 := by omega
      have ckb : decide (((8 : Nat) : Int) < 8) = false := by decide
      go_wp2_with (fail)
      go_ret
      exact ⟨by rw [HH.out]; rfl, HB1.out⟩

/-! ### the bits of a word are those of its bytes -/
theorem testBit_byte (a m : Nat) (ha : a < 256) (i : Nat) : (a + 256 * m).testBit i = if i < 8 then a.testBit i else m.testBit (i - 8) := by
  have := Nat.testBit_two_pow_mul_add m (i := 8) (b := a) (by omega) i
  rw [show a + 256 * m = 2 ^ 8 * m + a by omega]; exact this
theorem bit_le4 (b0 b1 b2 b3 : Int) (h0 : byt b0) (h1 : byt b1) (h2 : byt b2) (h3 : byt b3) (q r : Nat) (hr : r < 8) :
    bitN (le4 b0 b1 b2 b3) (8 * q + r) = if q = 0 then bitN b0 r else if q = 1 then bitN b1 r else if q = 2 then bitN b2 r else if q = 3 then bitN b3 r else false := by
  unfold byt at h0 h1 h2 h3
  obtain ⟨n0, rfl⟩ := Int.eq_ofNat_of_zero_le h0.1
  obtain ⟨n1, rfl⟩ := Int.eq_ofNat_of_zero_le h1.1
  obtain ⟨n2, rfl⟩ := Int.eq_ofNat_of_zero_le h2.1
  obtain ⟨n3, rfl⟩ := Int.eq_ofNat_of_zero_le h3.1
  unfold bitN
  have e : (le4 (n0 : Int) n1 n2 n3).toNat = n0 + 256 * (n1 + 256 * (n2 + 256 * (n3 + 256 * 0))) := by unfold le4; omega
  rw [e]
  simp only [Int.toNat_natCast]
  rw [testBit_byte _ _ (by omega), testBit_byte _ _ (by omega), testBit_byte _ _ (by omega), testBit_byte _ _ (by omega)]
  rcases (show q = 0 ∨ q = 1 ∨ q = 2 ∨ q = 3 ∨ 4 ≤ q by omega) with rfl | rfl | rfl | rfl | hq
  · rw [if_pos (by omega), if_pos rfl]; congr 1; omega
  · rw [if_neg (by omega), if_pos (by omega), if_neg (by omega), if_pos rfl]; congr 1; omega
  · rw [if_neg (by omega), if_neg (by omega), if_pos (by omega), if_neg (by omega), if_neg (by omega), if_pos rfl]; congr 1; omega
  · rw [if_neg (by omega), if_neg (by omega), if_neg (by omega), if_pos (by omega), if_neg (by omega), if_neg (by omega), if_neg (by omega), if_pos rfl]; congr 1; omega
  · rw [if_neg (by omega), if_neg (by omega), if_neg (by omega), if_neg (by omega), if_neg (by omega), if_neg (by omega), if_neg (by omega), if_neg (by omega)]
    simp
theorem rd_drop (l : List Int) (o i : Nat) : rd (l.drop o) i = rd l (o + i : Nat) := by
  unfold rd; rw [Int.toNat_natCast, Int.toNat_natCast, List.getD_eq_getElem?_getD, List.getD_eq_getElem?_getD, List.getElem?_drop]
theorem bit_wAt (l : List Int) (hb : bytesB l = true) (j : Nat) (hj : 4 * j + 4 ≤ l.length) (p : Nat) (hp : p < 32) :
    bitN (wAt l j) p = bitN (rd l (4 * j + p / 8 : Nat)) (p % 8) := by
  have hbb : ∀ i : Nat, i < 4 → byt (rd l (4 * j + i : Nat)) := fun i hi => bytesB_rd hb (k := 4 * j + i) rfl (by omega)
  have e : wAt l j = le4 (rd l (4 * j + 0 : Nat)) (rd l (4 * j + 1 : Nat)) (rd l (4 * j + 2 : Nat)) (rd l (4 * j + 3 : Nat)) := by
    unfold wAt le4L
    rw [← rd_drop, ← rd_drop, ← rd_drop, ← rd_drop]; rfl
  have := bit_le4 _ _ _ _ (hbb 0 (by omega)) (hbb 1 (by omega)) (hbb 2 (by omega)) (hbb 3 (by omega)) (p / 8) (p % 8) (by omega)
  rw [e, show p = 8 * (p / 8) + p % 8 by omega, this]
  rw [← show p = 8 * (p / 8) + p % 8 by omega]
  rcases (show p / 8 = 0 ∨ p / 8 = 1 ∨ p / 8 = 2 ∨ p / 8 = 3 by omega) with h | h | h | h <;> rw [h] <;> rfl
/-- Check tells what Has tells. -/
theorem check_has (l : List Int) (hf : Fil l) (x : Int) (hx : u64B x) : checkB l x = hasB l x (l.length / 32) 8 := by
  obtain ⟨B, hB⟩ : ∃ B, l.length = 32 * B := ⟨l.length / 32, by have := hf.n32; omega⟩
  have hB0 : 0 < B := by have := hf.n0; omega
  unfold checkB
  rw [show l.length / 4 = B * 8 by omega, show l.length / 32 = B by omega]
  have hbl := blk_lt x B hx hB0
  unfold checkI hasB
  have hall : ∀ i, i < 8 → bitN (rd (wordsOf l (B * 8)) (blk x B * 8 + i : Nat)) (place (x % 4294967296) i) = bitB l (placeI x B i) := by
    intro i hi
    have hp := place_lt (x % 4294967296) i
    rw [rd_wordsOf _ _ _ (by omega), bit_wAt l hf.b _ (by omega) _ hp]
    unfold bitB placeI
    congr 1
    · congr 2; omega
    · omega
  rw [Bool.eq_iff_iff, List.all_eq_true, List.all_eq_true]
  constructor
  · intro h i hi; rw [← hall i (List.mem_range.1 hi)]; exact h i hi
  · intro h i hi; rw [hall i (List.mem_range.1 hi)]; exact h i hi
end Go.Proofs.YtojoppondgnajaaDoor.Bl
