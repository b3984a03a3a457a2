import Derived.Test.YtojoppondgnajaaDoorBl1
namespace Go.Proofs.YtojoppondgnajaaDoor.Bl
open Go.Proofs.YtojoppondgnajaaDoor.Aid Go.RowKit Go.Proofs.YtojoppondgnajaaDoorW.PrintWords Go.Proofs.YtojoppondgnajaaDoorW.PrintLast Go.Proofs.YtojoppondgnajaaDoorW.PrintMore
set_option linter.unusedVariables false
set_option linter.unusedSimpArgs false

theorem i5 : (Tryd.prog.info? 5).isSome ∧ ∀ i, Tryd.prog.info? 5 = some i → i.size = 1 := by
  constructor
  · kernel_rfl
  · intro i hi
    have : (Tryd.prog.info? 5).map (·.size) = some 1 := by kernel_rfl
    rw [hi] at this; exact Option.some.inj this
/-- the words of bytes -/
def wAt (l : List Int) (j : Nat) : Int := le4L (l.drop (4 * j))
def wordsOf (l : List Int) (n : Nat) : List Int := (List.range n).map (wAt l)
theorem wordsOf_length (l : List Int) (n : Nat) : (wordsOf l n).length = n := by simp [wordsOf]
theorem rd_wordsOf (l : List Int) (n j : Nat) (hj : j < n) : rd (wordsOf l n) j = wAt l j := by
  simp [rd, wordsOf, List.getD_eq_getElem?_getD, hj]
theorem makeRows {P : Program} (t e : TypeId) (z : Value) (k : IntKind) (sz bytes : Nat) (ht : P.underlying t = some (.slice e)) (hinfo : (P.info? e).map (fun i => (i.zero, i.size, i.bytes)) = some (some z, sz, bytes)) (hz : z.cells = (nums k (List.replicate sz 0)).toArray) (hsz : 0 < sz)
    (m : Nat) (hn : m * bytes ≤ 281474976710656) (hm : m ≤ 281474976710656) :
    ∀ W : World, (Instr.makeSlice t (.int .i64 (m : Int)) (.int .i64 (m : Int))).run P W = .ok (.slice (some ⟨W.heap.size, 0, none⟩) m m) (W.alloc (.cells (nums k (List.replicate (m * sz) 0)).toArray e)) := by
  intro W
  obtain ⟨i, hi, hzz⟩ := Option.map_eq_some_iff.1 hinfo
  simp only [Prod.mk.injEq] at hzz
  obtain ⟨h1, h2, h3⟩ := hzz
  have h4 : (i.bytes : Int) * (m : Int) ≤ 281474976710656 := by
    rw [h3]
    have : ((m * bytes : Nat) : Int) ≤ 281474976710656 := by omega
    rwa [Int.natCast_mul, Int.mul_comm] at this
  have hr := run_make (P := P) W t e i z ht hi h1 .i64 .i64 m m (by omega) (Int.le_refl _) h4 (by omega)
  simp only [Int.toNat_natCast, h2, hz] at hr
  have e : madeCells (nums k (List.replicate sz 0)).toArray (m * sz) = (nums k (List.replicate (m * sz) 0)).toArray := by
    apply Array.ext
    · simp [size_madeCells, nums]
    · intro i h1 h2
      have : i % sz < sz := Nat.mod_lt _ hsz
      simp [madeCells, nums, this]
  rw [e] at hr
  exact hr
def part (f : Nat → Int) (n k : Nat) : List Int := (List.range n).map fun i => if i < k then f i else 0
theorem part_length (f : Nat → Int) (n k : Nat) : (part f n k).length = n := by simp [part]
theorem rd_part (f : Nat → Int) (n k i : Nat) (hi : i < n) : rd (part f n k) i = if i < k then f i else 0 := by
  simp [rd, part, List.getD_eq_getElem?_getD, hi]
theorem part_set (f : Nat → Int) (n k : Nat) : (part f n k).set k (f k) = part f n (k + 1) := by
  apply List.ext_getElem
  · simp [part]
  · intro i h1 h2
    simp only [part, List.getElem_set, List.getElem_map, List.getElem_range]
    by_cases h : k = i
    · subst h; simp
    · rw [if_neg h]
      by_cases h3 : i < k
      · rw [if_pos h3, if_pos (by omega)]
      · rw [if_neg h3, if_neg (by omega)]
theorem part_zero (f : Nat → Int) (n : Nat) : part f n 0 = List.replicate n 0 := by
  apply List.ext_getElem
  · simp [part]
  · intro i h1 h2; simp [part]
theorem part_full (f : Nat → Int) (n : Nat) : part f n n = (List.range n).map f := by
  apply List.ext_getElem
  · simp [part]
  · intro i h1 h2
    have : i < n := by simpa [part] using h1
    simp [part, this]
set_option maxHeartbeats 4000000 in
theorem blockOf_calls (A : Option Addr) (n c : Nat) (l : List Int) (w : World) (hC : (Kd.int .u8).C w A n l) (hc : n ≤ c) (hn : 32 ≤ n) (hb : bytesB l = true) :
    Calls Tryd.prog 20 #[.slice A n c] w fun e w' => e = .returned (agg8 (wAt l)) ∧ Below w.heap.size w w' := by
  have HC := Aside0.mk hC
  have HBY := Aside0.mk hb
  have hln : l.length = n := hC.1
  have HLN := Aside0.mk hln
  clear hC hb hln
  obtain ⟨i0, hi0⟩ := Option.isSome_iff_exists.1 i5.1
  have hsz := i5.2 i0 hi0
  go_enter Tryd.func20, Tryd.ntmps20
  go_wp2_with (fail)
  have HR : Aside0 (Row (w.alloc (.cells #[.int .u32 0, .int .u32 0, .int .u32 0, .int .u32 0, .int .u32 0, .int .u32 0, .int .u32 0, .int .u32 0] 43)) w.heap.size 43 .u32 (part (wAt l) 8 0)) := ⟨⟨Blk.new w #[.int .u32 0, .int .u32 0, .int .u32 0, .int .u32 0, .int .u32 0, .int .u32 0, .int .u32 0, .int .u32 0] 43⟩⟩
  have HB : Aside0 (Below w.heap.size w (w.alloc (.cells #[.int .u32 0, .int .u32 0, .int .u32 0, .int .u32 0, .int .u32 0, .int .u32 0, .int .u32 0, .int .u32 0] 43))) := ⟨(Below.refl _ _).alloc (Nat.le_refl _) _⟩
  generalize w.alloc (.cells #[.int .u32 0, .int .u32 0, .int .u32 0, .int .u32 0, .int .u32 0, .int .u32 0, .int .u32 0, .int .u32 0] 43) = wm at *
  go_loopg [3, 4] 8 (fun kq v3 v4 w' => ∃ k : Nat, k ≤ 8 ∧ v4 = .int .i64 k ∧ Aside0 (Row w' w.heap.size 43 .u32 (part (wAt l) 8 k)) ∧ Aside0 (Below w.heap.size w w') ∧ Aside0 (8 - k ≤ kq))
  case atStart => exact ⟨0, by omega, rfl, HR, HB, ⟨by omega⟩⟩
  case round =>
    clear HR HB
    obtain ⟨k, hk, rfl, HR, HB, HK⟩ := hrel
    by_cases ck : k < 8
    · have ckb : decide ((k : Int) < 8) = true := decide_eq_true (by omega)
      obtain ⟨A1, cut1, hC1⟩ := cutLo (P := Tryd.prog) 22 5 Tryd.underlying22 hi0 hsz A n c .i64 (4 * (k : Int)) (4 * k) (by omega) (by omega) hc
      have HC1 := Aside0.mk (hC1 (Kd.int .u8) wr l rfl (Kd.C_below HC.out HB.out))
      obtain ⟨n4, hn4⟩ : ∃ n4, n - 4 * k = n4 := ⟨_, rfl⟩
      obtain ⟨c4, hc4⟩ : ∃ c4, c - 4 * k = c4 := ⟨_, rfl⟩
      rw [hn4, hc4] at cut1
      rw [hn4] at HC1
      have hnc : n4 ≤ c4 := by omega
      have hln : (l.drop (4 * k)).length = n4 := by rw [List.length_drop, HLN.out]; exact hn4
      have rk := HR.out.free k
      have rk2 := HR.out.cell (j := k) (by rw [part_length]; exact ck)
      rw [rd_part _ 8 k k ck, if_neg (by omega)] at rk2
      have HF : Aside0 (PFnBloomInsert.pqbloom_leUint32.f (l.drop (4 * k)) = some (wAt l k)) := ⟨by
        unfold PFnBloomInsert.pqbloom_leUint32.f
        rw [if_pos ⟨by omega, bytesB_drop HBY.out _⟩]; rfl⟩
      have hcall : ∀ W, (Kd.int .u8).C W A1 n4 (l.drop (4 * k)) → Calls Tryd.prog 26 #[.slice A1 n4 c4] W fun e w' => e = .returned (.int .u32 (wAt l k)) ∧ Drawn0 W w' := fun W hW => by
        have := PFnBloomInsert.pqbloom_leUint32.calls A1 c4 (l.drop (4 * k)) _ W (by rw [hln]; exact hW) (by omega) HF.out
        rw [hln] at this; exact this
      have HCALL := Aside0.mk hcall
      clear hcall hC1 HF
      go_wp2_with (first
        | (go_at_call 26; (with_reducible refine (HCALL.out _ HC1.out).mono ?_); rintro e w' ⟨rfl, ⟨nd, rfl⟩⟩))
      go_roundg (gk - 1)
      case measure => have := HK.out; omega
      case rel =>
        have hB2 : Below w.heap.size w (wr.drewN nd) := HB.out.trans ((drewN_below wr nd).mono HB.out.size)
        refine ⟨k + 1, by omega, by go_num, ⟨?_⟩, ⟨Below.setCell (p := ⟨w.heap.size, k, none⟩) hB2 (Nat.le_refl _) _⟩, ⟨by have := HK.out; omega⟩⟩
        have := (HR.out.drewN nd).set k (wAt l k)
        rw [part_set] at this
        exact this
    · obtain rfl : k = 8 := by omega
      have ckb : decide (((8 : Nat) : Int) < 8) = false := by decide
      have hc' : ∀ j, j < 8 → wr.cell? ⟨w.heap.size, j, none⟩ = some (.int .u32 (wAt l j)) := fun j hj => by
        have := HR.out.cell (j := j) (by rw [part_length]; exact hj)
        rw [rd_part _ 8 8 j hj, if_pos hj] at this; exact this
      have c0 := hc' 0 (by decide)
      have c1 := hc' 1 (by decide)
      have c2 := hc' 2 (by decide)
      have c3 := hc' 3 (by decide)
      have c4 := hc' 4 (by decide)
      have c5 := hc' 5 (by decide)
      have c6 := hc' 6 (by decide)
      have c7 := hc' 7 (by decide)
      have hf := HR.out.free
      have hp : part (wAt l) 8 8 = [wAt l 0, wAt l 1, wAt l 2, wAt l 3, wAt l 4, wAt l 5, wAt l 6, wAt l 7] := by rw [part_full]; rfl
      rw [hp] at HR
      clear hc' hp
      go_wp2_with (fail)
      have hb : Row _ w.heap.size 43 .u32 [wAt l 0, wAt l 1, wAt l 2, wAt l 3, wAt l 4, wAt l 5, wAt l 6, wAt l 7] := (((((((HR.out.set 0 (wAt l 0)).set 1 (wAt l 1)).set 2 (wAt l 2)).set 3 (wAt l 3)).set 4 (wAt l 4)).set 5 (wAt l 5)).set 6 (wAt l 6)).set 7 (wAt l 7)
      have hb' := hb.out.cast (cs' := #[.int .u32 (wAt l 0), .int .u32 (wAt l 1), .int .u32 (wAt l 2), .int .u32 (wAt l 3), .int .u32 (wAt l 4), .int .u32 (wAt l 5), .int .u32 (wAt l 6), .int .u32 (wAt l 7)]) rfl
      clear hb
      have HB8 := Aside0.mk hb'
      clear hb'
      refine bodyPost_ret (v := agg8 (wAt l)) ?_ rfl ⟨rfl, ?_⟩
      · exact results_cell_row (P := Tryd.prog) rfl _ _ w.heap.size 43 _ (0, 0) _ rfl HB8.out.out Tryd.underlying43 rfl (by kernel_rfl)
      exact (((((((HB.out.setCell (p := ⟨w.heap.size, 0, none⟩) (Nat.le_refl _) _).setCell (p := ⟨w.heap.size, 1, none⟩) (Nat.le_refl _) _).setCell (p := ⟨w.heap.size, 2, none⟩) (Nat.le_refl _) _).setCell (p := ⟨w.heap.size, 3, none⟩) (Nat.le_refl _) _).setCell (p := ⟨w.heap.size, 4, none⟩) (Nat.le_refl _) _).setCell (p := ⟨w.heap.size, 5, none⟩) (Nat.le_refl _) _).setCell (p := ⟨w.heap.size, 6, none⟩) (Nat.le_refl _) _).setCell (p := ⟨w.heap.size, 7, none⟩) (Nat.le_refl _) _

/-! ### a filter is made -/
theorem u32L_wordsOf {l : List Int} (hb : bytesB l = true) (n : Nat) (hn : 4 * n ≤ l.length) : u32L (wordsOf l n) := fun x hx => by
  obtain ⟨j, hj, rfl⟩ := List.mem_map.1 hx
  rw [List.mem_range] at hj
  have := le4L_bd (bytesB_drop hb (4 * j)) (by rw [List.length_drop]; omega)
  exact this
theorem zero8 : (Value.agg #[.int .u32 0, .int .u32 0, .int .u32 0, .int .u32 0, .int .u32 0, .int .u32 0, .int .u32 0, .int .u32 0]).cells = (nums .u32 (List.replicate 8 0)).toArray := by simp [Value.cells, nums, List.replicate]
theorem info43 : (Tryd.prog.info? 43).map (fun i => (i.zero, i.size, i.bytes)) = some (some (.agg #[.int .u32 0, .int .u32 0, .int .u32 0, .int .u32 0, .int .u32 0, .int .u32 0, .int .u32 0, .int .u32 0]), 8, 32) := by kernel_rfl
theorem part_set8 {w : World} {g n k : Nat} {t : TypeId} {kd : IntKind} {f : Nat → Int} (h : Row w g t kd (part f n (k * 8))) :
    Row ((((((((w.setCell ⟨g, k * 8, none⟩ (.int kd (f (k * 8)))).setCell ⟨g, k * 8 + 1, none⟩ (.int kd (f (k * 8 + 1)))).setCell ⟨g, k * 8 + 2, none⟩ (.int kd (f (k * 8 + 2)))).setCell ⟨g, k * 8 + 3, none⟩ (.int kd (f (k * 8 + 3)))).setCell ⟨g, k * 8 + 4, none⟩ (.int kd (f (k * 8 + 4)))).setCell ⟨g, k * 8 + 5, none⟩ (.int kd (f (k * 8 + 5)))).setCell ⟨g, k * 8 + 6, none⟩ (.int kd (f (k * 8 + 6)))).setCell ⟨g, k * 8 + 7, none⟩ (.int kd (f (k * 8 + 7)))) g t kd (part f n ((k + 1) * 8)) := by
  have s := fun (w : World) (j : Nat) (h : Row w g t kd (part f n j)) => (part_set f n j) ▸ h.set j (f j)
  have := s _ _ (s _ _ (s _ _ (s _ _ (s _ _ (s _ _ (s _ _ (s _ _ h)))))))
  rw [show (k + 1) * 8 = k * 8 + 7 + 1 by omega]
  exact this
theorem below_set8 {B : Nat} {a w : World} {g : Nat} (h : Below B a w) (hg : B ≤ g) (o0 o1 o2 o3 o4 o5 o6 o7 : Nat) (v0 v1 v2 v3 v4 v5 v6 v7 : Value) :
    Below B a ((((((((w.setCell ⟨g, o0, none⟩ v0).setCell ⟨g, o1, none⟩ v1).setCell ⟨g, o2, none⟩ v2).setCell ⟨g, o3, none⟩ v3).setCell ⟨g, o4, none⟩ v4).setCell ⟨g, o5, none⟩ v5).setCell ⟨g, o6, none⟩ v6).setCell ⟨g, o7, none⟩ v7) := by
  have s := fun (w : World) (o : Nat) (v : Value) (h : Below B a w) => h.setCell (p := ⟨g, o, none⟩) hg v
  exact s _ _ _ (s _ _ _ (s _ _ _ (s _ _ _ (s _ _ _ (s _ _ _ (s _ _ _ (s _ _ _ h)))))))
theorem wAt_drop (l : List Int) (k j : Nat) : wAt (l.drop (32 * k)) j = wAt l (k * 8 + j) := by
  unfold wAt; rw [List.drop_drop]; congr 2; omega
set_option maxHeartbeats 4000000 in
theorem make_calls (A : Option Addr) (n c : Nat) (l : List Int) (w : World) (B : Nat) (hC : (Kd.int .u8).C w A n l) (hc : n ≤ c) (hn : n = 32 * B) (hB : B < 65536) (hb : bytesB l = true) :
    Calls Tryd.prog 14 #[.slice A n c] w fun e w' => e = .returned (.slice (some ⟨w.heap.size, 0, none⟩) B B) ∧ Row w' w.heap.size 43 .u32 (wordsOf l (B * 8)) ∧ Below w.heap.size w w' := by
  have HC := Aside0.mk hC
  have HBY := Aside0.mk hb
  have HLN : Aside0 (l.length = n) := ⟨hC.1⟩
  clear hC hb
  obtain ⟨i0, hi0⟩ := Option.isSome_iff_exists.1 i5.1
  have hsz := i5.2 i0 hi0
  have hq : (n : Int) / 32 = (B : Int) := by omega
  have hmk := makeRows (P := Tryd.prog) 32 43 _ .u32 8 32 Tryd.underlying32 info43 zero8 (by decide) B (by omega) (by omega)
  have HN := Aside0.mk hn
  clear hn
  go_enter Tryd.func14, Tryd.ntmps14
  go_wp2_with (fail)
  have HR : Aside0 (Row (w.alloc (.cells (nums .u32 (List.replicate (B * 8) 0)).toArray 43)) w.heap.size 43 .u32 (part (wAt l) (B * 8) (0 * 8))) := ⟨by
    rw [Nat.zero_mul, part_zero]; exact ⟨Blk.new _ _ _⟩⟩
  have HB : Aside0 (Below w.heap.size w (w.alloc (.cells (nums .u32 (List.replicate (B * 8) 0)).toArray 43))) := ⟨(Below.refl _ _).alloc (Nat.le_refl _) _⟩
  generalize w.alloc (.cells (nums .u32 (List.replicate (B * 8) 0)).toArray 43) = wm at *
  go_loopg [4, 11] B (fun kq v4 v11 w' => ∃ k : Nat, k ≤ B ∧ v11 = .int .i64 k ∧ Aside0 (Row w' w.heap.size 43 .u32 (part (wAt l) (B * 8) (k * 8))) ∧ Aside0 (Below w.heap.size w w') ∧ Aside0 (B - k ≤ kq))
  case atStart => exact ⟨0, by omega, rfl, HR, HB, ⟨by omega⟩⟩
  case round =>
    clear HR HB
    obtain ⟨k, hk, rfl, HR, HB, HK⟩ := hrel
    by_cases ck : k < B
    · have ckb : decide ((k : Int) < B) = true := decide_eq_true (by omega)
      obtain ⟨A1, cut1, hC1⟩ := cutLo (P := Tryd.prog) 22 5 Tryd.underlying22 hi0 hsz A n c .i64 (32 * (k : Int)) (32 * k) (by omega) (by have := HN.out; omega) hc
      have HC1 := Aside0.mk (hC1 (Kd.int .u8) wr l rfl (Kd.C_below HC.out HB.out))
      obtain ⟨n4, hn4⟩ : ∃ n4, n - 32 * k = n4 := ⟨_, rfl⟩
      obtain ⟨c4, hc4⟩ : ∃ c4, c - 32 * k = c4 := ⟨_, rfl⟩
      rw [hn4, hc4] at cut1
      rw [hn4] at HC1
      have hnc : n4 ≤ c4 := by omega
      have hn32 : 32 ≤ n4 := by have := HN.out; omega
      have HROW := Aside0.mk (blockOf_calls A1 n4 c4 (l.drop (32 * k)) wr HC1.out hnc hn32 (bytesB_drop HBY.out _))
      rw [show wAt (l.drop (32 * k)) = fun j => wAt l (k * 8 + j) from funext fun j => wAt_drop l k j] at HROW
      go_wp2_with (first
        | (go_at_call 20; (with_reducible refine HROW.out.mono ?_); rintro e w1 ⟨he, hb1⟩; unfold agg8 at he; subst he; have HR1 := Aside0.mk (HR.out.below hb1 HR.out.lt); have HB1 := Aside0.mk (HB.out.trans (hb1.mono HB.out.size)); have fr := HR1.out.free; have e0 := HR1.out.cell (j := k * 8) (by rw [part_length]; omega); have e1 := HR1.out.cell (j := k * 8 + 1) (by rw [part_length]; omega); have e2 := HR1.out.cell (j := k * 8 + 2) (by rw [part_length]; omega); have e3 := HR1.out.cell (j := k * 8 + 3) (by rw [part_length]; omega); have e4 := HR1.out.cell (j := k * 8 + 4) (by rw [part_length]; omega); have e5 := HR1.out.cell (j := k * 8 + 5) (by rw [part_length]; omega); have e6 := HR1.out.cell (j := k * 8 + 6) (by rw [part_length]; omega); have e7 := HR1.out.cell (j := k * 8 + 7) (by rw [part_length]; omega); clear hb1))
      go_roundg (gk - 1)
      case measure => have := HK.out; omega
      case rel => exact ⟨k + 1, by omega, by go_num, ⟨part_set8 HR1.out⟩, ⟨below_set8 HB1.out (Nat.le_refl _) _ _ _ _ _ _ _ _ _ _ _ _ _ _ _ _⟩, ⟨by have := HK.out; omega⟩⟩
    · obtain rfl : k = B := by omega
      have ckb : decide ((k : Int) < k) = false := decide_eq_false (by omega)
      go_wp2_with (fail)
      go_ret
      have := HR.out
      rw [part_full] at this
      exact ⟨rfl, this, HB.out⟩

/-! ### Check, whole -/
theorem info5 : (Tryd.prog.info? 5).map (fun i => (i.zero, i.size, i.bytes)) = some (some (.int .u8 0), 1, 1) := by kernel_rfl
set_option maxHeartbeats 4000000 in
theorem sbCheck_calls (g n c : Nat) (ws : List Int) (x : Int) (hx : u64B x) (w : World) (hS : Salt w) (h0 : 0 < w.heap.size) (hR : Row w g 43 .u32 ws) (hn : 0 < n) (hn2 : n < 65536) (hl : n * 8 = ws.length) (hu : u32L ws) :
    Calls Tryd.prog 15 #[.slice (some ⟨g, 0, none⟩) n c, .int .u64 x] w fun e w' => e = .returned (.bool (checkI ws (blk x n * 8) (x % 4294967296) 8)) ∧ Below w.heap.size w w' := by
  have HF := Aside0.mk (filterCheck_calls g n c ws x hx w hS h0 hR hn hn2 hl hu)
  clear hx hS hR hu
  go_enter Tryd.func15, Tryd.ntmps15
  go_wp2_with (first
    | (go_at_call 21; (with_reducible refine HF.out.mono ?_); rintro e w' ⟨rfl, hb1⟩))
  go_ret
  exact ⟨rfl, hb1⟩
/-- what Check tells of bytes -/
def checkB (l : List Int) (x : Int) : Bool := checkI (wordsOf l (l.length / 4)) (blk x (l.length / 32) * 8) (x % 4294967296) 8
/-- bytes of whole blocks, not too many -/
structure Fil (l : List Int) : Prop where
  mk :: (b : bytesB l = true) (n0 : 0 < l.length) (n32 : l.length % 32 = 0) (le : l.length ≤ 100000)
set_option maxHeartbeats 4000000 in
theorem implCheck_calls (A : Option Addr) (n c : Nat) (l : List Int) (x : Int) (hx : u64B x) (w : World) (hS : Salt w) (h0 : 0 < w.heap.size) (hC : (Kd.int .u8).C w A n l) (hc : n ≤ c) (hf : Fil l) :
    Calls Tryd.prog 8 #[.slice A n c, .int .u64 x] w fun e w' => e = .returned (.bool (checkB l x)) ∧ Below w.heap.size w w' := by
  have hln : l.length = n := hC.1
  obtain ⟨B, hB⟩ : ∃ B, n = 32 * B := ⟨n / 32, by have := hf.n32; omega⟩
  have hB1 : 0 < B := by have := hf.n0; omega
  have hB2 : B < 65536 := by have := hf.le; omega
  have HB := Aside0.mk hB
  have HLN := Aside0.mk hln
  have hl9 : n ≤ 100000 := by have := hf.le; omega
  have HS := Aside0.mk hS
  have HX := Aside0.mk hx
  have HF := Aside0.mk hf
  have HE := Aside0.mk (Own.empty w w.heap.size 5 .u8 (Nat.le_refl _))
  have HEB : Aside0 (Below w.heap.size w (w.alloc (.cells #[] 5))) := ⟨(Below.refl _ _).alloc (Nat.le_refl _) _⟩
  have HC2 : Aside0 ((Kd.int .u8).C (w.alloc (.cells #[] 5)) A n l) := ⟨Kd.C_alloc hC _⟩
  have HV : Aside0 (checkB l x = checkI (wordsOf l (B * 8)) (blk x B * 8) (x % 4294967296) 8) := ⟨by
    unfold checkB; rw [show l.length / 4 = B * 8 by omega, show l.length / 32 = B by omega]⟩
  clear hC hS hx hf hB hln
  go_enter Tryd.func8, Tryd.ntmps8
  go_wp2_with (first
    | (at_builtin; refine appendRead (w0 := w) w.heap.size rfl (.tmp 5) (.tmp 6) 22 5 .u8 1 rfl Tryd.underlying22 info5 (by decide) _ [] A n c l rfl rfl HE.out HEB.out ?hb HC2.out ?hl ?_; (case hb => simp); (case hl => simp; omega); intro v1 w1 ho hb hg; rw [List.nil_append] at ho; obtain ⟨A1, c1, rfl, hc1, hr1⟩ := ho.read; rw [HLN.out] at hc1 hr1; rw [HLN.out]; have HR1 := Aside0.mk hr1; have HB1 := Aside0.mk hb; clear ho hb hg hr1)
    | (go_at_call 14; (with_reducible refine (make_calls A1 n c1 l w1 B HR1.out hc1 HB.out hB2 HF.out.b).mono ?_); rintro e w2 ⟨rfl, hr, hb⟩; have HR2 := Aside0.mk hr; have HB2 := Aside0.mk hb; clear hr hb)
    | (go_at_call 15; (with_reducible refine (sbCheck_calls w1.heap.size B B (wordsOf l (B * 8)) x HX.out w2 ?h1 ?h2 HR2.out hB1 hB2 ?h3 ?h4).mono ?_); (case h1 => exact (HS.out.below HB1.out h0).below HB2.out (by have := HB1.out.size; omega)); (case h2 => have := HB1.out.size; have := HB2.out.size; omega); (case h3 => rw [wordsOf_length]); (case h4 => exact u32L_wordsOf HF.out.b _ (by rw [HLN.out]; have := HB.out; omega)); rintro e w3 ⟨rfl, hb⟩; have HB3 := Aside0.mk hb; clear hb))
  go_ret
  exact ⟨by rw [HV.out]; rfl, (HB1.out.trans (HB2.out.mono HB1.out.size)).trans (HB3.out.mono (Nat.le_trans HB1.out.size HB2.out.size))⟩
end Go.Proofs.YtojoppondgnajaaDoor.Bl
