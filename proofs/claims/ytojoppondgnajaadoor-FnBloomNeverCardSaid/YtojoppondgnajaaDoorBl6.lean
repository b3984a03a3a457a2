import Derived.Test.YtojoppondgnajaaDoorBl5
namespace Go.Proofs.YtojoppondgnajaaDoor.Bl
open Go.Proofs.YtojoppondgnajaaDoor.Aid Go.RowKit Go.Proofs.YtojoppondgnajaaDoorW.PrintWords Go.Proofs.YtojoppondgnajaaDoorW.PrintLast Go.Proofs.YtojoppondgnajaaDoorW.PrintMore
set_option linter.unusedVariables false
set_option linter.unusedSimpArgs false

theorem grownTrans {a b c : World} {row : Option Nat} (h : a.grownBy b row) (k : b.grownBy c row) : a.grownBy c row :=
  ⟨k.os.trans h.os, k.tape.trans h.tape, k.output.trans h.output, Nat.le_trans h.size k.size, fun j hj hne => (k.block j (Nat.lt_of_lt_of_le hj h.size) hne).trans (h.block j hj hne)⟩
def ins1 (n : Nat) (ws : List Int) (x : Int) : List Int := insW ws (blk x n * 8) (x % 4294967296) 8
def insAll (ws : List Int) (n : Nat) (hs : List Int) : List Int := hs.foldl (ins1 n) ws
theorem insAll_length (ws : List Int) (n : Nat) (hs : List Int) : (insAll ws n hs).length = ws.length := by
  unfold insAll
  induction hs generalizing ws with
  | nil => rfl
  | cons x hs ih => rw [List.foldl_cons, ih]; exact insW_length _ _ _ _
theorem insAll_u32 {ws : List Int} (h : u32L ws) {n : Nat} (hn : 0 < n) (hl : n * 8 = ws.length) {hs : List Int} (hh : ∀ x ∈ hs, u64B x) : u32L (insAll ws n hs) := by
  unfold insAll
  induction hs generalizing ws with
  | nil => exact h
  | cons x hs ih =>
    rw [List.foldl_cons]
    have hb := blk_lt x n (hh x (by simp)) hn
    exact ih (insW_u32 h _ _ (by omega)) (by rw [hl]; exact (insW_length _ _ _ _).symm) (fun y hy => hh y (by simp [hy]))
theorem insAll_take (ws : List Int) (n : Nat) (hs : List Int) (k : Nat) (hk : k < hs.length) : insAll ws n (hs.take (k + 1)) = ins1 n (insAll ws n (hs.take k)) (rd hs k) := by
  unfold insAll
  rw [List.take_succ_eq_append_getElem hk, List.foldl_append]
  have e : rd hs k = hs[k] := by simp [rd, List.getD_eq_getElem?_getD, List.getElem?_eq_getElem hk]
  rw [e]; rfl
def u64L (hs : List Int) : Prop := ∀ x ∈ hs, u64B x
set_option maxHeartbeats 4000000 in
theorem bulk_calls (g n c : Nat) (ws hs : List Int) (A : Option Addr) (m mc : Nat) (w : World) (hS : Salt w) (h0 : 0 < w.heap.size) (hg0 : g ≠ 0) (hR : Row w g 43 .u32 ws) (hn : 0 < n) (hn2 : n < 65536) (hl : n * 8 = ws.length) (hu : u32L ws) (hh : u64L hs) (hm : hs.length = m) (hmc : m ≤ mc) (hm9 : m ≤ 2147483647) (hC : ReadKeep w g .u64 A m hs) :
    Calls Tryd.prog 25 #[.slice (some ⟨g, 0, none⟩) n c, .slice A m mc] w fun e w' => e = .returned (.tuple #[]) ∧ w.grownBy w' (some g) ∧ Row w' g 43 .u32 (insAll ws n hs) := by
  have HS := Aside0.mk hS
  have HU := Aside0.mk hu
  have HH := Aside0.mk hh
  have HR : Aside0 (Row w g 43 .u32 (insAll ws n (hs.take 0))) := ⟨hR⟩
  have HC := Aside0.mk hC
  have HM := Aside0.mk hm
  have HG0 := Aside0.mk hg0
  have HL := Aside0.mk hl
  have HW0 := Aside0.mk h0
  have HGS := Aside0.mk hR.lt
  clear hS hu hh hR hC hm hg0 hl h0
  go_enter Tryd.func25, Tryd.ntmps25
  go_wp2_with (fail)
  go_loopg [4, 7] m (fun kq v4 v7 w' => ∃ k : Nat, k ≤ m ∧ v7 = .int .i64 k ∧ Aside0 (Row w' g 43 .u32 (insAll ws n (hs.take k))) ∧ Aside0 (w.grownBy w' (some g)) ∧ Aside0 (m - k ≤ kq))
  case atStart => exact ⟨0, by omega, rfl, HR, ⟨grownRefl _ _⟩, ⟨by omega⟩⟩
  case round =>
    clear HR
    obtain ⟨k, hk, rfl, HR, HB, HK⟩ := hrel
    by_cases ck : k < m
    · have ckb : decide ((k : Int) < m) = true := decide_eq_true (by omega)
      obtain ⟨ad, ead, hcell⟩ := Kd.at_int (HC.out wr HB.out) (k : Int) (by omega) (by omega)
      rw [Int.toNat_natCast] at hcell
      obtain ⟨y, hy⟩ : ∃ y, rd hs (k : Int) = y := ⟨_, rfl⟩
      rw [hy] at hcell
      have hyb : u64B y := by rw [← hy]; exact HH.out _ (rd_mem (by rw [HM.out]; exact ck))
      have HY := Aside0.mk hy
      have HYB := Aside0.mk hyb
      clear hy hyb
      subst ead
      have HF : Aside0 (Calls Tryd.prog 23 #[.slice (some ⟨g, 0, none⟩) n c, .int .u64 y] wr fun e w' => e = .returned (.tuple #[]) ∧ wr.grownBy w' (some g) ∧ Row w' g 43 .u32 (insW (insAll ws n (hs.take k)) (blk y n * 8) (y % 4294967296) 8)) := ⟨by
        refine filterInsert_calls g n c _ y HYB.out wr ?_ ?_ HR.out hn hn2 (by rw [insAll_length]; exact HL.out) (insAll_u32 HU.out hn HL.out fun x hx => HH.out x (List.mem_of_mem_take hx))
        · intro i hi
          have := HB.out.block 0 HW0.out (by intro h; injection h with h; exact HG0.out h.symm)
          rw [World.cell?_of_block (w := w) this]; exact HS.out i hi
        · exact Nat.lt_of_lt_of_le HW0.out HB.out.size⟩
      go_wp2_with (first
        | (go_at_call 23; (with_reducible refine HF.out.mono ?_); rintro e w2 ⟨rfl, hg, hrow⟩; have HG2 := Aside0.mk hg; have HM2 := Aside0.mk hrow; clear hg hrow))
      go_roundg (gk - 1)
      case measure => have := HK.out; omega
      case rel =>
        refine ⟨k + 1, by omega, by go_num, ⟨?_⟩, ⟨?_⟩, ⟨by have := HK.out; omega⟩⟩
        · rw [insAll_take ws n hs k (by rw [HM.out]; exact ck), HY.out]; exact HM2.out
        · exact grownTrans HB.out HG2.out
    · obtain rfl : k = m := by omega
      have ckb : decide ((k : Int) < k) = false := decide_eq_false (by omega)
      go_wp2_with (fail)
      go_end0
      have := HR.out
      rw [← HM.out, List.take_length] at this
      exact ⟨rfl, HB.out, this⟩
set_option maxHeartbeats 4000000 in
theorem sbBulk_calls (g n c : Nat) (ws hs : List Int) (A : Option Addr) (m mc : Nat) (w : World) (hS : Salt w) (h0 : 0 < w.heap.size) (hg0 : g ≠ 0) (hR : Row w g 43 .u32 ws) (hn : 0 < n) (hn2 : n < 65536) (hl : n * 8 = ws.length) (hu : u32L ws) (hh : u64L hs) (hm : hs.length = m) (hmc : m ≤ mc) (hm9 : m ≤ 2147483647) (hC : ReadKeep w g .u64 A m hs) :
    Calls Tryd.prog 19 #[.slice (some ⟨g, 0, none⟩) n c, .slice A m mc] w fun e w' => e = .returned (.tuple #[]) ∧ w.grownBy w' (some g) ∧ Row w' g 43 .u32 (insAll ws n hs) := by
  have HF := Aside0.mk (bulk_calls g n c ws hs A m mc w hS h0 hg0 hR hn hn2 hl hu hh hm hmc hm9 hC)
  clear hS h0 hg0 hR hn hn2 hl hu hh hm hmc hm9 hC
  go_enter Tryd.func19, Tryd.ntmps19
  go_wp2_with (first
    | (go_at_call 25; (with_reducible refine HF.out.mono ?_); rintro e w' ⟨rfl, hb1⟩; have HB1 := Aside0.mk hb1; clear hb1))
  go_end0
  exact ⟨rfl, HB1.out⟩
set_option maxHeartbeats 4000000 in
theorem sbInsert_calls (g n c : Nat) (ws : List Int) (x : Int) (hx : u64B x) (w : World) (hS : Salt w) (h0 : 0 < w.heap.size) (hR : Row w g 43 .u32 ws) (hn : 0 < n) (hn2 : n < 65536) (hl : n * 8 = ws.length) (hu : u32L ws) :
    Calls Tryd.prog 17 #[.slice (some ⟨g, 0, none⟩) n c, .int .u64 x] w fun e w' => e = .returned (.tuple #[]) ∧ w.grownBy w' (some g) ∧ Row w' g 43 .u32 (ins1 n ws x) := by
  have HF := Aside0.mk (filterInsert_calls g n c ws x hx w hS h0 hR hn hn2 hl hu)
  clear hx hS h0 hR hn hn2 hl hu
  go_enter Tryd.func17, Tryd.ntmps17
  go_wp2_with (first
    | (go_at_call 23; (with_reducible refine HF.out.mono ?_); rintro e w' ⟨rfl, hb1⟩; have HB1 := Aside0.mk hb1; clear hb1))
  go_end0
  exact ⟨rfl, HB1.out⟩
/-- a filter with hashes, as Insert makes it -/
def insertB (l hs : List Int) : List Int := bbs (insAll (wordsOf l (l.length / 4)) (l.length / 32) hs) (l.length / 32)
set_option maxHeartbeats 4000000 in
theorem implInsert_calls (A : Option Addr) (n c : Nat) (l : List Int) (A2 : Option Addr) (m mc : Nat) (hs : List Int) (w : World) (hS : Salt w) (h0 : 0 < w.heap.size) (hC : (Kd.int .u8).C w A n l) (hc : n ≤ c) (hf : Fil l) (hC2 : (Kd.int .u64).C w A2 m hs) (hmc : m ≤ mc) (hm9 : m ≤ 2147483647) (hh : u64L hs) :
    Calls Tryd.prog 12 #[.slice A n c, .slice A2 m mc] w fun e w' => ∃ v, e = .returned v ∧ Own w' w.heap.size 5 .u8 v (insertB l hs) ∧ Below w.heap.size w w' := by
  have hln : l.length = n := hC.1
  have HLM : Aside0 (hs.length = m) := ⟨hC2.1⟩
  obtain ⟨B, hB⟩ : ∃ B, n = 32 * B := ⟨n / 32, by have := hf.n32; omega⟩
  have hB1 : 0 < B := by have := hf.n0; omega
  have hB2 : B < 65536 := by have := hf.le; omega
  have HB := Aside0.mk hB
  have HLN := Aside0.mk hln
  have hl9 : n ≤ 100000 := by have := hf.le; omega
  have HS := Aside0.mk hS
  have HF := Aside0.mk hf
  have HH := Aside0.mk hh
  have HE := Aside0.mk (Own.empty w w.heap.size 5 .u8 (Nat.le_refl _))
  have HEB : Aside0 (Below w.heap.size w (w.alloc (.cells #[] 5))) := ⟨(Below.refl _ _).alloc (Nat.le_refl _) _⟩
  have HC2 : Aside0 ((Kd.int .u8).C (w.alloc (.cells #[] 5)) A n l) := ⟨Kd.C_alloc hC _⟩
  have HCH : Aside0 ((Kd.int .u64).C w A2 m hs) := ⟨hC2⟩
  have HV : Aside0 (insertB l hs = bbs (insAll (wordsOf l (B * 8)) B hs) B) := ⟨by
    unfold insertB; rw [show l.length / 4 = B * 8 by omega, show l.length / 32 = B by omega]⟩
  have HWU : Aside0 (u32L (wordsOf l (B * 8))) := ⟨u32L_wordsOf hf.b _ (by omega)⟩
  have HW0 := Aside0.mk h0
  clear hC hS hf hB hln hC2 hh h0
  go_enter Tryd.func12, Tryd.ntmps12
  go_wp2_with (first
    | (at_builtin; refine appendRead (w0 := w) w.heap.size rfl (.tmp 8) (.tmp 9) 22 5 .u8 1 rfl Tryd.underlying22 info5 (by decide) _ [] A n c l rfl rfl HE.out HEB.out ?hb HC2.out ?hl ?_; (case hb => simp); (case hl => simp; omega); intro v1 w1 ho hb hg; rw [List.nil_append] at ho; obtain ⟨A1, c1, rfl, hc1, hr1⟩ := ho.read; rw [HLN.out] at hc1 hr1; rw [HLN.out]; have HR1 := Aside0.mk hr1; have HB1 := Aside0.mk hb; clear ho hb hg hr1)
    | (go_at_call 14; (with_reducible refine (make_calls A1 n c1 l w1 B HR1.out hc1 HB.out hB2 HF.out.b).mono ?_); rintro e w2 ⟨rfl, hr, hb⟩; have HR2 := Aside0.mk hr; have HB2 := Aside0.mk hb; clear hr hb))
  have HG : Aside0 (w.heap.size ≤ w1.heap.size) := ⟨HB1.out.size⟩
  have HB3 : Aside0 (Below w.heap.size w w2) := ⟨HB1.out.trans (HB2.out.mono HB1.out.size)⟩
  have HR3 : Aside0 (Row w2 w1.heap.size 43 .u32 (insAll (wordsOf l (B * 8)) B (hs.take 0))) := ⟨HR2.out⟩
  generalize w1.heap.size = g at *
  clear HR2 HB2 HB1 HR1 HE HEB HC2
  go_loopg [7, 14] m (fun kq v7 v14 w' => ∃ k : Nat, k ≤ m ∧ v14 = .int .i64 k ∧ Aside0 (Row w' g 43 .u32 (insAll (wordsOf l (B * 8)) B (hs.take k))) ∧ Aside0 (Below w.heap.size w w') ∧ Aside0 (m - k ≤ kq))
  case atStart => exact ⟨0, by omega, rfl, HR3, HB3, ⟨by omega⟩⟩
  case round =>
    clear HR3 HB3
    obtain ⟨k, hk, rfl, HR3, HB3, HK⟩ := hrel
    have HSr : Aside0 (Salt wr) := ⟨HS.out.below HB3.out HW0.out⟩
    have HW0r : Aside0 (0 < wr.heap.size) := ⟨Nat.lt_of_lt_of_le HW0.out HB3.out.size⟩
    have HLr : Aside0 (B * 8 = (insAll (wordsOf l (B * 8)) B (hs.take k)).length) := ⟨by rw [insAll_length, wordsOf_length]⟩
    have HUr : Aside0 (u32L (insAll (wordsOf l (B * 8)) B (hs.take k))) := ⟨insAll_u32 HWU.out hB1 (by rw [wordsOf_length]) fun x hx => HH.out x (List.mem_of_mem_take hx)⟩
    by_cases ck : k < m
    · have ckb : decide ((k : Int) < m) = true := decide_eq_true (by omega)
      obtain ⟨ad, ead, hcell⟩ := Kd.at_int (Kd.C_below HCH.out HB3.out) (k : Int) (by omega) (by omega)
      rw [Int.toNat_natCast] at hcell
      obtain ⟨y, hy⟩ : ∃ y, rd hs (k : Int) = y := ⟨_, rfl⟩
      rw [hy] at hcell
      have hyb : u64B y := by rw [← hy]; exact HH.out _ (rd_mem (by rw [HLM.out]; exact ck))
      have HY := Aside0.mk hy
      have HF2 := Aside0.mk (sbInsert_calls g B B _ y hyb wr HSr.out HW0r.out HR3.out hB1 hB2 HLr.out HUr.out)
      clear hy hyb
      subst ead
      go_wp2_with (first
        | (go_at_call 17; (with_reducible refine HF2.out.mono ?_); rintro e w3 ⟨rfl, hg, hrow⟩; have HG2 := Aside0.mk hg; have HM2 := Aside0.mk hrow; clear hg hrow))
      go_roundg (gk - 1)
      case measure => have := HK.out; omega
      case rel =>
        refine ⟨k + 1, by omega, by go_num, ⟨?_⟩, ⟨belowGrown HB3.out HG2.out HG.out⟩, ⟨by have := HK.out; omega⟩⟩
        rw [insAll_take _ B hs k (by rw [HLM.out]; exact ck), HY.out]; exact HM2.out
    · obtain rfl : k = m := by omega
      have ckb : decide ((k : Int) < k) = false := decide_eq_false (by omega)
      have HTAKE : Aside0 (hs.take k = hs) := ⟨by rw [← HLM.out, List.take_length]⟩
      rw [HTAKE.out] at HR3 HLr HUr
      have HCALL := Aside0.mk (bytes_calls g B B _ (wr.alloc (.cells #[] 5)) (HR3.out.alloc _) HLr.out hB2 HUr.out)
      have HE0 : Aside0 (Own (wr.alloc (.cells #[] 5)) w.heap.size 5 .u8 (.slice (some ⟨wr.heap.size, 0, none⟩) 0 0) []) := ⟨Own.empty _ _ _ _ HB3.out.size⟩
      have HBA : Aside0 (Below w.heap.size w (wr.alloc (.cells #[] 5))) := ⟨HB3.out.alloc HB3.out.size _⟩
      go_wp2_with (first
        | (go_at_call 18; (with_reducible refine HCALL.out.mono ?_); rintro e w4 ⟨v4, rfl, ho, hb⟩; obtain ⟨A4, c4, rfl, hc4, hr4⟩ := ho.read; rw [bbs_length] at hr4 hc4; rw [bbs_length]; have HR4 := Aside0.mk hr4; have HB4 := Aside0.mk hb; clear ho hb hr4)
        | (at_builtin; refine appendRead (w0 := w) w.heap.size rfl (.tmp 22) (.tmp 24) 22 5 .u8 1 rfl Tryd.underlying22 info5 (by decide) _ [] A4 (32 * B) c4 _ rfl rfl ?ho ?hbb ?hb HR4.out ?hl ?_; (case ho => exact HE0.out.below HB4.out); (case hbb => exact HBA.out.trans (HB4.out.mono HBA.out.size)); (case hb => exact Nat.le_trans HBA.out.size HB4.out.size); (case hl => simp; omega); intro v5 w5 ho hb hg; rw [List.nil_append] at ho; have HO5 := Aside0.mk ho; have HB5 := Aside0.mk hb; clear ho hb hg))
      go_ret
      exact ⟨_, rfl, by rw [HV.out]; exact HO5.out, HB5.out⟩
theorem info23 : (Tryd.prog.info? 23).map (fun i => (i.zero, i.size, i.bytes)) = some (some (.int .u64 0), 1, 8) := by kernel_rfl
set_option maxHeartbeats 4000000 in
theorem implBulk_calls (A : Option Addr) (n c : Nat) (l : List Int) (A2 : Option Addr) (m mc : Nat) (hs : List Int) (w : World) (hS : Salt w) (h0 : 0 < w.heap.size) (hC : (Kd.int .u8).C w A n l) (hc : n ≤ c) (hf : Fil l) (hC2 : (Kd.int .u64).C w A2 m hs) (hmc : m ≤ mc) (hm9 : m ≤ 2147483647) (hh : u64L hs) :
    Calls Tryd.prog 13 #[.slice A n c, .slice A2 m mc] w fun e w' => ∃ v, e = .returned v ∧ Own w' w.heap.size 5 .u8 v (insertB l hs) ∧ Below w.heap.size w w' := by
  have hln : l.length = n := hC.1
  have HLM : Aside0 (hs.length = m) := ⟨hC2.1⟩
  obtain ⟨B, hB⟩ : ∃ B, n = 32 * B := ⟨n / 32, by have := hf.n32; omega⟩
  have hB1 : 0 < B := by have := hf.n0; omega
  have hB2 : B < 65536 := by have := hf.le; omega
  have HB := Aside0.mk hB
  have HLN := Aside0.mk hln
  have hl9 : n ≤ 100000 := by have := hf.le; omega
  have HS := Aside0.mk hS
  have HF := Aside0.mk hf
  have HH := Aside0.mk hh
  have HE := Aside0.mk (Own.empty w w.heap.size 5 .u8 (Nat.le_refl _))
  have HEB : Aside0 (Below w.heap.size w (w.alloc (.cells #[] 5))) := ⟨(Below.refl _ _).alloc (Nat.le_refl _) _⟩
  have HC2 : Aside0 ((Kd.int .u8).C (w.alloc (.cells #[] 5)) A n l) := ⟨Kd.C_alloc hC _⟩
  have HCH : Aside0 ((Kd.int .u64).C w A2 m hs) := ⟨hC2⟩
  have HV : Aside0 (insertB l hs = bbs (insAll (wordsOf l (B * 8)) B hs) B) := ⟨by
    unfold insertB; rw [show l.length / 4 = B * 8 by omega, show l.length / 32 = B by omega]⟩
  have HWU : Aside0 (u32L (wordsOf l (B * 8))) := ⟨u32L_wordsOf hf.b _ (by omega)⟩
  have HW0 := Aside0.mk h0
  clear hC hS hf hB hln hC2 hh h0
  go_enter Tryd.func13, Tryd.ntmps13
  go_wp2_with (first
    | (at_builtin; refine appendRead (w0 := w) w.heap.size rfl (.tmp 6) (.tmp 7) 22 5 .u8 1 rfl Tryd.underlying22 info5 (by decide) _ [] A n c l rfl rfl HE.out HEB.out ?hb HC2.out ?hl ?_; (case hb => simp); (case hl => simp; omega); intro v1 w1 ho hb hg; rw [List.nil_append] at ho; obtain ⟨A1, c1, rfl, hc1, hr1⟩ := ho.read; rw [HLN.out] at hc1 hr1; rw [HLN.out]; have HR1 := Aside0.mk hr1; have HB1 := Aside0.mk hb; clear ho hb hg hr1)
    | (go_at_call 14; (with_reducible refine (make_calls A1 n c1 l w1 B HR1.out hc1 HB.out hB2 HF.out.b).mono ?_); rintro e w2 ⟨rfl, hr, hb⟩; have HR2 := Aside0.mk hr; have HB2 := Aside0.mk hb; have HBT := Aside0.mk (HB1.out.trans (hb.mono HB1.out.size)); have HE2 := Aside0.mk (Own.empty w2 w2.heap.size 23 .u64 (Nat.le_refl _)); have HE2B : Aside0 (Below w2.heap.size w2 (w2.alloc (.cells #[] 23))) := ⟨(Below.refl _ _).alloc (Nat.le_refl _) _⟩; have HCH2 : Aside0 ((Kd.int .u64).C (w2.alloc (.cells #[] 23)) A2 m hs) := ⟨Kd.C_alloc (Kd.C_below HCH.out HBT.out) _⟩; clear hr hb)
    | (at_builtin; refine appendRead (w0 := w2) w2.heap.size rfl (.tmp 11) (.tmp 12) 26 23 .u64 8 rfl Tryd.underlying26 info23 (by decide) _ [] A2 m mc hs rfl rfl HE2.out HE2B.out ?hb HCH2.out ?hl ?_; (case hb => simp); (case hl => simp; omega); intro v3 w3 ho hb hg; rw [List.nil_append] at ho; have HO3 := Aside0.mk ho; have HB3 := Aside0.mk hb; clear ho hb hg; obtain ⟨A3, c3, rfl, hc3, hrk3⟩ := HO3.out.keep (g := w1.heap.size) HR2.out.lt; rw [HLM.out] at hc3 hrk3; rw [HLM.out]; have HRK := Aside0.mk hrk3; clear hrk3)
    | (go_at_call 19; (with_reducible refine (sbBulk_calls w1.heap.size B B (wordsOf l (B * 8)) hs A3 m c3 w3 ?h1 ?h2 ?h3 ?h4 hB1 hB2 ?h5 HWU.out HH.out HLM.out hc3 hm9 HRK.out).mono ?_); (case h1 => exact (HS.out.below HBT.out HW0.out).below HB3.out (Nat.lt_of_lt_of_le HW0.out HBT.out.size)); (case h2 => exact Nat.lt_of_lt_of_le HW0.out (Nat.le_trans HBT.out.size HB3.out.size)); (case h3 => have := HW0.out; have := HB1.out.size; omega); (case h4 => exact HR2.out.below HB3.out HR2.out.lt); (case h5 => rw [wordsOf_length]); rintro e w4 ⟨rfl, hg4, hr4⟩; have HG4 := Aside0.mk hg4; have HR4 := Aside0.mk hr4; have HB4 : Aside0 (Below w.heap.size w w4) := ⟨belowGrown (HBT.out.trans (HB3.out.mono HBT.out.size)) hg4 HB1.out.size⟩; have HCALL := Aside0.mk (bytes_calls w1.heap.size B B _ (w4.alloc (.cells #[] 5)) (hr4.alloc _) (by rw [insAll_length, wordsOf_length]) hB2 (insAll_u32 HWU.out hB1 (by rw [wordsOf_length]) HH.out)); have HE0 : Aside0 (Own (w4.alloc (.cells #[] 5)) w.heap.size 5 .u8 (.slice (some ⟨w4.heap.size, 0, none⟩) 0 0) []) := ⟨Own.empty _ _ _ _ HB4.out.size⟩; have HBA : Aside0 (Below w.heap.size w (w4.alloc (.cells #[] 5))) := ⟨HB4.out.alloc HB4.out.size _⟩; clear hg4 hr4)
    | (go_at_call 18; (with_reducible refine HCALL.out.mono ?_); rintro e w5 ⟨v5, rfl, ho, hb⟩; obtain ⟨A5, c5, rfl, hc5, hr5⟩ := ho.read; rw [bbs_length] at hr5 hc5; rw [bbs_length]; have HR5 := Aside0.mk hr5; have HB5 := Aside0.mk hb; clear ho hb hr5)
    | (at_builtin; refine appendRead (w0 := w) w.heap.size rfl (.tmp 15) (.tmp 17) 22 5 .u8 1 rfl Tryd.underlying22 info5 (by decide) _ [] A5 (32 * B) c5 _ rfl rfl ?ho ?hbb ?hb HR5.out ?hl ?_; (case ho => exact HE0.out.below HB5.out); (case hbb => exact HBA.out.trans (HB5.out.mono HBA.out.size)); (case hb => exact Nat.le_trans HBA.out.size HB5.out.size); (case hl => simp; omega); intro v6 w6 ho hb hg; rw [List.nil_append] at ho; have HO6 := Aside0.mk ho; have HB6 := Aside0.mk hb; clear ho hb hg))
  go_ret
  exact ⟨_, rfl, by rw [HV.out]; exact HO6.out, HB6.out⟩

end Go.Proofs.YtojoppondgnajaaDoor.Bl
