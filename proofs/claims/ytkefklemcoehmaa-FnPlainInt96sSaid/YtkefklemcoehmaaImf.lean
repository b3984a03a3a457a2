import Derived.Test.YtkefklemcoehmaaSim
import Derived.Test.YtkefklemcoehmaaSpq
/-! Walks of the thin package: numbers with points, plain and in streams (laid by a program of this session). -/
namespace Go.Proofs.Ytkefklemcoehmaa.Imf
open Go.Proofs.Ytkefklemcoehmaa.Wrd Go.Proofs.Ytkefklemcoehmaa.Pln Go.Proofs.Ytkefklemcoehmaa.Spq Go.Proofs.Ytkefklemcoehmaa.Sim Go.Proofs.Ytkefklemcoehmaa.Spe Go.Proofs.Ytkefklemcoehmaa.Spd Go.Proofs.Ytkefklemcoehmaa.Spl Go.Proofs.Ytkefklemcoehmaa.Str Go.Proofs.Ytkefklemcoehmaa.Flt Go.Proofs.Ytkefklemcoehmaa.Owe Go.Proofs.Ytkefklemcoehmaa.Num Go.Proofs.Ytkefklemcoehmaa.Le Go.Proofs.Ytkefklemcoehmaa.Lst Go.Proofs.Ytkefklemcoehmaa.Aid Go.RowKit Go.Proofs.YtkefklemcoehmaaW.PrintWords Go.Proofs.YtkefklemcoehmaaW.PrintLast Go.Proofs.YtkefklemcoehmaaW.PrintMore
set_option linter.unusedVariables false
set_option linter.unusedSimpArgs false
def pw4 (bs : List Int) (n : Nat) : List Int := (List.range n).map (wd4 bs)
def pw8 (bs : List Int) (n : Nat) : List Int := (List.range n).map (wd8 bs)
theorem pw4_length (bs : List Int) (n : Nat) : (pw4 bs n).length = n := by simp [pw4]
theorem pw8_length (bs : List Int) (n : Nat) : (pw8 bs n).length = n := by simp [pw8]
theorem pw4_u32 {bs : List Int} (hb : bytesB bs = true) (n : Nat) (hn : bs.length = 4 * n) : u32L (pw4 bs n) := by
  intro x hx
  simp only [pw4, List.mem_map, List.mem_range] at hx
  obtain ⟨j, hj, rfl⟩ := hx
  exact wd4_bd hb (by omega)
theorem pw8_u64 {bs : List Int} (hb : bytesB bs = true) (n : Nat) (hn : bs.length = 8 * n) : u64L (pw8 bs n) := by
  intro x hx
  simp only [pw8, List.mem_map, List.mem_range] at hx
  obtain ⟨j, hj, rfl⟩ := hx
  exact wd8_bd hb (by omega)
theorem pw4_enLow (l : List Int) (n : Nat) (hn : l.length = n) (hu : u32L l) : pw4 (enLowL 4 l) n = l := by
  apply List.ext_getElem
  · rw [pw4_length, hn]
  · intro i h1 h2
    simp only [pw4, List.getElem_map, List.getElem_range]
    rw [wd4_enLow l i hu h2, rd_nat _ _ h2]
theorem pw8_enLow (l : List Int) (n : Nat) (hn : l.length = n) (hu : u64L l) : pw8 (enLowL 8 l) n = l := by
  apply List.ext_getElem
  · rw [pw8_length, hn]
  · intro i h1 h2
    simp only [pw8, List.getElem_map, List.getElem_range]
    rw [wd8_enLow l i hu h2, rd_nat _ _ h2]
theorem plDecodeFloat_pw (p : Option Addr) (A : Option Addr) (N c n : Nat) (bs : List Int) (w : World) (hC : (Kd.int .u8).C w A N bs) (hc : N ≤ c) (hN : N = 4 * n) (hn : n ≤ 100000) (hb : bytesB bs = true) :
    Calls Try.prog 27 #[.pointer p, .slice none 0 0, .slice A N c] w fun e w' => ∃ v, e = .returned (.tuple #[v, .nilIface]) ∧ OwnE f32 w' w.heap.size 64 v (pw4 bs n) ∧ Below w.heap.size w w' :=
  plDecodeFloat_calls p A N c n bs w hC hc hN hn hb
theorem plDecodeDouble_pw (p : Option Addr) (A : Option Addr) (N c n : Nat) (bs : List Int) (w : World) (hC : (Kd.int .u8).C w A N bs) (hc : N ≤ c) (hN : N = 8 * n) (hn : n ≤ 100000) (hb : bytesB bs = true) :
    Calls Try.prog 33 #[.pointer p, .slice none 0 0, .slice A N c] w fun e w' => ∃ v, e = .returned (.tuple #[v, .nilIface]) ∧ OwnE f64 w' w.heap.size 73 v (pw8 bs n) ∧ Below w.heap.size w w' :=
  plDecodeDouble_calls p A N c n bs w hC hc hN hn hb
set_option maxHeartbeats 4000000 in
theorem encodeFloatsPlain_calls (A : Option Addr) (n c : Nat) (l : List Int) (w : World) (hC : (Kd.int .u32).C w A n l) (hc : n ≤ c) (hn : n ≤ 100000) (hu : u32L l) :
    Calls Try.prog 14 #[.string ⟨#[112, 108, 97, 105, 110]⟩, .slice A n c] w fun e w' => ∃ v, e = .returned (.tuple #[v, .bool true]) ∧ Own w' w.heap.size 5 .u8 v (enLowL 4 l) ∧ Below w.heap.size w w' := by
  have HLN : Aside0 (l.length = n) := ⟨hC.1⟩
  have HC := Aside0.mk hC
  have HU := Aside0.mk hu
  clear hC hu
  go_enter Try.func14, Try.ntmps14
  go_wp2_with (fail)
  go_loopg [6, 8, 13] n (fun kq v6 v8 v13 w' => ∃ (j : Nat), j ≤ n ∧ v13 = .int .i64 j ∧ Aside0 (OwnE f32 w' w.heap.size 64 v6 (l.take j)) ∧ Aside0 (Below w.heap.size w w') ∧ Aside0 (n - j ≤ kq))
  case atStart => exact ⟨0, by omega, rfl, ⟨OwnE.nil _ _ _ _⟩, ⟨Below.refl _ _⟩, ⟨by omega⟩⟩
  case round =>
    obtain ⟨j, hj, rfl, HO, HB, HK⟩ := hrel
    by_cases cj : j < n
    · have cjb : decide ((j : Int) < n) = true := decide_eq_true (by omega)
      obtain ⟨ad, ead, hcell⟩ := Kd.at_int (Kd.C_below HC.out HB.out) (j : Int) (by omega) (by omega)
      rw [Int.toNat_natCast] at hcell
      obtain ⟨y, hy⟩ : ∃ y, rd l (j : Int) = y := ⟨_, rfl⟩
      rw [hy] at hcell
      have hyb : u32B y := by rw [← hy]; exact HU.out _ (rd_mem (by rw [HLN.out]; exact cj))
      have HY := Aside0.mk hy
      obtain ⟨q, hq⟩ : ∃ q, f32 y = .float .f32 q := ⟨_, rfl⟩
      have hff : ∀ W : World, (callFunc 24 #[.int .u32 y]).run Try.prog W = .ok (.value (.float .f32 q)) W := by rw [← hq]; exact float32frombits_run y hyb.1
      have HQ := Aside0.mk hq
      have hlen : (l.take j).length ≤ 100000 := by rw [List.length_take]; omega
      clear hy hq hyb
      subst ead
      go_wp2_with (first
        | (at_builtin; rw [← HQ.out]; refine appendOneE (w0 := w) f32 w.heap.size rfl (.tmp 17) (.tmp 20) 63 64 (.float .f32 0) 4 rfl Try.underlying63 infoF32 rfl (by decide) u6 (l.take j) y rfl rfl rfl HO.out HB.out ?hb ?hl ?_; (case hb => exact HB.out.size); (case hl => omega); intro v1 w1 ho hb hg; have HO1 := Aside0.mk ho; have HB1 := Aside0.mk hb; clear ho hb hg))
      go_roundg (gk - 1)
      case measure => have := HK.out; omega
      case rel =>
        refine ⟨j + 1, by omega, by go_num, ⟨?_⟩, HB1, ⟨by have := HK.out; omega⟩⟩
        have h2 : j < l.length := by rw [HLN.out]; exact cj
        rw [List.take_succ_eq_append_getElem h2, ← rd_nat _ _ h2, HY.out]
        exact HO1.out
    · obtain rfl : j = n := by omega
      have cjb : decide ((j : Int) < j) = false := decide_eq_false (by omega)
      have hread := HO.out.read f32_one
      rw [← HLN.out, List.take_length, HLN.out] at hread
      obtain ⟨A1, c1, rfl, hc1, hr1⟩ := hread
      have HR1 := Aside0.mk hr1
      have HBA : Aside0 (Below w.heap.size w (wr.alloc (.cells #[] 58))) := ⟨HB.out.alloc HB.out.size _⟩
      clear hr1
      go_wp2_with (first
        | (go_at_call 25; (with_reducible refine (plEncodeFloat_calls _ A1 j c1 l _ (Kd.C_alloc HR1.out _) hc1 hn HU.out).mono ?_); rintro e w2 ⟨v2, rfl, ho, hb⟩; have HB2 := Aside0.mk (HBA.out.trans (hb.mono HBA.out.size)); have HO2 := Aside0.mk (Own.lower ho HBA.out.size); clear ho hb)
        | go_quiet (fail))
      go_ret2
      exact ⟨_, rfl, HO2.out.drewN _, HB2.out.trans ((drewN_below _ _).mono HB2.out.size)⟩

set_option maxHeartbeats 4000000 in
theorem decodeFloatsPlain_calls (A : Option Addr) (N c n : Nat) (bs : List Int) (w : World) (hC : (Kd.int .u8).C w A N bs) (hc : N ≤ c) (hN : N = 4 * n) (hn : n ≤ 100000) (hb : bytesB bs = true) :
    Calls Try.prog 15 #[.string ⟨#[112, 108, 97, 105, 110]⟩, .slice A N c] w fun e w' => ∃ v, e = .returned (.tuple #[v, .bool true]) ∧ Own w' w.heap.size 24 .u32 v (pw4 bs n) ∧ Below w.heap.size w w' := by
  have HLN : Aside0 (bs.length = N) := ⟨hC.1⟩
  have HN := Aside0.mk hN
  have HBY := Aside0.mk hb
  have hN2 : N ≤ 400000 := by omega
  have HSU : Aside0 (u32L (pw4 bs n)) := ⟨pw4_u32 hb n (by rw [HLN.out]; exact hN)⟩
  have HC2 : Aside0 ((Kd.int .u8).C (w.alloc (.cells #[] 5)) A N bs) := ⟨Kd.C_alloc hC _⟩
  have HE := Aside0.mk (Own.empty w w.heap.size 5 .u8 (Nat.le_refl _))
  have HEB : Aside0 (Below w.heap.size w (w.alloc (.cells #[] 5))) := ⟨(Below.refl _ _).alloc (Nat.le_refl _) _⟩
  clear hC hb hN
  go_enter Try.func15, Try.ntmps15
  go_wp2_with (first
    | (at_builtin; refine appendRead (w0 := w) w.heap.size rfl (.tmp 12) (.tmp 13) 23 5 .u8 1 rfl Try.underlying23 infoU8 (by decide) _ [] A N c bs rfl rfl HE.out HEB.out ?hb HC2.out ?hl ?_; (case hb => simp); (case hl => simp; omega); intro v1 w1 ho hb hg; rw [List.nil_append] at ho; obtain ⟨A1, c1, rfl, hc1, hr1⟩ := ho.read; rw [HLN.out] at hc1 hr1; rw [HLN.out]; have HR1 := Aside0.mk hr1; have HB1 := Aside0.mk hb; have HBA : Aside0 (Below w.heap.size w (w1.alloc (.cells #[] 58))) := ⟨hb.alloc hb.size _⟩; clear ho hb hg hr1)
    | (go_at_call 27; (with_reducible refine (plDecodeFloat_pw _ A1 N c1 n bs _ (Kd.C_alloc HR1.out _) hc1 HN.out hn HBY.out).mono ?_); rintro e w2 ⟨v2, rfl, ho, hb⟩; obtain ⟨A2, c2, rfl, hc2, hr2⟩ := ho.read f32_one; rw [pw4_length] at hc2 hr2; rw [pw4_length]; have HR2 := Aside0.mk hr2; have HB2 := Aside0.mk (HBA.out.trans (hb.mono HBA.out.size)); clear ho hb hr2))
  clear HC2 HE HEB HR1 HB1 HBA
  have HO2 : Aside0 (Own w2 w2.heap.size 24 .u32 (.slice none 0 0) ((pw4 bs n).take 0)) := ⟨Own.nil _ _ _ _⟩
  have HB3 : Aside0 (Below w2.heap.size w2 w2) := ⟨Below.refl _ _⟩
  go_loopg [9, 11, 36] n (fun kq v9 v11 v36 w' => ∃ (j : Nat), j ≤ n ∧ v36 = .int .i64 j ∧ Aside0 (Own w' w2.heap.size 24 .u32 v9 ((pw4 bs n).take j)) ∧ Aside0 (Below w2.heap.size w2 w') ∧ Aside0 (n - j ≤ kq))
  case atStart => exact ⟨0, by omega, rfl, HO2, HB3, ⟨by omega⟩⟩
  case round =>
    clear HO2 HB3
    obtain ⟨j, hj, rfl, HO, HB, HK⟩ := hrel
    by_cases cj : j < n
    · have cjb : decide ((j : Int) < n) = true := decide_eq_true (by omega)
      obtain ⟨ad, ead, hcell⟩ := at_f32 (Kd.C_below HR2.out HB.out) (j : Int) (by omega) (by omega)
      rw [Int.toNat_natCast] at hcell
      obtain ⟨y, hy⟩ : ∃ y, rd (pw4 bs n) (j : Int) = y := ⟨_, rfl⟩
      rw [hy] at hcell
      have hyb : u32B y := by rw [← hy]; exact HSU.out _ (rd_mem (by rw [pw4_length]; exact cj))
      have HY := Aside0.mk hy
      have hfb := float32bits_run y hyb.1
      have hlen : ((pw4 bs n).take j).length ≤ 100000 := by rw [List.length_take]; omega
      clear hy hyb
      subst ead
      go_wp2_with (first
        | (at_builtin; refine appendOwn (w0 := w2) w2.heap.size rfl (.tmp 40) (.tmp 43) 29 24 .u32 4 rfl Try.underlying29 infoU32 (by decide) u9 ((pw4 bs n).take j) y rfl rfl HO.out HB.out ?hb ?hl ?_; (case hb => exact HB.out.size); (case hl => omega); intro v1 w1 ho hb hg; have HO1 := Aside0.mk ho; have HB1 := Aside0.mk hb; have HG1 := Aside0.mk hg; clear ho hb hg))
      go_roundg (gk - 1)
      case measure => have := HK.out; omega
      case rel =>
        refine ⟨j + 1, by omega, by go_num, ⟨?_⟩, HB1, ⟨by have := HK.out; omega⟩⟩
        · have h2 : j < (pw4 bs n).length := by rw [pw4_length]; exact cj
          rw [List.take_succ_eq_append_getElem h2, ← rd_nat _ _ h2, HY.out]
          exact HO1.out
    · obtain rfl : j = n := by omega
      have cjb : decide ((j : Int) < j) = false := decide_eq_false (by omega)
      have HT : Aside0 ((pw4 bs j).take j = pw4 bs j) := ⟨List.take_of_length_le (by rw [pw4_length]; exact Nat.le_refl _)⟩
      go_wp2_with (first | go_quiet (fail))
      go_ret2
      have hb := HB2.out.trans ((HB.out.trans ((drewN_below _ nq).mono HB.out.size)).mono HB2.out.size)
      exact ⟨_, rfl, by have := Own.lower (HO.out.drewN nq) HB2.out.size; rw [HT.out] at this; exact this, hb⟩

set_option maxHeartbeats 8000000 in
theorem encodeDoublesPlain_calls (A : Option Addr) (n c : Nat) (l : List Int) (w : World) (hC : (Kd.int .u64).C w A n l) (hc : n ≤ c) (hn : n ≤ 100000) (hu : u64L l) :
    Calls Try.prog 17 #[.string ⟨#[112, 108, 97, 105, 110]⟩, .slice A n c] w fun e w' => ∃ v, e = .returned (.tuple #[v, .bool true]) ∧ Own w' w.heap.size 5 .u8 v (enLowL 8 l) ∧ Below w.heap.size w w' := by
  have HLN : Aside0 (l.length = n) := ⟨hC.1⟩
  have HC := Aside0.mk hC
  have HU := Aside0.mk hu
  clear hC hu
  go_enter Try.func17, Try.ntmps17
  go_wp2_with (fail)
  go_loopg [6, 8, 13] n (fun kq v6 v8 v13 w' => ∃ (j : Nat), j ≤ n ∧ v13 = .int .i64 j ∧ Aside0 (OwnE f64 w' w.heap.size 73 v6 (l.take j)) ∧ Aside0 (Below w.heap.size w w') ∧ Aside0 (n - j ≤ kq))
  case atStart => exact ⟨0, by omega, rfl, ⟨OwnE.nil _ _ _ _⟩, ⟨Below.refl _ _⟩, ⟨by omega⟩⟩
  case round =>
    obtain ⟨j, hj, rfl, HO, HB, HK⟩ := hrel
    by_cases cj : j < n
    · have cjb : decide ((j : Int) < n) = true := decide_eq_true (by omega)
      obtain ⟨ad, ead, hcell⟩ := Kd.at_int (Kd.C_below HC.out HB.out) (j : Int) (by omega) (by omega)
      rw [Int.toNat_natCast] at hcell
      obtain ⟨y, hy⟩ : ∃ y, rd l (j : Int) = y := ⟨_, rfl⟩
      rw [hy] at hcell
      have hyb : u64B y := by rw [← hy]; exact HU.out _ (rd_mem (by rw [HLN.out]; exact cj))
      have HY := Aside0.mk hy
      obtain ⟨q, hq⟩ : ∃ q, f64 y = .float .f64 q := ⟨_, rfl⟩
      have hff : ∀ W : World, (callFunc 30 #[.int .u64 y]).run Try.prog W = .ok (.value (.float .f64 q)) W := by rw [← hq]; exact float64frombits_run y hyb.1
      have HQ := Aside0.mk hq
      have hlen : (l.take j).length ≤ 100000 := by rw [List.length_take]; omega
      clear hy hq hyb
      subst ead
      go_wp2_with (first
        | (at_builtin; rw [← HQ.out]; refine appendOneE (w0 := w) f64 w.heap.size rfl (.tmp 17) (.tmp 20) 72 73 (.float .f64 0) 8 rfl Try.underlying72 infoF64' rfl (by decide) u6 (l.take j) y rfl rfl rfl HO.out HB.out ?hb ?hl ?_; (case hb => exact HB.out.size); (case hl => omega); intro v1 w1 ho hb hg; have HO1 := Aside0.mk ho; have HB1 := Aside0.mk hb; clear ho hb hg))
      go_roundg (gk - 1)
      case measure => have := HK.out; omega
      case rel =>
        refine ⟨j + 1, by omega, by go_num, ⟨?_⟩, HB1, ⟨by have := HK.out; omega⟩⟩
        have h2 : j < l.length := by rw [HLN.out]; exact cj
        rw [List.take_succ_eq_append_getElem h2, ← rd_nat _ _ h2, HY.out]
        exact HO1.out
    · obtain rfl : j = n := by omega
      have cjb : decide ((j : Int) < j) = false := decide_eq_false (by omega)
      have hread := HO.out.read f64_one
      rw [← HLN.out, List.take_length, HLN.out] at hread
      obtain ⟨A1, c1, rfl, hc1, hr1⟩ := hread
      have HR1 := Aside0.mk hr1
      have HBA : Aside0 (Below w.heap.size w (wr.alloc (.cells #[] 58))) := ⟨HB.out.alloc HB.out.size _⟩
      clear hr1
      go_wp2_with (first
        | (go_at_call 31; (with_reducible refine (plEncodeDouble_calls _ A1 j c1 l _ (Kd.C_alloc HR1.out _) hc1 hn HU.out).mono ?_); rintro e w2 ⟨v2, rfl, ho, hb⟩; have HB2 := Aside0.mk (HBA.out.trans (hb.mono HBA.out.size)); have HO2 := Aside0.mk (Own.lower ho HBA.out.size); clear ho hb)
        | go_quiet (fail))
      go_ret2
      exact ⟨_, rfl, HO2.out.drewN _, HB2.out.trans ((drewN_below _ _).mono HB2.out.size)⟩

set_option maxHeartbeats 8000000 in
theorem decodeDoublesPlain_calls (A : Option Addr) (N c n : Nat) (bs : List Int) (w : World) (hC : (Kd.int .u8).C w A N bs) (hc : N ≤ c) (hN : N = 8 * n) (hn : n ≤ 100000) (hb : bytesB bs = true) :
    Calls Try.prog 18 #[.string ⟨#[112, 108, 97, 105, 110]⟩, .slice A N c] w fun e w' => ∃ v, e = .returned (.tuple #[v, .bool true]) ∧ Own w' w.heap.size 47 .u64 v (pw8 bs n) ∧ Below w.heap.size w w' := by
  have HLN : Aside0 (bs.length = N) := ⟨hC.1⟩
  have HN := Aside0.mk hN
  have HBY := Aside0.mk hb
  have hN2 : N ≤ 800000 := by omega
  have HSU : Aside0 (u64L (pw8 bs n)) := ⟨pw8_u64 hb n (by rw [HLN.out]; exact hN)⟩
  have HC2 : Aside0 ((Kd.int .u8).C (w.alloc (.cells #[] 5)) A N bs) := ⟨Kd.C_alloc hC _⟩
  have HE := Aside0.mk (Own.empty w w.heap.size 5 .u8 (Nat.le_refl _))
  have HEB : Aside0 (Below w.heap.size w (w.alloc (.cells #[] 5))) := ⟨(Below.refl _ _).alloc (Nat.le_refl _) _⟩
  clear hC hb hN
  go_enter Try.func18, Try.ntmps18
  go_wp2_with (first
    | (at_builtin; refine appendRead (w0 := w) w.heap.size rfl (.tmp 12) (.tmp 13) 23 5 .u8 1 rfl Try.underlying23 infoU8 (by decide) _ [] A N c bs rfl rfl HE.out HEB.out ?hb HC2.out ?hl ?_; (case hb => simp); (case hl => simp; omega); intro v1 w1 ho hb hg; rw [List.nil_append] at ho; obtain ⟨A1, c1, rfl, hc1, hr1⟩ := ho.read; rw [HLN.out] at hc1 hr1; rw [HLN.out]; have HR1 := Aside0.mk hr1; have HB1 := Aside0.mk hb; have HBA : Aside0 (Below w.heap.size w (w1.alloc (.cells #[] 58))) := ⟨hb.alloc hb.size _⟩; clear ho hb hg hr1)
    | (go_at_call 33; (with_reducible refine (plDecodeDouble_pw _ A1 N c1 n bs _ (Kd.C_alloc HR1.out _) hc1 HN.out hn HBY.out).mono ?_); rintro e w2 ⟨v2, rfl, ho, hb⟩; obtain ⟨A2, c2, rfl, hc2, hr2⟩ := ho.read f64_one; rw [pw8_length] at hc2 hr2; rw [pw8_length]; have HR2 := Aside0.mk hr2; have HB2 := Aside0.mk (HBA.out.trans (hb.mono HBA.out.size)); clear ho hb hr2))
  clear HC2 HE HEB HR1 HB1 HBA
  have HO2 : Aside0 (Own w2 w2.heap.size 47 .u64 (.slice none 0 0) ((pw8 bs n).take 0)) := ⟨Own.nil _ _ _ _⟩
  have HB3 : Aside0 (Below w2.heap.size w2 w2) := ⟨Below.refl _ _⟩
  go_loopg [9, 11, 36] n (fun kq v9 v11 v36 w' => ∃ (j : Nat), j ≤ n ∧ v36 = .int .i64 j ∧ Aside0 (Own w' w2.heap.size 47 .u64 v9 ((pw8 bs n).take j)) ∧ Aside0 (Below w2.heap.size w2 w') ∧ Aside0 (n - j ≤ kq))
  case atStart => exact ⟨0, by omega, rfl, HO2, HB3, ⟨by omega⟩⟩
  case round =>
    clear HO2 HB3
    obtain ⟨j, hj, rfl, HO, HB, HK⟩ := hrel
    by_cases cj : j < n
    · have cjb : decide ((j : Int) < n) = true := decide_eq_true (by omega)
      obtain ⟨ad, ead, hcell⟩ := at_f64 (Kd.C_below HR2.out HB.out) (j : Int) (by omega) (by omega)
      rw [Int.toNat_natCast] at hcell
      obtain ⟨y, hy⟩ : ∃ y, rd (pw8 bs n) (j : Int) = y := ⟨_, rfl⟩
      rw [hy] at hcell
      have hyb : u64B y := by rw [← hy]; exact HSU.out _ (rd_mem (by rw [pw8_length]; exact cj))
      have HY := Aside0.mk hy
      have hfb := float64bits_run y hyb.1
      have hlen : ((pw8 bs n).take j).length ≤ 100000 := by rw [List.length_take]; omega
      clear hy hyb
      subst ead
      go_wp2_with (first
        | (at_builtin; refine appendOwn (w0 := w2) w2.heap.size rfl (.tmp 40) (.tmp 43) 27 47 .u64 8 rfl Try.underlying27 infoU64 (by decide) u9 ((pw8 bs n).take j) y rfl rfl HO.out HB.out ?hb ?hl ?_; (case hb => exact HB.out.size); (case hl => omega); intro v1 w1 ho hb hg; have HO1 := Aside0.mk ho; have HB1 := Aside0.mk hb; have HG1 := Aside0.mk hg; clear ho hb hg))
      go_roundg (gk - 1)
      case measure => have := HK.out; omega
      case rel =>
        refine ⟨j + 1, by omega, by go_num, ⟨?_⟩, HB1, ⟨by have := HK.out; omega⟩⟩
        · have h2 : j < (pw8 bs n).length := by rw [pw8_length]; exact cj
          rw [List.take_succ_eq_append_getElem h2, ← rd_nat _ _ h2, HY.out]
          exact HO1.out
    · obtain rfl : j = n := by omega
      have cjb : decide ((j : Int) < j) = false := decide_eq_false (by omega)
      have HT : Aside0 ((pw8 bs j).take j = pw8 bs j) := ⟨List.take_of_length_le (by rw [pw8_length]; exact Nat.le_refl _)⟩
      go_wp2_with (first | go_quiet (fail))
      go_ret2
      have hb := HB2.out.trans ((HB.out.trans ((drewN_below _ nq).mono HB.out.size)).mono HB2.out.size)
      exact ⟨_, rfl, by have := Own.lower (HO.out.drewN nq) HB2.out.size; rw [HT.out] at this; exact this, hb⟩

set_option maxHeartbeats 8000000 in
theorem encodeDoublesSplit_calls (A : Option Addr) (n c : Nat) (l : List Int) (w : World) (hC : (Kd.int .u64).C w A n l) (hc : n ≤ c) (hn : n ≤ 100000) (hu : u64L l) :
    Calls Try.prog 17 #[.string ⟨#[115, 112, 108, 105, 116]⟩, .slice A n c] w fun e w' => ∃ v, e = .returned (.tuple #[v, .bool true]) ∧ Own w' w.heap.size 5 .u8 v (streamsL 8 (enLowL 8 l)) ∧ Below w.heap.size w w' := by
  have HLN : Aside0 (l.length = n) := ⟨hC.1⟩
  have HC := Aside0.mk hC
  have HU := Aside0.mk hu
  clear hC hu
  go_enter Try.func17, Try.ntmps17
  go_wp2_with (fail)
  go_loopg [6, 8, 13] n (fun kq v6 v8 v13 w' => ∃ (j : Nat), j ≤ n ∧ v13 = .int .i64 j ∧ Aside0 (OwnE f64 w' w.heap.size 73 v6 (l.take j)) ∧ Aside0 (Below w.heap.size w w') ∧ Aside0 (n - j ≤ kq))
  case atStart => exact ⟨0, by omega, rfl, ⟨OwnE.nil _ _ _ _⟩, ⟨Below.refl _ _⟩, ⟨by omega⟩⟩
  case round =>
    obtain ⟨j, hj, rfl, HO, HB, HK⟩ := hrel
    by_cases cj : j < n
    · have cjb : decide ((j : Int) < n) = true := decide_eq_true (by omega)
      obtain ⟨ad, ead, hcell⟩ := Kd.at_int (Kd.C_below HC.out HB.out) (j : Int) (by omega) (by omega)
      rw [Int.toNat_natCast] at hcell
      obtain ⟨y, hy⟩ : ∃ y, rd l (j : Int) = y := ⟨_, rfl⟩
      rw [hy] at hcell
      have hyb : u64B y := by rw [← hy]; exact HU.out _ (rd_mem (by rw [HLN.out]; exact cj))
      have HY := Aside0.mk hy
      obtain ⟨q, hq⟩ : ∃ q, f64 y = .float .f64 q := ⟨_, rfl⟩
      have hff : ∀ W : World, (callFunc 30 #[.int .u64 y]).run Try.prog W = .ok (.value (.float .f64 q)) W := by rw [← hq]; exact float64frombits_run y hyb.1
      have HQ := Aside0.mk hq
      have hlen : (l.take j).length ≤ 100000 := by rw [List.length_take]; omega
      clear hy hq hyb
      subst ead
      go_wp2_with (first
        | (at_builtin; rw [← HQ.out]; refine appendOneE (w0 := w) f64 w.heap.size rfl (.tmp 17) (.tmp 20) 72 73 (.float .f64 0) 8 rfl Try.underlying72 infoF64' rfl (by decide) u6 (l.take j) y rfl rfl rfl HO.out HB.out ?hb ?hl ?_; (case hb => exact HB.out.size); (case hl => omega); intro v1 w1 ho hb hg; have HO1 := Aside0.mk ho; have HB1 := Aside0.mk hb; clear ho hb hg))
      go_roundg (gk - 1)
      case measure => have := HK.out; omega
      case rel =>
        refine ⟨j + 1, by omega, by go_num, ⟨?_⟩, HB1, ⟨by have := HK.out; omega⟩⟩
        have h2 : j < l.length := by rw [HLN.out]; exact cj
        rw [List.take_succ_eq_append_getElem h2, ← rd_nat _ _ h2, HY.out]
        exact HO1.out
    · obtain rfl : j = n := by omega
      have cjb : decide ((j : Int) < j) = false := decide_eq_false (by omega)
      have hread := HO.out.read f64_one
      rw [← HLN.out, List.take_length, HLN.out] at hread
      obtain ⟨A1, c1, rfl, hc1, hr1⟩ := hread
      have HR1 := Aside0.mk hr1
      have HBA : Aside0 (Below w.heap.size w (wr.alloc (.cells #[] 68))) := ⟨HB.out.alloc HB.out.size _⟩
      clear hr1
      go_wp2_with (first
        | (go_at_call 32; (with_reducible refine (spEncodeDouble_calls _ A1 j c1 l _ (Kd.C_alloc HR1.out _) hc1 hn HU.out).mono ?_); rintro e w2 ⟨v2, rfl, ho, hb⟩; have HB2 := Aside0.mk (HBA.out.trans (hb.mono HBA.out.size)); have HO2 := Aside0.mk (Own.lower ho HBA.out.size); clear ho hb)
        | go_quiet (fail))
      go_ret2
      exact ⟨_, rfl, HO2.out.drewN _, HB2.out.trans ((drewN_below _ _).mono HB2.out.size)⟩

set_option maxHeartbeats 8000000 in
theorem decodeDoublesSplit_calls (A : Option Addr) (N c n : Nat) (bs : List Int) (w : World) (hC : (Kd.int .u8).C w A N bs) (hc : N ≤ c) (hN : N = 8 * n) (hn : n ≤ 100000) (hb : bytesB bs = true) :
    Calls Try.prog 18 #[.string ⟨#[115, 112, 108, 105, 116]⟩, .slice A N c] w fun e w' => ∃ v, e = .returned (.tuple #[v, .bool true]) ∧ Own w' w.heap.size 47 .u64 v (sw8 bs n) ∧ Below w.heap.size w w' := by
  have HLN : Aside0 (bs.length = N) := ⟨hC.1⟩
  have HN := Aside0.mk hN
  have HBY := Aside0.mk hb
  have hN2 : N ≤ 800000 := by omega
  have HSU : Aside0 (u64L (sw8 bs n)) := ⟨sw8_u64 hb n (by rw [HLN.out]; exact hN)⟩
  have HC2 : Aside0 ((Kd.int .u8).C (w.alloc (.cells #[] 5)) A N bs) := ⟨Kd.C_alloc hC _⟩
  have HE := Aside0.mk (Own.empty w w.heap.size 5 .u8 (Nat.le_refl _))
  have HEB : Aside0 (Below w.heap.size w (w.alloc (.cells #[] 5))) := ⟨(Below.refl _ _).alloc (Nat.le_refl _) _⟩
  clear hC hb hN
  go_enter Try.func18, Try.ntmps18
  go_wp2_with (first
    | (at_builtin; refine appendRead (w0 := w) w.heap.size rfl (.tmp 12) (.tmp 13) 23 5 .u8 1 rfl Try.underlying23 infoU8 (by decide) _ [] A N c bs rfl rfl HE.out HEB.out ?hb HC2.out ?hl ?_; (case hb => simp); (case hl => simp; omega); intro v1 w1 ho hb hg; rw [List.nil_append] at ho; obtain ⟨A1, c1, rfl, hc1, hr1⟩ := ho.read; rw [HLN.out] at hc1 hr1; rw [HLN.out]; have HR1 := Aside0.mk hr1; have HB1 := Aside0.mk hb; have HBA : Aside0 (Below w.heap.size w (w1.alloc (.cells #[] 68))) := ⟨hb.alloc hb.size _⟩; clear ho hb hg hr1)
    | (go_at_call 34; (with_reducible refine (spDecodeDouble_calls _ A1 N c1 n bs _ (Kd.C_alloc HR1.out _) hc1 HN.out hn HBY.out).mono ?_); rintro e w2 ⟨v2, rfl, ho, hb⟩; obtain ⟨A2, c2, rfl, hc2, hr2⟩ := ho.read f64_one; rw [sw8_length] at hc2 hr2; rw [sw8_length]; have HR2 := Aside0.mk hr2; have HB2 := Aside0.mk (HBA.out.trans (hb.mono HBA.out.size)); clear ho hb hr2))
  clear HC2 HE HEB HR1 HB1 HBA
  have HO2 : Aside0 (Own w2 w2.heap.size 47 .u64 (.slice none 0 0) ((sw8 bs n).take 0)) := ⟨Own.nil _ _ _ _⟩
  have HB3 : Aside0 (Below w2.heap.size w2 w2) := ⟨Below.refl _ _⟩
  go_loopg [9, 11, 36] n (fun kq v9 v11 v36 w' => ∃ (j : Nat), j ≤ n ∧ v36 = .int .i64 j ∧ Aside0 (Own w' w2.heap.size 47 .u64 v9 ((sw8 bs n).take j)) ∧ Aside0 (Below w2.heap.size w2 w') ∧ Aside0 (n - j ≤ kq))
  case atStart => exact ⟨0, by omega, rfl, HO2, HB3, ⟨by omega⟩⟩
  case round =>
    clear HO2 HB3
    obtain ⟨j, hj, rfl, HO, HB, HK⟩ := hrel
    by_cases cj : j < n
    · have cjb : decide ((j : Int) < n) = true := decide_eq_true (by omega)
      obtain ⟨ad, ead, hcell⟩ := at_f64 (Kd.C_below HR2.out HB.out) (j : Int) (by omega) (by omega)
      rw [Int.toNat_natCast] at hcell
      obtain ⟨y, hy⟩ : ∃ y, rd (sw8 bs n) (j : Int) = y := ⟨_, rfl⟩
      rw [hy] at hcell
      have hyb : u64B y := by rw [← hy]; exact HSU.out _ (rd_mem (by rw [sw8_length]; exact cj))
      have HY := Aside0.mk hy
      have hfb := float64bits_run y hyb.1
      have hlen : ((sw8 bs n).take j).length ≤ 100000 := by rw [List.length_take]; omega
      clear hy hyb
      subst ead
      go_wp2_with (first
        | (at_builtin; refine appendOwn (w0 := w2) w2.heap.size rfl (.tmp 40) (.tmp 43) 27 47 .u64 8 rfl Try.underlying27 infoU64 (by decide) u9 ((sw8 bs n).take j) y rfl rfl HO.out HB.out ?hb ?hl ?_; (case hb => exact HB.out.size); (case hl => omega); intro v1 w1 ho hb hg; have HO1 := Aside0.mk ho; have HB1 := Aside0.mk hb; have HG1 := Aside0.mk hg; clear ho hb hg))
      go_roundg (gk - 1)
      case measure => have := HK.out; omega
      case rel =>
        refine ⟨j + 1, by omega, by go_num, ⟨?_⟩, HB1, ⟨by have := HK.out; omega⟩⟩
        · have h2 : j < (sw8 bs n).length := by rw [sw8_length]; exact cj
          rw [List.take_succ_eq_append_getElem h2, ← rd_nat _ _ h2, HY.out]
          exact HO1.out
    · obtain rfl : j = n := by omega
      have cjb : decide ((j : Int) < j) = false := decide_eq_false (by omega)
      have HT : Aside0 ((sw8 bs j).take j = sw8 bs j) := ⟨List.take_of_length_le (by rw [sw8_length]; exact Nat.le_refl _)⟩
      go_wp2_with (first | go_quiet (fail))
      go_ret2
      have hb := HB2.out.trans ((HB.out.trans ((drewN_below _ nq).mono HB.out.size)).mono HB2.out.size)
      exact ⟨_, rfl, by have := Own.lower (HO.out.drewN nq) HB2.out.size; rw [HT.out] at this; exact this, hb⟩

end Go.Proofs.Ytkefklemcoehmaa.Imf
