import Derived.Test.YtkefklemcoehmaaSpe
/-! Walks of the thin package: numbers with points of 32 bits, in streams. -/
namespace Go.Proofs.Ytkefklemcoehmaa.Sim
open Go.Proofs.Ytkefklemcoehmaa.Spe Go.Proofs.Ytkefklemcoehmaa.Spd Go.Proofs.Ytkefklemcoehmaa.Spl Go.Proofs.Ytkefklemcoehmaa.Str Go.Proofs.Ytkefklemcoehmaa.Flt Go.Proofs.Ytkefklemcoehmaa.Owe Go.Proofs.Ytkefklemcoehmaa.Num Go.Proofs.Ytkefklemcoehmaa.Le Go.Proofs.Ytkefklemcoehmaa.Lst Go.Proofs.Ytkefklemcoehmaa.Aid Go.RowKit Go.Proofs.YtkefklemcoehmaaW.PrintWords Go.Proofs.YtkefklemcoehmaaW.PrintLast Go.Proofs.YtkefklemcoehmaaW.PrintMore
set_option linter.unusedVariables false
set_option linter.unusedSimpArgs false
theorem Own.lower {w : World} {base base' t : Nat} {k : IntKind} {v : Value} {xs : List Int} (h : Own w base t k v xs) (hb : base' ≤ base) : Own w base' t k v xs := by
  obtain ⟨h1, h2 | ⟨g, c, cur, e, hg, r⟩⟩ := h.out
  · exact ⟨⟨h1, .inl h2⟩⟩
  · exact ⟨⟨h1, .inr ⟨g, c, cur, e, Nat.le_trans hb hg, r⟩⟩⟩
theorem OwnE.lower {α : Type} {enc : α → Value} {w : World} {base base' t : Nat} {v : Value} {xs : List α} (h : OwnE enc w base t v xs) (hb : base' ≤ base) : OwnE enc w base' t v xs := by
  obtain ⟨h1, h2 | ⟨g, c, cur, e, hg, r⟩⟩ := h.out
  · exact ⟨⟨h1, .inl h2⟩⟩
  · exact ⟨⟨h1, .inr ⟨g, c, cur, e, Nat.le_trans hb hg, r⟩⟩⟩
theorem streams_take {k m : Nat} {bs : List Int} (hl : bs.length = k * m) (hk : 0 < k) (a b : Nat) (ha : a < k) (hb : b < m) :
    (streamsL k bs).take (a * m + b + 1) = (streamsL k bs).take (a * m + b) ++ [rd bs (a + k * b : Nat)] := by
  have hq : bs.length / k = m := by rw [hl, Nat.mul_div_cancel_left _ hk]
  obtain ⟨q1, q2⟩ := quot_eq (S := a) hb
  have h1 : a * m + b < k * m := by
    have : a * m + m ≤ k * m := by rw [← Nat.succ_mul]; exact Nat.mul_le_mul_right _ ha
    omega
  have h2 : a * m + b < (streamsL k bs).length := by rw [streamsL_length, hl]; exact h1
  rw [List.take_succ_eq_append_getElem h2]
  congr 2
  simp only [streamsL, List.getElem_map, List.getElem_range, hq, q1, q2]
  congr 1
  rw [Nat.mul_comm, Nat.add_comm]
set_option maxHeartbeats 4000000 in
theorem streams_calls (k m : Nat) (A : Option Addr) (N c : Nat) (bs : List Int) (w : World) (hk : 0 < k) (hk8 : k ≤ 100) (hC : (Kd.int .u8).C w A N bs) (hc : N ≤ c) (hN : N = k * m) (hN9 : N ≤ 2147483647) :
    Calls Try.prog 13 #[.int .i64 k, .slice A N c] w fun e w' => ∃ v, e = .returned v ∧ Own w' w.heap.size 5 .u8 v (streamsL k bs) ∧ Below w.heap.size w w' := by
  have HLN : Aside0 (bs.length = N) := ⟨hC.1⟩
  have HN := Aside0.mk hN
  have HC := Aside0.mk hC
  clear hC hN
  go_enter Try.func13, Try.ntmps13
  go_wp2_with (fail)
  go_loopg [5, 6, 7, 9] k (fun kq v5 v6 v7 v9 w' => ∃ (a : Nat), a ≤ k ∧ v9 = .int .i64 a ∧ Aside0 (Own w' w.heap.size 5 .u8 v5 ((streamsL k bs).take (a * m))) ∧ Aside0 (Below w.heap.size w w') ∧ Aside0 (k - a ≤ kq))
  case atStart => exact ⟨0, by omega, rfl, ⟨by rw [Nat.zero_mul]; exact Own.nil _ _ _ _⟩, ⟨Below.refl _ _⟩, ⟨by omega⟩⟩
  case round =>
    obtain ⟨a, ha, rfl, HO, HB, HK⟩ := hrel
    by_cases ca : a < k
    · have cab : decide ((a : Int) < k) = true := decide_eq_true (by omega)
      obtain ⟨gk0, rfl⟩ : ∃ gk0, gk = gk0 + 1 := ⟨gk - 1, by have := HK.out; omega⟩
      go_wp2_with (fail)
      go_loopg [5, 7] m (fun kq v5 v7 w' => ∃ (b q : Nat), b ≤ m ∧ v7 = .int .i64 q ∧ Aside0 (q = a + k * b) ∧ Aside0 (Own w' w.heap.size 5 .u8 v5 ((streamsL k bs).take (a * m + b))) ∧ Aside0 (Below w.heap.size w w') ∧ Aside0 (m - b ≤ kq))
      case atStart => exact ⟨0, a, by omega, rfl, ⟨by simp⟩, HO, HB, ⟨by omega⟩⟩
      case round =>
        clear HO HB
        obtain ⟨b, q, hb, rfl, HQ, HO, HB, HK2⟩ := hrel
        by_cases cb : b < m
        · have hqN : q < N := by
            rw [HQ.out, HN.out]
            have : k * b + k ≤ k * m := by rw [← Nat.mul_succ]; exact Nat.mul_le_mul_left _ cb
            omega
          have cqb : decide ((q : Int) < N) = true := decide_eq_true (by omega)
          have cqn : decide (q < N) = true := decide_eq_true (by omega)
          obtain ⟨ad, ead, hcell⟩ := Kd.at_int (Kd.C_below HC.out HB.out) (q : Int) (by omega) (by omega)
          rw [Int.toNat_natCast] at hcell
          obtain ⟨y, hy⟩ : ∃ y, rd bs (q : Int) = y := ⟨_, rfl⟩
          rw [hy] at hcell
          have HY := Aside0.mk hy
          have hlen : ((streamsL k bs).take (a * m + b)).length ≤ N := by rw [List.length_take, streamsL_length, HLN.out]; omega
          clear hy
          subst ead
          go_wp2_with (first
            | (at_builtin; refine appendOwn (w0 := w) w.heap.size rfl (.tmp 20) (.tmp 25) 23 5 .u8 1 rfl Try.underlying23 infoU8 (by decide) u5 ((streamsL k bs).take (a * m + b)) y rfl rfl HO.out HB.out ?hb ?hl ?_; (case hb => exact HB.out.size); (case hl => omega); intro v1 w1 ho hb hg; have HO1 := Aside0.mk ho; have HB1 := Aside0.mk hb; clear ho hb hg))
          go_roundg (gk - 1)
          case measure => have := HK2.out; omega
          case rel =>
            refine ⟨b + 1, q + k, by omega, by go_num, ⟨by rw [HQ.out, Nat.mul_succ]; omega⟩, ⟨?_⟩, HB1, ⟨by have := HK2.out; omega⟩⟩
            have := HO1.out
            rw [← HY.out, HQ.out, ← streams_take (by rw [HLN.out]; exact HN.out) hk a b ca cb] at this
            exact this
        · obtain rfl : b = m := by omega
          have hqN : ¬ q < N := by
            rw [HQ.out, HN.out]; omega
          have cqb : decide ((q : Int) < N) = false := decide_eq_false (by omega)
          go_wp2_with (fail)
          go_roundg gk0
          case measure => omega
          case rel =>
            refine ⟨a + 1, by omega, by go_num, ⟨?_⟩, HB, ⟨by have := HK.out; omega⟩⟩
            rw [Nat.succ_mul]; exact HO.out
    · obtain rfl : a = k := by omega
      have cab : decide ((a : Int) < a) = false := decide_eq_false (by omega)
      go_wp2_with (fail)
      go_ret
      have := HO.out
      rw [List.take_of_length_le (by rw [streamsL_length, HLN.out, HN.out]; exact Nat.le_refl _)] at this
      exact ⟨_, rfl, this, HB.out⟩
set_option maxHeartbeats 4000000 in
theorem encodeFloatsSplit_calls (A : Option Addr) (n c : Nat) (l : List Int) (w : World) (hC : (Kd.int .u32).C w A n l) (hc : n ≤ c) (hn : n ≤ 100000) (hu : u32L l) :
    Calls Try.prog 14 #[.string ⟨#[115, 112, 108, 105, 116]⟩, .slice A n c] w fun e w' => ∃ v, e = .returned (.tuple #[v, .bool true]) ∧ Own w' w.heap.size 5 .u8 v (streamsL 4 (enLowL 4 l)) ∧ Below w.heap.size w w' := by
  have HLN : Aside0 (l.length = n) := ⟨hC.1⟩
  have HC := Aside0.mk hC
  have HU := Aside0.mk hu
  clear hC hu
  go_enter Try.func14, Try.ntmps14
  go_wp2_with (fail)
  go_loopg [6, 8, 13] n (fun kq v6 v8 v13 w' => ∃ (j : Nat), j ≤ n ∧ v13 = .int .i64 j ∧ Aside0 (OwnE f32 w' w.heap.size 64 v6 (l.take j)) ∧ Aside0 (Below w.heap.size w w') ∧ Aside0 (n - j ≤ kq))
  case atStart => exact ⟨0, by omega, rfl, ⟨OwnE.nil _ _ _ _⟩, ⟨Below.refl _ _⟩, ⟨by omega⟩⟩
  case round =>
    obtain ⟨j, hj, rfl, HO, HB, HK⟩ := hrel
    by_cases cj : j < n
    · have cjb : decide ((j : Int) < n) = true := decide_eq_true (by omega)
      obtain ⟨ad, ead, hcell⟩ := Kd.at_int (Kd.C_below HC.out HB.out) (j : Int) (by omega) (by omega)
      rw [Int.toNat_natCast] at hcell
      obtain ⟨y, hy⟩ : ∃ y, rd l (j : Int) = y := ⟨_, rfl⟩
      rw [hy] at hcell
      have hyb : u32B y := by rw [← hy]; exact HU.out _ (rd_mem (by rw [HLN.out]; exact cj))
      have HY := Aside0.mk hy
      obtain ⟨q, hq⟩ : ∃ q, f32 y = .float .f32 q := ⟨_, rfl⟩
      have hff : ∀ W : World, (callFunc 24 #[.int .u32 y]).run Try.prog W = .ok (.value (.float .f32 q)) W := by rw [← hq]; exact float32frombits_run y hyb.1
      have HQ := Aside0.mk hq
      have hlen : (l.take j).length ≤ 100000 := by rw [List.length_take]; omega
      clear hy hq hyb
      subst ead
      go_wp2_with (first
        | (at_builtin; rw [← HQ.out]; refine appendOneE (w0 := w) f32 w.heap.size rfl (.tmp 17) (.tmp 20) 63 64 (.float .f32 0) 4 rfl Try.underlying63 infoF32 rfl (by decide) u6 (l.take j) y rfl rfl rfl HO.out HB.out ?hb ?hl ?_; (case hb => exact HB.out.size); (case hl => omega); intro v1 w1 ho hb hg; have HO1 := Aside0.mk ho; have HB1 := Aside0.mk hb; clear ho hb hg))
      go_roundg (gk - 1)
      case measure => have := HK.out; omega
      case rel =>
        refine ⟨j + 1, by omega, by go_num, ⟨?_⟩, HB1, ⟨by have := HK.out; omega⟩⟩
        have h2 : j < l.length := by rw [HLN.out]; exact cj
        rw [List.take_succ_eq_append_getElem h2, ← rd_nat _ _ h2, HY.out]
        exact HO1.out
    · obtain rfl : j = n := by omega
      have cjb : decide ((j : Int) < j) = false := decide_eq_false (by omega)
      have hread := HO.out.read f32_one
      rw [← HLN.out, List.take_length, HLN.out] at hread
      obtain ⟨A1, c1, rfl, hc1, hr1⟩ := hread
      have HR1 := Aside0.mk hr1
      have HBA : Aside0 (Below w.heap.size w (wr.alloc (.cells #[] 68))) := ⟨HB.out.alloc HB.out.size _⟩
      clear hr1
      go_wp2_with (first
        | (go_at_call 26; (with_reducible refine (spEncodeFloat_calls _ A1 j c1 l _ (Kd.C_alloc HR1.out _) hc1 hn HU.out).mono ?_); rintro e w2 ⟨v2, rfl, ho, hb⟩; have HB2 := Aside0.mk (HBA.out.trans (hb.mono HBA.out.size)); have HO2 := Aside0.mk (Own.lower ho HBA.out.size); clear ho hb)
        | go_quiet (fail))
      go_ret2
      exact ⟨_, rfl, HO2.out.drewN _, HB2.out.trans ((drewN_below _ _).mono HB2.out.size)⟩
theorem IsRow.maxCap {k : IntKind} {w : World} {a : Option Addr} {len cap : Nat} {zs : List Int} (h : IsRow k w a len cap zs) : len ≤ cap := by
  rcases h with ⟨_, rfl, rfl, _⟩ | ⟨x, _, h, _⟩ <;> omega
set_option maxHeartbeats 4000000 in
theorem decodeFloatsSplit_calls (A : Option Addr) (N c n : Nat) (bs : List Int) (w : World) (hC : (Kd.int .u8).C w A N bs) (hc : N ≤ c) (hN : N = 4 * n) (hn : n ≤ 100000) (hb : bytesB bs = true) :
    Calls Try.prog 15 #[.string ⟨#[115, 112, 108, 105, 116]⟩, .slice A N c] w fun e w' => ∃ v, e = .returned (.tuple #[v, .bool true]) ∧ Own w' w.heap.size 24 .u32 v (sw4 bs n) ∧ Below w.heap.size w w' := by
  have HLN : Aside0 (bs.length = N) := ⟨hC.1⟩
  have HN := Aside0.mk hN
  have HBY := Aside0.mk hb
  have hN2 : N ≤ 400000 := by omega
  have HSU : Aside0 (u32L (sw4 bs n)) := ⟨sw4_u32 hb n (by rw [HLN.out]; exact hN)⟩
  have HC2 : Aside0 ((Kd.int .u8).C (w.alloc (.cells #[] 5)) A N bs) := ⟨Kd.C_alloc hC _⟩
  have HE := Aside0.mk (Own.empty w w.heap.size 5 .u8 (Nat.le_refl _))
  have HEB : Aside0 (Below w.heap.size w (w.alloc (.cells #[] 5))) := ⟨(Below.refl _ _).alloc (Nat.le_refl _) _⟩
  clear hC hb hN
  go_enter Try.func15, Try.ntmps15
  go_wp2_with (first
    | (at_builtin; refine appendRead (w0 := w) w.heap.size rfl (.tmp 12) (.tmp 13) 23 5 .u8 1 rfl Try.underlying23 infoU8 (by decide) _ [] A N c bs rfl rfl HE.out HEB.out ?hb HC2.out ?hl ?_; (case hb => simp); (case hl => simp; omega); intro v1 w1 ho hb hg; rw [List.nil_append] at ho; obtain ⟨A1, c1, rfl, hc1, hr1⟩ := ho.read; rw [HLN.out] at hc1 hr1; rw [HLN.out]; have HR1 := Aside0.mk hr1; have HB1 := Aside0.mk hb; have HBA : Aside0 (Below w.heap.size w (w1.alloc (.cells #[] 68))) := ⟨hb.alloc hb.size _⟩; clear ho hb hg hr1)
    | (go_at_call 28; (with_reducible refine (spDecodeFloat_calls _ A1 N c1 n bs _ (Kd.C_alloc HR1.out _) hc1 HN.out hn HBY.out).mono ?_); rintro e w2 ⟨v2, rfl, ho, hb⟩; obtain ⟨A2, c2, rfl, hc2, hr2⟩ := ho.read f32_one; rw [sw4_length] at hc2 hr2; rw [sw4_length]; have HR2 := Aside0.mk hr2; have HB2 := Aside0.mk (HBA.out.trans (hb.mono HBA.out.size)); clear ho hb hr2))
  clear HC2 HE HEB HR1 HB1 HBA
  have HO2 : Aside0 (Own w2 w2.heap.size 24 .u32 (.slice none 0 0) ((sw4 bs n).take 0)) := ⟨Own.nil _ _ _ _⟩
  have HB3 : Aside0 (Below w2.heap.size w2 w2) := ⟨Below.refl _ _⟩
  go_loopg [9, 11, 36] n (fun kq v9 v11 v36 w' => ∃ (j : Nat), j ≤ n ∧ v36 = .int .i64 j ∧ Aside0 (Own w' w2.heap.size 24 .u32 v9 ((sw4 bs n).take j)) ∧ Aside0 (Below w2.heap.size w2 w') ∧ Aside0 (n - j ≤ kq))
  case atStart => exact ⟨0, by omega, rfl, HO2, HB3, ⟨by omega⟩⟩
  case round =>
    clear HO2 HB3
    obtain ⟨j, hj, rfl, HO, HB, HK⟩ := hrel
    by_cases cj : j < n
    · have cjb : decide ((j : Int) < n) = true := decide_eq_true (by omega)
      obtain ⟨ad, ead, hcell⟩ := at_f32 (Kd.C_below HR2.out HB.out) (j : Int) (by omega) (by omega)
      rw [Int.toNat_natCast] at hcell
      obtain ⟨y, hy⟩ : ∃ y, rd (sw4 bs n) (j : Int) = y := ⟨_, rfl⟩
      rw [hy] at hcell
      have hyb : u32B y := by rw [← hy]; exact HSU.out _ (rd_mem (by rw [sw4_length]; exact cj))
      have HY := Aside0.mk hy
      have hfb := float32bits_run y hyb.1
      have hlen : ((sw4 bs n).take j).length ≤ 100000 := by rw [List.length_take]; omega
      clear hy hyb
      subst ead
      go_wp2_with (first
        | (at_builtin; refine appendOwn (w0 := w2) w2.heap.size rfl (.tmp 40) (.tmp 43) 29 24 .u32 4 rfl Try.underlying29 infoU32 (by decide) u9 ((sw4 bs n).take j) y rfl rfl HO.out HB.out ?hb ?hl ?_; (case hb => exact HB.out.size); (case hl => omega); intro v1 w1 ho hb hg; have HO1 := Aside0.mk ho; have HB1 := Aside0.mk hb; have HG1 := Aside0.mk hg; clear ho hb hg))
      go_roundg (gk - 1)
      case measure => have := HK.out; omega
      case rel =>
        refine ⟨j + 1, by omega, by go_num, ⟨?_⟩, HB1, ⟨by have := HK.out; omega⟩⟩
        · have h2 : j < (sw4 bs n).length := by rw [sw4_length]; exact cj
          rw [List.take_succ_eq_append_getElem h2, ← rd_nat _ _ h2, HY.out]
          exact HO1.out
    · obtain rfl : j = n := by omega
      have cjb : decide ((j : Int) < j) = false := decide_eq_false (by omega)
      have HT : Aside0 ((sw4 bs j).take j = sw4 bs j) := ⟨List.take_of_length_le (by rw [sw4_length]; exact Nat.le_refl _)⟩
      go_wp2_with (first | go_quiet (fail))
      go_ret2
      have hb := HB2.out.trans ((HB.out.trans ((drewN_below _ nq).mono HB.out.size)).mono HB2.out.size)
      exact ⟨_, rfl, by have := Own.lower (HO.out.drewN nq) HB2.out.size; rw [HT.out] at this; exact this, hb⟩
end Go.Proofs.Ytkefklemcoehmaa.Sim
