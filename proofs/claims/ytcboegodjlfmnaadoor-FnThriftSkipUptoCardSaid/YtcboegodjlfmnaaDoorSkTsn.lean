import Derived.Test.YtcboegodjlfmnaaDoorSkTsk
namespace Go.Proofs.YtcboegodjlfmnaaDoor.Tsn
open Go.Proofs.YtcboegodjlfmnaaDoor.Tsk Go.Proofs.YtcboegodjlfmnaaDoor.Tzz Go.Proofs.YtcboegodjlfmnaaDoor.Tzv Go.Proofs.YtcboegodjlfmnaaDoor.Tzq Go.Proofs.YtcboegodjlfmnaaDoor.Tzm Go.Proofs.YtcboegodjlfmnaaDoor.Tzl Go.Proofs.YtcboegodjlfmnaaDoor.Trh Go.Proofs.YtcboegodjlfmnaaDoor.Trn Go.Proofs.YtcboegodjlfmnaaDoor.Trm Go.Proofs.YtcboegodjlfmnaaDoor.Tuv Go.Proofs.YtcboegodjlfmnaaDoor.Tpa Go.Proofs.YtcboegodjlfmnaaDoor.Duv Go.Proofs.YtcboegodjlfmnaaDoor.Dpu Go.Proofs.YtcboegodjlfmnaaDoor.Pak Go.Proofs.YtcboegodjlfmnaaDoor.Buf Go.Proofs.YtcboegodjlfmnaaDoor.Fit Go.Proofs.YtcboegodjlfmnaaDoor.Bit Go.Proofs.YtcboegodjlfmnaaDoor.Wrd Go.Proofs.YtcboegodjlfmnaaDoor.Spl Go.Proofs.YtcboegodjlfmnaaDoor.Str Go.Proofs.YtcboegodjlfmnaaDoor.Flt Go.Proofs.YtcboegodjlfmnaaDoor.Owe Go.Proofs.YtcboegodjlfmnaaDoor.Num Go.Proofs.YtcboegodjlfmnaaDoor.Le Go.Proofs.YtcboegodjlfmnaaDoor.Lst Go.Proofs.YtcboegodjlfmnaaDoor.Aid Go.RowKit Go.Proofs.YtcboegodjlfmnaaDoorW.PrintWords Go.Proofs.YtcboegodjlfmnaaDoorW.PrintLast Go.Proofs.YtcboegodjlfmnaaDoorW.PrintMore
set_option linter.unusedVariables false
set_option linter.unusedSimpArgs false
theorem list_end {p : Int → Psr N} {ev od : Int} {m : Nat} {bs r : List Int} {X : F} (h : listP p ev od m bs = .ok X r) (hm : m = 0) : r = bs := by
  subst hm
  injection h with h1 h2
  exact h2.symm
theorem list_one {p : Int → Psr N} {ev od : Int} {m : Nat} {bs r : List Int} {X : F} (h : listP p ev od m bs = .ok X r) (hm : 0 < m) : ∃ x r1 tl, p ev bs = .ok x r1 ∧ listP p od ev (m - 1) r1 = .ok tl r := by
  obtain ⟨j, rfl⟩ : ∃ j, m = j + 1 := ⟨m - 1, by omega⟩
  obtain ⟨x, r1, h1, h2⟩ := bind_ok h
  obtain ⟨tl, r2, h3, h4⟩ := bind_ok h2
  injection h4 with h5 h6
  subst h6
  exact ⟨x, r1, tl, h1, h3⟩
theorem fields_one {p : Int → Psr N} {m : Nat} {last : Int} {bs r : List Int} {X : F} (h : fieldsP p m last bs = .ok X r) :
    (∃ ty, fhP last bs = .ok (0, ty) r) ∨ ∃ m' id ty r1 x r2 tl, m = m' + 1 ∧ id ≠ 0 ∧ fhP last bs = .ok (id, ty) r1 ∧ fvP p ty r1 = .ok x r2 ∧ fieldsP p m' id r2 = .ok tl r := by
  rcases fields_cases (p := p) (m := m) (last := last) (bs := bs) (by rw [h]; intro h; cases h) with ⟨_, h1⟩ | ⟨ty, r1, h1, h2⟩ | ⟨m', id, ty, r1, h1, h2, h3, ⟨_, h4⟩ | ⟨x, r2, h4, _, h5⟩⟩
  · rw [h] at h1; cases h1
  · rw [h] at h2
    injection h2 with h3 h4
    subst h4
    exact .inl ⟨ty, h1⟩
  · rw [h] at h4; cases h4
  · have h6 := h5 .nil
    rw [h] at h6
    obtain ⟨tl, h7, _⟩ := mapR_ok h6.symm
    exact .inr ⟨m', id, ty, r1, x, r2, tl, h1, h2, h3, h4, h7⟩
theorem fv_one {p : Int → Psr N} {ty : Int} {bs r : List Int} {x : N} (h : fvP p ty bs = .ok x r) (hn : ¬ (ty = 1 ∨ ty = 2)) : p ty bs = .ok x r ∧ 3 ≤ ty := by
  unfold fvP at h
  rw [if_neg hn] at h
  by_cases c : ty < 3 ∨ 12 < ty
  · rw [if_pos c] at h; cases h
  · rw [if_neg c] at h; exact ⟨h, by omega⟩
theorem fv_none {p : Int → Psr N} {ty : Int} {bs r : List Int} {x : N} (h : fvP p ty bs = .ok x r) (hn : ty = 1 ∨ ty = 2) : r = bs := by
  unfold fvP at h
  rw [if_pos hn] at h
  injection h with h1 h2
  exact h2.symm
theorem SkH.item {g : Nat} {p : Value} {A : Option Addr} {n c : Nat} {bs : List Int} {k : Nat} (h : SkH g p A n c bs k) {ty : Int} {o o' : Nat} {x : N} {r : List Int} {w : World} (hR : RdAt w g p A n c o) (hC : (Kd.int .u8).C w A n bs) (ho : o ≤ n) (hp : thP k ty (bs.drop o) = .ok x r) (hr : r = bs.drop o') (ho' : o' ≤ n) : Calls Tryd.prog 38 #[rdV g, .int .i8 ty] w fun e w' => SkR w w' g p A n c o' e :=
  skipItem_calls g ty w _ (ok_type hp) ((h.out ty o o' x r w hR hC ho hp hr ho').mono fun e w' q => ⟨q.end_, q⟩)
set_option maxHeartbeats 4000000 in
set_option maxRecDepth 100000 in
theorem readSet_ok (g : Nat) (p : Value) (A : Option Addr) (n c o : Nat) (bs r : List Int) (m : Nat) (el : Int) (w : World) (hR : RdAt w g p A n c o) (hC : (Kd.int .u8).C w A n bs) (hc : n ≤ c) (hn : n ≤ 2147483647) (ho : o ≤ n) (hb : bytesB bs = true)
    (h : lhP (bs.drop o) = .ok (m, el) r) :
    ∃ o', o < o' ∧ o' ≤ n ∧ r = bs.drop o' ∧ m ≤ 1000 ∧ 3 ≤ el ∧ el ≤ 12 ∧ Calls Tryd.prog 107 #[.pointer (some ⟨g, 0, none⟩)] w fun e w' => e = .returned (.tuple #[.agg #[.int .i32 m, .int .i8 el], .nilIface]) ∧ Went w w' g p A n c o' := by
  obtain ⟨o', d1, d2, d3, d4, d5, d6, _⟩ := readList_ok g p A n c o bs r m el w hR hC hc hn ho hb h
  refine ⟨o', d1, d2, d3, d4, d5, d6, ?_⟩
  have hgl := hR.lt
  have hw0 := allocSize w (.cells #[.int .i32 0, .int .i8 0] 173)
  have HL : Aside0 (Calls Tryd.prog 104 #[.pointer (some ⟨g, 0, none⟩)] (w.alloc (.cells #[.int .i32 0, .int .i8 0] 173)) fun e w' => e = .returned (.tuple #[.agg #[.int .i32 m, .int .i8 el], .nilIface]) ∧ Went (w.alloc (.cells #[.int .i32 0, .int .i8 0] 173)) w' g p A n c o') := ⟨by
    obtain ⟨o2, _, e2, e3, _, _, _, e7⟩ := readList_ok g p A n c o bs r m el (w.alloc (.cells #[.int .i32 0, .int .i8 0] 173)) (hR.alloc _) (Kd.C_alloc hC _) hc hn ho hb h
    obtain rfl := off_uniq e3 d3 (by have := hC.1; omega) (by have := hC.1; omega)
    exact e7⟩
  have HB0 := Aside0.mk (Blk.new w #[.int .i32 0, .int .i8 0] 173)
  have HGA := Aside0.mk (grownAlloc0 w g (.cells #[.int .i32 0, .int .i8 0] 173))
  clear hR hC h hb d1 d2 d3 d4 d5 d6
  go_enter Tryd.func107, Tryd.ntmps107
  go_upto_region 2 with (first
    | (go_at_call 104; (with_reducible refine HL.out.mono ?_); rintro e w2 ⟨rfl, HW⟩))
  have HB2 := Aside0.mk ((keepBlk HB0.out HW.grown (by omega)).alloc (.cells #[.int .i32 m, .int .i8 el] 123))
  have HX2 := Aside0.mk (Blk.new w2 #[.int .i32 m, .int .i8 el] 123)
  have HW2 : Aside0 (Went w (w2.alloc (.cells #[.int .i32 m, .int .i8 el] 123)) g p A n c o') := ⟨(HGA.out.trans HW.grown).trans (grownAlloc0 _ _ _), HW.rd.alloc _⟩
  have hs2 := HW.grown.size
  generalize hw3 : World.alloc w2 _ = w3 at HB2 HX2 HW2 ⊢
  clear hw3
  have a0 := HX2.out.cell (j := 0) rfl
  have a1 := HX2.out.cell (j := 1) rfl
  have b0 := HB2.out.cell (j := 0) rfl
  have b1 := HB2.out.cell (j := 1) rfl
  have bz := HB2.out.free
  have bz0 := bz 0
  have bz1 := bz 1
  obtain ⟨b2, hb2⟩ : ∃ b, w2.heap.size = b := ⟨_, rfl⟩
  have hne : b2 ≠ w.heap.size := by omega
  rw [hb2] at a0 a1 ⊢
  clear hb2 bz
  have HF : Aside0 (Went w ((w3.setCell ⟨w.heap.size, 0, none⟩ (.int .i32 m)).setCell ⟨w.heap.size, 1, none⟩ (.int .i8 el)) g p A n c o') := ⟨(HW2.out.setNew (Nat.le_refl _) (by omega) _).setNew (Nat.le_refl _) (by omega) _⟩
  have HBF := Aside0.mk ((HB2.out.set 0 (.int .i32 m)).set 1 (.int .i8 el))
  go_wp2_with (fail)
  refine bodyPost_ret (ret_cell_tmp rfl _ _ w.heap.size 173 #[_, _] (0, 0) _ rfl HBF.out.out Tryd.underlying173 rfl (by kernel_rfl)) rfl ?_
  exact ⟨rfl, HF.out⟩
set_option maxHeartbeats 4000000 in
set_option maxRecDepth 100000 in
theorem skipListItems_calls (g : Nat) (p : Value) (A : Option Addr) (n c o o' : Nat) (bs : List Int) (k m : Nat) (el : Int) (hk : SkH g p A n c bs k) (hm : m ≤ 1000) (X : F) (r : List Int) (w : World) (hR : RdAt w g p A n c o) (hC : (Kd.int .u8).C w A n bs) (ho : o ≤ n)
    (h : listP (thP k) el el (m) (bs.drop o) = .ok X r) (hr : r = bs.drop o') (ho' : o' ≤ n) : Calls Tryd.prog 60 #[rdV g, .agg #[.int .i32 m, .int .i8 el]] w fun e w' => SkR w w' g p A n c o' e := by
  have HR := Aside0.mk hR
  have HC := Aside0.mk hC
  have HK0 := Aside0.mk hk
  have HH := Aside0.mk h
  have HRR := Aside0.mk hr
  have hgl := hR.lt
  have HLN : Aside0 (bs.length = n) := ⟨hC.1⟩
  have qm : IntKind.i64.wrap (m : Int) = m := IntWalk.i64_in _ (by omega)
  clear hR hC hk h hr
  go_enter Tryd.func60, Tryd.ntmps60
  have HBN := Aside0.mk (Blk.new w #[.int .i32 m, .int .i8 el] 123)
  have c0 := HBN.out.cell (j := 0) rfl
  go_wp2_with (fail)
  clear c0
  go_loopg [5, 6, 10] m (fun kq v5 v6 v10 w' => ∃ (i oi : Nat) (Xi : F), i ≤ m ∧ v10 = .int .i64 i ∧ Aside0 (oi ≤ n) ∧ Aside0 (listP (thP k) el el (m - i) (bs.drop oi) = .ok Xi r) ∧ Aside0 (Went w w' g p A n c oi) ∧ Aside0 (Blk w' w.heap.size #[.int .i32 m, .int .i8 el] 123) ∧ Aside0 (m - i ≤ kq))
  case atStart => exact ⟨0, o, X, Nat.zero_le _, rfl, ⟨ho⟩, HH, ⟨grownAlloc0 _ _ _, HR.out.alloc _⟩, HBN, ⟨by omega⟩⟩
  case round =>
    obtain ⟨i, oi, Xi, hi, rfl, HOI, HLI, HW, HB, HK⟩ := hrel
    have b1 := HB.out.cell (j := 1) rfl
    by_cases ci : i < m
    · have q1 : decide ((i : Int) < (m : Int)) = true := decide_eq_true (by omega)
      have q11 : decide (i < m) = true := decide_eq_true ci
      obtain ⟨x, r1, tl, hx, htl⟩ := list_one HLI.out (by omega)
      obtain ⟨o1, e1, e2, e3⟩ := good_off (good_th k el) hx (by have := HOI.out; have := HLN.out; omega)
      have HIT := Aside0.mk (SkH.item HK0.out HW.out.rd (wentC (o := oi) HC.out HW.out) HOI.out hx e3 (by have := HLN.out; omega))
      rw [e3] at htl
      have HNX : Aside0 (listP (thP k) el el (m - (i + 1)) (bs.drop o1) = .ok tl r) := ⟨by rw [show m - (i + 1) = m - i - 1 by omega]; exact htl⟩
      have HO2 : Aside0 (o1 ≤ n) := ⟨by have := HLN.out; omega⟩
      have HCI := Aside0.mk ci
      clear hx htl e3 ci e1 e2
      go_wp2_with (first
        | (go_at_call 38; (with_reducible refine HIT.out.mono ?_); rintro e w2 HQ; obtain rfl := HQ.end_; have HW2 := Aside0.mk (HW.out.trans HQ.went); have HB2 := Aside0.mk (keepBlk HB.out HQ.went.grown (by omega)); clear HQ))
      go_roundg (gk - 1)
      all_goals first
        | (have := HK.out; have := HCI.out; omega)
        | (exact ⟨i + 1, o1, tl, HCI.out, by go_num, HO2, HNX, HW2, HB2, ⟨by have := HK.out; omega⟩⟩)
    · have q1 : decide ((i : Int) < (m : Int)) = false := decide_eq_false (by omega)
      have q11 : decide (i < m) = false := decide_eq_false ci
      have hend := list_end HLI.out (by omega)
      obtain rfl := off_uniq hend HRR.out (by have := HOI.out; have := HLN.out; omega) (by have := HLN.out; omega)
      clear ci hend
      go_wp2_with (fail)
      go_ret
      exact ⟨rfl, HW.out⟩
set_option maxHeartbeats 4000000 in
set_option maxRecDepth 100000 in
theorem skipList_calls (g : Nat) (p : Value) (A : Option Addr) (n c o o' : Nat) (bs : List Int) (k m : Nat) (el : Int) (hk : SkH g p A n c bs k) (X : F) (r r1 : List Int) (w : World) (hR : RdAt w g p A n c o) (hC : (Kd.int .u8).C w A n bs) (hc : n ≤ c) (hn : n ≤ 2147483647) (ho : o ≤ n) (hb : bytesB bs = true)
    (hh : lhP (bs.drop o) = .ok (m, el) r1) (h : listP (thP k) el el m r1 = .ok X r) (hr : r = bs.drop o') (ho' : o' ≤ n) : Calls Tryd.prog 47 #[rdV g] w fun e w' => SkR w w' g p A n c o' e := by
  obtain ⟨oo, d1, d2, d3, d4, d5, d6, d7⟩ := readList_ok g p A n c o bs r1 m el w hR hC hc hn ho hb hh
  subst d3
  have HM := Aside0.mk d7
  have HC := Aside0.mk hC
  have HIT := Aside0.mk fun (W : World) (hW : RdAt W g p A n c oo) (hCW : (Kd.int .u8).C W A n bs) => skipListItems_calls g p A n c oo o' bs k m el hk (by omega) X r W hW hCW d2 h hr ho'
  have hm := m_ReadList
  clear hR hC hk hh h hr hb d7
  go_enter Tryd.func47, Tryd.ntmps47
  go_wp2_with (first
    | (go_at_call 104; (with_reducible refine HM.out.mono ?_); rintro e w2 ⟨rfl, HW⟩; have HX2 := Aside0.mk (Blk.new w2 #[.int .i32 m, .int .i8 el] 123); have x0 := HX2.out.cell (j := 0) rfl; have x1 := HX2.out.cell (j := 1) rfl; have HI := Aside0.mk (HIT.out (w2.alloc (.cells #[.int .i32 m, .int .i8 el] 123)) (HW.rd.alloc _) (Kd.C_alloc (wentC HC.out HW) _)))
    | (go_at_call 60; (with_reducible refine HI.out.mono ?_); rintro e w3 HQ; obtain rfl := HQ.end_; have HW3 := Aside0.mk HQ.went; clear HQ))
  go_ret
  exact ⟨rfl, (HW.grown.trans (grownAlloc0 _ _ _)).trans HW3.out.grown, HW3.out.rd⟩
set_option maxHeartbeats 4000000 in
set_option maxRecDepth 100000 in
theorem skipSetItems_calls (g : Nat) (p : Value) (A : Option Addr) (n c o o' : Nat) (bs : List Int) (k m : Nat) (el : Int) (hk : SkH g p A n c bs k) (hm : m ≤ 1000) (X : F) (r : List Int) (w : World) (hR : RdAt w g p A n c o) (hC : (Kd.int .u8).C w A n bs) (ho : o ≤ n)
    (h : listP (thP k) el el (m) (bs.drop o) = .ok X r) (hr : r = bs.drop o') (ho' : o' ≤ n) : Calls Tryd.prog 61 #[rdV g, .agg #[.int .i32 m, .int .i8 el]] w fun e w' => SkR w w' g p A n c o' e := by
  have HR := Aside0.mk hR
  have HC := Aside0.mk hC
  have HK0 := Aside0.mk hk
  have HH := Aside0.mk h
  have HRR := Aside0.mk hr
  have hgl := hR.lt
  have HLN : Aside0 (bs.length = n) := ⟨hC.1⟩
  have qm : IntKind.i64.wrap (m : Int) = m := IntWalk.i64_in _ (by omega)
  clear hR hC hk h hr
  go_enter Tryd.func61, Tryd.ntmps61
  have HBN := Aside0.mk (Blk.new w #[.int .i32 m, .int .i8 el] 173)
  have c0 := HBN.out.cell (j := 0) rfl
  go_wp2_with (fail)
  clear c0
  go_loopg [5, 6, 10] m (fun kq v5 v6 v10 w' => ∃ (i oi : Nat) (Xi : F), i ≤ m ∧ v10 = .int .i64 i ∧ Aside0 (oi ≤ n) ∧ Aside0 (listP (thP k) el el (m - i) (bs.drop oi) = .ok Xi r) ∧ Aside0 (Went w w' g p A n c oi) ∧ Aside0 (Blk w' w.heap.size #[.int .i32 m, .int .i8 el] 173) ∧ Aside0 (m - i ≤ kq))
  case atStart => exact ⟨0, o, X, Nat.zero_le _, rfl, ⟨ho⟩, HH, ⟨grownAlloc0 _ _ _, HR.out.alloc _⟩, HBN, ⟨by omega⟩⟩
  case round =>
    obtain ⟨i, oi, Xi, hi, rfl, HOI, HLI, HW, HB, HK⟩ := hrel
    have b1 := HB.out.cell (j := 1) rfl
    by_cases ci : i < m
    · have q1 : decide ((i : Int) < (m : Int)) = true := decide_eq_true (by omega)
      have q11 : decide (i < m) = true := decide_eq_true ci
      obtain ⟨x, r1, tl, hx, htl⟩ := list_one HLI.out (by omega)
      obtain ⟨o1, e1, e2, e3⟩ := good_off (good_th k el) hx (by have := HOI.out; have := HLN.out; omega)
      have HIT := Aside0.mk (SkH.item HK0.out HW.out.rd (wentC (o := oi) HC.out HW.out) HOI.out hx e3 (by have := HLN.out; omega))
      rw [e3] at htl
      have HNX : Aside0 (listP (thP k) el el (m - (i + 1)) (bs.drop o1) = .ok tl r) := ⟨by rw [show m - (i + 1) = m - i - 1 by omega]; exact htl⟩
      have HO2 : Aside0 (o1 ≤ n) := ⟨by have := HLN.out; omega⟩
      have HCI := Aside0.mk ci
      clear hx htl e3 ci e1 e2
      go_wp2_with (first
        | (go_at_call 38; (with_reducible refine HIT.out.mono ?_); rintro e w2 HQ; obtain rfl := HQ.end_; have HW2 := Aside0.mk (HW.out.trans HQ.went); have HB2 := Aside0.mk (keepBlk HB.out HQ.went.grown (by omega)); clear HQ))
      go_roundg (gk - 1)
      all_goals first
        | (have := HK.out; have := HCI.out; omega)
        | (exact ⟨i + 1, o1, tl, HCI.out, by go_num, HO2, HNX, HW2, HB2, ⟨by have := HK.out; omega⟩⟩)
    · have q1 : decide ((i : Int) < (m : Int)) = false := decide_eq_false (by omega)
      have q11 : decide (i < m) = false := decide_eq_false ci
      have hend := list_end HLI.out (by omega)
      obtain rfl := off_uniq hend HRR.out (by have := HOI.out; have := HLN.out; omega) (by have := HLN.out; omega)
      clear ci hend
      go_wp2_with (fail)
      go_ret
      exact ⟨rfl, HW.out⟩
set_option maxHeartbeats 4000000 in
set_option maxRecDepth 100000 in
theorem skipSet_calls (g : Nat) (p : Value) (A : Option Addr) (n c o o' : Nat) (bs : List Int) (k m : Nat) (el : Int) (hk : SkH g p A n c bs k) (X : F) (r r1 : List Int) (w : World) (hR : RdAt w g p A n c o) (hC : (Kd.int .u8).C w A n bs) (hc : n ≤ c) (hn : n ≤ 2147483647) (ho : o ≤ n) (hb : bytesB bs = true)
    (hh : lhP (bs.drop o) = .ok (m, el) r1) (h : listP (thP k) el el m r1 = .ok X r) (hr : r = bs.drop o') (ho' : o' ≤ n) : Calls Tryd.prog 48 #[rdV g] w fun e w' => SkR w w' g p A n c o' e := by
  obtain ⟨oo, d1, d2, d3, d4, d5, d6, d7⟩ := readSet_ok g p A n c o bs r1 m el w hR hC hc hn ho hb hh
  subst d3
  have HM := Aside0.mk d7
  have HC := Aside0.mk hC
  have HIT := Aside0.mk fun (W : World) (hW : RdAt W g p A n c oo) (hCW : (Kd.int .u8).C W A n bs) => skipSetItems_calls g p A n c oo o' bs k m el hk (by omega) X r W hW hCW d2 h hr ho'
  have hm := m_ReadSet
  clear hR hC hk hh h hr hb d7
  go_enter Tryd.func48, Tryd.ntmps48
  go_wp2_with (first
    | (go_at_call 107; (with_reducible refine HM.out.mono ?_); rintro e w2 ⟨rfl, HW⟩; have HX2 := Aside0.mk (Blk.new w2 #[.int .i32 m, .int .i8 el] 173); have x0 := HX2.out.cell (j := 0) rfl; have x1 := HX2.out.cell (j := 1) rfl; have HI := Aside0.mk (HIT.out (w2.alloc (.cells #[.int .i32 m, .int .i8 el] 173)) (HW.rd.alloc _) (Kd.C_alloc (wentC HC.out HW) _)))
    | (go_at_call 61; (with_reducible refine HI.out.mono ?_); rintro e w3 HQ; obtain rfl := HQ.end_; have HW3 := Aside0.mk HQ.went; clear HQ))
  go_ret
  exact ⟨rfl, (HW.grown.trans (grownAlloc0 _ _ _)).trans HW3.out.grown, HW3.out.rd⟩
set_option maxHeartbeats 4000000 in
set_option maxRecDepth 100000 in
theorem skipMapItems_calls (g : Nat) (p : Value) (A : Option Addr) (n c o o' : Nat) (bs : List Int) (k m : Nat) (ky el : Int) (hk : SkH g p A n c bs k) (hm : m ≤ 1000) (X : F) (r : List Int) (w : World) (hR : RdAt w g p A n c o) (hC : (Kd.int .u8).C w A n bs) (ho : o ≤ n)
    (h : listP (thP k) ky el (2 * (m)) (bs.drop o) = .ok X r) (hr : r = bs.drop o') (ho' : o' ≤ n) : Calls Tryd.prog 62 #[rdV g, .agg #[.int .i32 m, .int .i8 ky, .int .i8 el]] w fun e w' => SkR w w' g p A n c o' e := by
  have HR := Aside0.mk hR
  have HC := Aside0.mk hC
  have HK0 := Aside0.mk hk
  have HH := Aside0.mk h
  have HRR := Aside0.mk hr
  have hgl := hR.lt
  have HLN : Aside0 (bs.length = n) := ⟨hC.1⟩
  have qm : IntKind.i64.wrap (m : Int) = m := IntWalk.i64_in _ (by omega)
  clear hR hC hk h hr
  go_enter Tryd.func62, Tryd.ntmps62
  have HBN := Aside0.mk (Blk.new w #[.int .i32 m, .int .i8 ky, .int .i8 el] 127)
  have c0 := HBN.out.cell (j := 0) rfl
  go_wp2_with (fail)
  clear c0
  go_loopg [5, 6, 7, 11] m (fun kq v5 v6 v7 v11 w' => ∃ (i oi : Nat) (Xi : F), i ≤ m ∧ v11 = .int .i64 i ∧ Aside0 (oi ≤ n) ∧ Aside0 (listP (thP k) ky el (2 * (m - i)) (bs.drop oi) = .ok Xi r) ∧ Aside0 (Went w w' g p A n c oi) ∧ Aside0 (Blk w' w.heap.size #[.int .i32 m, .int .i8 ky, .int .i8 el] 127) ∧ Aside0 (m - i ≤ kq))
  case atStart => exact ⟨0, o, X, Nat.zero_le _, rfl, ⟨ho⟩, HH, ⟨grownAlloc0 _ _ _, HR.out.alloc _⟩, HBN, ⟨by omega⟩⟩
  case round =>
    obtain ⟨i, oi, Xi, hi, rfl, HOI, HLI, HW, HB, HK⟩ := hrel
    have b1 := HB.out.cell (j := 1) rfl
    have b2 := HB.out.cell (j := 2) rfl
    by_cases ci : i < m
    · have q1 : decide ((i : Int) < (m : Int)) = true := decide_eq_true (by omega)
      have q11 : decide (i < m) = true := decide_eq_true ci
      obtain ⟨x, r1, tl, hx, htl⟩ := list_one HLI.out (by omega)
      obtain ⟨o1, e1, e2, e3⟩ := good_off (good_th k ky) hx (by have := HOI.out; have := HLN.out; omega)
      have HIT := Aside0.mk (SkH.item HK0.out HW.out.rd (wentC (o := oi) HC.out HW.out) HOI.out hx e3 (by have := HLN.out; omega))
      rw [e3] at htl
      obtain ⟨x2, r2, tl2, hx2, htl2⟩ := list_one htl (by omega)
      obtain ⟨o2, f1, f2, f3⟩ := good_off (good_th k el) hx2 (by omega)
      rw [f3] at htl2
      have HIT2 := Aside0.mk fun (W : World) (hW : Went w W g p A n c o1) => SkH.item HK0.out hW.rd (wentC (o := o1) HC.out hW) (by have := HLN.out; omega) hx2 f3 (by have := HLN.out; omega)
      have HNX : Aside0 (listP (thP k) ky el (2 * (m - (i + 1))) (bs.drop o2) = .ok tl2 r) := ⟨by rw [show 2 * (m - (i + 1)) = 2 * (m - i) - 1 - 1 by omega]; exact htl2⟩
      have HO2 : Aside0 (o2 ≤ n) := ⟨by have := HLN.out; omega⟩
      have HCI := Aside0.mk ci
      clear hx htl hx2 htl2 e3 f3 ci e1 e2 f1 f2
      go_wp2_with (first
        | (go_at_call 38; (with_reducible refine HIT.out.mono ?_); rintro e w2 HQ; obtain rfl := HQ.end_; have HW2 := Aside0.mk (HW.out.trans HQ.went); have HB2 := Aside0.mk (keepBlk HB.out HQ.went.grown (by omega)); have b22 := HB2.out.cell (j := 2) rfl; have HIT3 := Aside0.mk (HIT2.out w2 HW2.out); clear HQ HIT)
        | (go_at_call 38; (with_reducible refine HIT3.out.mono ?_); rintro e w3 HQ; obtain rfl := HQ.end_; have HW3 := Aside0.mk (HW2.out.trans HQ.went); have HB3 := Aside0.mk (keepBlk HB2.out HQ.went.grown (by omega)); clear HQ))
      go_roundg (gk - 1)
      all_goals first
        | (have := HK.out; have := HCI.out; omega)
        | (exact ⟨i + 1, o2, tl2, HCI.out, by go_num, HO2, HNX, HW3, HB3, ⟨by have := HK.out; omega⟩⟩)
    · have q1 : decide ((i : Int) < (m : Int)) = false := decide_eq_false (by omega)
      have q11 : decide (i < m) = false := decide_eq_false ci
      have hend := list_end HLI.out (by omega)
      obtain rfl := off_uniq hend HRR.out (by have := HOI.out; have := HLN.out; omega) (by have := HLN.out; omega)
      clear ci hend
      go_wp2_with (fail)
      go_ret
      exact ⟨rfl, HW.out⟩
set_option maxHeartbeats 4000000 in
set_option maxRecDepth 100000 in
theorem skipMap_calls (g : Nat) (p : Value) (A : Option Addr) (n c o o' : Nat) (bs : List Int) (k m : Nat) (ky el : Int) (hk : SkH g p A n c bs k) (X : F) (r r1 : List Int) (w : World) (hR : RdAt w g p A n c o) (hC : (Kd.int .u8).C w A n bs) (hc : n ≤ c) (hn : n ≤ 2147483647) (ho : o ≤ n) (hb : bytesB bs = true)
    (hh : mhP (bs.drop o) = .ok (m, ky, el) r1) (h : listP (thP k) ky el (2 * m) r1 = .ok X r) (hr : r = bs.drop o') (ho' : o' ≤ n) : Calls Tryd.prog 49 #[rdV g] w fun e w' => SkR w w' g p A n c o' e := by
  obtain ⟨oo, d1, d2, d3, d4, d5, d6, d7⟩ := readMap_ok g p A n c o bs r1 m ky el w hR hC hc hn ho hb hh
  subst d3
  have HM := Aside0.mk d7
  have HC := Aside0.mk hC
  have HIT := Aside0.mk fun (W : World) (hW : RdAt W g p A n c oo) (hCW : (Kd.int .u8).C W A n bs) => skipMapItems_calls g p A n c oo o' bs k m ky el hk (by omega) X r W hW hCW d2 h hr ho'
  have hm := m_ReadMap
  clear hR hC hk hh h hr hb d7
  go_enter Tryd.func49, Tryd.ntmps49
  go_wp2_with (first
    | (go_at_call 105; (with_reducible refine HM.out.mono ?_); rintro e w2 ⟨rfl, HW⟩; have HX2 := Aside0.mk (Blk.new w2 #[.int .i32 m, .int .i8 ky, .int .i8 el] 127); have x0 := HX2.out.cell (j := 0) rfl; have x1 := HX2.out.cell (j := 1) rfl; have x2 := HX2.out.cell (j := 2) rfl; have HI := Aside0.mk (HIT.out (w2.alloc (.cells #[.int .i32 m, .int .i8 ky, .int .i8 el] 127)) (HW.rd.alloc _) (Kd.C_alloc (wentC HC.out HW) _)))
    | (go_at_call 62; (with_reducible refine HI.out.mono ?_); rintro e w3 HQ; obtain rfl := HQ.end_; have HW3 := Aside0.mk HQ.went; clear HQ))
  go_ret
  exact ⟨rfl, (HW.grown.trans (grownAlloc0 _ _ _)).trans HW3.out.grown, HW3.out.rd⟩
set_option maxHeartbeats 4000000 in
set_option maxRecDepth 100000 in
theorem skip_9 (g : Nat) (p : Value) (A : Option Addr) (n c o o' : Nat) (bs : List Int) (k : Nat) (x : N) (r : List Int) (w : World) (hR : RdAt w g p A n c o) (hC : (Kd.int .u8).C w A n bs) (hc : n ≤ c) (hn : n ≤ 2147483647) (ho : o ≤ n) (hb : bytesB bs = true) (hk : SkH g p A n c bs k)
    (h : thP (k + 1) 9 (bs.drop o) = .ok x r) (hr : r = bs.drop o') (ho' : o' ≤ n) : Calls Tryd.prog 37 #[rdV g, .int .i8 9] w fun e w' => SkR w w' g p A n c o' e := by
  rw [th_list (by omega)] at h
  obtain ⟨⟨m, el⟩, r1, h1, h2⟩ := bind_ok h
  obtain ⟨X, r2, h3, h4⟩ := bind_ok h2
  injection h4 with h5 h6
  subst h6
  have HS := Aside0.mk (skipList_calls g p A n c o o' bs k m el hk X r2 r1 w hR hC hc hn ho hb h1 h3 hr ho')
  clear h1 h2 h3 hr
  clear hR hC hb hk h
  go_enter Tryd.func37, Tryd.ntmps37
  go_wp2_with (first
    | (go_at_call 47; (with_reducible refine HS.out.mono ?_); rintro e w1 HQ; obtain rfl := HQ.end_; have HW := Aside0.mk HQ.went; clear HQ))
  go_ret
  exact ⟨rfl, HW.out⟩
set_option maxHeartbeats 4000000 in
set_option maxRecDepth 100000 in
theorem skip_10 (g : Nat) (p : Value) (A : Option Addr) (n c o o' : Nat) (bs : List Int) (k : Nat) (x : N) (r : List Int) (w : World) (hR : RdAt w g p A n c o) (hC : (Kd.int .u8).C w A n bs) (hc : n ≤ c) (hn : n ≤ 2147483647) (ho : o ≤ n) (hb : bytesB bs = true) (hk : SkH g p A n c bs k)
    (h : thP (k + 1) 10 (bs.drop o) = .ok x r) (hr : r = bs.drop o') (ho' : o' ≤ n) : Calls Tryd.prog 37 #[rdV g, .int .i8 10] w fun e w' => SkR w w' g p A n c o' e := by
  rw [th_list (by omega)] at h
  obtain ⟨⟨m, el⟩, r1, h1, h2⟩ := bind_ok h
  obtain ⟨X, r2, h3, h4⟩ := bind_ok h2
  injection h4 with h5 h6
  subst h6
  have HS := Aside0.mk (skipSet_calls g p A n c o o' bs k m el hk X r2 r1 w hR hC hc hn ho hb h1 h3 hr ho')
  clear h1 h2 h3 hr
  clear hR hC hb hk h
  go_enter Tryd.func37, Tryd.ntmps37
  go_wp2_with (first
    | (go_at_call 48; (with_reducible refine HS.out.mono ?_); rintro e w1 HQ; obtain rfl := HQ.end_; have HW := Aside0.mk HQ.went; clear HQ))
  go_ret
  exact ⟨rfl, HW.out⟩
set_option maxHeartbeats 4000000 in
set_option maxRecDepth 100000 in
theorem skip_11 (g : Nat) (p : Value) (A : Option Addr) (n c o o' : Nat) (bs : List Int) (k : Nat) (x : N) (r : List Int) (w : World) (hR : RdAt w g p A n c o) (hC : (Kd.int .u8).C w A n bs) (hc : n ≤ c) (hn : n ≤ 2147483647) (ho : o ≤ n) (hb : bytesB bs = true) (hk : SkH g p A n c bs k)
    (h : thP (k + 1) 11 (bs.drop o) = .ok x r) (hr : r = bs.drop o') (ho' : o' ≤ n) : Calls Tryd.prog 37 #[rdV g, .int .i8 11] w fun e w' => SkR w w' g p A n c o' e := by
  rw [th_map] at h
  obtain ⟨⟨m, ky, el⟩, r1, h1, h2⟩ := bind_ok h
  obtain ⟨X, r2, h3, h4⟩ := bind_ok h2
  injection h4 with h5 h6
  subst h6
  have HS := Aside0.mk (skipMap_calls g p A n c o o' bs k m ky el hk X r2 r1 w hR hC hc hn ho hb h1 h3 hr ho')
  clear h1 h2 h3 hr
  clear hR hC hb hk h
  go_enter Tryd.func37, Tryd.ntmps37
  go_wp2_with (first
    | (go_at_call 49; (with_reducible refine HS.out.mono ?_); rintro e w1 HQ; obtain rfl := HQ.end_; have HW := Aside0.mk HQ.went; clear HQ))
  go_ret
  exact ⟨rfl, HW.out⟩
set_option maxHeartbeats 8000000 in
set_option maxRecDepth 100000 in
theorem skipStruct_calls (g : Nat) (pv A : Option Addr) (n c o o' : Nat) (bs : List Int) (k : Nat) (hk : SkH g (.pointer pv) A n c bs k) (X : F) (r : List Int) (w : World) (hR : RdAt w g (.pointer pv) A n c o) (hC : (Kd.int .u8).C w A n bs) (hc : n ≤ c) (hn : n ≤ 2147483647) (ho : o ≤ n) (hb : bytesB bs = true)
    (h : fieldsP (thP k) 100 0 (bs.drop o) = .ok X r) (hr : r = bs.drop o') (ho' : o' ≤ n) : Calls Tryd.prog 50 #[rdV g] w fun e w' => SkR w w' g (.pointer pv) A n c o' e := by
  have HR := Aside0.mk hR
  have HC := Aside0.mk hC
  have HK0 := Aside0.mk hk
  have HH := Aside0.mk h
  have HRR := Aside0.mk hr
  have HBB := Aside0.mk hb
  have HGL := Aside0.mk hR.lt
  have hln : bs.length = n := hC.1
  have HLN := Aside0.mk hln
  have hm := m_ReadField
  clear hR hC hk h hr hb hln
  go_enter Tryd.func50, Tryd.ntmps50
  go_wp2_with (fail)
  go_loopg [2, 3, 4, 5, 6, 7] 101 (fun kq v2 v3 v4 v5 v6 v7 w' => ∃ (t oi room : Nat) (last : Int) (Xi : F), t + room = 100 ∧ v3 = .int .i16 last ∧ v4 = .int .i64 t ∧ Aside0 (0 ≤ last ∧ last ≤ 32767) ∧ Aside0 (oi ≤ n) ∧ Aside0 (fieldsP (thP k) room last (bs.drop oi) = .ok Xi r) ∧ Aside0 (Went w w' g (.pointer pv) A n c oi) ∧ Aside0 (101 - t ≤ kq))
  case atStart => exact ⟨0, o, 100, 0, X, rfl, rfl, rfl, ⟨by omega⟩, ⟨ho⟩, HH, ⟨grownRefl _ _, HR.out⟩, ⟨by omega⟩⟩
  case round =>
    obtain ⟨t, oi, room, last, Xi, htr, rfl, rfl, HLA, HOI, HFI, HW, HK⟩ := hrel
    have hla := HLA.out
    rcases fields_one HFI.out with ⟨ty, h1⟩ | ⟨m', id, ty, r1, x, r2, tl, hm1, hid, h1, h2, h3⟩
    · obtain ⟨k1, k2, hM⟩ := Tzs.readField_end g (.pointer pv) A n c oi bs r last ty HLN.out hc hn HOI.out HBB.out hla.1 h1
      have HM := Aside0.mk (hM wr HW.out.rd (wentC HC.out HW.out))
      obtain rfl := off_uniq k2 HRR.out (by have := HLN.out; omega) (by have := HLN.out; omega)
      clear h1 hM k1 k2 hla
      go_wp2_with (first
        | (go_at_call 97; (with_reducible refine HM.out.mono ?_); rintro e w2 ⟨rfl, HW2⟩; have HF2 := Aside0.mk (Blk.new w2 #[.int .i16 0, .int .i8 0, .bool false] 132); have f1 := HF2.out.cell (j := 1) rfl))
      go_ret
      exact ⟨rfl, ((HW.out.grown.trans HW2.grown).trans (grownAlloc0 _ _ _)), HW2.rd.alloc _⟩
    · obtain ⟨o2, a, dl, k1, k2, k3, k4, k5, k6, k7, k8, k9, hM⟩ := Tzs.readField_ok g (.pointer pv) A n c oi bs r1 last id ty HLN.out hc hn HOI.out HBB.out hla.1 h1 hid
      subst k3
      have HM := Aside0.mk (hM wr HW.out.rd (wentC HC.out HW.out))
      have q0 : (ty == 0) = false := by
        rw [beq_eq_false_iff_ne]
        intro e
        by_cases c12 : ty = 1 ∨ ty = 2
        · omega
        · have := (fv_one h2 c12).2; omega
      -- the field's value
      obtain ⟨o3, HO3, HS⟩ : ∃ o3, (o3 ≤ n ∧ r2 = bs.drop o3) ∧ Aside0 (∀ W : World, RdAt W g (.pointer pv) A n c o2 → (Kd.int .u8).C W A n bs → Calls Tryd.prog 37 #[rdV g, .int .i8 ty] W fun e w' => SkR W w' g (.pointer pv) A n c o3 e) := by
        by_cases c12 : ty = 1 ∨ ty = 2
        · exact ⟨o2, ⟨by omega, fv_none h2 c12⟩, ⟨fun W hW _ => skip_truth g pv A n c o2 ty W hW c12⟩⟩
        · obtain ⟨h4, h5⟩ := fv_one h2 c12
          obtain ⟨o3, e1, e2, e3⟩ := good_off (good_th k ty) h4 (by have := HLN.out; omega)
          exact ⟨o3, ⟨by have := HLN.out; omega, e3⟩, ⟨fun W hW hCW => HK0.out.out ty o2 o3 x r2 W hW hCW k2 h4 e3 (by have := HLN.out; omega)⟩⟩
      obtain ⟨ho3, hr2⟩ := HO3
      rw [hr2] at h3
      have HNX := Aside0.mk h3
      have HID : Aside0 (0 ≤ id ∧ id ≤ 32767) := ⟨by omega⟩
      have hrm : t < 100 := by omega
      have HMM : Aside0 ((t + 1) + m' = 100) := ⟨by omega⟩
      clear h1 h2 h3 hM hr2 hm1
      cases dl with
      | true =>
        have hid2 := k8 rfl
        have qw : IntKind.i16.wrap (a + last) = id := by rw [wrap_i16]; omega
        clear k8 k9 k1 k2 k4 k5 k6 k7 hid hid2 hla
        go_upto_region 13 with (first
          | (go_at_call 97; (with_reducible refine HM.out.mono ?_); rintro e w2 ⟨rfl, HW2⟩; have HF2 := Aside0.mk (Blk.new w2 #[.int .i16 a, .int .i8 ty, .bool true] 132); have f0 := HF2.out.cell (j := 0) rfl; have f1 := HF2.out.cell (j := 1) rfl; have f2 := HF2.out.cell (j := 2) rfl; have fz := HF2.out.free; have fz0 := fz 0; have fz2 := fz 2; clear fz; have HWA : Aside0 (Went w (w2.alloc (.cells #[.int .i16 a, .int .i8 ty, .bool true] 132)) g (.pointer pv) A n c o2) := ⟨((HW.out.grown.trans HW2.grown).trans (grownAlloc0 _ _ _)), HW2.rd.alloc _⟩; have HSZ : Aside0 (w.heap.size ≤ w2.heap.size) := ⟨by have := HW.out.grown.size; have := HW2.grown.size; omega⟩))
        have HF3 := Aside0.mk (Blk.new w2 #[.int .i16 id, .int .i8 ty, .bool false] 132)
        have HW3 : Aside0 (Went w (w2.alloc (.cells #[.int .i16 id, .int .i8 ty, .bool false] 132)) g (.pointer pv) A n c o2) := ⟨((HW.out.grown.trans HW2.grown).trans (grownAlloc0 _ _ _)), HW2.rd.alloc _⟩
        obtain ⟨w3, hw3⟩ : ∃ W3, w2.alloc (.cells #[.int .i16 id, .int .i8 ty, .bool false] 132) = W3 := ⟨_, rfl⟩
        rw [hw3] at HF3 HW3 ⊢
        clear hw3 f0 f1 f2 fz0 fz2
        have f1 := HF3.out.cell (j := 1) rfl
        have HCS := Aside0.mk (HS.out w3 HW3.out.rd (wentC HC.out HW3.out))
        go_wp2_with (first
          | (go_at_call 37; (with_reducible refine HCS.out.mono ?_); rintro e w4 HQ; obtain rfl := HQ.end_; have HW4 := Aside0.mk (HW3.out.trans HQ.went); have HF4 := Aside0.mk (keepBlk HF3.out HQ.went.grown (by have := HSZ.out; have := HGL.out; omega)); have f40 := HF4.out.cell (j := 0) rfl; clear HQ))
        go_roundg (gk - 1)
        all_goals first
          | (have := HK.out; omega)
          | (exact ⟨t + 1, o3, m', id, tl, HMM.out, rfl, by go_num, HID, ⟨ho3⟩, HNX, HW4, ⟨by have := HK.out; omega⟩⟩)
      | false =>
        obtain rfl : id = a := (k9 rfl).symm
        clear k8 k9 k1 k2 k4 k5 k6 k7 hid hla
        go_upto_region 13 with (first
          | (go_at_call 97; (with_reducible refine HM.out.mono ?_); rintro e w2 ⟨rfl, HW2⟩; have HF2 := Aside0.mk (Blk.new w2 #[.int .i16 id, .int .i8 ty, .bool false] 132); have f0 := HF2.out.cell (j := 0) rfl; have f1 := HF2.out.cell (j := 1) rfl; have f2 := HF2.out.cell (j := 2) rfl; have HWA : Aside0 (Went w (w2.alloc (.cells #[.int .i16 id, .int .i8 ty, .bool false] 132)) g (.pointer pv) A n c o2) := ⟨((HW.out.grown.trans HW2.grown).trans (grownAlloc0 _ _ _)), HW2.rd.alloc _⟩; have HSZ : Aside0 (w.heap.size ≤ w2.heap.size) := ⟨by have := HW.out.grown.size; have := HW2.grown.size; omega⟩))
        obtain ⟨w3, hw3⟩ : ∃ W3, w2.alloc (.cells #[.int .i16 id, .int .i8 ty, .bool false] 132) = W3 := ⟨_, rfl⟩
        rw [hw3] at HF2 HWA f0 f1 f2 ⊢
        clear hw3
        have HCS := Aside0.mk (HS.out w3 HWA.out.rd (wentC HC.out HWA.out))
        go_wp2_with (first
          | (go_at_call 37; (with_reducible refine HCS.out.mono ?_); rintro e w4 HQ; obtain rfl := HQ.end_; have HW4 := Aside0.mk (HWA.out.trans HQ.went); have HF4 := Aside0.mk (keepBlk HF2.out HQ.went.grown (by have := HSZ.out; have := HGL.out; omega)); have f40 := HF4.out.cell (j := 0) rfl; clear HQ))
        go_roundg (gk - 1)
        all_goals first
          | (have := HK.out; omega)
          | (exact ⟨t + 1, o3, m', id, tl, HMM.out, rfl, by go_num, HID, ⟨ho3⟩, HNX, HW4, ⟨by have := HK.out; omega⟩⟩)
set_option maxHeartbeats 4000000 in
set_option maxRecDepth 100000 in
theorem skip_12 (g : Nat) (p : Value) (A : Option Addr) (n c o o' : Nat) (bs : List Int) (k : Nat) (x : N) (r : List Int) (w : World) (hR : RdAt w g p A n c o) (hC : (Kd.int .u8).C w A n bs) (hc : n ≤ c) (hn : n ≤ 2147483647) (ho : o ≤ n) (hb : bytesB bs = true) (hk : SkH g p A n c bs k)
    (h : thP (k + 1) 12 (bs.drop o) = .ok x r) (hr : r = bs.drop o') (ho' : o' ≤ n) (pv : Option Addr) (hp : p = .pointer pv) : Calls Tryd.prog 37 #[rdV g, .int .i8 12] w fun e w' => SkR w w' g p A n c o' e := by
  subst hp
  rw [th_struct] at h
  obtain ⟨X, r1, h1, h2⟩ := bind_ok h
  injection h2 with h5 h6
  subst h6
  have HS := Aside0.mk (skipStruct_calls g pv A n c o o' bs k hk X r1 w hR hC hc hn ho hb h1 hr ho')
  clear h1 hr
  clear hR hC hb hk h
  go_enter Tryd.func37, Tryd.ntmps37
  go_wp2_with (first
    | (go_at_call 50; (with_reducible refine HS.out.mono ?_); rintro e w1 HQ; obtain rfl := HQ.end_; have HW := Aside0.mk HQ.went; clear HQ))
  go_ret
  exact ⟨rfl, HW.out⟩
theorem skh_all (g : Nat) (pv A : Option Addr) (n c : Nat) (bs : List Int) (hc : n ≤ c) (hn : n ≤ 2147483647) (hb : bytesB bs = true) : ∀ k, SkH g (.pointer pv) A n c bs k
  | 0 => ⟨fun ty o o' x r w hR hC ho h => nomatch h⟩
  | k + 1 => ⟨fun ty o o' x r w hR hC ho h hr ho' => by
    have ih := skh_all g pv A n c bs hc hn hb k
    have ht := ok_type h
    have : ty = 3 ∨ ty = 4 ∨ ty = 5 ∨ ty = 6 ∨ ty = 7 ∨ ty = 8 ∨ ty = 9 ∨ ty = 10 ∨ ty = 11 ∨ ty = 12 := by omega
    rcases this with rfl | rfl | rfl | rfl | rfl | rfl | rfl | rfl | rfl | rfl
    · exact Tsk.skip_3 g _ A n c o o' bs k x r w hR hC hc hn ho hb h hr ho'
    · exact Tsk.skip_4 g _ A n c o o' bs k x r w hR hC hc hn ho hb h hr ho'
    · exact Tsk.skip_5 g _ A n c o o' bs k x r w hR hC hc hn ho hb h hr ho'
    · exact Tsk.skip_6 g _ A n c o o' bs k x r w hR hC hc hn ho hb h hr ho'
    · exact Tsk.skip_7 g _ A n c o o' bs k x r w hR hC hc hn ho hb h hr ho'
    · exact Tsk.skip_8 g _ A n c o o' bs k x r w hR hC hc hn ho hb h hr ho'
    · exact skip_9 g _ A n c o o' bs k x r w hR hC hc hn ho hb ih h hr ho'
    · exact skip_10 g _ A n c o o' bs k x r w hR hC hc hn ho hb ih h hr ho'
    · exact skip_11 g _ A n c o o' bs k x r w hR hC hc hn ho hb ih h hr ho'
    · exact skip_12 g _ A n c o o' bs k x r w hR hC hc hn ho hb ih h hr ho' pv rfl⟩
set_option maxHeartbeats 4000000 in
set_option maxRecDepth 100000 in
theorem zzSkip_calls (A : Option Addr) (n c o' : Nat) (bs r : List Int) (ty : Int) (field : Bool) (x : N) (w : World) (hC : (Kd.int .u8).C w A n bs) (hA : ∀ a, A = some a → a.block < w.heap.size) (hc : n ≤ c) (hn : n ≤ 2147483647) (hb : bytesB bs = true) (h : thP 7 ty bs = .ok x r) (hr : r = bs.drop o') (ho' : o' ≤ n) :
    Calls Tryd.prog 29 #[.slice A n c, .int .i8 ty, .bool field] w fun e w' => e = .returned (.tuple #[.int .i64 (o' : Int), .nilIface]) ∧ Below w.heap.size w w' := by
  have hs1 := allocSize w (.cells #[] 79)
  have hb2 := Blk.new (w.alloc (.cells #[] 79)) #[.pointer (some ⟨w.heap.size, 0, none⟩), .slice A n c, .int .i64 0] 105
  rw [hs1] at hb2
  have hrd : RdAt ((w.alloc (.cells #[] 79)).alloc (.cells #[.pointer (some ⟨w.heap.size, 0, none⟩), .slice A n c, .int .i64 0] 105)) (w.heap.size + 1) (.pointer (some ⟨w.heap.size, 0, none⟩)) A n c 0 := ⟨hb2, fun a ha => by have := hA a ha; omega⟩
  have hsk := skh_all (w.heap.size + 1) (some ⟨w.heap.size, 0, none⟩) A n c bs hc hn hb 7
  have HK := Aside0.mk (hsk.out ty 0 o' x r _ hrd (Kd.C_alloc (Kd.C_alloc hC _) _) (Nat.zero_le _) (by rw [List.drop_zero]; exact h) hr ho')
  have HI := Aside0.mk (SkH.item hsk hrd (Kd.C_alloc (Kd.C_alloc hC _) _) (Nat.zero_le _) (by rw [List.drop_zero]; exact h) hr ho')
  have HBW : Aside0 (Below w.heap.size w ((w.alloc (.cells #[] 79)).alloc (.cells #[.pointer (some ⟨w.heap.size, 0, none⟩), .slice A n c, .int .i64 0] 105))) := ⟨((Below.refl _ _).alloc (Nat.le_refl _) _).alloc (by rw [hs1]; omega) _⟩
  obtain ⟨W, hW⟩ : ∃ W, ((w.alloc (.cells #[] 79)).alloc (.cells #[.pointer (some ⟨w.heap.size, 0, none⟩), .slice A n c, .int .i64 0] 105)) = W := ⟨_, rfl⟩
  rw [hW] at HK HI HBW
  have HW := Aside0.mk hW
  have hm := m_BytesRead
  clear hC hA hb h hr hs1 hb2 hrd hsk hW
  go_enter Tryd.func29, Tryd.ntmps29
  cases field with
  | true =>
    go_wp2_with (first
      | (go_at_call 34; (with_reducible refine (newReader_calls _ A n c _).mono ?_); rintro e w3 ⟨rfl, rfl⟩; rw [HW.out])
      | (go_at_call 37; (with_reducible refine HK.out.mono ?_); rintro e w4 HQ; obtain rfl := HQ.end_; have HQW := Aside0.mk HQ.went; clear HQ)
      | (go_at_call 92; (with_reducible refine (bytesRead_calls _ _ A n c o' _ HQW.out.rd).mono ?_); rintro e w6 ⟨rfl, rfl⟩))
    go_ret2
    exact ⟨rfl, HBW.out.trans (below_grown HQW.out.grown (by omega) HBW.out.size)⟩
  | false =>
    go_wp2_with (first
      | (go_at_call 34; (with_reducible refine (newReader_calls _ A n c _).mono ?_); rintro e w3 ⟨rfl, rfl⟩; rw [HW.out])
      | (go_at_call 38; (with_reducible refine HI.out.mono ?_); rintro e w4 HQ; obtain rfl := HQ.end_; have HQW := Aside0.mk HQ.went; clear HQ)
      | (go_at_call 92; (with_reducible refine (bytesRead_calls _ _ A n c o' _ HQW.out.rd).mono ?_); rintro e w6 ⟨rfl, rfl⟩))
    go_ret2
    exact ⟨rfl, HBW.out.trans (below_grown HQW.out.grown (by omega) HBW.out.size)⟩
set_option maxHeartbeats 4000000 in
set_option maxRecDepth 100000 in
theorem skipThing_calls (A : Option Addr) (n c o' : Nat) (bs r : List Int) (ty : Int) (field : Bool) (x : N) (w : World) (hC : (Kd.int .u8).C w A n bs) (hn : n ≤ 2147483647) (hb : bytesB bs = true) (h : thP 7 ty bs = .ok x r) (hr : r = bs.drop o') (ho' : o' ≤ n) :
    Calls Tryd.prog 15 #[.slice A n c, .int .i64 ty, .bool field] w fun e w' => e = .returned (.tuple #[.int .i64 (o' : Int), .bool true]) ∧ Below w.heap.size w w' := by
  have HBB := Aside0.mk hb
  have HLN : Aside0 (bs.length = n) := ⟨hC.1⟩
  have hty := ok_type h
  have qty : IntKind.i8.wrap ty = ty := by rw [wrap_i8]; omega
  have HCW : Aside0 ((Kd.int .u8).C (w.alloc (.cells #[] 5)) A n bs) := ⟨Kd.C_alloc hC _⟩
  have HOE := Aside0.mk (Own.empty w w.heap.size 5 .u8 (Nat.le_refl _))
  have HBE : Aside0 (Below w.heap.size w (w.alloc (.cells #[] 5))) := ⟨(Below.refl _ _).alloc (Nat.le_refl _) _⟩
  have HH := Aside0.mk h
  have HRR := Aside0.mk hr
  clear hC hb h hr hty
  go_enter Tryd.func15, Tryd.ntmps15
  go_wp2_with (first
    | (at_builtin; (refine appendRead (w0 := w) w.heap.size rfl (.tmp 11) (.tmp 12) 23 5 .u8 1 rfl Tryd.underlying23 infoU8 (by decide) _ [] A n c bs rfl rfl HOE.out HBE.out HBE.out.size HCW.out ?hl ?_); (case hl => simp; omega); intro v1 w1 ho hb1 hg1; rw [List.nil_append] at ho; obtain ⟨A1, c1, rfl, hc1, hr1⟩ := ho.read; rw [HLN.out] at hc1 hr1; rw [HLN.out]; have HB1 := Aside0.mk hb1; have HZ := Aside0.mk (zzSkip_calls A1 n c1 o' bs r ty field x w1 hr1 (fun a ha => (own_lt ho.out (by rw [ha]; rfl)).2) hc1 hn HBB.out HH.out HRR.out ho'); clear ho hb1 hg1 hr1)
    | (go_at_call 29; (with_reducible refine HZ.out.mono ?_); rintro e w2 ⟨rfl, hb2⟩; have HB2 := Aside0.mk (HB1.out.trans (hb2.mono HB1.out.size)); clear hb2))
  go_ret2
  exact ⟨rfl, HB2.out⟩
end Go.Proofs.YtcboegodjlfmnaaDoor.Tsn
