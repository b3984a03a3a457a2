import Derived.Test.YtcboegodjlfmnaaDoorSlMtd
namespace Go.Proofs.YtcboegodjlfmnaaDoor.Tzr
open Go.Proofs.YtcboegodjlfmnaaDoor.Tzq
open Go.Proofs.YtcboegodjlfmnaaDoor.Tzm Go.Proofs.YtcboegodjlfmnaaDoor.Tzl Go.Proofs.YtcboegodjlfmnaaDoor.Trh Go.Proofs.YtcboegodjlfmnaaDoor.Trn Go.Proofs.YtcboegodjlfmnaaDoor.Trm Go.Proofs.YtcboegodjlfmnaaDoor.Tuv Go.Proofs.YtcboegodjlfmnaaDoor.Tpa Go.Proofs.YtcboegodjlfmnaaDoor.Duv Go.Proofs.YtcboegodjlfmnaaDoor.Dpu Go.Proofs.YtcboegodjlfmnaaDoor.Pak Go.Proofs.YtcboegodjlfmnaaDoor.Buf Go.Proofs.YtcboegodjlfmnaaDoor.Fit Go.Proofs.YtcboegodjlfmnaaDoor.Bit Go.Proofs.YtcboegodjlfmnaaDoor.Wrd Go.Proofs.YtcboegodjlfmnaaDoor.Spl Go.Proofs.YtcboegodjlfmnaaDoor.Str Go.Proofs.YtcboegodjlfmnaaDoor.Flt Go.Proofs.YtcboegodjlfmnaaDoor.Owe Go.Proofs.YtcboegodjlfmnaaDoor.Num Go.Proofs.YtcboegodjlfmnaaDoor.Le Go.Proofs.YtcboegodjlfmnaaDoor.Lst Go.Proofs.YtcboegodjlfmnaaDoor.Aid Go.RowKit Go.Proofs.YtcboegodjlfmnaaDoorW.PrintWords Go.Proofs.YtcboegodjlfmnaaDoorW.PrintLast Go.Proofs.YtcboegodjlfmnaaDoorW.PrintMore
set_option linter.unusedVariables false
set_option linter.unusedSimpArgs false
theorem wentDrew {w w1 : World} {g : Nat} {p : Value} {A : Option Addr} {n c o : Nat} (h : Went w w1 g p A n c o) : Went w w1.drew g p A n c o := ⟨grownDrewN h.grown 1, ⟨h.rd.blk.drew, h.rd.apart⟩⟩
theorem far3 {w : World} {b t : Nat} {cs : Array Value} (h : Blk w b cs t) {b0 : Nat} (hne : b ≠ b0) (x y z : Value) : Blk (((w.setCell ⟨b0, 0, none⟩ x).setCell ⟨b0, 1, none⟩ y).setCell ⟨b0, 2, none⟩ z) b cs t :=
  ((h.far (p := ⟨b0, 0, none⟩) hne x).far (p := ⟨b0, 1, none⟩) hne y).far (p := ⟨b0, 2, none⟩) hne z
theorem wentFar3 {w w1 : World} {g : Nat} {p : Value} {A : Option Addr} {n c o : Nat} (h : Went w w1 g p A n c o) {b : Nat} (hb : w.heap.size ≤ b) (hg : g ≠ b) (x y z : Value) : Went w (((w1.setCell ⟨b, 0, none⟩ x).setCell ⟨b, 1, none⟩ y).setCell ⟨b, 2, none⟩ z) g p A n c o :=
  ((h.setNew hb hg x).setNew hb hg y).setNew hb hg z
theorem grownFar3 {w w1 : World} {row : Option Nat} (h : w.grownBy w1 row) {b : Nat} (hb : w.heap.size ≤ b) (x y z : Value) : w.grownBy (((w1.setCell ⟨b, 0, none⟩ x).setCell ⟨b, 1, none⟩ y).setCell ⟨b, 2, none⟩ z) row :=
  grownSetNew (grownSetNew (grownSetNew h hb x) hb y) hb z
set_option maxHeartbeats 8000000 in
set_option maxRecDepth 100000 in
theorem zz11_hcut (g : Nat) (p : Value) (A : Option Addr) (n c o : Nat) (bs : List Int) (dd : Nat) (p1 p2 : Addr) (w : World) (hR : RdAt w g p A n c o) (hC : (Kd.int .u8).C w A n bs) (hc : n ≤ c) (hn : n ≤ 2147483647) (ho : o ≤ n) (hb : bytesB bs = true) (hd : dd ≤ 64) (hE : Eofs w g p1 p2)
    (h : mhP (bs.drop o) = .cut) :
    Calls Tryd.prog 35 #[rdV g, .int .i8 11, .int .i64 dd] w fun e w' => ZCut w w' g p1 p2 e := by
  have HR := Aside0.mk hR
  have HC := Aside0.mk hC
  have HE := Aside0.mk hE
  have hgl := hR.lt
  have qd : decide (64 < (dd : Int)) = false := decide_eq_false (by omega)
  have qd2 : decide (64 < dd) = false := decide_eq_false (by omega)
  have HM := Aside0.mk fun (W : World) (hW : RdAt W g p A n c o) (hCW : (Kd.int .u8).C W A n bs) (hEW : Eofs W g p1 p2) => readMap_cut g p A n c o bs p1 p2 W hW hCW hc hn ho hb hEW h
  clear hR hC hb h hE
  have hm := m_ReadMap
  have hst := fun (f : Nat) (a : Addr) (W : World) m => run_store Tryd.prog W a (.float .f64 f) m rfl
  go_enter Tryd.func35, Tryd.ntmps35
  go_wp2_with (first
    | (go_at_call 105; go_loud (with_reducible refine (HM.out _ ((HR.out.alloc _).alloc _) (Kd.C_alloc (Kd.C_alloc HC.out _) _) ((HE.out.alloc _).alloc _)).mono ?_); rintro e w1 HW; obtain ⟨q, hq, rfl⟩ := HW.out; obtain ⟨hB, hD⟩ := twoBlk2 w w1 g 60 127 #[.int .i8 11, .bool false, .int .i64 0, .float .f64 0, .slice none 0 0, .int .i8 0, .int .i8 0, .slice none 0 0, .slice none 0 0] #[.int .i32 0, .int .i8 0, .int .i8 0] HW.grown (by omega); have HB := Aside0.mk hB; obtain ⟨c0, c1, c2, c3, c4, c5, c6, c7, c8, hfz⟩ := nine hB; have d0 := hD.cell (j := 0) rfl; have d1 := hD.cell (j := 1) rfl; have d2 := hD.cell (j := 2) rfl; have e0 := hD.free 0; have e1 := hD.free 1; have e2 := hD.free 2; clear hB hD))
  have HB3 := far3 HB.out (b0 := w.heap.size + 1) (by omega) (.int .i32 0) (.int .i8 0) (.int .i8 0)
  refine bodyPost_ret (ret_cell_tmp rfl _ _ w.heap.size 60 #[_, _, _, _, _, _, _, _, _] (0, 0) _ rfl (nineSet HB3 _ _ _ _ _ _ _ _ _).out Tryd.underlying60 rfl (by kernel_rfl)) rfl ?_
  exact ⟨⟨_, q, ⟨_, _, _, _, _, _, _, _, _, _, _, _, _, _, _, rfl⟩, hq, rfl⟩, grownNine (grownFar3 (grown_ofAlloc (grown_ofAlloc HW.grown)) (Nat.le_succ _) _ _ _) (Nat.le_refl _) _ _ _ _ _ _ _ _ _, rdsNine (rdsSet (rdsSet (rdsSet (rdsOfAlloc (rdsOfAlloc HW.rds)) (by omega) _ _) (by omega) _ _) (by omega) _ _) (by omega) _ _ _ _ _ _ _ _ _⟩
set_option maxHeartbeats 8000000 in
set_option maxRecDepth 100000 in
theorem zz11_ok (g : Nat) (p : Value) (A : Option Addr) (n c o B0 : Nat) (bs r : List Int) (dd k : Nat) (p1 p2 : Addr) (w : World) (hR : RdAt w g p A n c o) (hC : (Kd.int .u8).C w A n bs) (hc : n ≤ c) (hn : n ≤ 2147483647) (ho : o ≤ n) (hb : bytesB bs = true) (hd : dd + (k + 1) ≤ 65) (hE : Eofs w g p1 p2) (hB9 : B0 ≤ w.heap.size) (H : ZH g p A n c B0 p1 p2 bs k) (m : Nat) (ky el : Int)
    (h : mhP (bs.drop o) = .ok (m, ky, el) r) (hno : listP (thP k) ky el (2 * m) r ≠ .opn) :
    Calls Tryd.prog 35 #[rdV g, .int .i8 11, .int .i64 dd] w fun e w' => ZRes w w' g p A n c B0 p1 p2 bs ((listP (thP k) ky el (2 * m) r).mapR fun ls => ⟨⟨11, false, 0, 0, [], ky, el⟩, ls, .nil⟩) e := by
  have HR := Aside0.mk hR
  have HC := Aside0.mk hC
  have HE := Aside0.mk hE
  have HH := Aside0.mk H
  have hgl := hR.lt
  have HLN := Aside0.mk (show bs.length = n from hC.1)
  have qd : decide (64 < (dd : Int)) = false := decide_eq_false (by omega)
  have qd2 : decide (64 < dd) = false := decide_eq_false (by omega)
  obtain ⟨o1, e1, e2, e3, e4, e5, e6, _⟩ := readMap_ok g p A n c o bs r m ky el w hR hC hc hn ho hb h
  have HM := Aside0.mk fun (W : World) (hW : RdAt W g p A n c o) (hCW : (Kd.int .u8).C W A n bs) => by
    obtain ⟨o', d1, d2, d3, _, _, _, d4⟩ := readMap_ok g p A n c o bs r m ky el W hW hCW hc hn ho hb h
    obtain rfl := off_uniq d3 e3 (by have := hC.1; omega) (by have := hC.1; omega)
    exact d4
  obtain ⟨RL, hRL⟩ : ∃ RL, listP (thP k) ky el (2 * m) r = RL := ⟨_, rfl⟩
  have HRL : Aside0 (listP (thP k) ky el (2 * m) (bs.drop o1) = RL) := ⟨e3 ▸ hRL⟩
  have HNO := Aside0.mk (hRL ▸ hno)
  rw [hRL]
  clear hR hC hb h hE H hno hRL e3 e5 e6
  have hm := m_ReadMap
  have hst := fun (f : Nat) (a : Addr) (W : World) m => run_store Tryd.prog W a (.float .f64 f) m rfl
  go_enter Tryd.func35, Tryd.ntmps35
  go_wp2_with (first
    | (go_at_call 105; go_loud (with_reducible refine (HM.out _ ((HR.out.alloc _).alloc _) (Kd.C_alloc (Kd.C_alloc HC.out _) _)).mono ?_); rintro e w1 ⟨rfl, HW⟩; obtain ⟨hB, hD⟩ := twoBlk2 w w1 g 60 127 #[.int .i8 11, .bool false, .int .i64 0, .float .f64 0, .slice none 0 0, .int .i8 0, .int .i8 0, .slice none 0 0, .slice none 0 0] #[.int .i32 0, .int .i8 0, .int .i8 0] HW.grown (by omega); have HB := Aside0.mk hB; have HD := Aside0.mk hD; obtain ⟨c0, c1, c2, c3, c4, c5, c6, c7, c8, hfz⟩ := nine hB; have d0 := hD.cell (j := 0) rfl; have d1 := hD.cell (j := 1) rfl; have d2 := hD.cell (j := 2) rfl; have e0 := hD.free 0; have e1 := hD.free 1; have e2 := hD.free 2; clear hB hD))
  have hsz : w.heap.size + 1 ≠ w.heap.size := by omega
  have HB3 := Aside0.mk (((far3 HB.out (b0 := w.heap.size + 1) (by omega) (.int .i32 m) (.int .i8 ky) (.int .i8 el)).set 5 (.int .i8 ky)).set 6 (.int .i8 el)).drew
  have HD3 := Aside0.mk (((HD.out.three (.int .i32 m) (.int .i8 ky) (.int .i8 el)).far (p := ⟨w.heap.size, 5, none⟩) hsz (.int .i8 ky)).far (p := ⟨w.heap.size, 6, none⟩) hsz (.int .i8 el)).drew
  have HW3 := Aside0.mk (wentDrew (((wentFar3 HW.ofAlloc.ofAlloc (b := w.heap.size + 1) (Nat.le_succ _) (by omega) (.int .i32 m) (.int .i8 ky) (.int .i8 el)).setNew (b := w.heap.size) (j := 5) (Nat.le_refl _) (by omega) (.int .i8 ky)).setNew (b := w.heap.size) (j := 6) (Nat.le_refl _) (by omega) (.int .i8 el)))
  have HR0 := Aside0.mk HR.out
  have HAP := Aside0.mk HR.out.apart
  have HSZ : Aside0 (w.heap.size + 2 ≤ w1.heap.size) := ⟨by have := HW.grown.size; rw [allocSize, allocSize] at this; exact this⟩
  go_region
  go_wp2_with (fail)
  clear HB HD HW c0 c1 c2 c3 c4 c5 c6 c7 c8 hfz d0 d1 d2 e0 e1 e2 HM HR
  go_loopg [7, 16, 18, 19, 20] m (fun kq v7 v16 v18 v19 v20 w' => ∃ (i oi cl : Nat) (D : F) (Al : Option Addr) (cs : List Value), i ≤ m ∧ v7 = .nilIface ∧ v16 = .int .i64 i ∧ Aside0 (D.len = 2 * i) ∧ oi ≤ n ∧ Aside0 (listP (thP k) ky el (2 * m - D.len) (bs.drop oi) ≠ .opn) ∧ Aside0 (RL = (listP (thP k) ky el (2 * m - D.len) (bs.drop oi)).mapR D.app) ∧ Aside0 (LRow w w' (some g) #[p, .slice A n c, .int .i64 (oi : Int)] 105 B0 flV false 60 (w.heap.size + 2) (.slice Al (2 * i) cl) D cs) ∧ Aside0 (Blk w' w.heap.size #[.int .i8 11, .bool false, .int .i64 0, .float .f64 0, .slice none 0 0, .int .i8 ky, .int .i8 el, .slice Al ((2 * i)) cl, .slice none 0 0] 60) ∧ Aside0 (Blk w' (w.heap.size + 1) #[.int .i32 m, .int .i8 ky, .int .i8 el] 127) ∧ Aside0 (m - i ≤ kq))
  case atStart =>
    refine ⟨0, o1, 0, .nil, none, [], by omega, rfl, rfl, ⟨rfl⟩, e2, ⟨by show listP _ _ _ (2 * m - 0) _ ≠ _; rw [Nat.sub_zero, HRL.out]; exact HNO.out⟩, ⟨by show _ = (listP _ _ _ (2 * m - 0) _).mapR _; rw [Nat.sub_zero, HRL.out, mapR_nil]⟩, ⟨⟨HW3.out.grown, ?_, ownNil _ _ _ _, rfl, ?_⟩⟩, HB3, HD3, ⟨by omega⟩⟩
    · rintro g0 h0; obtain rfl := Option.some.inj h0; exact HW3.out.rd.blk
    · have := HSZ.out; simp only [World.drew, World.setCell, Array.size_modify]; omega
  case round =>
    clear HB3 HD3 HW3 HSZ
    obtain ⟨i, oi, cl, D, Al, cs, hi, rfl, rfl, HDl, hoi2, HN2, HRE, HL, HVB, HLB, HK⟩ := hrel
    have HWW : Aside0 (Went w wr g p A n c oi) := ⟨⟨HL.out.grown, ⟨HL.out.rb g rfl, HAP.out⟩⟩⟩
    have HSW : Aside0 (w.heap.size + 2 ≤ wr.heap.size) := ⟨HL.out.sz⟩
    obtain ⟨c0, c1, c2, c3, c4, c5, c6, c7, c8, hfz⟩ := nine HVB.out
    have d0 := HLB.out.cell (j := 0) rfl
    have d1 := HLB.out.cell (j := 1) rfl
    have d2 := HLB.out.cell (j := 2) rfl
    by_cases ci : i < m
    · obtain ⟨gk0, rfl⟩ : ∃ gk0, gk = gk0 + 1 := ⟨gk - 1, by have := HK.out; omega⟩
      have ct : decide ((i : Int) < m) = true := decide_eq_true (by omega)
      have HA := Aside0.mk (HL.out.alloc hB9 (.cells #[.int .i8 ky, .int .i8 el] 55))
      have HVA := Aside0.mk (HVB.out.alloc (.cells #[.int .i8 ky, .int .i8 el] 55))
      have HLA := Aside0.mk (HLB.out.alloc (.cells #[.int .i8 ky, .int .i8 el] 55))
      have HTA : Aside0 (Blk (wr.alloc (.cells #[.int .i8 ky, .int .i8 el] 55)) wr.heap.size #[.int .i8 ky, .int .i8 el] 55) := ⟨Blk.new _ _ _⟩
      have HOA : Aside0 ((Value.slice Al (2 * i) cl).ownBlock ≠ some wr.heap.size) := ⟨fun e => by have := (own_lt HL.out.row e).2; omega⟩
      have HZA := allocSize wr (.cells #[.int .i8 ky, .int .i8 el] 55)
      have HZB := Aside0.mk HZA
      clear HZA
      go_wp2_with (fail)
      obtain ⟨b0, hb0⟩ : ∃ b0, wr.heap.size = b0 := ⟨_, rfl⟩
      rw [hb0] at HTA HOA HSW HZB ⊢
      clear hb0
      go_loopg [7, 18, 19, 20, 167] 2 (fun kq v7 v18 v19 v20 v167 w' => ∃ (j t oi cl : Nat) (ev od : Int) (D : F) (Al : Option Addr) (cs : List Value), j ≤ 2 ∧ v7 = .nilIface ∧ v167 = .int .i64 j ∧ t = 2 * i + j ∧ Aside0 (D.len = t) ∧ Aside0 ((j = 0 ∨ j = 2) ∧ ev = ky ∧ od = el ∨ j = 1 ∧ ev = el ∧ od = ky) ∧ oi ≤ n ∧ Aside0 (listP (thP k) ev od (2 * m - D.len) (bs.drop oi) ≠ .opn) ∧ Aside0 (RL = (listP (thP k) ev od (2 * m - D.len) (bs.drop oi)).mapR D.app) ∧ Aside0 (LRow w w' (some g) #[p, .slice A n c, .int .i64 (oi : Int)] 105 B0 flV false 60 (w.heap.size + 2) (.slice Al t cl) D cs) ∧ Aside0 (Blk w' w.heap.size #[.int .i8 11, .bool false, .int .i64 0, .float .f64 0, .slice none 0 0, .int .i8 ky, .int .i8 el, .slice Al (t) cl, .slice none 0 0] 60) ∧ Aside0 (Blk w' (w.heap.size + 1) #[.int .i32 m, .int .i8 ky, .int .i8 el] 127) ∧ Aside0 (Blk w' b0 #[.int .i8 ky, .int .i8 el] 55) ∧ Aside0 ((Value.slice Al t cl).ownBlock ≠ some b0) ∧ Aside0 (2 - j ≤ kq))
      case atStart =>
        exact ⟨0, 2 * i, oi, cl, ky, el, D, Al, cs, by omega, rfl, rfl, rfl, HDl, ⟨.inl ⟨.inl rfl, rfl, rfl⟩⟩, hoi2, HN2, HRE, HA, HVA, HLA, HTA, HOA, ⟨by omega⟩⟩
      case round =>
        clear HA HVA HLA HTA HOA HL HVB HLB HN2 HRE HWW c0 c1 c2 c3 c4 c5 c6 c7 c8 hfz d0 d1 d2 HDl HZB hoi2
        obtain ⟨j, t, oj, cj, ev, od, D2, Aj, cs2, hj, rfl, rfl, ht, HDl, HEV, hoj, HN2, HRE, HL, HVB, HLB, HTB, HOB, HK2⟩ := hrel
        have HWW : Aside0 (Went w wr g p A n c oj) := ⟨⟨HL.out.grown, ⟨HL.out.rb g rfl, HAP.out⟩⟩⟩
        have HRS := Aside0.mk (rdsWent HR0.out HWW.out)
        have HSX : Aside0 (w.heap.size + 2 ≤ wr.heap.size) := ⟨HL.out.sz⟩
        obtain ⟨c0, c1, c2, c3, c4, c5, c6, c7, c8, hfz⟩ := nine HVB.out
        by_cases ce : j < 2
        · have ct2 : decide ((j : Int) < 2) = true := decide_eq_true (by omega)
          obtain ⟨m', hm'⟩ : ∃ m', 2 * m - D2.len = m' + 1 := ⟨2 * m - D2.len - 1, by have := HDl.out; omega⟩
          have hno := HN2.out
          have hre := HRE.out
          rw [hm'] at hno hre
          have dt : wr.cell? ⟨b0, j, none⟩ = some (.int .i8 ev) := by
            rcases HEV.out with ⟨h | h, rfl, _⟩ | ⟨h, rfl, _⟩
            · subst h; exact HTB.out.cell (j := 0) rfl
            · omega
            · subst h; exact HTB.out.cell (j := 1) rfl
          have HDt : Aside0 (D2.len = t) := HDl
          have HTT := Aside0.mk ht
          have ht9 : t + 1 ≤ 1001 := by omega
          rcases list_cases hno with ⟨hc1, hc2⟩ | ⟨x, r2, hx1, hx2, hx3⟩
          · have HRC : Aside0 (RL = .cut) := ⟨by rw [hre, hc2]; rfl⟩
            have HZ := Aside0.mk (HH.out.cut ev ((dd : Int) + 1) oj wr HWW.out.rd (wentC HC.out HWW.out) (HE.out.grown HWW.out.grown) (by have := HSX.out; omega) hoj (by omega) (by omega) hc1)
            clear hno hre hc1 hc2 hi hm' ht HDl
            go_wp2_with (first
              | (go_at_call 35; (with_reducible refine HZ.out.mono ?_); rintro e w2 HZ2; obtain ⟨cs2, q, ⟨a0, a1, a2, a3, A4, n4, k4, a5, a6, A7, n7, k7, A8, n8, k8, rfl⟩, hq, rfl⟩ := HZ2.out; have hB2 := keepBlk HVB.out HZ2.grown (by omega); have HB2 := Aside0.mk hB2; obtain ⟨f0, f1, f2, f3, f4, f5, f6, f7, f8, ffz⟩ := nineA hB2; clear hB2))
            have HB3 := HB2.out.alloc (.cells #[.int .i8 a0, .bool a1, .int .i64 a2, .float .f64 a3, .slice A4 n4 k4, .int .i8 a5, .int .i8 a6, .slice A7 n7 k7, .slice A8 n8 k8] 60)
            refine bodyPost_ret (ret_cell_tmp rfl _ _ w.heap.size 60 #[_, _, _, _, _, _, _, _, _] (0, 0) _ rfl (nineSet HB3 _ _ _ _ _ _ _ _ _).out Tryd.underlying60 rfl (by kernel_rfl)) rfl ?_
            rw [HRC.out]
            refine ⟨(fun y r h => nomatch h), fun _ => ⟨⟨_, q, ⟨_, _, _, _, _, _, _, _, _, _, _, _, _, _, _, rfl⟩, hq, rfl⟩, grownNine ((HWW.out.grown.trans HZ2.grown).trans (grownAlloc0 _ _ _)) (Nat.le_refl _) _ _ _ _ _ _ _ _ _, rdsNine ((HRS.out.trans HZ2.rds).trans (rdsAlloc0 _ _ _)) (by omega) _ _ _ _ _ _ _ _ _⟩⟩
          · obtain ⟨o2, f1, f2, f3⟩ := good_off (good_th k ev) hx1 (by have := HLN.out; omega)
            have f2' : o2 ≤ n := by have := HLN.out; omega
            have HRC : Aside0 (listP (thP k) od ev m' (bs.drop o2) ≠ .opn ∧ RL = (listP (thP k) od ev m' (bs.drop o2)).mapR (D2.snoc x.d 0 x.ls x.fs).app) := ⟨by rw [← f3]; exact ⟨hx2, by rw [hre]; exact hx3 D2⟩⟩
            have HZ := Aside0.mk (HH.out.ok ev ((dd : Int) + 1) oj o2 x r2 wr HWW.out.rd (wentC HC.out HWW.out) (HE.out.grown HWW.out.grown) (by have := HSX.out; omega) hoj (by omega) (by omega) hx1 f3 f2')
            have HM' : Aside0 (m' = 2 * m - (D2.len + 1)) := ⟨by omega⟩
            clear hno hre hx1 hx2 hx3 hi f1 f2 f3 hm' ht HDl
            go_wp2_with (first
              | (go_at_call 35; (with_reducible refine HZ.out.mono ?_); rintro e w2 HZ2; obtain ⟨xcs, rfl, hxin⟩ := HZ2.out; have HXI := Aside0.mk hxin; obtain ⟨A4, n4, k4, A7, n7, k7, A8, n8, k8, hxe⟩ := openV hxin; have HXE := Aside0.mk hxe; rw [hxe]; clear hxe hxin; have hB2 := keepBlk HVB.out HZ2.went.grown (by omega); have HB2 := Aside0.mk hB2; obtain ⟨f0, f1, f2, f3, f4, f5, f6, f7, f8, ffz⟩ := nineA hB2; clear hB2)
              | (at_builtin; refine appendCells (W := w2.alloc (.cells #[.int .i8 x.d.ty, .bool x.d.bo, .int .i64 x.d.n, .float .f64 x.d.bits, .slice A4 n4 k4, .int .i8 x.d.ky, .int .i8 x.d.el, .slice A7 n7 k7, .slice A8 n8 k8] 60)) (w.heap.size + 2) rfl (.tmp 184) (.tmp 186) 57 60 9 104 rfl Tryd.underlying57 infoVal (by decide) (.slice Aj t cj) t cs2 [.int .i8 x.d.ty, .bool x.d.bo, .int .i64 x.d.n, .float .f64 x.d.bits, .slice A4 n4 k4, .int .i8 x.d.ky, .int .i8 x.d.el, .slice A7 n7 k7, .slice A8 n8 k8] rfl (by rw [allocSize]; rfl) rfl (by simp [Value.oneCell']) ?HO ?hb (by omega) (by unfold maxLen; omega) ?_; (case HO => exact (own_move (HDt.out ▸ HL.out.row) (fun b hb => HZ2.went.grown.block b (own_lt HL.out.row hb).2 (fun e => by have := own_lt HL.out.row hb; have := Option.some.inj e; omega))).alloc _); (case hb => rw [allocSize]; have := HZ2.went.grown.size; have := HSX.out; omega); intro v1 w4 ho hgr hor; have HNX := Aside0.mk (HL.out.next (Nat.le_add_right _ 2) hB9 hgl (x := x) 0 HZ2.went.grown HZ2.went.rd.blk (HXI.out.move (fun _ _ => rfl) (fun b hb => (pn_iff _ _ _ _ b).1 hb)) hgr (by rw [HDt.out, HXE.out]; exact ho) hor); have HOB4 : Aside0 (v1.ownBlock ≠ some b0) := ⟨by have hlt := HTB.out.lt; have hsz2 := HZ2.went.grown.size; rcases hor with h | h; (rw [h]; exact HOB.out); (rw [h]; intro e; have := Option.some.inj e; rw [allocSize] at this; omega)⟩; have HTB4 : Aside0 (Blk w4 b0 _ _) := ⟨⟨(HL.out.keeps2 hgl HZ2.went.grown hgr (by have := HSW.out; omega) HTB.out.lt HOB.out).trans HTB.out.out⟩⟩; obtain ⟨Al2, cl2, rfl⟩ := ownSlice ho; have hV4 : Blk w4 w.heap.size _ _ := ⟨(HNX.out.2 _ (Nat.le_refl _) (by omega)).trans HVB.out.out⟩; have g7 := hV4.cell (j := 7) rfl; have gz := hV4.free 7; have HV4 := Aside0.mk hV4; have HLB4 : Aside0 (Blk w4 (w.heap.size + 1) _ _) := ⟨⟨(HNX.out.2 _ (Nat.le_succ _) (by omega)).trans HLB.out.out⟩⟩; clear ho hgr hor hV4))
            go_roundg (gk - 1)
            case measure => have := HK2.out; omega
            case rel =>
              have hsz : w.heap.size + 1 ≠ w.heap.size := by omega
              have hb0 : b0 ≠ w.heap.size := by have := HSW.out; omega
              refine ⟨j + 1, t + 1, o2, cl2, od, ev, D2.snoc x.d 0 x.ls x.fs, Al2, _, by omega, rfl, by go_num, by have := HTT.out; omega, ⟨by rw [F.len_snoc, HDt.out]⟩, ?_, f2', ?_, ?_, ⟨HNX.out.1.set hB9 (fun g' e => Option.some.inj e ▸ hgl) (Nat.le_refl _) (by omega) 7 _⟩, ⟨?_⟩, ⟨?_⟩, ⟨?_⟩, HOB4, ⟨by have := HK2.out; omega⟩⟩
              · refine ⟨?_⟩
                rcases HEV.out with ⟨h | h, h1, h2⟩ | ⟨h, h1, h2⟩
                · exact .inr ⟨by omega, h2, h1⟩
                · omega
                · exact .inl ⟨.inr (by omega), h2, h1⟩
              · rw [F.len_snoc, ← HM'.out]; exact ⟨HRC.out.1⟩
              · rw [F.len_snoc, ← HM'.out]; exact ⟨HRC.out.2⟩
              · exact HV4.out.set 7 _
              · exact HLB4.out.far hsz _
              · exact HTB4.out.far hb0 _
        · obtain rfl : j = 2 := by omega
          have ct2 : decide ((2 : Int) < 2) = false := rfl
          have HIV : Aside0 (ev = ky ∧ od = el ∧ t = 2 * (i + 1)) := ⟨by rcases HEV.out with ⟨h | h, h1, h2⟩ | ⟨h, h1, h2⟩ <;> first | exact ⟨h1, h2, by omega⟩ | omega⟩
          obtain ⟨rfl, rfl, rfl⟩ := HIV.out
          clear HIV HEV ht
          go_wp2_with (fail)
          go_roundg gk0
          case measure => omega
          case rel => exact ⟨i + 1, oj, cj, D2, Aj, cs2, by omega, rfl, by go_num, HDl, hoj, HN2, HRE, HL, HVB, HLB, ⟨by have := HK.out; omega⟩⟩
    · obtain rfl : i = m := by omega
      have HRC : Aside0 (RL = .ok D (bs.drop oi)) := ⟨by have := HRE.out; rw [HDl.out, Nat.sub_self] at this; rw [this]; show Res.ok (D.app .nil) _ = _; rw [F.app_nil]⟩
      have HLI := Aside0.mk (HL.out.lies (Nat.le_add_right _ 2))
      have ct : decide ((i : Int) < i) = false := decide_eq_false (by omega)
      clear hi
      go_wp2_with (fail)
      refine bodyPost_ret (ret_cell_tmp rfl _ _ w.heap.size 60 #[_, _, _, _, _, _, _, _, _] (0, 0) _ rfl (nineSet HVB.out _ _ _ _ _ _ _ _ _).out Tryd.underlying60 rfl (by kernel_rfl)) rfl ?_
      rw [HRC.out]
      refine ⟨fun y r h => ?_, fun h => nomatch h⟩
      obtain ⟨rfl, rfl⟩ := Res.ok.inj h
      have hNK := nineKeep HVB.out
      refine ⟨oi, rfl, hoi2, ⟨⟨nodeC flV ⟨11, false, 0, 0, [], ky, el⟩ (.slice none 0 0) (.slice Al (2 * i) cl) (.slice none 0 0), rfl, ?_⟩, ?_⟩⟩
      · rw [hNK.1]
        refine ⟨⟨_, _, _, cs, [], rfl, bytesAt_nil _ _, ?_, ?_, lies_nil _ _, rfl⟩⟩
        · have hl := HLI.out.1; rw [HDl.out] at hl; exact HDl.out.symm ▸ hl.move (fun b _ => hNK.2 b) (fun b hb => (pn_iff _ _ _ _ b).2 hb)
        · exact HLI.out.2.move (fun b _ => hNK.2 b) (fun b hb => (pn_iff _ _ _ _ b).2 hb)
      · exact wentNine HWW.out (Nat.le_refl _) (by omega) _ _ _ _ _ _ _ _ _
end Go.Proofs.YtcboegodjlfmnaaDoor.Tzr
