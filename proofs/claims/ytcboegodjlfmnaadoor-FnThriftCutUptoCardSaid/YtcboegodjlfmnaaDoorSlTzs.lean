import Derived.Test.YtcboegodjlfmnaaDoorSlMtd
namespace Go.Proofs.YtcboegodjlfmnaaDoor.Tzs
open Go.Proofs.YtcboegodjlfmnaaDoor.Tzq
open Go.Proofs.YtcboegodjlfmnaaDoor.Tzm Go.Proofs.YtcboegodjlfmnaaDoor.Tzl Go.Proofs.YtcboegodjlfmnaaDoor.Trh Go.Proofs.YtcboegodjlfmnaaDoor.Trn Go.Proofs.YtcboegodjlfmnaaDoor.Trm Go.Proofs.YtcboegodjlfmnaaDoor.Tuv Go.Proofs.YtcboegodjlfmnaaDoor.Tpa Go.Proofs.YtcboegodjlfmnaaDoor.Duv Go.Proofs.YtcboegodjlfmnaaDoor.Dpu Go.Proofs.YtcboegodjlfmnaaDoor.Pak Go.Proofs.YtcboegodjlfmnaaDoor.Buf Go.Proofs.YtcboegodjlfmnaaDoor.Fit Go.Proofs.YtcboegodjlfmnaaDoor.Bit Go.Proofs.YtcboegodjlfmnaaDoor.Wrd Go.Proofs.YtcboegodjlfmnaaDoor.Spl Go.Proofs.YtcboegodjlfmnaaDoor.Str Go.Proofs.YtcboegodjlfmnaaDoor.Flt Go.Proofs.YtcboegodjlfmnaaDoor.Owe Go.Proofs.YtcboegodjlfmnaaDoor.Num Go.Proofs.YtcboegodjlfmnaaDoor.Le Go.Proofs.YtcboegodjlfmnaaDoor.Lst Go.Proofs.YtcboegodjlfmnaaDoor.Aid Go.RowKit Go.Proofs.YtcboegodjlfmnaaDoorW.PrintWords Go.Proofs.YtcboegodjlfmnaaDoorW.PrintLast Go.Proofs.YtcboegodjlfmnaaDoorW.PrintMore
set_option linter.unusedVariables false
set_option linter.unusedSimpArgs false
theorem infoFv : (Tryd.prog.info? 87).map (fun i => (i.size, i.bytes, i.zero.map (·.cells.size))) = some (10, 112, some 10) := by kernel_rfl
theorem dontEOF (g : Nat) (p1 p2 q : Addr) (w : World) (hE : Eofs w g p1 p2) (hq : q = p1 ∨ q = p2) : Calls Tryd.prog 45 #[erV q] w fun e w' => e = .returned (erV p2) ∧ w = w' := by
  rcases hq with rfl | rfl
  · exact dontEOF1 g q p2 w hE
  · exact dontEOF2 g p1 q w hE
theorem liesOn {w1 w5 : World} {B0 g lo : Nat} (hs : w1.heap.size ≤ w5.heap.size) (hk : ∀ b, b < w1.heap.size → b ≠ g → w5.heap[b]? = w1.heap[b]?) (hlo : g < lo) (hB : B0 ≤ w1.heap.size) : ∀ b, PnO B0 (some g) lo w1.heap.size b → w5.heap[b]? = w1.heap[b]? ∧ Pn B0 g lo w5.heap.size b := by
  rintro b (⟨h1, h2⟩ | ⟨h1, h2⟩)
  · have hg : b ≠ g := fun e => h2 (by rw [e])
    exact ⟨hk b (by omega) hg, .inl ⟨h1, hg⟩⟩
  · exact ⟨hk b h2 (by omega), .inr ⟨h1, by omega⟩⟩
theorem far9 {w : World} {b t b0 : Nat} {cs : Array Value} (h : Blk w b cs t) (hne : b ≠ b0) (x0 x1 x2 x3 x4 x5 x6 x7 x8 : Value) : Blk (((((((((w.setCell ⟨b0, 0, none⟩ x0).setCell ⟨b0, 1, none⟩ x1).setCell ⟨b0, 2, none⟩ x2).setCell ⟨b0, 3, none⟩ x3).setCell ⟨b0, 4, none⟩ x4).setCell ⟨b0, 5, none⟩ x5).setCell ⟨b0, 6, none⟩ x6).setCell ⟨b0, 7, none⟩ x7).setCell ⟨b0, 8, none⟩ x8) b cs t :=
  ((((((((h.far (p := ⟨b0, 0, none⟩) hne x0).far (p := ⟨b0, 1, none⟩) hne x1).far (p := ⟨b0, 2, none⟩) hne x2).far (p := ⟨b0, 3, none⟩) hne x3).far (p := ⟨b0, 4, none⟩) hne x4).far (p := ⟨b0, 5, none⟩) hne x5).far (p := ⟨b0, 6, none⟩) hne x6).far (p := ⟨b0, 7, none⟩) hne x7).far (p := ⟨b0, 8, none⟩) hne x8
theorem heapNine {w : World} {b b0 : Nat} (hne : b ≠ b0) (x0 x1 x2 x3 x4 x5 x6 x7 x8 : Value) : (((((((((w.setCell ⟨b0, 0, none⟩ x0).setCell ⟨b0, 1, none⟩ x1).setCell ⟨b0, 2, none⟩ x2).setCell ⟨b0, 3, none⟩ x3).setCell ⟨b0, 4, none⟩ x4).setCell ⟨b0, 5, none⟩ x5).setCell ⟨b0, 6, none⟩ x6).setCell ⟨b0, 7, none⟩ x7).setCell ⟨b0, 8, none⟩ x8).heap[b]? = w.heap[b]? := by
  rw [Below.heap_setCell _ _ _ b hne, Below.heap_setCell _ _ _ b hne, Below.heap_setCell _ _ _ b hne, Below.heap_setCell _ _ _ b hne, Below.heap_setCell _ _ _ b hne, Below.heap_setCell _ _ _ b hne, Below.heap_setCell _ _ _ b hne, Below.heap_setCell _ _ _ b hne, Below.heap_setCell _ _ _ b hne]
theorem sizeNine (w : World) (b0 : Nat) (x0 x1 x2 x3 x4 x5 x6 x7 x8 : Value) : (((((((((w.setCell ⟨b0, 0, none⟩ x0).setCell ⟨b0, 1, none⟩ x1).setCell ⟨b0, 2, none⟩ x2).setCell ⟨b0, 3, none⟩ x3).setCell ⟨b0, 4, none⟩ x4).setCell ⟨b0, 5, none⟩ x5).setCell ⟨b0, 6, none⟩ x6).setCell ⟨b0, 7, none⟩ x7).setCell ⟨b0, 8, none⟩ x8).heap.size = w.heap.size := by simp [World.setCell]
theorem inNine {σ : Fl} {w : World} {B0 g lo b0 : Nat} {x : N} {cs : List Value} (h : x.In σ w (Pn B0 g lo w.heap.size) cs) (hB : B0 ≤ b0) (hl : b0 < lo) (x0 x1 x2 x3 x4 x5 x6 x7 x8 : Value) : x.In σ (((((((((w.setCell ⟨b0, 0, none⟩ x0).setCell ⟨b0, 1, none⟩ x1).setCell ⟨b0, 2, none⟩ x2).setCell ⟨b0, 3, none⟩ x3).setCell ⟨b0, 4, none⟩ x4).setCell ⟨b0, 5, none⟩ x5).setCell ⟨b0, 6, none⟩ x6).setCell ⟨b0, 7, none⟩ x7).setCell ⟨b0, 8, none⟩ x8) (PnO B0 (some g) lo (((((((((w.setCell ⟨b0, 0, none⟩ x0).setCell ⟨b0, 1, none⟩ x1).setCell ⟨b0, 2, none⟩ x2).setCell ⟨b0, 3, none⟩ x3).setCell ⟨b0, 4, none⟩ x4).setCell ⟨b0, 5, none⟩ x5).setCell ⟨b0, 6, none⟩ x6).setCell ⟨b0, 7, none⟩ x7).setCell ⟨b0, 8, none⟩ x8).heap.size) cs := by
  rw [sizeNine]
  refine h.move (fun b hb => heapNine ?_ _ _ _ _ _ _ _ _ _) (fun b hb => (pn_iff _ _ _ _ b).1 hb)
  rcases hb with ⟨h1, h2⟩ | ⟨h1, h2⟩ <;> omega
theorem fv_truth (p : Int → Psr N) {ty : Int} (h : ty = 1 ∨ ty = 2) (bs : List Int) : fvP p ty bs = .ok ⟨⟨ty, decide (ty = 1), 0, 0, [], 0, 0⟩, .nil, .nil⟩ bs := by
  unfold fvP; rw [if_pos h]; rfl
theorem threeBlk {w w2 w5 : World} {g t : Nat} {V F X : Array Value} {t2 t3 : TypeId} (hV : Blk w2 w.heap.size V t) (h : ((w2.alloc (.cells F t2)).alloc (.cells X t3)).grownBy w5 (some g)) (hg : g < w.heap.size) (hg2 : g < w2.heap.size) :
    Blk w5 w.heap.size V t ∧ Blk w5 w2.heap.size F t2 ∧ Blk w5 (w2.heap.size + 1) X t3 ∧ w.heap.size ≠ w2.heap.size ∧ w.heap.size ≠ w2.heap.size + 1 ∧ w2.heap.size + 1 ≠ w.heap.size := by
  have hl := hV.lt
  obtain ⟨h1, h2⟩ := twoBlk2 w2 w5 g t2 t3 F X h hg2
  exact ⟨keepBlk ((hV.alloc _).alloc _) h (by omega), h1, h2, by omega, by omega, by omega⟩
theorem readField_ok (g : Nat) (p : Value) (A : Option Addr) (n c o : Nat) (bs r : List Int) (last id ty : Int) (hln : bs.length = n) (hc : n ≤ c) (hn : n ≤ 2147483647) (ho : o ≤ n) (hb : bytesB bs = true) (hl : 0 ≤ last)
    (h : fhP last (bs.drop o) = .ok (id, ty) r) (hid : id ≠ 0) :
    ∃ (o' : Nat) (a : Int) (dl : Bool), o < o' ∧ o' ≤ n ∧ r = bs.drop o' ∧ last < id ∧ id ≤ 32767 ∧ 0 ≤ ty ∧ ty ≤ 15 ∧ (dl = true → a + last = id) ∧ (dl = false → a = id) ∧
      ∀ (W : World), RdAt W g p A n c o → (Kd.int .u8).C W A n bs → Calls Tryd.prog 97 #[.pointer (some ⟨g, 0, none⟩)] W fun e w' => e = .returned (.tuple #[.agg #[.int .i16 a, .int .i8 ty, .bool dl], .nilIface]) ∧ Went W w' g p A n c o' := by
  obtain ⟨h1, b, h2, ⟨h3, h4, h5⟩ | ⟨h3, h4, h5, h6, h7, h8⟩ | ⟨h3, h4, h5, h6, h7⟩⟩ := fh_inv h hb hl
  · exact absurd h4 hid
  · refine ⟨o + 1, b / 16, true, by omega, by omega, h8, by omega, h6, by omega, by omega, fun _ => by omega, (fun e => nomatch e), fun W hW hC => ?_⟩
    subst h7
    exact readField_short g p A n c o bs b W hW hC hc hn ho hb (by omega) h2 h3 h4
  · subst h5
    obtain ⟨o1, d1, d2, d3⟩ := good_off (good_zig _) h6 (by omega)
    obtain ⟨z, _, _, hz1, hz2⟩ := zig_ok h6
    refine ⟨o1, id, false, by omega, by omega, d3, h7, by omega, by omega, by omega, (fun e => nomatch e), fun _ => rfl, fun W hW hC => ?_⟩
    obtain ⟨o', e1, e2, e3, e4⟩ := readField_long g p A n c o bs r ty id W hW hC hc hn ho hb (by omega) h2 h3 h4 h6
    obtain rfl := off_uniq e3 d3 (by omega) (by omega)
    exact e4
theorem readField_end (g : Nat) (p : Value) (A : Option Addr) (n c o : Nat) (bs r : List Int) (last ty : Int) (hln : bs.length = n) (hc : n ≤ c) (hn : n ≤ 2147483647) (ho : o ≤ n) (hb : bytesB bs = true) (hl : 0 ≤ last)
    (h : fhP last (bs.drop o) = .ok (0, ty) r) :
    o + 1 ≤ n ∧ r = bs.drop (o + 1) ∧
      ∀ (W : World), RdAt W g p A n c o → (Kd.int .u8).C W A n bs → Calls Tryd.prog 97 #[.pointer (some ⟨g, 0, none⟩)] W fun e w' => e = .returned (.tuple #[.agg #[.int .i16 0, .int .i8 0, .bool false], .nilIface]) ∧ Went W w' g p A n c (o + 1) := by
  obtain ⟨h1, b, h2, ⟨h3, h4, h5⟩ | ⟨h3, h4, h5, h6, h7, h8⟩ | ⟨h3, h4, h5, h6, h7⟩⟩ := fh_inv h hb hl
  · exact ⟨by omega, h5, fun W hW hC => readField_stop g p A n c o bs W hW hC hc hn ho hb (by omega) (by rw [h2, h3])⟩
  · omega
  · omega
set_option maxHeartbeats 8000000 in
set_option maxRecDepth 100000 in
theorem zz12_any (g : Nat) (p : Value) (A : Option Addr) (n c o B0 : Nat) (bs : List Int) (dd k : Nat) (p1 p2 : Addr) (w : World) (hR : RdAt w g p A n c o) (hC : (Kd.int .u8).C w A n bs) (hc : n ≤ c) (hn : n ≤ 2147483647) (ho : o ≤ n) (hb : bytesB bs = true) (hd : dd + (k + 1) ≤ 65) (hE : Eofs w g p1 p2) (hB9 : B0 ≤ w.heap.size) (H : ZH g p A n c B0 p1 p2 bs k)
    (hno : fieldsP (thP k) 100 0 (bs.drop o) ≠ .opn) :
    Calls Tryd.prog 35 #[rdV g, .int .i8 12, .int .i64 dd] w fun e w' => ZRes w w' g p A n c B0 p1 p2 bs ((fieldsP (thP k) 100 0 (bs.drop o)).mapR fun fs => ⟨⟨12, false, 0, 0, [], 0, 0⟩, .nil, fs⟩) e := by
  have HR := Aside0.mk hR
  have HC := Aside0.mk hC
  have HE := Aside0.mk hE
  have HH := Aside0.mk H
  have HBY := Aside0.mk hb
  have hgl := hR.lt
  have HLN := Aside0.mk (show bs.length = n from hC.1)
  have qd : decide (64 < (dd : Int)) = false := decide_eq_false (by omega)
  have qd2 : decide (64 < dd) = false := decide_eq_false (by omega)
  obtain ⟨RL, hRL⟩ : ∃ RL, fieldsP (thP k) 100 0 (bs.drop o) = RL := ⟨_, rfl⟩
  have HRL := Aside0.mk hRL
  have HNO := Aside0.mk (hRL ▸ hno)
  rw [hRL]
  clear hR hC hb hE H hno hRL
  have hm := m_ReadField
  have hst := fun (f : Nat) (a : Addr) (W : World) m => run_store Tryd.prog W a (.float .f64 f) m rfl
  go_enter Tryd.func35, Tryd.ntmps35
  go_wp2_with (fail)
  have HB3 := Aside0.mk (Blk.new w #[.int .i8 12, .bool false, .int .i64 0, .float .f64 0, .slice none 0 0, .int .i8 0, .int .i8 0, .slice none 0 0, .slice none 0 0] 60)
  have HW3 : Aside0 (Went w (w.alloc (.cells #[.int .i8 12, .bool false, .int .i64 0, .float .f64 0, .slice none 0 0, .int .i8 0, .int .i8 0, .slice none 0 0, .slice none 0 0] 60)) g p A n c o) := ⟨⟨grownAlloc0 _ _ _, HR.out.alloc _⟩⟩
  have HR0 := Aside0.mk HR.out
  have HAP := Aside0.mk HR.out.apart
  have HSZ := Aside0.mk (allocSize w (.cells #[.int .i8 12, .bool false, .int .i64 0, .float .f64 0, .slice none 0 0, .int .i8 0, .int .i8 0, .slice none 0 0, .slice none 0 0] 60))
  clear HR
  go_loopg [7, 21, 22, 23, 24] 101 (fun kq v7 v21 v22 v23 v24 w' => ∃ (t room oi cl : Nat) (last : Int) (D : F) (Al : Option Addr) (cs : List Value), t + room = 100 ∧ v7 = .nilIface ∧ v21 = .int .i16 last ∧ 0 ≤ last ∧ last ≤ 32767 ∧ Aside0 (D.len = t) ∧ oi ≤ n ∧ Aside0 (fieldsP (thP k) room last (bs.drop oi) ≠ .opn) ∧ Aside0 (RL = (fieldsP (thP k) room last (bs.drop oi)).mapR D.app) ∧ Aside0 (LRow w w' (some g) #[p, .slice A n c, .int .i64 (oi : Int)] 105 B0 flV true 87 (w.heap.size + 1) (.slice Al t cl) D cs) ∧ Aside0 (Blk w' w.heap.size #[.int .i8 12, .bool false, .int .i64 0, .float .f64 0, .slice none 0 0, .int .i8 0, .int .i8 0, .slice none 0 0, .slice Al t cl] 60) ∧ Aside0 (room + 1 ≤ kq))
  case atStart =>
    refine ⟨0, 100, o, 0, 0, .nil, none, [], rfl, rfl, rfl, by omega, by omega, ⟨rfl⟩, ho, ⟨by rw [HRL.out]; exact HNO.out⟩, ⟨by rw [HRL.out, mapR_nil]⟩, ⟨⟨HW3.out.grown, ?_, ownNil _ _ _ _, rfl, ?_⟩⟩, HB3, ⟨by omega⟩⟩
    · rintro g0 h0; obtain rfl := Option.some.inj h0; exact HW3.out.rd.blk
    · have := HSZ.out; omega
  case round =>
    clear HB3 HW3 HSZ
    obtain ⟨t, room, oi, cl, last, D, Al, cs, htr, rfl, rfl, hl0, hl9, HDl, hoi, HN2, HRE, HL, HVB, HK⟩ := hrel
    have HWW : Aside0 (Went w wr g p A n c oi) := ⟨⟨HL.out.grown, ⟨HL.out.rb g rfl, HAP.out⟩⟩⟩
    have HRS := Aside0.mk (rdsWent HR0.out HWW.out)
    have HSW : Aside0 (w.heap.size + 1 ≤ wr.heap.size) := ⟨HL.out.sz⟩
    have hWC := wentC HC.out HWW.out
    have hWE := HE.out.grown HWW.out.grown
    have HWC := Aside0.mk hWC
    have HWE := Aside0.mk hWE
    rcases fields_cases HN2.out with ⟨hc1, hc2⟩ | ⟨ty, r, hc1, hc2⟩ | ⟨room', id, ty, r, rfl, hid, hc1, hc2⟩
    · -- bytes break off in a field's head
      have HRC : Aside0 (RL = .cut) := ⟨by rw [HRE.out, hc2]; rfl⟩
      have HM := Aside0.mk (readField_cut g p A n c oi bs p1 p2 last wr HWW.out.rd hWC hc hn hoi HBY.out hWE hc1)
      clear hc1 hc2 hWC hWE
      go_wp2_with (first
        | (go_at_call 97; go_loud (with_reducible refine HM.out.mono ?_); rintro e w2 HW2; obtain ⟨q, hq, rfl⟩ := HW2.out; have hB2 := keepBlk HVB.out HW2.grown (by omega); have HB2 := Aside0.mk hB2; obtain ⟨f0, f1, f2, f3, f4, f5, f6, f7, f8, ffz⟩ := nineA hB2; clear hB2))
      have HBa := Aside0.mk (HB2.out.alloc (.cells #[.int .i16 0, .int .i8 0, .bool false] 132))
      have HEF := Aside0.mk (show Eofs (w2.alloc (.cells #[.int .i16 0, .int .i8 0, .bool false] 132)).drew g p1 p2 from eofs_drawn ((HWE.out.grown HW2.grown).alloc _) ⟨⟨1, rfl⟩⟩)
      have HSa := Aside0.mk (nine HBa.out)
      have HSb := Aside0.mk (nine (nineSet HBa.out (.int .i8 12) (.bool false) (.int .i64 0) (.float .f64 0) (.slice none 0 0) (.int .i8 0) (.int .i8 0) (.slice none 0 0) (.slice Al t cl)).drew)
      obtain ⟨s0, s1, s2, s3, s4, s5, s6, s7, s8, sz⟩ := (nine HBa.out.drew)
      go_region_with ((first
          | (go_at_call 45; (with_reducible refine (dontEOF g p1 p2 q _ HEF.out hq).mono ?_); rintro e w3 ⟨rfl, rfl⟩)
          | fail "no arm"))
      all_goals go_wp2_with (fail)
      all_goals
        refine bodyPost_ret (ret_cell_tmp rfl _ _ w.heap.size 60 #[_, _, _, _, _, _, _, _, _] (0, 0) _ rfl ((nineSet HBa.out _ _ _ _ _ _ _ _ _).drew).out Tryd.underlying60 rfl (by kernel_rfl)) rfl ?_
        rw [HRC.out]
        exact ⟨(fun y r h => nomatch h), fun _ => ⟨⟨_, p2, ⟨_, _, _, _, _, _, _, _, _, _, _, _, _, _, _, rfl⟩, .inr rfl, rfl⟩, grownDrewN (grownNine ((HWW.out.grown.trans HW2.grown).trans (grownAlloc0 _ _ _)) (Nat.le_refl _) _ _ _ _ _ _ _ _ _) 1, (rdsNine ((HRS.out.trans HW2.rds).trans (rdsAlloc0 _ _ _)) (by omega) _ _ _ _ _ _ _ _ _).trans (rdsDrawn ⟨⟨1, rfl⟩⟩ g)⟩⟩
    · -- the end
      have HRC : Aside0 (RL = .ok D r) := ⟨by rw [HRE.out, hc2]; show Res.ok (D.app .nil) _ = _; rw [F.app_nil]⟩
      obtain ⟨k1, k2, hM⟩ := readField_end g p A n c oi bs r last ty HLN.out hc hn hoi HBY.out hl0 hc1
      have HM := Aside0.mk (hM wr HWW.out.rd hWC)
      have HK2 := Aside0.mk k2
      clear hc1 hc2 hWC hWE k2 hM
      go_wp2_with (first
        | (go_at_call 97; go_loud (with_reducible refine HM.out.mono ?_); rintro e w2 ⟨rfl, HW2⟩; have hB2 := keepBlk HVB.out HW2.grown (by omega); have HB2 := Aside0.mk hB2; obtain ⟨f0, f1, f2, f3, f4, f5, f6, f7, f8, ffz⟩ := nineA hB2; clear hB2))
      have HBa := HB2.out.alloc (.cells #[.int .i16 0, .int .i8 0, .bool false] 132)
      refine bodyPost_ret (ret_cell_tmp rfl _ _ w.heap.size 60 #[_, _, _, _, _, _, _, _, _] (0, 0) _ rfl (nineSet HBa _ _ _ _ _ _ _ _ _).out Tryd.underlying60 rfl (by kernel_rfl)) rfl ?_
      rw [HRC.out]
      refine ⟨fun y r h => ?_, fun h => nomatch h⟩
      obtain ⟨rfl, rfl⟩ := Res.ok.inj h
      have hNK := nineKeep HBa
      have HLI := HL.out.lies (Nat.le_add_right _ 1)
      have hsa := allocSize w2 (.cells #[.int .i16 0, .int .i8 0, .bool false] 132)
      have hs2 := HW2.grown.size
      refine ⟨oi + 1, HK2.out, k1, ⟨⟨nodeC flV ⟨12, false, 0, 0, [], 0, 0⟩ (.slice none 0 0) (.slice none 0 0) (.slice Al t cl), rfl, ?_⟩, ?_⟩⟩
      · have hLO := liesOn (w1 := wr) (B0 := B0) (g := g) (lo := w.heap.size) (by rw [hNK.1, hsa]; omega) (fun b hb hg => (hNK.2 b).trans ((Below.heap_alloc _ _ b (by omega)).trans (HW2.grown.block b hb (fun e => hg (Option.some.inj e))))) hgl (by have := HSW.out; omega)
        refine ⟨⟨_, _, _, [], cs, rfl, bytesAt_nil _ _, lies_nil _ _, rfl, ?_, ?_⟩⟩
        · have hl := HLI.1; rw [HDl.out] at hl; exact HDl.out.symm ▸ hl.move (fun b hb => (hLO b hb).1) (fun b hb => (hLO b hb).2)
        · exact HLI.2.move (fun b hb => (hLO b hb).1) (fun b hb => (hLO b hb).2)
      · have hWa : Went w (w2.alloc (.cells #[.int .i16 0, .int .i8 0, .bool false] 132)) g p A n c (oi + 1) := ⟨(HWW.out.grown.trans HW2.grown).trans (grownAlloc0 _ _ _), HW2.rd.alloc _⟩
        exact wentNine hWa (Nat.le_refl _) (by omega) _ _ _ _ _ _ _ _ _
    · -- a field
      obtain ⟨o2, a, dl, k1, k2, k3, k4, k5, k6, k7, k8, k9, hM⟩ := readField_ok g p A n c oi bs r last id ty HLN.out hc hn hoi HBY.out hl0 hc1 hid
      subst k3
      have HM := Aside0.mk (hM wr HWW.out.rd hWC)
      by_cases c12 : ty = 1 ∨ ty = 2
      · rw [fv_truth (thP k) c12] at hc2
        rcases hc2 with ⟨h, _⟩ | ⟨x, r', h, hx2, hx3⟩
        · cases h
        obtain ⟨hx, rfl⟩ := Res.ok.inj h
        have HRC : Aside0 (fieldsP (thP k) room' id (bs.drop o2) ≠ .opn ∧ RL = (fieldsP (thP k) room' id (bs.drop o2)).mapR (D.snoc x.d id x.ls x.fs).app) := ⟨hx2, by rw [HRE.out]; exact hx3 D⟩
        clear hc1 h hx2 hx3 hWC hWE hM
        rcases c12 with rfl | rfl
        · subst hx
          cases dl with
          | true =>
            have hid2 := k8 rfl
            have qw : IntKind.i16.wrap (a + last) = id := by rw [wrap_i16]; omega
            clear k8 k9
            go_wp2_with (first
              | (go_at_call 97; go_loud (with_reducible refine HM.out.mono ?_); rintro e w2 ⟨rfl, HW2⟩; have hB2 := keepBlk HVB.out HW2.grown (by omega); have HB2 := Aside0.mk hB2; have f8 : ∀ o1 o2, ((w2.alloc o1).alloc o2).cell? ⟨w.heap.size, 8, none⟩ = some (.slice Al t cl) := (fun o1 o2 => ((hB2.alloc o1).alloc o2).cell (j := 8) rfl); clear hB2)
              | (at_builtin; have hs2 := HW2.grown.size; have hs3 := HSW.out; have hgl' : ∀ g', some g = some g' → g' < w.heap.size := (fun g' e => Option.some.inj e ▸ hgl); obtain ⟨w6, hw6⟩ : ∃ W6, (w2.alloc (.cells #[.int .i16 id, .int .i8 1, .bool true] 132)).alloc (.cells #[.int .i8 1, .bool true, .int .i64 0, .float .f64 0, .slice none 0 0, .int .i8 0, .int .i8 0, .slice none 0 0, .slice none 0 0] 60) = W6 := ⟨_, rfl⟩; have HG6 : Aside0 (wr.grownBy w6 (some g)) := ⟨by rw [← hw6]; exact (HW2.grown.trans (grownAlloc0 _ _ _)).trans (grownAlloc0 _ _ _)⟩; have hsz6 : w6.heap.size = w2.heap.size + 2 := (by rw [← hw6, allocSize, allocSize]); have HF6 : Aside0 (Blk w6 w2.heap.size #[.int .i16 id, .int .i8 1, .bool true] 132) := ⟨by rw [← hw6]; exact (Blk.new w2 _ _).alloc _⟩; have HR6 : Aside0 (Blk w6 g #[p, .slice A n c, .int .i64 (o2 : Int)] 105) := ⟨by rw [← hw6]; exact ((HW2.rd.alloc _).alloc _).blk⟩; have HX6 : Aside0 (N.In flV w6 (PnO B0 (some g) (w2.heap.size + 2) w6.heap.size) ⟨⟨1, decide ((1 : Int) = 1), 0, 0, [], 0, 0⟩, .nil, .nil⟩ [.int .i8 1, .bool true, .int .i64 0, .float .f64 0, .slice none 0 0, .int .i8 0, .int .i8 0, .slice none 0 0, .slice none 0 0]) := ⟨⟨⟨.slice none 0 0, .slice none 0 0, .slice none 0 0, [], [], rfl, bytesAt_nil _ _, lies_nil _ _, rfl, lies_nil _ _, rfl⟩⟩⟩; rw [hw6]; clear hw6; have hfl := HF6.out.lt; refine appendCells (W := w6) (w.heap.size + 1) rfl (.tmp 241) (.tmp 246) 58 87 10 112 rfl Tryd.underlying58 infoFv (by decide) (.slice Al t cl) t cs (.int .i16 id :: [.int .i8 1, .bool true, .int .i64 0, .float .f64 0, .slice none 0 0, .int .i8 0, .int .i8 0, .slice none 0 0, .slice none 0 0]) rfl (by rw [hsz6]; rfl) rfl (by simp [Value.oneCell']) ?HO ?hb (by omega) (by unfold maxLen; omega) ?_; (case HO => exact own_move (HDl.out ▸ HL.out.row) (fun b hb => HG6.out.block b (own_lt HL.out.row hb).2 (fun e => by have := own_lt HL.out.row hb; have := Option.some.inj e; omega))); (case hb => have := HG6.out.size; omega); intro v1 w4 ho hgr hor; have HNX := Aside0.mk (HL.out.step (Nat.le_add_right _ 1) hB9 hgl' (x := ⟨⟨1, decide ((1 : Int) = 1), 0, 0, [], 0, 0⟩, .nil, .nil⟩) (id := id) (lo := w2.heap.size + 2) (by omega) HX6.out HG6.out (fun g' e => by obtain rfl := Option.some.inj e; exact HR6.out) hgr (by rw [HDl.out]; exact ho) hor); have hV4 : Blk w4 w.heap.size _ _ := ⟨(HL.out.keeps hgl' HG6.out hgr (Nat.le_refl _) (by omega)).trans HVB.out.out⟩; have hF4 : Blk w4 w2.heap.size _ _ := ⟨(hgr.block _ (by rw [allocSize]; omega) (fun e => by have := (own_lt HL.out.row e.symm).2; omega)).trans ((Below.heap_alloc _ _ _ hfl).trans HF6.out.out)⟩; obtain ⟨Al2, cl2, rfl⟩ := ownSlice ho; have hn1 : w.heap.size ≠ w2.heap.size := (by omega); have hn2 : w2.heap.size ≠ w.heap.size := (by omega); have y8 := hV4.cell (j := 8) rfl; have yz := hV4.free 8; have yf := hF4.cell (j := 0) rfl; have HV4 := Aside0.mk hV4; clear ho hgr hor hV4 hF4))
            go_roundg (gk - 1)
            case measure => have := HK.out; omega
            case rel =>
              refine ⟨t + 1, room', o2, cl2, id, D.snoc _ id _ _, Al2, _, by omega, rfl, rfl, by omega, by omega, ⟨by rw [F.len_snoc, HDl.out]⟩, by omega, ⟨HRC.out.1⟩, ⟨HRC.out.2⟩, ⟨HNX.out.set hB9 (fun g' e => Option.some.inj e ▸ hgl) (Nat.le_refl _) (by omega) 8 _⟩, ⟨HV4.out.set 8 _⟩, ⟨by have := HK.out; omega⟩⟩
          | false =>
            obtain rfl : id = a := (k9 rfl).symm
            clear k8 k9
            go_wp2_with (first
              | (go_at_call 97; go_loud (with_reducible refine HM.out.mono ?_); rintro e w2 ⟨rfl, HW2⟩; have hB2 := keepBlk HVB.out HW2.grown (by omega); have HB2 := Aside0.mk hB2; have f8 : ∀ o1 o2, ((w2.alloc o1).alloc o2).cell? ⟨w.heap.size, 8, none⟩ = some (.slice Al t cl) := (fun o1 o2 => ((hB2.alloc o1).alloc o2).cell (j := 8) rfl); clear hB2)
              | (at_builtin; have hs2 := HW2.grown.size; have hs3 := HSW.out; have hgl' : ∀ g', some g = some g' → g' < w.heap.size := (fun g' e => Option.some.inj e ▸ hgl); obtain ⟨w6, hw6⟩ : ∃ W6, (w2.alloc (.cells #[.int .i16 id, .int .i8 1, .bool false] 132)).alloc (.cells #[.int .i8 1, .bool true, .int .i64 0, .float .f64 0, .slice none 0 0, .int .i8 0, .int .i8 0, .slice none 0 0, .slice none 0 0] 60) = W6 := ⟨_, rfl⟩; have HG6 : Aside0 (wr.grownBy w6 (some g)) := ⟨by rw [← hw6]; exact (HW2.grown.trans (grownAlloc0 _ _ _)).trans (grownAlloc0 _ _ _)⟩; have hsz6 : w6.heap.size = w2.heap.size + 2 := (by rw [← hw6, allocSize, allocSize]); have HF6 : Aside0 (Blk w6 w2.heap.size #[.int .i16 id, .int .i8 1, .bool false] 132) := ⟨by rw [← hw6]; exact (Blk.new w2 _ _).alloc _⟩; have HR6 : Aside0 (Blk w6 g #[p, .slice A n c, .int .i64 (o2 : Int)] 105) := ⟨by rw [← hw6]; exact ((HW2.rd.alloc _).alloc _).blk⟩; have HX6 : Aside0 (N.In flV w6 (PnO B0 (some g) (w2.heap.size + 2) w6.heap.size) ⟨⟨1, decide ((1 : Int) = 1), 0, 0, [], 0, 0⟩, .nil, .nil⟩ [.int .i8 1, .bool true, .int .i64 0, .float .f64 0, .slice none 0 0, .int .i8 0, .int .i8 0, .slice none 0 0, .slice none 0 0]) := ⟨⟨⟨.slice none 0 0, .slice none 0 0, .slice none 0 0, [], [], rfl, bytesAt_nil _ _, lies_nil _ _, rfl, lies_nil _ _, rfl⟩⟩⟩; rw [hw6]; clear hw6; have hfl := HF6.out.lt; refine appendCells (W := w6) (w.heap.size + 1) rfl (.tmp 241) (.tmp 246) 58 87 10 112 rfl Tryd.underlying58 infoFv (by decide) (.slice Al t cl) t cs (.int .i16 id :: [.int .i8 1, .bool true, .int .i64 0, .float .f64 0, .slice none 0 0, .int .i8 0, .int .i8 0, .slice none 0 0, .slice none 0 0]) rfl (by rw [hsz6]; rfl) rfl (by simp [Value.oneCell']) ?HO ?hb (by omega) (by unfold maxLen; omega) ?_; (case HO => exact own_move (HDl.out ▸ HL.out.row) (fun b hb => HG6.out.block b (own_lt HL.out.row hb).2 (fun e => by have := own_lt HL.out.row hb; have := Option.some.inj e; omega))); (case hb => have := HG6.out.size; omega); intro v1 w4 ho hgr hor; have HNX := Aside0.mk (HL.out.step (Nat.le_add_right _ 1) hB9 hgl' (x := ⟨⟨1, decide ((1 : Int) = 1), 0, 0, [], 0, 0⟩, .nil, .nil⟩) (id := id) (lo := w2.heap.size + 2) (by omega) HX6.out HG6.out (fun g' e => by obtain rfl := Option.some.inj e; exact HR6.out) hgr (by rw [HDl.out]; exact ho) hor); have hV4 : Blk w4 w.heap.size _ _ := ⟨(HL.out.keeps hgl' HG6.out hgr (Nat.le_refl _) (by omega)).trans HVB.out.out⟩; have hF4 : Blk w4 w2.heap.size _ _ := ⟨(hgr.block _ (by rw [allocSize]; omega) (fun e => by have := (own_lt HL.out.row e.symm).2; omega)).trans ((Below.heap_alloc _ _ _ hfl).trans HF6.out.out)⟩; obtain ⟨Al2, cl2, rfl⟩ := ownSlice ho; have hn1 : w.heap.size ≠ w2.heap.size := (by omega); have hn2 : w2.heap.size ≠ w.heap.size := (by omega); have y8 := hV4.cell (j := 8) rfl; have yz := hV4.free 8; have yf := hF4.cell (j := 0) rfl; have HV4 := Aside0.mk hV4; clear ho hgr hor hV4 hF4))
            go_roundg (gk - 1)
            case measure => have := HK.out; omega
            case rel =>
              refine ⟨t + 1, room', o2, cl2, id, D.snoc _ id _ _, Al2, _, by omega, rfl, rfl, by omega, by omega, ⟨by rw [F.len_snoc, HDl.out]⟩, by omega, ⟨HRC.out.1⟩, ⟨HRC.out.2⟩, ⟨HNX.out.set hB9 (fun g' e => Option.some.inj e ▸ hgl) (Nat.le_refl _) (by omega) 8 _⟩, ⟨HV4.out.set 8 _⟩, ⟨by have := HK.out; omega⟩⟩
        · subst hx
          cases dl with
          | true =>
            have hid2 := k8 rfl
            have qw : IntKind.i16.wrap (a + last) = id := by rw [wrap_i16]; omega
            clear k8 k9
            go_wp2_with (first
              | (go_at_call 97; go_loud (with_reducible refine HM.out.mono ?_); rintro e w2 ⟨rfl, HW2⟩; have hB2 := keepBlk HVB.out HW2.grown (by omega); have HB2 := Aside0.mk hB2; have f8 : ∀ o1 o2, ((w2.alloc o1).alloc o2).cell? ⟨w.heap.size, 8, none⟩ = some (.slice Al t cl) := (fun o1 o2 => ((hB2.alloc o1).alloc o2).cell (j := 8) rfl); clear hB2)
              | (at_builtin; have hs2 := HW2.grown.size; have hs3 := HSW.out; have hgl' : ∀ g', some g = some g' → g' < w.heap.size := (fun g' e => Option.some.inj e ▸ hgl); obtain ⟨w6, hw6⟩ : ∃ W6, (w2.alloc (.cells #[.int .i16 id, .int .i8 2, .bool true] 132)).alloc (.cells #[.int .i8 2, .bool false, .int .i64 0, .float .f64 0, .slice none 0 0, .int .i8 0, .int .i8 0, .slice none 0 0, .slice none 0 0] 60) = W6 := ⟨_, rfl⟩; have HG6 : Aside0 (wr.grownBy w6 (some g)) := ⟨by rw [← hw6]; exact (HW2.grown.trans (grownAlloc0 _ _ _)).trans (grownAlloc0 _ _ _)⟩; have hsz6 : w6.heap.size = w2.heap.size + 2 := (by rw [← hw6, allocSize, allocSize]); have HF6 : Aside0 (Blk w6 w2.heap.size #[.int .i16 id, .int .i8 2, .bool true] 132) := ⟨by rw [← hw6]; exact (Blk.new w2 _ _).alloc _⟩; have HR6 : Aside0 (Blk w6 g #[p, .slice A n c, .int .i64 (o2 : Int)] 105) := ⟨by rw [← hw6]; exact ((HW2.rd.alloc _).alloc _).blk⟩; have HX6 : Aside0 (N.In flV w6 (PnO B0 (some g) (w2.heap.size + 2) w6.heap.size) ⟨⟨2, decide ((2 : Int) = 1), 0, 0, [], 0, 0⟩, .nil, .nil⟩ [.int .i8 2, .bool false, .int .i64 0, .float .f64 0, .slice none 0 0, .int .i8 0, .int .i8 0, .slice none 0 0, .slice none 0 0]) := ⟨⟨⟨.slice none 0 0, .slice none 0 0, .slice none 0 0, [], [], rfl, bytesAt_nil _ _, lies_nil _ _, rfl, lies_nil _ _, rfl⟩⟩⟩; rw [hw6]; clear hw6; have hfl := HF6.out.lt; refine appendCells (W := w6) (w.heap.size + 1) rfl (.tmp 241) (.tmp 246) 58 87 10 112 rfl Tryd.underlying58 infoFv (by decide) (.slice Al t cl) t cs (.int .i16 id :: [.int .i8 2, .bool false, .int .i64 0, .float .f64 0, .slice none 0 0, .int .i8 0, .int .i8 0, .slice none 0 0, .slice none 0 0]) rfl (by rw [hsz6]; rfl) rfl (by simp [Value.oneCell']) ?HO ?hb (by omega) (by unfold maxLen; omega) ?_; (case HO => exact own_move (HDl.out ▸ HL.out.row) (fun b hb => HG6.out.block b (own_lt HL.out.row hb).2 (fun e => by have := own_lt HL.out.row hb; have := Option.some.inj e; omega))); (case hb => have := HG6.out.size; omega); intro v1 w4 ho hgr hor; have HNX := Aside0.mk (HL.out.step (Nat.le_add_right _ 1) hB9 hgl' (x := ⟨⟨2, decide ((2 : Int) = 1), 0, 0, [], 0, 0⟩, .nil, .nil⟩) (id := id) (lo := w2.heap.size + 2) (by omega) HX6.out HG6.out (fun g' e => by obtain rfl := Option.some.inj e; exact HR6.out) hgr (by rw [HDl.out]; exact ho) hor); have hV4 : Blk w4 w.heap.size _ _ := ⟨(HL.out.keeps hgl' HG6.out hgr (Nat.le_refl _) (by omega)).trans HVB.out.out⟩; have hF4 : Blk w4 w2.heap.size _ _ := ⟨(hgr.block _ (by rw [allocSize]; omega) (fun e => by have := (own_lt HL.out.row e.symm).2; omega)).trans ((Below.heap_alloc _ _ _ hfl).trans HF6.out.out)⟩; obtain ⟨Al2, cl2, rfl⟩ := ownSlice ho; have hn1 : w.heap.size ≠ w2.heap.size := (by omega); have hn2 : w2.heap.size ≠ w.heap.size := (by omega); have y8 := hV4.cell (j := 8) rfl; have yz := hV4.free 8; have yf := hF4.cell (j := 0) rfl; have HV4 := Aside0.mk hV4; clear ho hgr hor hV4 hF4))
            go_roundg (gk - 1)
            case measure => have := HK.out; omega
            case rel =>
              refine ⟨t + 1, room', o2, cl2, id, D.snoc _ id _ _, Al2, _, by omega, rfl, rfl, by omega, by omega, ⟨by rw [F.len_snoc, HDl.out]⟩, by omega, ⟨HRC.out.1⟩, ⟨HRC.out.2⟩, ⟨HNX.out.set hB9 (fun g' e => Option.some.inj e ▸ hgl) (Nat.le_refl _) (by omega) 8 _⟩, ⟨HV4.out.set 8 _⟩, ⟨by have := HK.out; omega⟩⟩
          | false =>
            obtain rfl : id = a := (k9 rfl).symm
            clear k8 k9
            go_wp2_with (first
              | (go_at_call 97; go_loud (with_reducible refine HM.out.mono ?_); rintro e w2 ⟨rfl, HW2⟩; have hB2 := keepBlk HVB.out HW2.grown (by omega); have HB2 := Aside0.mk hB2; have f8 : ∀ o1 o2, ((w2.alloc o1).alloc o2).cell? ⟨w.heap.size, 8, none⟩ = some (.slice Al t cl) := (fun o1 o2 => ((hB2.alloc o1).alloc o2).cell (j := 8) rfl); clear hB2)
              | (at_builtin; have hs2 := HW2.grown.size; have hs3 := HSW.out; have hgl' : ∀ g', some g = some g' → g' < w.heap.size := (fun g' e => Option.some.inj e ▸ hgl); obtain ⟨w6, hw6⟩ : ∃ W6, (w2.alloc (.cells #[.int .i16 id, .int .i8 2, .bool false] 132)).alloc (.cells #[.int .i8 2, .bool false, .int .i64 0, .float .f64 0, .slice none 0 0, .int .i8 0, .int .i8 0, .slice none 0 0, .slice none 0 0] 60) = W6 := ⟨_, rfl⟩; have HG6 : Aside0 (wr.grownBy w6 (some g)) := ⟨by rw [← hw6]; exact (HW2.grown.trans (grownAlloc0 _ _ _)).trans (grownAlloc0 _ _ _)⟩; have hsz6 : w6.heap.size = w2.heap.size + 2 := (by rw [← hw6, allocSize, allocSize]); have HF6 : Aside0 (Blk w6 w2.heap.size #[.int .i16 id, .int .i8 2, .bool false] 132) := ⟨by rw [← hw6]; exact (Blk.new w2 _ _).alloc _⟩; have HR6 : Aside0 (Blk w6 g #[p, .slice A n c, .int .i64 (o2 : Int)] 105) := ⟨by rw [← hw6]; exact ((HW2.rd.alloc _).alloc _).blk⟩; have HX6 : Aside0 (N.In flV w6 (PnO B0 (some g) (w2.heap.size + 2) w6.heap.size) ⟨⟨2, decide ((2 : Int) = 1), 0, 0, [], 0, 0⟩, .nil, .nil⟩ [.int .i8 2, .bool false, .int .i64 0, .float .f64 0, .slice none 0 0, .int .i8 0, .int .i8 0, .slice none 0 0, .slice none 0 0]) := ⟨⟨⟨.slice none 0 0, .slice none 0 0, .slice none 0 0, [], [], rfl, bytesAt_nil _ _, lies_nil _ _, rfl, lies_nil _ _, rfl⟩⟩⟩; rw [hw6]; clear hw6; have hfl := HF6.out.lt; refine appendCells (W := w6) (w.heap.size + 1) rfl (.tmp 241) (.tmp 246) 58 87 10 112 rfl Tryd.underlying58 infoFv (by decide) (.slice Al t cl) t cs (.int .i16 id :: [.int .i8 2, .bool false, .int .i64 0, .float .f64 0, .slice none 0 0, .int .i8 0, .int .i8 0, .slice none 0 0, .slice none 0 0]) rfl (by rw [hsz6]; rfl) rfl (by simp [Value.oneCell']) ?HO ?hb (by omega) (by unfold maxLen; omega) ?_; (case HO => exact own_move (HDl.out ▸ HL.out.row) (fun b hb => HG6.out.block b (own_lt HL.out.row hb).2 (fun e => by have := own_lt HL.out.row hb; have := Option.some.inj e; omega))); (case hb => have := HG6.out.size; omega); intro v1 w4 ho hgr hor; have HNX := Aside0.mk (HL.out.step (Nat.le_add_right _ 1) hB9 hgl' (x := ⟨⟨2, decide ((2 : Int) = 1), 0, 0, [], 0, 0⟩, .nil, .nil⟩) (id := id) (lo := w2.heap.size + 2) (by omega) HX6.out HG6.out (fun g' e => by obtain rfl := Option.some.inj e; exact HR6.out) hgr (by rw [HDl.out]; exact ho) hor); have hV4 : Blk w4 w.heap.size _ _ := ⟨(HL.out.keeps hgl' HG6.out hgr (Nat.le_refl _) (by omega)).trans HVB.out.out⟩; have hF4 : Blk w4 w2.heap.size _ _ := ⟨(hgr.block _ (by rw [allocSize]; omega) (fun e => by have := (own_lt HL.out.row e.symm).2; omega)).trans ((Below.heap_alloc _ _ _ hfl).trans HF6.out.out)⟩; obtain ⟨Al2, cl2, rfl⟩ := ownSlice ho; have hn1 : w.heap.size ≠ w2.heap.size := (by omega); have hn2 : w2.heap.size ≠ w.heap.size := (by omega); have y8 := hV4.cell (j := 8) rfl; have yz := hV4.free 8; have yf := hF4.cell (j := 0) rfl; have HV4 := Aside0.mk hV4; clear ho hgr hor hV4 hF4))
            go_roundg (gk - 1)
            case measure => have := HK.out; omega
            case rel =>
              refine ⟨t + 1, room', o2, cl2, id, D.snoc _ id _ _, Al2, _, by omega, rfl, rfl, by omega, by omega, ⟨by rw [F.len_snoc, HDl.out]⟩, by omega, ⟨HRC.out.1⟩, ⟨HRC.out.2⟩, ⟨HNX.out.set hB9 (fun g' e => Option.some.inj e ▸ hgl) (Nat.le_refl _) (by omega) 8 _⟩, ⟨HV4.out.set 8 _⟩, ⟨by have := HK.out; omega⟩⟩
      · have hfv : fvP (thP k) ty (bs.drop o2) ≠ .opn → fvP (thP k) ty (bs.drop o2) = thP k ty (bs.drop o2) ∧ 3 ≤ ty := by
          intro hno
          unfold fvP at hno ⊢
          rw [if_neg c12] at hno ⊢
          by_cases c3 : ty < 3 ∨ 12 < ty
          · rw [if_pos c3] at hno; exact absurd rfl hno
          · rw [if_neg c3]; exact ⟨rfl, by omega⟩
        have hfw : fvP (thP k) ty (bs.drop o2) ≠ .opn := by
          rcases hc2 with ⟨h, _⟩ | ⟨x, r', h, _⟩ <;> rw [h] <;> intro h' <;> cases h'
        obtain ⟨hfv, hty3⟩ := hfv hfw
        have q0 : (ty == 0) = false := by rw [beq_eq_false_iff_ne]; omega
        have q1 : (ty == 1) = false := by rw [beq_eq_false_iff_ne]; omega
        have q2 : (ty == 2) = false := by rw [beq_eq_false_iff_ne]; omega
        rw [hfv] at hc2
        rcases hc2 with ⟨hc3, hc4⟩ | ⟨x, r2, hx1, hx2, hx3⟩
        · have HRC : Aside0 (RL = .cut) := ⟨by rw [HRE.out, hc4]; rfl⟩
          have HZ := Aside0.mk fun (W : World) (hW : RdAt W g p A n c o2) (hCW : (Kd.int .u8).C W A n bs) (hEW : Eofs W g p1 p2) (hBW : B0 ≤ W.heap.size) => HH.out.cut ty ((dd : Int) + 1) o2 W hW hCW hEW hBW k2 (by omega) (by omega) hc3
          clear hc1 hc3 hc4 hWC hWE hM hfv hfw
          cases dl with
          | true =>
            have hid2 := k8 rfl
            have qw : IntKind.i16.wrap (a + last) = id := by rw [wrap_i16]; omega
            clear k8 k9
            go_wp2_with (first
              | (go_at_call 97; go_loud (with_reducible refine HM.out.mono ?_); rintro e w2 ⟨rfl, HW2⟩; have hB2 := keepBlk HVB.out HW2.grown (by omega); have HB2 := Aside0.mk hB2; obtain ⟨f0, f1, f2, f3, f4, f5, f6, f7, f8, ffz⟩ := nineA hB2; clear hB2)
              | (go_at_call 35; (with_reducible refine (HZ.out _ ((HW2.rd.alloc _).alloc _) (Kd.C_alloc (Kd.C_alloc (wentC HWC.out HW2) _) _) (((HWE.out.grown HW2.grown).alloc _).alloc _) (by rw [allocSize, allocSize]; have := HW2.grown.size; have := HSW.out; omega)).mono ?_); rintro e w5 HZ2; obtain ⟨cs2, q, ⟨a0, a1, a2, a3, A4, n4, k4, a5, a6, A7, n7, k7, A8, n8, k8', rfl⟩, hq, rfl⟩ := HZ2.out; obtain ⟨hV5, hF5, hX5, hn1, hn2, hn3⟩ := threeBlk HB2.out HZ2.grown hgl HW2.rd.lt; have HV5 := Aside0.mk hV5; have HX5 := Aside0.mk hX5; have HF5 := Aside0.mk hF5; obtain ⟨g0, g1, g2, g3, g4, g5, g6, g7, g8, gz⟩ := nine hV5; obtain ⟨h0, h1, h2, h3, h4, h5, h6, h7, h8, hz⟩ := nine hX5; have hf0 := hF5.cell (j := 0) rfl; have hf1 := hF5.cell (j := 1) rfl; have hf2 := hF5.cell (j := 2) rfl; clear hV5 hX5 hF5))
            have HB6 := far9 HV5.out hn2 (.int .i8 a0) (.bool a1) (.int .i64 a2) (.float .f64 a3) (.slice A4 n4 k4) (.int .i8 a5) (.int .i8 a6) (.slice A7 n7 k7) (.slice A8 n8 k8')
            refine bodyPost_ret (ret_cell_tmp rfl _ _ w.heap.size 60 #[_, _, _, _, _, _, _, _, _] (0, 0) _ rfl (nineSet HB6 _ _ _ _ _ _ _ _ _).out Tryd.underlying60 rfl (by kernel_rfl)) rfl ?_
            rw [HRC.out]
            have hs2 := HW2.grown.size
            have hs3 := HSW.out
            refine ⟨(fun y r h => nomatch h), fun _ => ⟨⟨_, q, ⟨_, _, _, _, _, _, _, _, _, _, _, _, _, _, _, rfl⟩, hq, rfl⟩, grownNine (grownNine ((((HWW.out.grown.trans HW2.grown).trans (grownAlloc0 _ _ _)).trans (grownAlloc0 _ _ _)).trans HZ2.grown) (by omega) _ _ _ _ _ _ _ _ _) (Nat.le_refl _) _ _ _ _ _ _ _ _ _, rdsNine (rdsNine ((((HRS.out.trans (rdsWent HWW.out.rd HW2)).trans (rdsAlloc0 _ _ _)).trans (rdsAlloc0 _ _ _)).trans HZ2.rds) (by omega) _ _ _ _ _ _ _ _ _) (by omega) _ _ _ _ _ _ _ _ _⟩⟩
          | false =>
            obtain rfl : id = a := (k9 rfl).symm
            clear k8 k9
            go_wp2_with (first
              | (go_at_call 97; go_loud (with_reducible refine HM.out.mono ?_); rintro e w2 ⟨rfl, HW2⟩; have hB2 := keepBlk HVB.out HW2.grown (by omega); have HB2 := Aside0.mk hB2; obtain ⟨f0, f1, f2, f3, f4, f5, f6, f7, f8, ffz⟩ := nineA hB2; clear hB2)
              | (go_at_call 35; (with_reducible refine (HZ.out _ ((HW2.rd.alloc _).alloc _) (Kd.C_alloc (Kd.C_alloc (wentC HWC.out HW2) _) _) (((HWE.out.grown HW2.grown).alloc _).alloc _) (by rw [allocSize, allocSize]; have := HW2.grown.size; have := HSW.out; omega)).mono ?_); rintro e w5 HZ2; obtain ⟨cs2, q, ⟨a0, a1, a2, a3, A4, n4, k4, a5, a6, A7, n7, k7, A8, n8, k8', rfl⟩, hq, rfl⟩ := HZ2.out; obtain ⟨hV5, hF5, hX5, hn1, hn2, hn3⟩ := threeBlk HB2.out HZ2.grown hgl HW2.rd.lt; have HV5 := Aside0.mk hV5; have HX5 := Aside0.mk hX5; have HF5 := Aside0.mk hF5; obtain ⟨g0, g1, g2, g3, g4, g5, g6, g7, g8, gz⟩ := nine hV5; obtain ⟨h0, h1, h2, h3, h4, h5, h6, h7, h8, hz⟩ := nine hX5; have hf0 := hF5.cell (j := 0) rfl; have hf1 := hF5.cell (j := 1) rfl; have hf2 := hF5.cell (j := 2) rfl; clear hV5 hX5 hF5))
            have HB6 := far9 HV5.out hn2 (.int .i8 a0) (.bool a1) (.int .i64 a2) (.float .f64 a3) (.slice A4 n4 k4) (.int .i8 a5) (.int .i8 a6) (.slice A7 n7 k7) (.slice A8 n8 k8')
            refine bodyPost_ret (ret_cell_tmp rfl _ _ w.heap.size 60 #[_, _, _, _, _, _, _, _, _] (0, 0) _ rfl (nineSet HB6 _ _ _ _ _ _ _ _ _).out Tryd.underlying60 rfl (by kernel_rfl)) rfl ?_
            rw [HRC.out]
            have hs2 := HW2.grown.size
            have hs3 := HSW.out
            refine ⟨(fun y r h => nomatch h), fun _ => ⟨⟨_, q, ⟨_, _, _, _, _, _, _, _, _, _, _, _, _, _, _, rfl⟩, hq, rfl⟩, grownNine (grownNine ((((HWW.out.grown.trans HW2.grown).trans (grownAlloc0 _ _ _)).trans (grownAlloc0 _ _ _)).trans HZ2.grown) (by omega) _ _ _ _ _ _ _ _ _) (Nat.le_refl _) _ _ _ _ _ _ _ _ _, rdsNine (rdsNine ((((HRS.out.trans (rdsWent HWW.out.rd HW2)).trans (rdsAlloc0 _ _ _)).trans (rdsAlloc0 _ _ _)).trans HZ2.rds) (by omega) _ _ _ _ _ _ _ _ _) (by omega) _ _ _ _ _ _ _ _ _⟩⟩
        · obtain ⟨o5, f1, f2, f3⟩ := good_off (good_th k ty) hx1 (by have := HLN.out; omega)
          have f2' : o5 ≤ n := by have := HLN.out; omega
          have HRC : Aside0 (fieldsP (thP k) room' id (bs.drop o5) ≠ .opn ∧ RL = (fieldsP (thP k) room' id (bs.drop o5)).mapR (D.snoc x.d id x.ls x.fs).app) := ⟨by rw [← f3]; exact ⟨hx2, by rw [HRE.out]; exact hx3 D⟩⟩
          have HZ := Aside0.mk fun (W : World) (hW : RdAt W g p A n c o2) (hCW : (Kd.int .u8).C W A n bs) (hEW : Eofs W g p1 p2) (hBW : B0 ≤ W.heap.size) => HH.out.ok ty ((dd : Int) + 1) o2 o5 x r2 W hW hCW hEW hBW k2 (by omega) (by omega) hx1 f3 f2'
          clear hc1 hx1 hx2 hx3 f1 f2 f3 hWC hWE hM hfv hfw
          cases dl with
          | true =>
            have hid2 := k8 rfl
            have qw : IntKind.i16.wrap (a + last) = id := by rw [wrap_i16]; omega
            clear k8 k9
            go_wp2_with (first
              | (go_at_call 97; go_loud (with_reducible refine HM.out.mono ?_); rintro e w2 ⟨rfl, HW2⟩; have hB2 := keepBlk HVB.out HW2.grown (by omega); have HB2 := Aside0.mk hB2; obtain ⟨f0, f1, f2, f3, f4, f5, f6, f7, f8, ffz⟩ := nineA hB2; clear hB2)
              | (go_at_call 35; (with_reducible refine (HZ.out _ ((HW2.rd.alloc _).alloc _) (Kd.C_alloc (Kd.C_alloc (wentC HWC.out HW2) _) _) (((HWE.out.grown HW2.grown).alloc _).alloc _) (by rw [allocSize, allocSize]; have := HW2.grown.size; have := HSW.out; omega)).mono ?_); rintro e w5 HZ2; obtain ⟨xcs, rfl, hxin⟩ := HZ2.out; have HXI := Aside0.mk hxin; obtain ⟨A4, n4, k4, A7, n7, k7, A8, n8, k8', hxe⟩ := openV hxin; have HXE := Aside0.mk hxe; rw [hxe]; clear hxe hxin; obtain ⟨hV5, hF5, hX5, hn1, hn2, hn3⟩ := threeBlk HB2.out HZ2.went.grown hgl HW2.rd.lt; have HV5 := Aside0.mk hV5; have HX5 := Aside0.mk hX5; have HF5 := Aside0.mk hF5; obtain ⟨g0, g1, g2, g3, g4, g5, g6, g7, g8, gz⟩ := nine hV5; obtain ⟨h0, h1, h2, h3, h4, h5, h6, h7, h8, hz⟩ := nine hX5; have hf0 := hF5.cell (j := 0) rfl; have hf1 := hF5.cell (j := 1) rfl; have hf2 := hF5.cell (j := 2) rfl; clear hV5 hX5 hF5; have HF6 := Aside0.mk (far9 HF5.out (b0 := w2.heap.size + 1) (by omega) (.int .i8 x.d.ty) (.bool x.d.bo) (.int .i64 x.d.n) (.float .f64 x.d.bits) (.slice A4 n4 k4) (.int .i8 x.d.ky) (.int .i8 x.d.el) (.slice A7 n7 k7) (.slice A8 n8 k8')); have HX6 := Aside0.mk (inNine (by have := HXI.out; rw [allocSize, allocSize] at this; exact this) (b0 := w2.heap.size + 1) (by have := HW2.grown.size; have := HSW.out; omega) (by omega) (.int .i8 x.d.ty) (.bool x.d.bo) (.int .i64 x.d.n) (.float .f64 x.d.bits) (.slice A4 n4 k4) (.int .i8 x.d.ky) (.int .i8 x.d.el) (.slice A7 n7 k7) (.slice A8 n8 k8')); have HR6 := Aside0.mk (far9 HZ2.went.rd.blk (b0 := w2.heap.size + 1) (by have := HW2.rd.lt; omega) (.int .i8 x.d.ty) (.bool x.d.bo) (.int .i64 x.d.n) (.float .f64 x.d.bits) (.slice A4 n4 k4) (.int .i8 x.d.ky) (.int .i8 x.d.el) (.slice A7 n7 k7) (.slice A8 n8 k8')))
              | (at_builtin; have hs2 := HW2.grown.size; have hs3 := HSW.out; have hgl' : ∀ g', some g = some g' → g' < w.heap.size := (fun g' e => Option.some.inj e ▸ hgl); have HG6 := Aside0.mk (grownNine (((HW2.grown.trans (grownAlloc0 _ _ _)).trans (grownAlloc0 _ _ _)).trans HZ2.went.grown) (show wr.heap.size ≤ w2.heap.size + 1 by omega) (.int .i8 x.d.ty) (.bool x.d.bo) (.int .i64 x.d.n) (.float .f64 x.d.bits) (.slice A4 n4 k4) (.int .i8 x.d.ky) (.int .i8 x.d.el) (.slice A7 n7 k7) (.slice A8 n8 k8')); have hsz6 := sizeNine w5 (w2.heap.size + 1) (.int .i8 x.d.ty) (.bool x.d.bo) (.int .i64 x.d.n) (.float .f64 x.d.bits) (.slice A4 n4 k4) (.int .i8 x.d.ky) (.int .i8 x.d.el) (.slice A7 n7 k7) (.slice A8 n8 k8'); obtain ⟨w6, hw6⟩ : ∃ W6, (((((((((w5.setCell ⟨w2.heap.size + 1, 0, none⟩ (.int .i8 x.d.ty)).setCell ⟨w2.heap.size + 1, 1, none⟩ (.bool x.d.bo)).setCell ⟨w2.heap.size + 1, 2, none⟩ (.int .i64 x.d.n)).setCell ⟨w2.heap.size + 1, 3, none⟩ (.float .f64 x.d.bits)).setCell ⟨w2.heap.size + 1, 4, none⟩ (.slice A4 n4 k4)).setCell ⟨w2.heap.size + 1, 5, none⟩ (.int .i8 x.d.ky)).setCell ⟨w2.heap.size + 1, 6, none⟩ (.int .i8 x.d.el)).setCell ⟨w2.heap.size + 1, 7, none⟩ (.slice A7 n7 k7)).setCell ⟨w2.heap.size + 1, 8, none⟩ (.slice A8 n8 k8')) = W6 := ⟨_, rfl⟩; rw [hw6] at HG6 HX6 HR6 HF6 hsz6; rw [hw6]; clear hw6; have hfl := HF6.out.lt; refine appendCells (W := w6) (w.heap.size + 1) rfl (.tmp 241) (.tmp 246) 58 87 10 112 rfl Tryd.underlying58 infoFv (by decide) (.slice Al t cl) t cs (.int .i16 id :: [.int .i8 x.d.ty, .bool x.d.bo, .int .i64 x.d.n, .float .f64 x.d.bits, .slice A4 n4 k4, .int .i8 x.d.ky, .int .i8 x.d.el, .slice A7 n7 k7, .slice A8 n8 k8']) rfl (by rw [hsz6]; rfl) rfl (by simp [Value.oneCell']) ?HO ?hb (by omega) (by unfold maxLen; omega) ?_; (case HO => exact own_move (HDl.out ▸ HL.out.row) (fun b hb => HG6.out.block b (own_lt HL.out.row hb).2 (fun e => by have := own_lt HL.out.row hb; have := Option.some.inj e; omega))); (case hb => have := HG6.out.size; omega); intro v1 w4 ho hgr hor; have HNX := Aside0.mk (HL.out.step (Nat.le_add_right _ 1) hB9 hgl' (x := x) (id := id) (lo := w2.heap.size + 2) (by omega) HX6.out HG6.out (fun g' e => by obtain rfl := Option.some.inj e; exact HR6.out) hgr (by rw [HDl.out, HXE.out]; exact ho) hor); have hV4 : Blk w4 w.heap.size _ _ := ⟨(HL.out.keeps hgl' HG6.out hgr (Nat.le_refl _) (by omega)).trans HVB.out.out⟩; have hF4 : Blk w4 w2.heap.size _ _ := ⟨(hgr.block _ (by rw [allocSize]; omega) (fun e => by have := (own_lt HL.out.row e.symm).2; omega)).trans ((Below.heap_alloc _ _ _ hfl).trans HF6.out.out)⟩; obtain ⟨Al2, cl2, rfl⟩ := ownSlice ho; have y8 := hV4.cell (j := 8) rfl; have yz := hV4.free 8; have yf := hF4.cell (j := 0) rfl; have HV4 := Aside0.mk hV4; clear ho hgr hor hV4 hF4))
            go_roundg (gk - 1)
            case measure => have := HK.out; omega
            case rel =>
              refine ⟨t + 1, room', o5, cl2, id, D.snoc x.d id x.ls x.fs, Al2, _, by omega, rfl, rfl, by omega, by omega, ⟨by rw [F.len_snoc, HDl.out]⟩, by omega, ⟨HRC.out.1⟩, ⟨HRC.out.2⟩, ⟨HNX.out.set hB9 (fun g' e => Option.some.inj e ▸ hgl) (Nat.le_refl _) (by omega) 8 _⟩, ⟨HV4.out.set 8 _⟩, ⟨by have := HK.out; omega⟩⟩
          | false =>
            obtain rfl : id = a := (k9 rfl).symm
            clear k8 k9
            go_wp2_with (first
              | (go_at_call 97; go_loud (with_reducible refine HM.out.mono ?_); rintro e w2 ⟨rfl, HW2⟩; have hB2 := keepBlk HVB.out HW2.grown (by omega); have HB2 := Aside0.mk hB2; obtain ⟨f0, f1, f2, f3, f4, f5, f6, f7, f8, ffz⟩ := nineA hB2; clear hB2)
              | (go_at_call 35; (with_reducible refine (HZ.out _ ((HW2.rd.alloc _).alloc _) (Kd.C_alloc (Kd.C_alloc (wentC HWC.out HW2) _) _) (((HWE.out.grown HW2.grown).alloc _).alloc _) (by rw [allocSize, allocSize]; have := HW2.grown.size; have := HSW.out; omega)).mono ?_); rintro e w5 HZ2; obtain ⟨xcs, rfl, hxin⟩ := HZ2.out; have HXI := Aside0.mk hxin; obtain ⟨A4, n4, k4, A7, n7, k7, A8, n8, k8', hxe⟩ := openV hxin; have HXE := Aside0.mk hxe; rw [hxe]; clear hxe hxin; obtain ⟨hV5, hF5, hX5, hn1, hn2, hn3⟩ := threeBlk HB2.out HZ2.went.grown hgl HW2.rd.lt; have HV5 := Aside0.mk hV5; have HX5 := Aside0.mk hX5; have HF5 := Aside0.mk hF5; obtain ⟨g0, g1, g2, g3, g4, g5, g6, g7, g8, gz⟩ := nine hV5; obtain ⟨h0, h1, h2, h3, h4, h5, h6, h7, h8, hz⟩ := nine hX5; have hf0 := hF5.cell (j := 0) rfl; have hf1 := hF5.cell (j := 1) rfl; have hf2 := hF5.cell (j := 2) rfl; clear hV5 hX5 hF5; have HF6 := Aside0.mk (far9 HF5.out (b0 := w2.heap.size + 1) (by omega) (.int .i8 x.d.ty) (.bool x.d.bo) (.int .i64 x.d.n) (.float .f64 x.d.bits) (.slice A4 n4 k4) (.int .i8 x.d.ky) (.int .i8 x.d.el) (.slice A7 n7 k7) (.slice A8 n8 k8')); have HX6 := Aside0.mk (inNine (by have := HXI.out; rw [allocSize, allocSize] at this; exact this) (b0 := w2.heap.size + 1) (by have := HW2.grown.size; have := HSW.out; omega) (by omega) (.int .i8 x.d.ty) (.bool x.d.bo) (.int .i64 x.d.n) (.float .f64 x.d.bits) (.slice A4 n4 k4) (.int .i8 x.d.ky) (.int .i8 x.d.el) (.slice A7 n7 k7) (.slice A8 n8 k8')); have HR6 := Aside0.mk (far9 HZ2.went.rd.blk (b0 := w2.heap.size + 1) (by have := HW2.rd.lt; omega) (.int .i8 x.d.ty) (.bool x.d.bo) (.int .i64 x.d.n) (.float .f64 x.d.bits) (.slice A4 n4 k4) (.int .i8 x.d.ky) (.int .i8 x.d.el) (.slice A7 n7 k7) (.slice A8 n8 k8')))
              | (at_builtin; have hs2 := HW2.grown.size; have hs3 := HSW.out; have hgl' : ∀ g', some g = some g' → g' < w.heap.size := (fun g' e => Option.some.inj e ▸ hgl); have HG6 := Aside0.mk (grownNine (((HW2.grown.trans (grownAlloc0 _ _ _)).trans (grownAlloc0 _ _ _)).trans HZ2.went.grown) (show wr.heap.size ≤ w2.heap.size + 1 by omega) (.int .i8 x.d.ty) (.bool x.d.bo) (.int .i64 x.d.n) (.float .f64 x.d.bits) (.slice A4 n4 k4) (.int .i8 x.d.ky) (.int .i8 x.d.el) (.slice A7 n7 k7) (.slice A8 n8 k8')); have hsz6 := sizeNine w5 (w2.heap.size + 1) (.int .i8 x.d.ty) (.bool x.d.bo) (.int .i64 x.d.n) (.float .f64 x.d.bits) (.slice A4 n4 k4) (.int .i8 x.d.ky) (.int .i8 x.d.el) (.slice A7 n7 k7) (.slice A8 n8 k8'); obtain ⟨w6, hw6⟩ : ∃ W6, (((((((((w5.setCell ⟨w2.heap.size + 1, 0, none⟩ (.int .i8 x.d.ty)).setCell ⟨w2.heap.size + 1, 1, none⟩ (.bool x.d.bo)).setCell ⟨w2.heap.size + 1, 2, none⟩ (.int .i64 x.d.n)).setCell ⟨w2.heap.size + 1, 3, none⟩ (.float .f64 x.d.bits)).setCell ⟨w2.heap.size + 1, 4, none⟩ (.slice A4 n4 k4)).setCell ⟨w2.heap.size + 1, 5, none⟩ (.int .i8 x.d.ky)).setCell ⟨w2.heap.size + 1, 6, none⟩ (.int .i8 x.d.el)).setCell ⟨w2.heap.size + 1, 7, none⟩ (.slice A7 n7 k7)).setCell ⟨w2.heap.size + 1, 8, none⟩ (.slice A8 n8 k8')) = W6 := ⟨_, rfl⟩; rw [hw6] at HG6 HX6 HR6 HF6 hsz6; rw [hw6]; clear hw6; have hfl := HF6.out.lt; refine appendCells (W := w6) (w.heap.size + 1) rfl (.tmp 241) (.tmp 246) 58 87 10 112 rfl Tryd.underlying58 infoFv (by decide) (.slice Al t cl) t cs (.int .i16 id :: [.int .i8 x.d.ty, .bool x.d.bo, .int .i64 x.d.n, .float .f64 x.d.bits, .slice A4 n4 k4, .int .i8 x.d.ky, .int .i8 x.d.el, .slice A7 n7 k7, .slice A8 n8 k8']) rfl (by rw [hsz6]; rfl) rfl (by simp [Value.oneCell']) ?HO ?hb (by omega) (by unfold maxLen; omega) ?_; (case HO => exact own_move (HDl.out ▸ HL.out.row) (fun b hb => HG6.out.block b (own_lt HL.out.row hb).2 (fun e => by have := own_lt HL.out.row hb; have := Option.some.inj e; omega))); (case hb => have := HG6.out.size; omega); intro v1 w4 ho hgr hor; have HNX := Aside0.mk (HL.out.step (Nat.le_add_right _ 1) hB9 hgl' (x := x) (id := id) (lo := w2.heap.size + 2) (by omega) HX6.out HG6.out (fun g' e => by obtain rfl := Option.some.inj e; exact HR6.out) hgr (by rw [HDl.out, HXE.out]; exact ho) hor); have hV4 : Blk w4 w.heap.size _ _ := ⟨(HL.out.keeps hgl' HG6.out hgr (Nat.le_refl _) (by omega)).trans HVB.out.out⟩; have hF4 : Blk w4 w2.heap.size _ _ := ⟨(hgr.block _ (by rw [allocSize]; omega) (fun e => by have := (own_lt HL.out.row e.symm).2; omega)).trans ((Below.heap_alloc _ _ _ hfl).trans HF6.out.out)⟩; obtain ⟨Al2, cl2, rfl⟩ := ownSlice ho; have y8 := hV4.cell (j := 8) rfl; have yz := hV4.free 8; have yf := hF4.cell (j := 0) rfl; have HV4 := Aside0.mk hV4; clear ho hgr hor hV4 hF4))
            go_roundg (gk - 1)
            case measure => have := HK.out; omega
            case rel =>
              refine ⟨t + 1, room', o5, cl2, id, D.snoc x.d id x.ls x.fs, Al2, _, by omega, rfl, rfl, by omega, by omega, ⟨by rw [F.len_snoc, HDl.out]⟩, by omega, ⟨HRC.out.1⟩, ⟨HRC.out.2⟩, ⟨HNX.out.set hB9 (fun g' e => Option.some.inj e ▸ hgl) (Nat.le_refl _) (by omega) 8 _⟩, ⟨HV4.out.set 8 _⟩, ⟨by have := HK.out; omega⟩⟩
end Go.Proofs.YtcboegodjlfmnaaDoor.Tzs
