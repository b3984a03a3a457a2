import Derived.Test.YtcboegodjlfmnaaDoorSlTwa
namespace Go.Proofs.YtcboegodjlfmnaaDoor.Twb
open Go.Proofs.YtcboegodjlfmnaaDoor.Twa Go.Proofs.YtcboegodjlfmnaaDoor.Tit Go.Proofs.YtcboegodjlfmnaaDoor.Tsd Go.Proofs.YtcboegodjlfmnaaDoor.Ton Go.Proofs.YtcboegodjlfmnaaDoor.Tpw Go.Proofs.YtcboegodjlfmnaaDoor.Tap Go.Proofs.YtcboegodjlfmnaaDoor.Tzm Go.Proofs.YtcboegodjlfmnaaDoor.Tzl Go.Proofs.YtcboegodjlfmnaaDoor.Trh Go.Proofs.YtcboegodjlfmnaaDoor.Trn Go.Proofs.YtcboegodjlfmnaaDoor.Trm Go.Proofs.YtcboegodjlfmnaaDoor.Tuv Go.Proofs.YtcboegodjlfmnaaDoor.Tpa Go.Proofs.YtcboegodjlfmnaaDoor.Duv Go.Proofs.YtcboegodjlfmnaaDoor.Dpu Go.Proofs.YtcboegodjlfmnaaDoor.Pak Go.Proofs.YtcboegodjlfmnaaDoor.Buf Go.Proofs.YtcboegodjlfmnaaDoor.Fit Go.Proofs.YtcboegodjlfmnaaDoor.Bit Go.Proofs.YtcboegodjlfmnaaDoor.Wrd Go.Proofs.YtcboegodjlfmnaaDoor.Spl Go.Proofs.YtcboegodjlfmnaaDoor.Str Go.Proofs.YtcboegodjlfmnaaDoor.Flt Go.Proofs.YtcboegodjlfmnaaDoor.Owe Go.Proofs.YtcboegodjlfmnaaDoor.Num Go.Proofs.YtcboegodjlfmnaaDoor.Le Go.Proofs.YtcboegodjlfmnaaDoor.Lst Go.Proofs.YtcboegodjlfmnaaDoor.Aid Go.RowKit Go.Proofs.YtcboegodjlfmnaaDoorW.PrintWords Go.Proofs.YtcboegodjlfmnaaDoorW.PrintLast Go.Proofs.YtcboegodjlfmnaaDoorW.PrintMore Go.Proofs.YtcboegodjlfmnaaDoor.Tpv Go.Proofs.YtcboegodjlfmnaaDoor.Tzz
set_option linter.unusedVariables false
set_option linter.unusedSimpArgs false
theorem blkGrown {w w1 : World} {g t : Nat} {cs : Array Value} {v : Value} (h : Blk w g cs t) (hg : w.grownBy w1 v.ownBlock) (hne : v.ownBlock = none ∨ v.ownBlock ≠ some g) : Blk w1 g cs t :=
  ⟨(hg.block g h.lt (by rcases hne with e | e; rw [e]; exact fun h => (nomatch h); exact fun h => e h.symm)).trans h.out⟩
set_option maxHeartbeats 8000000 in
set_option maxRecDepth 100000 in
theorem by_3 (long : Bool) (n : Int) (A1 : Option Addr) (c1 : Nat) (A2 : Option Addr) (c2 : Nat) (A3 : Option Addr) (c3 : Nat) (w : World) :
    Calls Tryd.prog 12 #[.agg #[.int .i64 3, .bool false, .int .i64 n, .int .u64 0, .slice A1 0 c1, .int .i64 0, .int .i64 0, .slice A2 0 c2, .slice A3 0 c3], .bool long] w fun e w' => WB w w' ([n % 256]) e := by
  obtain ⟨x, hx⟩ : ∃ x, n % 256 = x := ⟨_, rfl⟩
  have hu : IntKind.u8.wrap n = x := by rw [IntKind.wrap_u8]; exact hx
  rw [hx]
  have HB : Aside0 (Below w.heap.size w (w.alloc (.cells #[.int .i64 3, .bool false, .int .i64 n, .int .u64 0, .slice A1 0 c1, .int .i64 0, .int .i64 0, .slice A2 0 c2, .slice A3 0 c3] 27))) := ⟨(Below.refl _ _).alloc (Nat.le_refl _) _⟩
  have HV := Aside0.mk (Blk.new w #[.int .i64 3, .bool false, .int .i64 n, .int .u64 0, .slice A1 0 c1, .int .i64 0, .int .i64 0, .slice A2 0 c2, .slice A3 0 c3] 27)
  go_enter Tryd.func12, Tryd.ntmps12
  go_upto_region 1 with (fail)
  generalize hW : World.alloc _ _ = W at HB HV ⊢
  clear hW
  obtain ⟨q0, q1, q2, q3, q4, q5, q6, q7, q8, qz⟩ := nine HV.out
  go_wp2_with (fail)
  go_ret
  exact ⟨⟨_, rfl, own_byte _ _ _ HB.out.size⟩, HB.out.alloc HB.out.size _⟩
set_option maxHeartbeats 8000000 in
set_option maxRecDepth 100000 in
theorem by_4 (long : Bool) (n : Int) (hn : i64B n) (A1 : Option Addr) (c1 : Nat) (A2 : Option Addr) (c2 : Nat) (A3 : Option Addr) (c3 : Nat) (w : World) :
    Calls Tryd.prog 12 #[.agg #[.int .i64 4, .bool false, .int .i64 n, .int .u64 0, .slice A1 0 c1, .int .i64 0, .int .i64 0, .slice A2 0 c2, .slice A3 0 c3], .bool long] w fun e w' => WB w w' (varL (zz n)) e := by
  have HZ := Aside0.mk fun W1 => zigzag_calls n hn.1 (by have := hn.2; omega) W1
  have HVA := Aside0.mk fun W1 => varint_calls (zz n) W1 (zz_lt n hn)
  obtain ⟨Z, hZ⟩ : ∃ Z, zz n = Z := ⟨_, rfl⟩
  rw [hZ] at HZ HVA ⊢
  clear hZ hn
  have HB : Aside0 (Below w.heap.size w (w.alloc (.cells #[.int .i64 4, .bool false, .int .i64 n, .int .u64 0, .slice A1 0 c1, .int .i64 0, .int .i64 0, .slice A2 0 c2, .slice A3 0 c3] 27))) := ⟨(Below.refl _ _).alloc (Nat.le_refl _) _⟩
  have HV := Aside0.mk (Blk.new w #[.int .i64 4, .bool false, .int .i64 n, .int .u64 0, .slice A1 0 c1, .int .i64 0, .int .i64 0, .slice A2 0 c2, .slice A3 0 c3] 27)
  go_enter Tryd.func12, Tryd.ntmps12
  go_upto_region 1 with (fail)
  generalize hW : World.alloc _ _ = W at HB HV ⊢
  clear hW
  obtain ⟨q0, q1, q2, q3, q4, q5, q6, q7, q8, qz⟩ := nine HV.out
  go_wp2_with (first
    | (go_at_call 23; (with_reducible refine (HZ.out _).mono ?_); rintro e w2 ⟨rfl, rfl⟩)
    | (go_at_call 22; (with_reducible refine (HVA.out _).mono ?_); rintro e w2 ⟨v2, rfl, ho, hb⟩; have HO2 := Aside0.mk ho; have HB2 := Aside0.mk hb; clear ho hb))
  go_ret
  exact ⟨⟨_, rfl, Own.lower HO2.out HB.out.size⟩, HB.out.trans (HB2.out.mono HB.out.size)⟩
set_option maxHeartbeats 8000000 in
set_option maxRecDepth 100000 in
theorem by_5 (long : Bool) (n : Int) (hn : i64B n) (A1 : Option Addr) (c1 : Nat) (A2 : Option Addr) (c2 : Nat) (A3 : Option Addr) (c3 : Nat) (w : World) :
    Calls Tryd.prog 12 #[.agg #[.int .i64 5, .bool false, .int .i64 n, .int .u64 0, .slice A1 0 c1, .int .i64 0, .int .i64 0, .slice A2 0 c2, .slice A3 0 c3], .bool long] w fun e w' => WB w w' (varL (zz n)) e := by
  have HZ := Aside0.mk fun W1 => zigzag_calls n hn.1 (by have := hn.2; omega) W1
  have HVA := Aside0.mk fun W1 => varint_calls (zz n) W1 (zz_lt n hn)
  obtain ⟨Z, hZ⟩ : ∃ Z, zz n = Z := ⟨_, rfl⟩
  rw [hZ] at HZ HVA ⊢
  clear hZ hn
  have HB : Aside0 (Below w.heap.size w (w.alloc (.cells #[.int .i64 5, .bool false, .int .i64 n, .int .u64 0, .slice A1 0 c1, .int .i64 0, .int .i64 0, .slice A2 0 c2, .slice A3 0 c3] 27))) := ⟨(Below.refl _ _).alloc (Nat.le_refl _) _⟩
  have HV := Aside0.mk (Blk.new w #[.int .i64 5, .bool false, .int .i64 n, .int .u64 0, .slice A1 0 c1, .int .i64 0, .int .i64 0, .slice A2 0 c2, .slice A3 0 c3] 27)
  go_enter Tryd.func12, Tryd.ntmps12
  go_upto_region 1 with (fail)
  generalize hW : World.alloc _ _ = W at HB HV ⊢
  clear hW
  obtain ⟨q0, q1, q2, q3, q4, q5, q6, q7, q8, qz⟩ := nine HV.out
  go_wp2_with (first
    | (go_at_call 23; (with_reducible refine (HZ.out _).mono ?_); rintro e w2 ⟨rfl, rfl⟩)
    | (go_at_call 22; (with_reducible refine (HVA.out _).mono ?_); rintro e w2 ⟨v2, rfl, ho, hb⟩; have HO2 := Aside0.mk ho; have HB2 := Aside0.mk hb; clear ho hb))
  go_ret
  exact ⟨⟨_, rfl, Own.lower HO2.out HB.out.size⟩, HB.out.trans (HB2.out.mono HB.out.size)⟩
set_option maxHeartbeats 8000000 in
set_option maxRecDepth 100000 in
theorem by_6 (long : Bool) (n : Int) (hn : i64B n) (A1 : Option Addr) (c1 : Nat) (A2 : Option Addr) (c2 : Nat) (A3 : Option Addr) (c3 : Nat) (w : World) :
    Calls Tryd.prog 12 #[.agg #[.int .i64 6, .bool false, .int .i64 n, .int .u64 0, .slice A1 0 c1, .int .i64 0, .int .i64 0, .slice A2 0 c2, .slice A3 0 c3], .bool long] w fun e w' => WB w w' (varL (zz n)) e := by
  have HZ := Aside0.mk fun W1 => zigzag_calls n hn.1 (by have := hn.2; omega) W1
  have HVA := Aside0.mk fun W1 => varint_calls (zz n) W1 (zz_lt n hn)
  obtain ⟨Z, hZ⟩ : ∃ Z, zz n = Z := ⟨_, rfl⟩
  rw [hZ] at HZ HVA ⊢
  clear hZ hn
  have HB : Aside0 (Below w.heap.size w (w.alloc (.cells #[.int .i64 6, .bool false, .int .i64 n, .int .u64 0, .slice A1 0 c1, .int .i64 0, .int .i64 0, .slice A2 0 c2, .slice A3 0 c3] 27))) := ⟨(Below.refl _ _).alloc (Nat.le_refl _) _⟩
  have HV := Aside0.mk (Blk.new w #[.int .i64 6, .bool false, .int .i64 n, .int .u64 0, .slice A1 0 c1, .int .i64 0, .int .i64 0, .slice A2 0 c2, .slice A3 0 c3] 27)
  go_enter Tryd.func12, Tryd.ntmps12
  go_upto_region 1 with (fail)
  generalize hW : World.alloc _ _ = W at HB HV ⊢
  clear hW
  obtain ⟨q0, q1, q2, q3, q4, q5, q6, q7, q8, qz⟩ := nine HV.out
  go_wp2_with (first
    | (go_at_call 23; (with_reducible refine (HZ.out _).mono ?_); rintro e w2 ⟨rfl, rfl⟩)
    | (go_at_call 22; (with_reducible refine (HVA.out _).mono ?_); rintro e w2 ⟨v2, rfl, ho, hb⟩; have HO2 := Aside0.mk ho; have HB2 := Aside0.mk hb; clear ho hb))
  go_ret
  exact ⟨⟨_, rfl, Own.lower HO2.out HB.out.size⟩, HB.out.trans (HB2.out.mono HB.out.size)⟩
set_option maxHeartbeats 8000000 in
set_option maxRecDepth 100000 in
theorem by_7 (long : Bool) (bits : Nat) (hx : bits < 18446744073709551616) (A1 : Option Addr) (c1 : Nat) (A2 : Option Addr) (c2 : Nat) (A3 : Option Addr) (c3 : Nat) (w : World) :
    Calls Tryd.prog 12 #[.agg #[.int .i64 7, .bool false, .int .i64 0, .int .u64 (bits : Int), .slice A1 0 c1, .int .i64 0, .int .i64 0, .slice A2 0 c2, .slice A3 0 c3], .bool long] w fun e w' => WB w w' (lowL 8 (bits : Int)) e := by
  have HLO := Aside0.mk fun W1 => low_calls 8 (bits : Int) (by omega) ⟨by omega, by omega⟩ W1
  rw [show ((8 : Nat) : Int) = 8 from rfl] at HLO
  have HB : Aside0 (Below w.heap.size w (w.alloc (.cells #[.int .i64 7, .bool false, .int .i64 0, .int .u64 (bits : Int), .slice A1 0 c1, .int .i64 0, .int .i64 0, .slice A2 0 c2, .slice A3 0 c3] 27))) := ⟨(Below.refl _ _).alloc (Nat.le_refl _) _⟩
  have HV := Aside0.mk (Blk.new w #[.int .i64 7, .bool false, .int .i64 0, .int .u64 (bits : Int), .slice A1 0 c1, .int .i64 0, .int .i64 0, .slice A2 0 c2, .slice A3 0 c3] 27)
  go_enter Tryd.func12, Tryd.ntmps12
  go_upto_region 1 with (fail)
  generalize hW : World.alloc _ _ = W at HB HV ⊢
  clear hW
  obtain ⟨q0, q1, q2, q3, q4, q5, q6, q7, q8, qz⟩ := nine HV.out
  go_wp2_with (first
    | (go_at_call 24; (with_reducible refine (HLO.out _).mono ?_); rintro e w2 ⟨v2, rfl, ho, hb⟩; have HO2 := Aside0.mk ho; have HB2 := Aside0.mk hb; clear ho hb))
  go_ret
  exact ⟨⟨_, rfl, Own.lower HO2.out HB.out.size⟩, HB.out.trans (HB2.out.mono HB.out.size)⟩
set_option maxHeartbeats 8000000 in
set_option maxRecDepth 100000 in
theorem by_8 (long : Bool) (m : Nat) (bs : List Int) (hm : bs.length = m) (hm9 : m ≤ 10000) (A1 : Option Addr) (c1 : Nat) (A2 : Option Addr) (c2 : Nat) (A3 : Option Addr) (c3 : Nat) (w : World) (hC : (Kd.int .u8).C w A1 m bs) :
    Calls Tryd.prog 12 #[.agg #[.int .i64 8, .bool false, .int .i64 0, .int .u64 0, .slice A1 m c1, .int .i64 0, .int .i64 0, .slice A2 0 c2, .slice A3 0 c3], .bool long] w fun e w' => WB w w' (varL m ++ bs) e := by
  have HVA := Aside0.mk fun W1 => varint_calls m W1 (by omega)
  have hw2 : IntKind.u64.wrap (m : Int) = (m : Int) := IntWalk.u64_in _ (by omega)
  obtain ⟨L, hL⟩ : ∃ L, (varL m).length = L := ⟨_, rfl⟩
  have hL5 := varL_len5 m (by omega)
  have HL := Aside0.mk hL
  rw [hL] at hL5
  have HC := Aside0.mk hC
  have HM := Aside0.mk hm
  clear hL hC hm
  have HB : Aside0 (Below w.heap.size w (w.alloc (.cells #[.int .i64 8, .bool false, .int .i64 0, .int .u64 0, .slice A1 m c1, .int .i64 0, .int .i64 0, .slice A2 0 c2, .slice A3 0 c3] 27))) := ⟨(Below.refl _ _).alloc (Nat.le_refl _) _⟩
  have HV := Aside0.mk (Blk.new w #[.int .i64 8, .bool false, .int .i64 0, .int .u64 0, .slice A1 m c1, .int .i64 0, .int .i64 0, .slice A2 0 c2, .slice A3 0 c3] 27)
  go_enter Tryd.func12, Tryd.ntmps12
  go_upto_region 1 with (fail)
  generalize hW : World.alloc _ _ = W at HB HV ⊢
  clear hW
  obtain ⟨q0, q1, q2, q3, q4, q5, q6, q7, q8, qz⟩ := nine HV.out
  have HC1 := Aside0.mk (Kd.C_below HC.out HB.out)
  have HBd : Aside0 (Below W.heap.size W W.drew) := ⟨(Below.refl _ _).drew⟩
  have HXA : Aside0 (∀ W1, Below W.heap.size W W1 → W1.cell? ⟨w.heap.size, 4, none⟩ = some (.slice A1 m c1)) := ⟨fun W1 h => (h.cell HV.out.lt).trans q4⟩
  go_upto_region 12 with (fail)
  go_region_held3 (fun (w9 : World) => w9.cell? ⟨w.heap.size, 4, none⟩ = some (.slice A1 m c1))
    (first | exact HXA.out _ HB4.out | exact HXA.out _ HB2.out | exact HXA.out _ HBd.out)
    ((first
      | (go_at_call 22; (with_reducible refine (HVA.out _).mono ?_); rintro e w2 ⟨v2, rfl, ho, hb⟩; have HB2 := Aside0.mk (HBd.out.trans (hb.mono HBd.out.size)); have HO2 := Aside0.mk (Own.lower ho HBd.out.size); have HC2 := Aside0.mk (Kd.C_below HC1.out HB2.out); clear ho hb)
      | (refine appendReadStepAt (w0 := W) W.heap.size (by rfl) (.tmp 39) (.tmp 41) 23 5 .u8 1 (by rfl) Tryd.underlying23 infoU8 (by decide) _ (varL m) A1 m c1 bs (by rfl) (by rfl) HO2.out HB2.out ?hs HC2.out ?hl ?_; (case hs => exact HB2.out.size); (case hl => rw [HL.out]; omega); intro v4 w4 ho hb hg hat; have HO4 := Aside0.mk ho; have HB4 := Aside0.mk hb; clear ho hb hg hat)
      | fail "no arm"))
  go_wp2_with (fail)
  go_ret
  exact ⟨⟨_, rfl, Own.lower HO4.out HB.out.size⟩, HB.out.trans (HB4.out.mono HB.out.size)⟩
def By (long : Bool) (x : N) : Prop := ∀ (dd : Nat) (fld : Bool) (w : World) (cs : List Value), NOw x → x.ok dd fld → (x.byB long).length ≤ 4000000 → x.In flT w (fun b => b < w.heap.size) cs → Calls Tryd.prog 12 #[.agg cs.toArray, .bool long] w fun e w' => WB w w' (x.byB long) e
theorem byB_el (long : Bool) (d : D) (id : Int) (ls fs tl : F) (last : Int) : (F.cons d id ls fs tl).byB long false last = N.byB long ⟨d, ls, fs⟩ ++ tl.byB long false id := rfl
theorem byB_fl (long : Bool) (d : D) (id : Int) (ls fs tl : F) (last : Int) : (F.cons d id ls fs tl).byB long true last = fheadL long last id d.ty ++ N.byB long ⟨d, ls, fs⟩ ++ tl.byB long true id := rfl
set_option maxHeartbeats 8000000 in
set_option maxRecDepth 100000 in
theorem by_1 (long : Bool) (ls : F) (ev od : Int) (g : Nat) (lcs : List Value) (hil : F.all (By long) ls) (how : F.ow ls false) (hok : ls.ok g false ev od 0) (hn : ls.len ≤ 1000)  (A1 : Option Addr) (c1 : Nat) (A2 : Option Addr) (c2 : Nat) (A3 : Option Addr) (c3 : Nat) (w : World) (hl : Lies w (fun b => b < w.heap.size) (.slice A2 ls.len c2) ls.len lcs) (hli : ls.In flT w (fun b => b < w.heap.size) false lcs) (htl : (([] : List Int) ++ ls.byB long false 0).length ≤ 4000000) :
    Calls Tryd.prog 12 #[.agg #[.int .i64 1, .bool true, .int .i64 0, .int .u64 0, .slice A1 0 c1, .int .i64 0, .int .i64 0, .slice A2 ls.len c2, .slice A3 0 c3], .bool long] w fun e w' => WB w w' (([] : List Int) ++ ls.byB long false 0) e := by
  obtain ⟨A0, c0, e0, _, hrw⟩ := hl.out
  obtain ⟨rfl, _, rfl⟩ := Value.slice.inj e0
  have HL := Aside0.mk hrw
  have HLi := Aside0.mk hli
  have HIL := Aside0.mk hil
  have HOW := Aside0.mk how
  have HOK := Aside0.mk hok
  have HTL := Aside0.mk htl
  obtain ⟨TOT, hTOT⟩ : ∃ TOT, ([] : List Int) ++ ls.byB long false 0 = TOT := ⟨_, rfl⟩
  have HTT := Aside0.mk hTOT
  rw [hTOT] at HTL ⊢
  obtain ⟨PRE, hPRE⟩ : ∃ PRE, ([] : List Int) = PRE := ⟨_, rfl⟩
  have HPRE := Aside0.mk hPRE
  rw [hPRE] at HTT
  clear hl hli hil how hok htl hrw e0 hTOT hPRE
  have HB : Aside0 (Below w.heap.size w (w.alloc (.cells #[.int .i64 1, .bool true, .int .i64 0, .int .u64 0, .slice A1 0 c1, .int .i64 0, .int .i64 0, .slice A2 ls.len c2, .slice A3 0 c3] 27))) := ⟨(Below.refl _ _).alloc (Nat.le_refl _) _⟩
  have HV := Aside0.mk (Blk.new w #[.int .i64 1, .bool true, .int .i64 0, .int .u64 0, .slice A1 0 c1, .int .i64 0, .int .i64 0, .slice A2 ls.len c2, .slice A3 0 c3] 27)
  go_enter Tryd.func12, Tryd.ntmps12
  go_upto_region 1 with (fail)
  generalize hW : World.alloc _ _ = W at HB HV ⊢
  clear hW
  obtain ⟨q0, q1, q2, q3, q4, q5, q6, q7, q8, qz⟩ := nine HV.out
  have HOP : Aside0 (Own W w.heap.size 5 .u8 (.slice none 0 0) PRE) := ⟨by rw [← HPRE.out]; exact Own.nil _ _ _ _⟩
  have HBP := HB
  go_wp2_with (fail)
  go_loopg [5, 11, 131] ls.len (fun kq v5 v11 v131 w' => ∃ (i : Nat) (ev od last : Int) (G : F) (gc pr : List Value) (P : List Int), i ≤ ls.len ∧ v131 = .int .i64 i ∧ Aside0 (G.len + i = ls.len) ∧ Aside0 (G.ok g false ev od last) ∧ Aside0 (lcs = pr ++ gc) ∧ Aside0 (pr.length = i * 9) ∧ Aside0 (G.In flT w (fun b => b < w.heap.size) false gc) ∧ Aside0 (F.all (By long) G) ∧ Aside0 (F.ow G false) ∧ Aside0 (Own w' w.heap.size 5 .u8 v5 P) ∧ Aside0 (P ++ G.byB long false last = TOT) ∧ Aside0 (Below w.heap.size w w') ∧ Aside0 (ls.len - i ≤ kq))
  case atStart => exact ⟨0, ev, od, 0, ls, lcs, [], PRE, Nat.zero_le _, rfl, ⟨rfl⟩, HOK, ⟨rfl⟩, ⟨by simp⟩, HLi, HIL, HOW, HOP, HTT, HBP, ⟨by omega⟩⟩
  case round =>
    obtain ⟨i, ev, od, last, G, gc, pr, P, hi, rfl, HGl, HGO, HLE, HPR, HGI, HGA, HGW, HO, HTO, HBr, HK⟩ := hrel
    by_cases ci : i < ls.len
    · have ct : decide ((i : Int) < (ls.len : Nat)) = true := decide_eq_true (by omega)
      have ctt : decide (i < ls.len) = true := decide_eq_true ci
      cases G with
      | nil => exact absurd HGl.out (by show ¬ (0 + i = _); omega)
      | cons d id ls2 fs2 tl =>
        obtain ⟨bsv, lsv, fsv, l1, f1, t1, g1, g2, g3, g4, g5, g6, g7⟩ := HGI.out
        have hy1 : N.In flT w (fun b => b < w.heap.size) ⟨d, ls2, fs2⟩ (nodeC flT d bsv lsv fsv) := ⟨⟨bsv, lsv, fsv, l1, f1, rfl, g2, g3, g4, g5, g6⟩⟩
        obtain ⟨X4, Xn4, Xk4, X7, Xn7, Xk7, X8, Xn8, Xk8, hcs⟩ := openT hy1
        rw [hcs] at hy1 g1
        obtain ⟨ad, hA2, hadl, hcell⟩ := HL.out (by rw [HLE.out, g1]; simp)
        subst hA2
        have hrow := rowCell hcell HLE.out HPR.out
        obtain ⟨z0, z1, z2, z3, z4, z5, z6, z7, z8⟩ := nineRow (w := wr) (ad := ad) (k := i * 9) (rest := t1) (fun q u hq => (World.cell?_of_block (by rw [add_block]; exact HBr.out.block _ hadl)).trans (hrow q u hq)) g1
        have hbr2 : Below w.heap.size w (wr.alloc (.cells #[.int .i64 d.ty, .bool d.bo, .int .i64 d.n, .int .u64 (d.bits : Int), .slice X4 Xn4 Xk4, .int .i64 d.ky, .int .i64 d.el, .slice X7 Xn7 Xk7, .slice X8 Xn8 Xk8] 27)) := HBr.out.alloc HBr.out.size _
        have hto := HTO.out
        rw [byB_el, ← List.append_assoc] at hto
        have hle : (P ++ N.byB long ⟨d, ls2, fs2⟩).length ≤ 4000000 := by
          have := congrArg List.length hto
          rw [List.length_append] at this
          have := HTL.out
          omega
        have HYP := Aside0.mk (HGA.out.1 g false (wr.alloc (.cells #[.int .i64 d.ty, .bool d.bo, .int .i64 d.n, .int .u64 (d.bits : Int), .slice X4 Xn4 Xk4, .int .i64 d.ky, .int .i64 d.el, .slice X7 Xn7 Xk7, .slice X8 Xn8 Xk8] 27)) _ ⟨HGW.out.1, HGW.out.2.2.1, HGW.out.2.2.2.1, HGW.out.2.2.2.2.1, HGW.out.2.2.2.2.2.1⟩ HGO.out.2.1 (by rw [List.length_append] at hle; omega) (hy1.move (Pc := fun b => b < (wr.alloc (.cells #[.int .i64 d.ty, .bool d.bo, .int .i64 d.n, .int .u64 (d.bits : Int), .slice X4 Xn4 Xk4, .int .i64 d.ky, .int .i64 d.el, .slice X7 Xn7 Xk7, .slice X8 Xn8 Xk8] 27)).heap.size) (fun b hb => hbr2.block b hb) (fun b hb => Nat.lt_of_lt_of_le hb hbr2.size)))
        obtain ⟨EB, hEB⟩ : ∃ EB, N.byB long ⟨d, ls2, fs2⟩ = EB := ⟨_, rfl⟩
        rw [hEB] at hto hle HYP
        obtain ⟨M, hM⟩ : ∃ M, EB.length = M := ⟨_, rfl⟩
        rw [List.length_append, hM] at hle
        have HM := Aside0.mk hM
        have HTO2 := Aside0.mk hto
        have HO7 := Aside0.mk (HO.out.alloc (.cells #[.int .i64 d.ty, .bool d.bo, .int .i64 d.n, .int .u64 (d.bits : Int), .slice X4 Xn4 Xk4, .int .i64 d.ky, .int .i64 d.el, .slice X7 Xn7 Xk7, .slice X8 Xn8 Xk8] 27))
        have HB7 := Aside0.mk hbr2
        have HG7 := Aside0.mk g7
        have HL9 : Aside0 (lcs = pr ++ ([.int .i64 d.ty, .bool d.bo, .int .i64 d.n, .int .u64 (d.bits : Int), .slice X4 Xn4 Xk4, .int .i64 d.ky, .int .i64 d.el, .slice X7 Xn7 Xk7, .slice X8 Xn8 Xk8] ++ t1)) := ⟨by rw [HLE.out, g1]; rfl⟩
        have HCI := Aside0.mk ci
        have HPN := Aside0.mk (Blk.new wr #[.int .i64 d.ty, .bool d.bo, .int .i64 d.n, .int .u64 (d.bits : Int), .slice X4 Xn4 Xk4, .int .i64 d.ky, .int .i64 d.el, .slice X7 Xn7 Xk7, .slice X8 Xn8 Xk8] 27)
        clear g1 g2 g3 g4 g5 g6 g7 hy1 hrow hcell hcs hbr2 hto hEB hM
        go_upto_region 36 with (fail)
        clear z0 z1 z2 z3 z4 z5 z6 z7 z8
        generalize hw7 : World.alloc _ _ = w7 at HYP HB7 HPN HO7 ⊢
        clear hw7
        obtain ⟨u0, u1, u2, u3, u4, u5, u6, u7, u8, uz⟩ := nine HPN.out
        go_wp2_with (first
          | (go_at_call 12; (with_reducible refine HYP.out.mono ?_); rintro e w5 HQ; obtain ⟨v5, rfl, ho⟩ := HQ.out; obtain ⟨A5, c5, rfl, hc5, hr5⟩ := ho.read; rw [HM.out] at hc5 hr5; rw [HM.out]; have HR5 := Aside0.mk hr5; have HO5 := Aside0.mk (HO7.out.below HQ.below); have HB5 := Aside0.mk (HB7.out.trans (HQ.below.mono HB7.out.size)); clear HQ ho hr5)
          | (at_builtin; refine appendRead (w0 := w) w.heap.size rfl (.tmp 135) (.tmp 138) 23 5 .u8 1 rfl Tryd.underlying23 infoU8 (by decide) _ P A5 M c5 EB rfl rfl HO5.out HB5.out ?hb HR5.out ?hl ?_; (case hb => exact HB5.out.size); (case hl => omega); intro v6 w6 ho hb hg; have HO6 := Aside0.mk ho; have HB6 := Aside0.mk hb; clear ho hb hg))
        go_roundg (gk - 1)
        all_goals first
          | (have := HK.out; have := HCI.out; omega)
          | (exact ⟨i + 1, od, ev, id, tl, t1, pr ++ [.int .i64 d.ty, .bool d.bo, .int .i64 d.n, .int .u64 (d.bits : Int), .slice X4 Xn4 Xk4, .int .i64 d.ky, .int .i64 d.el, .slice X7 Xn7 Xk7, .slice X8 Xn8 Xk8], P ++ EB, HCI.out, by go_num, ⟨by have := HGl.out; have : (F.cons d id ls2 fs2 tl).len = tl.len + 1 := rfl; omega⟩, ⟨HGO.out.2.2⟩, ⟨by rw [HL9.out, List.append_assoc]⟩, ⟨by rw [List.length_append, HPR.out]; show i * 9 + 9 = (i + 1) * 9; omega⟩, HG7, ⟨HGA.out.2⟩, ⟨HGW.out.2.2.2.2.2.2⟩, HO6, HTO2, HB6, ⟨by have := HK.out; omega⟩⟩)
    · have hin : i = ls.len := by omega
      have hP : P = TOT := by
        have hd := HTO.out
        have hg := HGl.out
        cases G with
        | nil => rw [← hd]; exact (List.append_nil _).symm
        | cons d id ls2 fs2 tl => exfalso; have : (F.cons d id ls2 fs2 tl).len = tl.len + 1 := rfl; omega
      have ct : decide ((i : Int) < (ls.len : Nat)) = false := decide_eq_false (by omega)
      have ctt : decide (i < ls.len) = false := decide_eq_false ci
      have HFI := Aside0.mk hP
      clear hin hP ci
      go_wp2_with (fail)
      go_ret
      exact ⟨⟨_, rfl, HFI.out ▸ HO.out⟩, HBr.out⟩
set_option maxHeartbeats 8000000 in
set_option maxRecDepth 100000 in
theorem by_2 (long : Bool) (ls : F) (ev od : Int) (g : Nat) (lcs : List Value) (hil : F.all (By long) ls) (how : F.ow ls false) (hok : ls.ok g false ev od 0) (hn : ls.len ≤ 1000)  (A1 : Option Addr) (c1 : Nat) (A2 : Option Addr) (c2 : Nat) (A3 : Option Addr) (c3 : Nat) (w : World) (hl : Lies w (fun b => b < w.heap.size) (.slice A2 ls.len c2) ls.len lcs) (hli : ls.In flT w (fun b => b < w.heap.size) false lcs) (htl : (([] : List Int) ++ ls.byB long false 0).length ≤ 4000000) :
    Calls Tryd.prog 12 #[.agg #[.int .i64 2, .bool false, .int .i64 0, .int .u64 0, .slice A1 0 c1, .int .i64 0, .int .i64 0, .slice A2 ls.len c2, .slice A3 0 c3], .bool long] w fun e w' => WB w w' (([] : List Int) ++ ls.byB long false 0) e := by
  obtain ⟨A0, c0, e0, _, hrw⟩ := hl.out
  obtain ⟨rfl, _, rfl⟩ := Value.slice.inj e0
  have HL := Aside0.mk hrw
  have HLi := Aside0.mk hli
  have HIL := Aside0.mk hil
  have HOW := Aside0.mk how
  have HOK := Aside0.mk hok
  have HTL := Aside0.mk htl
  obtain ⟨TOT, hTOT⟩ : ∃ TOT, ([] : List Int) ++ ls.byB long false 0 = TOT := ⟨_, rfl⟩
  have HTT := Aside0.mk hTOT
  rw [hTOT] at HTL ⊢
  obtain ⟨PRE, hPRE⟩ : ∃ PRE, ([] : List Int) = PRE := ⟨_, rfl⟩
  have HPRE := Aside0.mk hPRE
  rw [hPRE] at HTT
  clear hl hli hil how hok htl hrw e0 hTOT hPRE
  have HB : Aside0 (Below w.heap.size w (w.alloc (.cells #[.int .i64 2, .bool false, .int .i64 0, .int .u64 0, .slice A1 0 c1, .int .i64 0, .int .i64 0, .slice A2 ls.len c2, .slice A3 0 c3] 27))) := ⟨(Below.refl _ _).alloc (Nat.le_refl _) _⟩
  have HV := Aside0.mk (Blk.new w #[.int .i64 2, .bool false, .int .i64 0, .int .u64 0, .slice A1 0 c1, .int .i64 0, .int .i64 0, .slice A2 ls.len c2, .slice A3 0 c3] 27)
  go_enter Tryd.func12, Tryd.ntmps12
  go_upto_region 1 with (fail)
  generalize hW : World.alloc _ _ = W at HB HV ⊢
  clear hW
  obtain ⟨q0, q1, q2, q3, q4, q5, q6, q7, q8, qz⟩ := nine HV.out
  have HOP : Aside0 (Own W w.heap.size 5 .u8 (.slice none 0 0) PRE) := ⟨by rw [← HPRE.out]; exact Own.nil _ _ _ _⟩
  have HBP := HB
  go_wp2_with (fail)
  go_loopg [5, 11, 131] ls.len (fun kq v5 v11 v131 w' => ∃ (i : Nat) (ev od last : Int) (G : F) (gc pr : List Value) (P : List Int), i ≤ ls.len ∧ v131 = .int .i64 i ∧ Aside0 (G.len + i = ls.len) ∧ Aside0 (G.ok g false ev od last) ∧ Aside0 (lcs = pr ++ gc) ∧ Aside0 (pr.length = i * 9) ∧ Aside0 (G.In flT w (fun b => b < w.heap.size) false gc) ∧ Aside0 (F.all (By long) G) ∧ Aside0 (F.ow G false) ∧ Aside0 (Own w' w.heap.size 5 .u8 v5 P) ∧ Aside0 (P ++ G.byB long false last = TOT) ∧ Aside0 (Below w.heap.size w w') ∧ Aside0 (ls.len - i ≤ kq))
  case atStart => exact ⟨0, ev, od, 0, ls, lcs, [], PRE, Nat.zero_le _, rfl, ⟨rfl⟩, HOK, ⟨rfl⟩, ⟨by simp⟩, HLi, HIL, HOW, HOP, HTT, HBP, ⟨by omega⟩⟩
  case round =>
    obtain ⟨i, ev, od, last, G, gc, pr, P, hi, rfl, HGl, HGO, HLE, HPR, HGI, HGA, HGW, HO, HTO, HBr, HK⟩ := hrel
    by_cases ci : i < ls.len
    · have ct : decide ((i : Int) < (ls.len : Nat)) = true := decide_eq_true (by omega)
      have ctt : decide (i < ls.len) = true := decide_eq_true ci
      cases G with
      | nil => exact absurd HGl.out (by show ¬ (0 + i = _); omega)
      | cons d id ls2 fs2 tl =>
        obtain ⟨bsv, lsv, fsv, l1, f1, t1, g1, g2, g3, g4, g5, g6, g7⟩ := HGI.out
        have hy1 : N.In flT w (fun b => b < w.heap.size) ⟨d, ls2, fs2⟩ (nodeC flT d bsv lsv fsv) := ⟨⟨bsv, lsv, fsv, l1, f1, rfl, g2, g3, g4, g5, g6⟩⟩
        obtain ⟨X4, Xn4, Xk4, X7, Xn7, Xk7, X8, Xn8, Xk8, hcs⟩ := openT hy1
        rw [hcs] at hy1 g1
        obtain ⟨ad, hA2, hadl, hcell⟩ := HL.out (by rw [HLE.out, g1]; simp)
        subst hA2
        have hrow := rowCell hcell HLE.out HPR.out
        obtain ⟨z0, z1, z2, z3, z4, z5, z6, z7, z8⟩ := nineRow (w := wr) (ad := ad) (k := i * 9) (rest := t1) (fun q u hq => (World.cell?_of_block (by rw [add_block]; exact HBr.out.block _ hadl)).trans (hrow q u hq)) g1
        have hbr2 : Below w.heap.size w (wr.alloc (.cells #[.int .i64 d.ty, .bool d.bo, .int .i64 d.n, .int .u64 (d.bits : Int), .slice X4 Xn4 Xk4, .int .i64 d.ky, .int .i64 d.el, .slice X7 Xn7 Xk7, .slice X8 Xn8 Xk8] 27)) := HBr.out.alloc HBr.out.size _
        have hto := HTO.out
        rw [byB_el, ← List.append_assoc] at hto
        have hle : (P ++ N.byB long ⟨d, ls2, fs2⟩).length ≤ 4000000 := by
          have := congrArg List.length hto
          rw [List.length_append] at this
          have := HTL.out
          omega
        have HYP := Aside0.mk (HGA.out.1 g false (wr.alloc (.cells #[.int .i64 d.ty, .bool d.bo, .int .i64 d.n, .int .u64 (d.bits : Int), .slice X4 Xn4 Xk4, .int .i64 d.ky, .int .i64 d.el, .slice X7 Xn7 Xk7, .slice X8 Xn8 Xk8] 27)) _ ⟨HGW.out.1, HGW.out.2.2.1, HGW.out.2.2.2.1, HGW.out.2.2.2.2.1, HGW.out.2.2.2.2.2.1⟩ HGO.out.2.1 (by rw [List.length_append] at hle; omega) (hy1.move (Pc := fun b => b < (wr.alloc (.cells #[.int .i64 d.ty, .bool d.bo, .int .i64 d.n, .int .u64 (d.bits : Int), .slice X4 Xn4 Xk4, .int .i64 d.ky, .int .i64 d.el, .slice X7 Xn7 Xk7, .slice X8 Xn8 Xk8] 27)).heap.size) (fun b hb => hbr2.block b hb) (fun b hb => Nat.lt_of_lt_of_le hb hbr2.size)))
        obtain ⟨EB, hEB⟩ : ∃ EB, N.byB long ⟨d, ls2, fs2⟩ = EB := ⟨_, rfl⟩
        rw [hEB] at hto hle HYP
        obtain ⟨M, hM⟩ : ∃ M, EB.length = M := ⟨_, rfl⟩
        rw [List.length_append, hM] at hle
        have HM := Aside0.mk hM
        have HTO2 := Aside0.mk hto
        have HO7 := Aside0.mk (HO.out.alloc (.cells #[.int .i64 d.ty, .bool d.bo, .int .i64 d.n, .int .u64 (d.bits : Int), .slice X4 Xn4 Xk4, .int .i64 d.ky, .int .i64 d.el, .slice X7 Xn7 Xk7, .slice X8 Xn8 Xk8] 27))
        have HB7 := Aside0.mk hbr2
        have HG7 := Aside0.mk g7
        have HL9 : Aside0 (lcs = pr ++ ([.int .i64 d.ty, .bool d.bo, .int .i64 d.n, .int .u64 (d.bits : Int), .slice X4 Xn4 Xk4, .int .i64 d.ky, .int .i64 d.el, .slice X7 Xn7 Xk7, .slice X8 Xn8 Xk8] ++ t1)) := ⟨by rw [HLE.out, g1]; rfl⟩
        have HCI := Aside0.mk ci
        have HPN := Aside0.mk (Blk.new wr #[.int .i64 d.ty, .bool d.bo, .int .i64 d.n, .int .u64 (d.bits : Int), .slice X4 Xn4 Xk4, .int .i64 d.ky, .int .i64 d.el, .slice X7 Xn7 Xk7, .slice X8 Xn8 Xk8] 27)
        clear g1 g2 g3 g4 g5 g6 g7 hy1 hrow hcell hcs hbr2 hto hEB hM
        go_upto_region 36 with (fail)
        clear z0 z1 z2 z3 z4 z5 z6 z7 z8
        generalize hw7 : World.alloc _ _ = w7 at HYP HB7 HPN HO7 ⊢
        clear hw7
        obtain ⟨u0, u1, u2, u3, u4, u5, u6, u7, u8, uz⟩ := nine HPN.out
        go_wp2_with (first
          | (go_at_call 12; (with_reducible refine HYP.out.mono ?_); rintro e w5 HQ; obtain ⟨v5, rfl, ho⟩ := HQ.out; obtain ⟨A5, c5, rfl, hc5, hr5⟩ := ho.read; rw [HM.out] at hc5 hr5; rw [HM.out]; have HR5 := Aside0.mk hr5; have HO5 := Aside0.mk (HO7.out.below HQ.below); have HB5 := Aside0.mk (HB7.out.trans (HQ.below.mono HB7.out.size)); clear HQ ho hr5)
          | (at_builtin; refine appendRead (w0 := w) w.heap.size rfl (.tmp 135) (.tmp 138) 23 5 .u8 1 rfl Tryd.underlying23 infoU8 (by decide) _ P A5 M c5 EB rfl rfl HO5.out HB5.out ?hb HR5.out ?hl ?_; (case hb => exact HB5.out.size); (case hl => omega); intro v6 w6 ho hb hg; have HO6 := Aside0.mk ho; have HB6 := Aside0.mk hb; clear ho hb hg))
        go_roundg (gk - 1)
        all_goals first
          | (have := HK.out; have := HCI.out; omega)
          | (exact ⟨i + 1, od, ev, id, tl, t1, pr ++ [.int .i64 d.ty, .bool d.bo, .int .i64 d.n, .int .u64 (d.bits : Int), .slice X4 Xn4 Xk4, .int .i64 d.ky, .int .i64 d.el, .slice X7 Xn7 Xk7, .slice X8 Xn8 Xk8], P ++ EB, HCI.out, by go_num, ⟨by have := HGl.out; have : (F.cons d id ls2 fs2 tl).len = tl.len + 1 := rfl; omega⟩, ⟨HGO.out.2.2⟩, ⟨by rw [HL9.out, List.append_assoc]⟩, ⟨by rw [List.length_append, HPR.out]; show i * 9 + 9 = (i + 1) * 9; omega⟩, HG7, ⟨HGA.out.2⟩, ⟨HGW.out.2.2.2.2.2.2⟩, HO6, HTO2, HB6, ⟨by have := HK.out; omega⟩⟩)
    · have hin : i = ls.len := by omega
      have hP : P = TOT := by
        have hd := HTO.out
        have hg := HGl.out
        cases G with
        | nil => rw [← hd]; exact (List.append_nil _).symm
        | cons d id ls2 fs2 tl => exfalso; have : (F.cons d id ls2 fs2 tl).len = tl.len + 1 := rfl; omega
      have ct : decide ((i : Int) < (ls.len : Nat)) = false := decide_eq_false (by omega)
      have ctt : decide (i < ls.len) = false := decide_eq_false ci
      have HFI := Aside0.mk hP
      clear hin hP ci
      go_wp2_with (fail)
      go_ret
      exact ⟨⟨_, rfl, HFI.out ▸ HO.out⟩, HBr.out⟩
set_option maxHeartbeats 8000000 in
set_option maxRecDepth 100000 in
theorem by_9 (long : Bool) (ls : F) (ev od : Int) (g : Nat) (lcs : List Value) (hil : F.all (By long) ls) (how : F.ow ls false) (hok : ls.ok g false ev od 0) (hn : ls.len ≤ 1000) (el : Int) (h3 : 3 ≤ el) (h12 : el ≤ 12) (A1 : Option Addr) (c1 : Nat) (A2 : Option Addr) (c2 : Nat) (A3 : Option Addr) (c3 : Nat) (w : World) (hl : Lies w (fun b => b < w.heap.size) (.slice A2 ls.len c2) ls.len lcs) (hli : ls.In flT w (fun b => b < w.heap.size) false lcs) (htl : (headL long ls.len el ++ ls.byB long false 0).length ≤ 4000000) :
    Calls Tryd.prog 12 #[.agg #[.int .i64 9, .bool false, .int .i64 0, .int .u64 0, .slice A1 0 c1, .int .i64 0, .int .i64 el, .slice A2 ls.len c2, .slice A3 0 c3], .bool long] w fun e w' => WB w w' (headL long ls.len el ++ ls.byB long false 0) e := by
  have HHD := Aside0.mk fun W1 => head_calls ls.len el long hn h3 h12 W1
  obtain ⟨A0, c0, e0, _, hrw⟩ := hl.out
  obtain ⟨rfl, _, rfl⟩ := Value.slice.inj e0
  have HL := Aside0.mk hrw
  have HLi := Aside0.mk hli
  have HIL := Aside0.mk hil
  have HOW := Aside0.mk how
  have HOK := Aside0.mk hok
  have HTL := Aside0.mk htl
  obtain ⟨TOT, hTOT⟩ : ∃ TOT, headL long ls.len el ++ ls.byB long false 0 = TOT := ⟨_, rfl⟩
  have HTT := Aside0.mk hTOT
  rw [hTOT] at HTL ⊢
  obtain ⟨PRE, hPRE⟩ : ∃ PRE, headL long ls.len el = PRE := ⟨_, rfl⟩
  have HPRE := Aside0.mk hPRE
  rw [hPRE] at HTT
  clear hl hli hil how hok htl hrw e0 hTOT hPRE
  have HB : Aside0 (Below w.heap.size w (w.alloc (.cells #[.int .i64 9, .bool false, .int .i64 0, .int .u64 0, .slice A1 0 c1, .int .i64 0, .int .i64 el, .slice A2 ls.len c2, .slice A3 0 c3] 27))) := ⟨(Below.refl _ _).alloc (Nat.le_refl _) _⟩
  have HV := Aside0.mk (Blk.new w #[.int .i64 9, .bool false, .int .i64 0, .int .u64 0, .slice A1 0 c1, .int .i64 0, .int .i64 el, .slice A2 ls.len c2, .slice A3 0 c3] 27)
  go_enter Tryd.func12, Tryd.ntmps12
  go_upto_region 1 with (fail)
  generalize hW : World.alloc _ _ = W at HB HV ⊢
  clear hW
  obtain ⟨q0, q1, q2, q3, q4, q5, q6, q7, q8, qz⟩ := nine HV.out
  rw [HPRE.out] at HHD
  go_wp2_with (first
    | (go_at_call 25; (with_reducible refine (HHD.out _).mono ?_); rintro e w2 HQ; obtain ⟨v2, rfl, ho⟩ := HQ.out; have HOP := Aside0.mk (Own.lower ho HB.out.size); have HBP := Aside0.mk (HB.out.trans (HQ.below.mono HB.out.size)); obtain ⟨p0, p1, p2, p3, p4, p5, p6, p7, p8, pz⟩ := nine (HV.out.below HQ.below HV.out.lt); clear HQ ho))
  go_loopg [5, 11, 131] ls.len (fun kq v5 v11 v131 w' => ∃ (i : Nat) (ev od last : Int) (G : F) (gc pr : List Value) (P : List Int), i ≤ ls.len ∧ v131 = .int .i64 i ∧ Aside0 (G.len + i = ls.len) ∧ Aside0 (G.ok g false ev od last) ∧ Aside0 (lcs = pr ++ gc) ∧ Aside0 (pr.length = i * 9) ∧ Aside0 (G.In flT w (fun b => b < w.heap.size) false gc) ∧ Aside0 (F.all (By long) G) ∧ Aside0 (F.ow G false) ∧ Aside0 (Own w' w.heap.size 5 .u8 v5 P) ∧ Aside0 (P ++ G.byB long false last = TOT) ∧ Aside0 (Below w.heap.size w w') ∧ Aside0 (ls.len - i ≤ kq))
  case atStart => exact ⟨0, ev, od, 0, ls, lcs, [], PRE, Nat.zero_le _, rfl, ⟨rfl⟩, HOK, ⟨rfl⟩, ⟨by simp⟩, HLi, HIL, HOW, HOP, HTT, HBP, ⟨by omega⟩⟩
  case round =>
    obtain ⟨i, ev, od, last, G, gc, pr, P, hi, rfl, HGl, HGO, HLE, HPR, HGI, HGA, HGW, HO, HTO, HBr, HK⟩ := hrel
    by_cases ci : i < ls.len
    · have ct : decide ((i : Int) < (ls.len : Nat)) = true := decide_eq_true (by omega)
      have ctt : decide (i < ls.len) = true := decide_eq_true ci
      cases G with
      | nil => exact absurd HGl.out (by show ¬ (0 + i = _); omega)
      | cons d id ls2 fs2 tl =>
        obtain ⟨bsv, lsv, fsv, l1, f1, t1, g1, g2, g3, g4, g5, g6, g7⟩ := HGI.out
        have hy1 : N.In flT w (fun b => b < w.heap.size) ⟨d, ls2, fs2⟩ (nodeC flT d bsv lsv fsv) := ⟨⟨bsv, lsv, fsv, l1, f1, rfl, g2, g3, g4, g5, g6⟩⟩
        obtain ⟨X4, Xn4, Xk4, X7, Xn7, Xk7, X8, Xn8, Xk8, hcs⟩ := openT hy1
        rw [hcs] at hy1 g1
        obtain ⟨ad, hA2, hadl, hcell⟩ := HL.out (by rw [HLE.out, g1]; simp)
        subst hA2
        have hrow := rowCell hcell HLE.out HPR.out
        obtain ⟨z0, z1, z2, z3, z4, z5, z6, z7, z8⟩ := nineRow (w := wr) (ad := ad) (k := i * 9) (rest := t1) (fun q u hq => (World.cell?_of_block (by rw [add_block]; exact HBr.out.block _ hadl)).trans (hrow q u hq)) g1
        have hbr2 : Below w.heap.size w (wr.alloc (.cells #[.int .i64 d.ty, .bool d.bo, .int .i64 d.n, .int .u64 (d.bits : Int), .slice X4 Xn4 Xk4, .int .i64 d.ky, .int .i64 d.el, .slice X7 Xn7 Xk7, .slice X8 Xn8 Xk8] 27)) := HBr.out.alloc HBr.out.size _
        have hto := HTO.out
        rw [byB_el, ← List.append_assoc] at hto
        have hle : (P ++ N.byB long ⟨d, ls2, fs2⟩).length ≤ 4000000 := by
          have := congrArg List.length hto
          rw [List.length_append] at this
          have := HTL.out
          omega
        have HYP := Aside0.mk (HGA.out.1 g false (wr.alloc (.cells #[.int .i64 d.ty, .bool d.bo, .int .i64 d.n, .int .u64 (d.bits : Int), .slice X4 Xn4 Xk4, .int .i64 d.ky, .int .i64 d.el, .slice X7 Xn7 Xk7, .slice X8 Xn8 Xk8] 27)) _ ⟨HGW.out.1, HGW.out.2.2.1, HGW.out.2.2.2.1, HGW.out.2.2.2.2.1, HGW.out.2.2.2.2.2.1⟩ HGO.out.2.1 (by rw [List.length_append] at hle; omega) (hy1.move (Pc := fun b => b < (wr.alloc (.cells #[.int .i64 d.ty, .bool d.bo, .int .i64 d.n, .int .u64 (d.bits : Int), .slice X4 Xn4 Xk4, .int .i64 d.ky, .int .i64 d.el, .slice X7 Xn7 Xk7, .slice X8 Xn8 Xk8] 27)).heap.size) (fun b hb => hbr2.block b hb) (fun b hb => Nat.lt_of_lt_of_le hb hbr2.size)))
        obtain ⟨EB, hEB⟩ : ∃ EB, N.byB long ⟨d, ls2, fs2⟩ = EB := ⟨_, rfl⟩
        rw [hEB] at hto hle HYP
        obtain ⟨M, hM⟩ : ∃ M, EB.length = M := ⟨_, rfl⟩
        rw [List.length_append, hM] at hle
        have HM := Aside0.mk hM
        have HTO2 := Aside0.mk hto
        have HO7 := Aside0.mk (HO.out.alloc (.cells #[.int .i64 d.ty, .bool d.bo, .int .i64 d.n, .int .u64 (d.bits : Int), .slice X4 Xn4 Xk4, .int .i64 d.ky, .int .i64 d.el, .slice X7 Xn7 Xk7, .slice X8 Xn8 Xk8] 27))
        have HB7 := Aside0.mk hbr2
        have HG7 := Aside0.mk g7
        have HL9 : Aside0 (lcs = pr ++ ([.int .i64 d.ty, .bool d.bo, .int .i64 d.n, .int .u64 (d.bits : Int), .slice X4 Xn4 Xk4, .int .i64 d.ky, .int .i64 d.el, .slice X7 Xn7 Xk7, .slice X8 Xn8 Xk8] ++ t1)) := ⟨by rw [HLE.out, g1]; rfl⟩
        have HCI := Aside0.mk ci
        have HPN := Aside0.mk (Blk.new wr #[.int .i64 d.ty, .bool d.bo, .int .i64 d.n, .int .u64 (d.bits : Int), .slice X4 Xn4 Xk4, .int .i64 d.ky, .int .i64 d.el, .slice X7 Xn7 Xk7, .slice X8 Xn8 Xk8] 27)
        clear g1 g2 g3 g4 g5 g6 g7 hy1 hrow hcell hcs hbr2 hto hEB hM
        go_upto_region 36 with (fail)
        clear z0 z1 z2 z3 z4 z5 z6 z7 z8
        generalize hw7 : World.alloc _ _ = w7 at HYP HB7 HPN HO7 ⊢
        clear hw7
        obtain ⟨u0, u1, u2, u3, u4, u5, u6, u7, u8, uz⟩ := nine HPN.out
        go_wp2_with (first
          | (go_at_call 12; (with_reducible refine HYP.out.mono ?_); rintro e w5 HQ; obtain ⟨v5, rfl, ho⟩ := HQ.out; obtain ⟨A5, c5, rfl, hc5, hr5⟩ := ho.read; rw [HM.out] at hc5 hr5; rw [HM.out]; have HR5 := Aside0.mk hr5; have HO5 := Aside0.mk (HO7.out.below HQ.below); have HB5 := Aside0.mk (HB7.out.trans (HQ.below.mono HB7.out.size)); clear HQ ho hr5)
          | (at_builtin; refine appendRead (w0 := w) w.heap.size rfl (.tmp 135) (.tmp 138) 23 5 .u8 1 rfl Tryd.underlying23 infoU8 (by decide) _ P A5 M c5 EB rfl rfl HO5.out HB5.out ?hb HR5.out ?hl ?_; (case hb => exact HB5.out.size); (case hl => omega); intro v6 w6 ho hb hg; have HO6 := Aside0.mk ho; have HB6 := Aside0.mk hb; clear ho hb hg))
        go_roundg (gk - 1)
        all_goals first
          | (have := HK.out; have := HCI.out; omega)
          | (exact ⟨i + 1, od, ev, id, tl, t1, pr ++ [.int .i64 d.ty, .bool d.bo, .int .i64 d.n, .int .u64 (d.bits : Int), .slice X4 Xn4 Xk4, .int .i64 d.ky, .int .i64 d.el, .slice X7 Xn7 Xk7, .slice X8 Xn8 Xk8], P ++ EB, HCI.out, by go_num, ⟨by have := HGl.out; have : (F.cons d id ls2 fs2 tl).len = tl.len + 1 := rfl; omega⟩, ⟨HGO.out.2.2⟩, ⟨by rw [HL9.out, List.append_assoc]⟩, ⟨by rw [List.length_append, HPR.out]; show i * 9 + 9 = (i + 1) * 9; omega⟩, HG7, ⟨HGA.out.2⟩, ⟨HGW.out.2.2.2.2.2.2⟩, HO6, HTO2, HB6, ⟨by have := HK.out; omega⟩⟩)
    · have hin : i = ls.len := by omega
      have hP : P = TOT := by
        have hd := HTO.out
        have hg := HGl.out
        cases G with
        | nil => rw [← hd]; exact (List.append_nil _).symm
        | cons d id ls2 fs2 tl => exfalso; have : (F.cons d id ls2 fs2 tl).len = tl.len + 1 := rfl; omega
      have ct : decide ((i : Int) < (ls.len : Nat)) = false := decide_eq_false (by omega)
      have ctt : decide (i < ls.len) = false := decide_eq_false ci
      have HFI := Aside0.mk hP
      clear hin hP ci
      go_wp2_with (fail)
      go_ret
      exact ⟨⟨_, rfl, HFI.out ▸ HO.out⟩, HBr.out⟩
set_option maxHeartbeats 8000000 in
set_option maxRecDepth 100000 in
theorem by_10 (long : Bool) (ls : F) (ev od : Int) (g : Nat) (lcs : List Value) (hil : F.all (By long) ls) (how : F.ow ls false) (hok : ls.ok g false ev od 0) (hn : ls.len ≤ 1000) (el : Int) (h3 : 3 ≤ el) (h12 : el ≤ 12) (A1 : Option Addr) (c1 : Nat) (A2 : Option Addr) (c2 : Nat) (A3 : Option Addr) (c3 : Nat) (w : World) (hl : Lies w (fun b => b < w.heap.size) (.slice A2 ls.len c2) ls.len lcs) (hli : ls.In flT w (fun b => b < w.heap.size) false lcs) (htl : (headL long ls.len el ++ ls.byB long false 0).length ≤ 4000000) :
    Calls Tryd.prog 12 #[.agg #[.int .i64 10, .bool false, .int .i64 0, .int .u64 0, .slice A1 0 c1, .int .i64 0, .int .i64 el, .slice A2 ls.len c2, .slice A3 0 c3], .bool long] w fun e w' => WB w w' (headL long ls.len el ++ ls.byB long false 0) e := by
  have HHD := Aside0.mk fun W1 => head_calls ls.len el long hn h3 h12 W1
  obtain ⟨A0, c0, e0, _, hrw⟩ := hl.out
  obtain ⟨rfl, _, rfl⟩ := Value.slice.inj e0
  have HL := Aside0.mk hrw
  have HLi := Aside0.mk hli
  have HIL := Aside0.mk hil
  have HOW := Aside0.mk how
  have HOK := Aside0.mk hok
  have HTL := Aside0.mk htl
  obtain ⟨TOT, hTOT⟩ : ∃ TOT, headL long ls.len el ++ ls.byB long false 0 = TOT := ⟨_, rfl⟩
  have HTT := Aside0.mk hTOT
  rw [hTOT] at HTL ⊢
  obtain ⟨PRE, hPRE⟩ : ∃ PRE, headL long ls.len el = PRE := ⟨_, rfl⟩
  have HPRE := Aside0.mk hPRE
  rw [hPRE] at HTT
  clear hl hli hil how hok htl hrw e0 hTOT hPRE
  have HB : Aside0 (Below w.heap.size w (w.alloc (.cells #[.int .i64 10, .bool false, .int .i64 0, .int .u64 0, .slice A1 0 c1, .int .i64 0, .int .i64 el, .slice A2 ls.len c2, .slice A3 0 c3] 27))) := ⟨(Below.refl _ _).alloc (Nat.le_refl _) _⟩
  have HV := Aside0.mk (Blk.new w #[.int .i64 10, .bool false, .int .i64 0, .int .u64 0, .slice A1 0 c1, .int .i64 0, .int .i64 el, .slice A2 ls.len c2, .slice A3 0 c3] 27)
  go_enter Tryd.func12, Tryd.ntmps12
  go_upto_region 1 with (fail)
  generalize hW : World.alloc _ _ = W at HB HV ⊢
  clear hW
  obtain ⟨q0, q1, q2, q3, q4, q5, q6, q7, q8, qz⟩ := nine HV.out
  rw [HPRE.out] at HHD
  go_wp2_with (first
    | (go_at_call 25; (with_reducible refine (HHD.out _).mono ?_); rintro e w2 HQ; obtain ⟨v2, rfl, ho⟩ := HQ.out; have HOP := Aside0.mk (Own.lower ho HB.out.size); have HBP := Aside0.mk (HB.out.trans (HQ.below.mono HB.out.size)); obtain ⟨p0, p1, p2, p3, p4, p5, p6, p7, p8, pz⟩ := nine (HV.out.below HQ.below HV.out.lt); clear HQ ho))
  go_loopg [5, 11, 131] ls.len (fun kq v5 v11 v131 w' => ∃ (i : Nat) (ev od last : Int) (G : F) (gc pr : List Value) (P : List Int), i ≤ ls.len ∧ v131 = .int .i64 i ∧ Aside0 (G.len + i = ls.len) ∧ Aside0 (G.ok g false ev od last) ∧ Aside0 (lcs = pr ++ gc) ∧ Aside0 (pr.length = i * 9) ∧ Aside0 (G.In flT w (fun b => b < w.heap.size) false gc) ∧ Aside0 (F.all (By long) G) ∧ Aside0 (F.ow G false) ∧ Aside0 (Own w' w.heap.size 5 .u8 v5 P) ∧ Aside0 (P ++ G.byB long false last = TOT) ∧ Aside0 (Below w.heap.size w w') ∧ Aside0 (ls.len - i ≤ kq))
  case atStart => exact ⟨0, ev, od, 0, ls, lcs, [], PRE, Nat.zero_le _, rfl, ⟨rfl⟩, HOK, ⟨rfl⟩, ⟨by simp⟩, HLi, HIL, HOW, HOP, HTT, HBP, ⟨by omega⟩⟩
  case round =>
    obtain ⟨i, ev, od, last, G, gc, pr, P, hi, rfl, HGl, HGO, HLE, HPR, HGI, HGA, HGW, HO, HTO, HBr, HK⟩ := hrel
    by_cases ci : i < ls.len
    · have ct : decide ((i : Int) < (ls.len : Nat)) = true := decide_eq_true (by omega)
      have ctt : decide (i < ls.len) = true := decide_eq_true ci
      cases G with
      | nil => exact absurd HGl.out (by show ¬ (0 + i = _); omega)
      | cons d id ls2 fs2 tl =>
        obtain ⟨bsv, lsv, fsv, l1, f1, t1, g1, g2, g3, g4, g5, g6, g7⟩ := HGI.out
        have hy1 : N.In flT w (fun b => b < w.heap.size) ⟨d, ls2, fs2⟩ (nodeC flT d bsv lsv fsv) := ⟨⟨bsv, lsv, fsv, l1, f1, rfl, g2, g3, g4, g5, g6⟩⟩
        obtain ⟨X4, Xn4, Xk4, X7, Xn7, Xk7, X8, Xn8, Xk8, hcs⟩ := openT hy1
        rw [hcs] at hy1 g1
        obtain ⟨ad, hA2, hadl, hcell⟩ := HL.out (by rw [HLE.out, g1]; simp)
        subst hA2
        have hrow := rowCell hcell HLE.out HPR.out
        obtain ⟨z0, z1, z2, z3, z4, z5, z6, z7, z8⟩ := nineRow (w := wr) (ad := ad) (k := i * 9) (rest := t1) (fun q u hq => (World.cell?_of_block (by rw [add_block]; exact HBr.out.block _ hadl)).trans (hrow q u hq)) g1
        have hbr2 : Below w.heap.size w (wr.alloc (.cells #[.int .i64 d.ty, .bool d.bo, .int .i64 d.n, .int .u64 (d.bits : Int), .slice X4 Xn4 Xk4, .int .i64 d.ky, .int .i64 d.el, .slice X7 Xn7 Xk7, .slice X8 Xn8 Xk8] 27)) := HBr.out.alloc HBr.out.size _
        have hto := HTO.out
        rw [byB_el, ← List.append_assoc] at hto
        have hle : (P ++ N.byB long ⟨d, ls2, fs2⟩).length ≤ 4000000 := by
          have := congrArg List.length hto
          rw [List.length_append] at this
          have := HTL.out
          omega
        have HYP := Aside0.mk (HGA.out.1 g false (wr.alloc (.cells #[.int .i64 d.ty, .bool d.bo, .int .i64 d.n, .int .u64 (d.bits : Int), .slice X4 Xn4 Xk4, .int .i64 d.ky, .int .i64 d.el, .slice X7 Xn7 Xk7, .slice X8 Xn8 Xk8] 27)) _ ⟨HGW.out.1, HGW.out.2.2.1, HGW.out.2.2.2.1, HGW.out.2.2.2.2.1, HGW.out.2.2.2.2.2.1⟩ HGO.out.2.1 (by rw [List.length_append] at hle; omega) (hy1.move (Pc := fun b => b < (wr.alloc (.cells #[.int .i64 d.ty, .bool d.bo, .int .i64 d.n, .int .u64 (d.bits : Int), .slice X4 Xn4 Xk4, .int .i64 d.ky, .int .i64 d.el, .slice X7 Xn7 Xk7, .slice X8 Xn8 Xk8] 27)).heap.size) (fun b hb => hbr2.block b hb) (fun b hb => Nat.lt_of_lt_of_le hb hbr2.size)))
        obtain ⟨EB, hEB⟩ : ∃ EB, N.byB long ⟨d, ls2, fs2⟩ = EB := ⟨_, rfl⟩
        rw [hEB] at hto hle HYP
        obtain ⟨M, hM⟩ : ∃ M, EB.length = M := ⟨_, rfl⟩
        rw [List.length_append, hM] at hle
        have HM := Aside0.mk hM
        have HTO2 := Aside0.mk hto
        have HO7 := Aside0.mk (HO.out.alloc (.cells #[.int .i64 d.ty, .bool d.bo, .int .i64 d.n, .int .u64 (d.bits : Int), .slice X4 Xn4 Xk4, .int .i64 d.ky, .int .i64 d.el, .slice X7 Xn7 Xk7, .slice X8 Xn8 Xk8] 27))
        have HB7 := Aside0.mk hbr2
        have HG7 := Aside0.mk g7
        have HL9 : Aside0 (lcs = pr ++ ([.int .i64 d.ty, .bool d.bo, .int .i64 d.n, .int .u64 (d.bits : Int), .slice X4 Xn4 Xk4, .int .i64 d.ky, .int .i64 d.el, .slice X7 Xn7 Xk7, .slice X8 Xn8 Xk8] ++ t1)) := ⟨by rw [HLE.out, g1]; rfl⟩
        have HCI := Aside0.mk ci
        have HPN := Aside0.mk (Blk.new wr #[.int .i64 d.ty, .bool d.bo, .int .i64 d.n, .int .u64 (d.bits : Int), .slice X4 Xn4 Xk4, .int .i64 d.ky, .int .i64 d.el, .slice X7 Xn7 Xk7, .slice X8 Xn8 Xk8] 27)
        clear g1 g2 g3 g4 g5 g6 g7 hy1 hrow hcell hcs hbr2 hto hEB hM
        go_upto_region 36 with (fail)
        clear z0 z1 z2 z3 z4 z5 z6 z7 z8
        generalize hw7 : World.alloc _ _ = w7 at HYP HB7 HPN HO7 ⊢
        clear hw7
        obtain ⟨u0, u1, u2, u3, u4, u5, u6, u7, u8, uz⟩ := nine HPN.out
        go_wp2_with (first
          | (go_at_call 12; (with_reducible refine HYP.out.mono ?_); rintro e w5 HQ; obtain ⟨v5, rfl, ho⟩ := HQ.out; obtain ⟨A5, c5, rfl, hc5, hr5⟩ := ho.read; rw [HM.out] at hc5 hr5; rw [HM.out]; have HR5 := Aside0.mk hr5; have HO5 := Aside0.mk (HO7.out.below HQ.below); have HB5 := Aside0.mk (HB7.out.trans (HQ.below.mono HB7.out.size)); clear HQ ho hr5)
          | (at_builtin; refine appendRead (w0 := w) w.heap.size rfl (.tmp 135) (.tmp 138) 23 5 .u8 1 rfl Tryd.underlying23 infoU8 (by decide) _ P A5 M c5 EB rfl rfl HO5.out HB5.out ?hb HR5.out ?hl ?_; (case hb => exact HB5.out.size); (case hl => omega); intro v6 w6 ho hb hg; have HO6 := Aside0.mk ho; have HB6 := Aside0.mk hb; clear ho hb hg))
        go_roundg (gk - 1)
        all_goals first
          | (have := HK.out; have := HCI.out; omega)
          | (exact ⟨i + 1, od, ev, id, tl, t1, pr ++ [.int .i64 d.ty, .bool d.bo, .int .i64 d.n, .int .u64 (d.bits : Int), .slice X4 Xn4 Xk4, .int .i64 d.ky, .int .i64 d.el, .slice X7 Xn7 Xk7, .slice X8 Xn8 Xk8], P ++ EB, HCI.out, by go_num, ⟨by have := HGl.out; have : (F.cons d id ls2 fs2 tl).len = tl.len + 1 := rfl; omega⟩, ⟨HGO.out.2.2⟩, ⟨by rw [HL9.out, List.append_assoc]⟩, ⟨by rw [List.length_append, HPR.out]; show i * 9 + 9 = (i + 1) * 9; omega⟩, HG7, ⟨HGA.out.2⟩, ⟨HGW.out.2.2.2.2.2.2⟩, HO6, HTO2, HB6, ⟨by have := HK.out; omega⟩⟩)
    · have hin : i = ls.len := by omega
      have hP : P = TOT := by
        have hd := HTO.out
        have hg := HGl.out
        cases G with
        | nil => rw [← hd]; exact (List.append_nil _).symm
        | cons d id ls2 fs2 tl => exfalso; have : (F.cons d id ls2 fs2 tl).len = tl.len + 1 := rfl; omega
      have ct : decide ((i : Int) < (ls.len : Nat)) = false := decide_eq_false (by omega)
      have ctt : decide (i < ls.len) = false := decide_eq_false ci
      have HFI := Aside0.mk hP
      clear hin hP ci
      go_wp2_with (fail)
      go_ret
      exact ⟨⟨_, rfl, HFI.out ▸ HO.out⟩, HBr.out⟩
set_option maxHeartbeats 8000000 in
set_option maxRecDepth 100000 in
theorem by_11 (long : Bool) (ls : F) (ev od : Int) (g : Nat) (lcs : List Value) (hil : F.all (By long) ls) (how : F.ow ls false) (hok : ls.ok g false ev od 0) (hn : ls.len ≤ 1000) (ky el : Int) (hky : (ls.len = 0 → ky = 0 ∧ el = 0) ∧ (ls.len ≠ 0 → 3 ≤ ky ∧ ky ≤ 12 ∧ 3 ≤ el ∧ el ≤ 12)) (A1 : Option Addr) (c1 : Nat) (A2 : Option Addr) (c2 : Nat) (A3 : Option Addr) (c3 : Nat) (w : World) (hl : Lies w (fun b => b < w.heap.size) (.slice A2 ls.len c2) ls.len lcs) (hli : ls.In flT w (fun b => b < w.heap.size) false lcs) (htl : ((varL (ls.len / 2) ++ (if ls.len = 0 then [] else [ky * 16 + el])) ++ ls.byB long false 0).length ≤ 4000000) :
    Calls Tryd.prog 12 #[.agg #[.int .i64 11, .bool false, .int .i64 0, .int .u64 0, .slice A1 0 c1, .int .i64 ky, .int .i64 el, .slice A2 ls.len c2, .slice A3 0 c3], .bool long] w fun e w' => WB w w' ((varL (ls.len / 2) ++ (if ls.len = 0 then [] else [ky * 16 + el])) ++ ls.byB long false 0) e := by
  obtain ⟨H2, hH2⟩ : ∃ H2, ls.len / 2 = H2 := ⟨_, rfl⟩
  have hd2 : (ls.len : Int).tdiv 2 = (H2 : Int) := by rw [Int.tdiv_eq_ediv_of_nonneg (by omega)]; omega
  have hd3 : (ls.len : Int) / 2 = (H2 : Int) := by omega
  have hw1 : IntKind.i64.wrap (H2 : Int) = (H2 : Int) := IntWalk.i64_in _ (by omega)
  have hw2 : IntKind.u64.wrap (H2 : Int) = (H2 : Int) := IntWalk.u64_in _ (by omega)
  have HVA := Aside0.mk fun W1 => varint_calls H2 W1 (by omega)
  have hvl := varL_len5 H2 (by omega)
  rw [hH2]
  rw [hH2] at htl
  clear hH2
  have HKY := Aside0.mk hky
  clear hky
  obtain ⟨A0, c0, e0, _, hrw⟩ := hl.out
  obtain ⟨rfl, _, rfl⟩ := Value.slice.inj e0
  have HL := Aside0.mk hrw
  have HLi := Aside0.mk hli
  have HIL := Aside0.mk hil
  have HOW := Aside0.mk how
  have HOK := Aside0.mk hok
  have HTL := Aside0.mk htl
  obtain ⟨TOT, hTOT⟩ : ∃ TOT, (varL H2 ++ (if ls.len = 0 then [] else [ky * 16 + el])) ++ ls.byB long false 0 = TOT := ⟨_, rfl⟩
  have HTT := Aside0.mk hTOT
  rw [hTOT] at HTL ⊢
  obtain ⟨PRE, hPRE⟩ : ∃ PRE, (varL H2 ++ (if ls.len = 0 then [] else [ky * 16 + el])) = PRE := ⟨_, rfl⟩
  have HPRE := Aside0.mk hPRE
  rw [hPRE] at HTT
  clear hl hli hil how hok htl hrw e0 hTOT hPRE
  have HB : Aside0 (Below w.heap.size w (w.alloc (.cells #[.int .i64 11, .bool false, .int .i64 0, .int .u64 0, .slice A1 0 c1, .int .i64 ky, .int .i64 el, .slice A2 ls.len c2, .slice A3 0 c3] 27))) := ⟨(Below.refl _ _).alloc (Nat.le_refl _) _⟩
  have HV := Aside0.mk (Blk.new w #[.int .i64 11, .bool false, .int .i64 0, .int .u64 0, .slice A1 0 c1, .int .i64 ky, .int .i64 el, .slice A2 ls.len c2, .slice A3 0 c3] 27)
  go_enter Tryd.func12, Tryd.ntmps12
  go_upto_region 1 with (fail)
  generalize hW : World.alloc _ _ = W at HB HV ⊢
  clear hW
  obtain ⟨q0, q1, q2, q3, q4, q5, q6, q7, q8, qz⟩ := nine HV.out
  by_cases hz : ls.len = 0
  · have k1 : decide (0 < (ls.len : Int)) = false := decide_eq_false (by omega)
    have k2 : decide (0 < ls.len) = false := decide_eq_false (by omega)
    have hPV : varL H2 = PRE := by rw [← HPRE.out, if_pos hz, List.append_nil]
    rw [hPV] at HVA
    clear hz hPV hvl
    go_wp2_with (first
      | (go_at_call 22; (with_reducible refine (HVA.out _).mono ?_); rintro e w2 ⟨v2, rfl, ho, hb⟩; have HOP := Aside0.mk (Own.lower ho HB.out.size); have HBP := Aside0.mk (HB.out.trans (hb.mono HB.out.size)); obtain ⟨p0, p1, p2, p3, p4, p5, p6, p7, p8, pz⟩ := nine (HV.out.below hb HV.out.lt); clear ho hb))
    go_loopg [5, 11, 131] ls.len (fun kq v5 v11 v131 w' => ∃ (i : Nat) (ev od last : Int) (G : F) (gc pr : List Value) (P : List Int), i ≤ ls.len ∧ v131 = .int .i64 i ∧ Aside0 (G.len + i = ls.len) ∧ Aside0 (G.ok g false ev od last) ∧ Aside0 (lcs = pr ++ gc) ∧ Aside0 (pr.length = i * 9) ∧ Aside0 (G.In flT w (fun b => b < w.heap.size) false gc) ∧ Aside0 (F.all (By long) G) ∧ Aside0 (F.ow G false) ∧ Aside0 (Own w' w.heap.size 5 .u8 v5 P) ∧ Aside0 (P ++ G.byB long false last = TOT) ∧ Aside0 (Below w.heap.size w w') ∧ Aside0 (ls.len - i ≤ kq))
    case atStart => exact ⟨0, ev, od, 0, ls, lcs, [], PRE, Nat.zero_le _, rfl, ⟨rfl⟩, HOK, ⟨rfl⟩, ⟨by simp⟩, HLi, HIL, HOW, HOP, HTT, HBP, ⟨by omega⟩⟩
    case round =>
      obtain ⟨i, ev, od, last, G, gc, pr, P, hi, rfl, HGl, HGO, HLE, HPR, HGI, HGA, HGW, HO, HTO, HBr, HK⟩ := hrel
      by_cases ci : i < ls.len
      · have ct : decide ((i : Int) < (ls.len : Nat)) = true := decide_eq_true (by omega)
        have ctt : decide (i < ls.len) = true := decide_eq_true ci
        cases G with
        | nil => exact absurd HGl.out (by show ¬ (0 + i = _); omega)
        | cons d id ls2 fs2 tl =>
          obtain ⟨bsv, lsv, fsv, l1, f1, t1, g1, g2, g3, g4, g5, g6, g7⟩ := HGI.out
          have hy1 : N.In flT w (fun b => b < w.heap.size) ⟨d, ls2, fs2⟩ (nodeC flT d bsv lsv fsv) := ⟨⟨bsv, lsv, fsv, l1, f1, rfl, g2, g3, g4, g5, g6⟩⟩
          obtain ⟨X4, Xn4, Xk4, X7, Xn7, Xk7, X8, Xn8, Xk8, hcs⟩ := openT hy1
          rw [hcs] at hy1 g1
          obtain ⟨ad, hA2, hadl, hcell⟩ := HL.out (by rw [HLE.out, g1]; simp)
          subst hA2
          have hrow := rowCell hcell HLE.out HPR.out
          obtain ⟨z0, z1, z2, z3, z4, z5, z6, z7, z8⟩ := nineRow (w := wr) (ad := ad) (k := i * 9) (rest := t1) (fun q u hq => (World.cell?_of_block (by rw [add_block]; exact HBr.out.block _ hadl)).trans (hrow q u hq)) g1
          have hbr2 : Below w.heap.size w (wr.alloc (.cells #[.int .i64 d.ty, .bool d.bo, .int .i64 d.n, .int .u64 (d.bits : Int), .slice X4 Xn4 Xk4, .int .i64 d.ky, .int .i64 d.el, .slice X7 Xn7 Xk7, .slice X8 Xn8 Xk8] 27)) := HBr.out.alloc HBr.out.size _
          have hto := HTO.out
          rw [byB_el, ← List.append_assoc] at hto
          have hle : (P ++ N.byB long ⟨d, ls2, fs2⟩).length ≤ 4000000 := by
            have := congrArg List.length hto
            rw [List.length_append] at this
            have := HTL.out
            omega
          have HYP := Aside0.mk (HGA.out.1 g false (wr.alloc (.cells #[.int .i64 d.ty, .bool d.bo, .int .i64 d.n, .int .u64 (d.bits : Int), .slice X4 Xn4 Xk4, .int .i64 d.ky, .int .i64 d.el, .slice X7 Xn7 Xk7, .slice X8 Xn8 Xk8] 27)) _ ⟨HGW.out.1, HGW.out.2.2.1, HGW.out.2.2.2.1, HGW.out.2.2.2.2.1, HGW.out.2.2.2.2.2.1⟩ HGO.out.2.1 (by rw [List.length_append] at hle; omega) (hy1.move (Pc := fun b => b < (wr.alloc (.cells #[.int .i64 d.ty, .bool d.bo, .int .i64 d.n, .int .u64 (d.bits : Int), .slice X4 Xn4 Xk4, .int .i64 d.ky, .int .i64 d.el, .slice X7 Xn7 Xk7, .slice X8 Xn8 Xk8] 27)).heap.size) (fun b hb => hbr2.block b hb) (fun b hb => Nat.lt_of_lt_of_le hb hbr2.size)))
          obtain ⟨EB, hEB⟩ : ∃ EB, N.byB long ⟨d, ls2, fs2⟩ = EB := ⟨_, rfl⟩
          rw [hEB] at hto hle HYP
          obtain ⟨M, hM⟩ : ∃ M, EB.length = M := ⟨_, rfl⟩
          rw [List.length_append, hM] at hle
          have HM := Aside0.mk hM
          have HTO2 := Aside0.mk hto
          have HO7 := Aside0.mk (HO.out.alloc (.cells #[.int .i64 d.ty, .bool d.bo, .int .i64 d.n, .int .u64 (d.bits : Int), .slice X4 Xn4 Xk4, .int .i64 d.ky, .int .i64 d.el, .slice X7 Xn7 Xk7, .slice X8 Xn8 Xk8] 27))
          have HB7 := Aside0.mk hbr2
          have HG7 := Aside0.mk g7
          have HL9 : Aside0 (lcs = pr ++ ([.int .i64 d.ty, .bool d.bo, .int .i64 d.n, .int .u64 (d.bits : Int), .slice X4 Xn4 Xk4, .int .i64 d.ky, .int .i64 d.el, .slice X7 Xn7 Xk7, .slice X8 Xn8 Xk8] ++ t1)) := ⟨by rw [HLE.out, g1]; rfl⟩
          have HCI := Aside0.mk ci
          have HPN := Aside0.mk (Blk.new wr #[.int .i64 d.ty, .bool d.bo, .int .i64 d.n, .int .u64 (d.bits : Int), .slice X4 Xn4 Xk4, .int .i64 d.ky, .int .i64 d.el, .slice X7 Xn7 Xk7, .slice X8 Xn8 Xk8] 27)
          clear g1 g2 g3 g4 g5 g6 g7 hy1 hrow hcell hcs hbr2 hto hEB hM
          go_upto_region 36 with (fail)
          clear z0 z1 z2 z3 z4 z5 z6 z7 z8
          generalize hw7 : World.alloc _ _ = w7 at HYP HB7 HPN HO7 ⊢
          clear hw7
          obtain ⟨u0, u1, u2, u3, u4, u5, u6, u7, u8, uz⟩ := nine HPN.out
          go_wp2_with (first
            | (go_at_call 12; (with_reducible refine HYP.out.mono ?_); rintro e w5 HQ; obtain ⟨v5, rfl, ho⟩ := HQ.out; obtain ⟨A5, c5, rfl, hc5, hr5⟩ := ho.read; rw [HM.out] at hc5 hr5; rw [HM.out]; have HR5 := Aside0.mk hr5; have HO5 := Aside0.mk (HO7.out.below HQ.below); have HB5 := Aside0.mk (HB7.out.trans (HQ.below.mono HB7.out.size)); clear HQ ho hr5)
            | (at_builtin; refine appendRead (w0 := w) w.heap.size rfl (.tmp 135) (.tmp 138) 23 5 .u8 1 rfl Tryd.underlying23 infoU8 (by decide) _ P A5 M c5 EB rfl rfl HO5.out HB5.out ?hb HR5.out ?hl ?_; (case hb => exact HB5.out.size); (case hl => omega); intro v6 w6 ho hb hg; have HO6 := Aside0.mk ho; have HB6 := Aside0.mk hb; clear ho hb hg))
          go_roundg (gk - 1)
          all_goals first
            | (have := HK.out; have := HCI.out; omega)
            | (exact ⟨i + 1, od, ev, id, tl, t1, pr ++ [.int .i64 d.ty, .bool d.bo, .int .i64 d.n, .int .u64 (d.bits : Int), .slice X4 Xn4 Xk4, .int .i64 d.ky, .int .i64 d.el, .slice X7 Xn7 Xk7, .slice X8 Xn8 Xk8], P ++ EB, HCI.out, by go_num, ⟨by have := HGl.out; have : (F.cons d id ls2 fs2 tl).len = tl.len + 1 := rfl; omega⟩, ⟨HGO.out.2.2⟩, ⟨by rw [HL9.out, List.append_assoc]⟩, ⟨by rw [List.length_append, HPR.out]; show i * 9 + 9 = (i + 1) * 9; omega⟩, HG7, ⟨HGA.out.2⟩, ⟨HGW.out.2.2.2.2.2.2⟩, HO6, HTO2, HB6, ⟨by have := HK.out; omega⟩⟩)
      · have hin : i = ls.len := by omega
        have hP : P = TOT := by
          have hd := HTO.out
          have hg := HGl.out
          cases G with
          | nil => rw [← hd]; exact (List.append_nil _).symm
          | cons d id ls2 fs2 tl => exfalso; have : (F.cons d id ls2 fs2 tl).len = tl.len + 1 := rfl; omega
        have ct : decide ((i : Int) < (ls.len : Nat)) = false := decide_eq_false (by omega)
        have ctt : decide (i < ls.len) = false := decide_eq_false ci
        have HFI := Aside0.mk hP
        clear hin hP ci
        go_wp2_with (fail)
        go_ret
        exact ⟨⟨_, rfl, HFI.out ▸ HO.out⟩, HBr.out⟩
  · have k1 : decide (0 < (ls.len : Int)) = true := decide_eq_true (by omega)
    have k2 : decide (0 < ls.len) = true := decide_eq_true (by omega)
    obtain ⟨y1, y2, y3, y4⟩ := HKY.out.2 hz
    have hPV : varL H2 ++ [ky * 16 + el] = PRE := by rw [← HPRE.out, if_neg hz]
    have hor := ori64 ky.toNat el.toNat (by omega) (by omega)
    rw [Int.toNat_of_nonneg (by omega), Int.toNat_of_nonneg (by omega)] at hor
    have hw3 : IntKind.i64.wrap (ky * 16) = ky * 16 := IntWalk.i64_in _ (by omega)
    have hu9 : IntKind.u8.wrap (ky * 16 + el) = ky * 16 + el := by rw [IntKind.wrap_u8]; omega
    have hu91 : (ky * 16 + el) % 256 = ky * 16 + el := by omega
    obtain ⟨x, hx⟩ : ∃ x, ky * 16 + el = x := ⟨_, rfl⟩
    rw [hx] at hPV hor hu9 hu91
    have HPV := Aside0.mk hPV
    clear hz hPV hx y1 y2 y3 y4
    go_wp2_with (first
      | (go_at_call 22; (with_reducible refine (HVA.out _).mono ?_); rintro e w2 ⟨v2, rfl, ho, hb⟩; have HO2 := Aside0.mk (Own.lower ho HB.out.size); have HB2 := Aside0.mk (HB.out.trans (hb.mono HB.out.size)); have HV2 := Aside0.mk (HV.out.below hb HV.out.lt); have HNE := Aside0.mk (ho.ne HV.out.lt); obtain ⟨p0, p1, p2, p3, p4, p5, p6, p7, p8, pz⟩ := nine HV2.out; clear ho hb)
      | (at_builtin; refine appendOwn (w0 := w) w.heap.size rfl (.tmp 65) (.tmp 73) 23 5 .u8 1 rfl Tryd.underlying23 infoU8 (by decide) _ (varL H2) x rfl rfl HO2.out HB2.out ?hb ?hl ?_; (case hb => exact HB2.out.size); (case hl => omega); intro v1 w1 ho hb hg; rw [HPV.out] at ho; have HOP := Aside0.mk ho; have HBP := Aside0.mk hb; obtain ⟨s0, s1, s2, s3, s4, s5, s6, s7, s8, sz⟩ := nine (blkGrown HV2.out hg HNE.out); clear ho hb hg))
    go_loopg [5, 11, 131] ls.len (fun kq v5 v11 v131 w' => ∃ (i : Nat) (ev od last : Int) (G : F) (gc pr : List Value) (P : List Int), i ≤ ls.len ∧ v131 = .int .i64 i ∧ Aside0 (G.len + i = ls.len) ∧ Aside0 (G.ok g false ev od last) ∧ Aside0 (lcs = pr ++ gc) ∧ Aside0 (pr.length = i * 9) ∧ Aside0 (G.In flT w (fun b => b < w.heap.size) false gc) ∧ Aside0 (F.all (By long) G) ∧ Aside0 (F.ow G false) ∧ Aside0 (Own w' w.heap.size 5 .u8 v5 P) ∧ Aside0 (P ++ G.byB long false last = TOT) ∧ Aside0 (Below w.heap.size w w') ∧ Aside0 (ls.len - i ≤ kq))
    case atStart => exact ⟨0, ev, od, 0, ls, lcs, [], PRE, Nat.zero_le _, rfl, ⟨rfl⟩, HOK, ⟨rfl⟩, ⟨by simp⟩, HLi, HIL, HOW, HOP, HTT, HBP, ⟨by omega⟩⟩
    case round =>
      obtain ⟨i, ev, od, last, G, gc, pr, P, hi, rfl, HGl, HGO, HLE, HPR, HGI, HGA, HGW, HO, HTO, HBr, HK⟩ := hrel
      by_cases ci : i < ls.len
      · have ct : decide ((i : Int) < (ls.len : Nat)) = true := decide_eq_true (by omega)
        have ctt : decide (i < ls.len) = true := decide_eq_true ci
        cases G with
        | nil => exact absurd HGl.out (by show ¬ (0 + i = _); omega)
        | cons d id ls2 fs2 tl =>
          obtain ⟨bsv, lsv, fsv, l1, f1, t1, g1, g2, g3, g4, g5, g6, g7⟩ := HGI.out
          have hy1 : N.In flT w (fun b => b < w.heap.size) ⟨d, ls2, fs2⟩ (nodeC flT d bsv lsv fsv) := ⟨⟨bsv, lsv, fsv, l1, f1, rfl, g2, g3, g4, g5, g6⟩⟩
          obtain ⟨X4, Xn4, Xk4, X7, Xn7, Xk7, X8, Xn8, Xk8, hcs⟩ := openT hy1
          rw [hcs] at hy1 g1
          obtain ⟨ad, hA2, hadl, hcell⟩ := HL.out (by rw [HLE.out, g1]; simp)
          subst hA2
          have hrow := rowCell hcell HLE.out HPR.out
          obtain ⟨z0, z1, z2, z3, z4, z5, z6, z7, z8⟩ := nineRow (w := wr) (ad := ad) (k := i * 9) (rest := t1) (fun q u hq => (World.cell?_of_block (by rw [add_block]; exact HBr.out.block _ hadl)).trans (hrow q u hq)) g1
          have hbr2 : Below w.heap.size w (wr.alloc (.cells #[.int .i64 d.ty, .bool d.bo, .int .i64 d.n, .int .u64 (d.bits : Int), .slice X4 Xn4 Xk4, .int .i64 d.ky, .int .i64 d.el, .slice X7 Xn7 Xk7, .slice X8 Xn8 Xk8] 27)) := HBr.out.alloc HBr.out.size _
          have hto := HTO.out
          rw [byB_el, ← List.append_assoc] at hto
          have hle : (P ++ N.byB long ⟨d, ls2, fs2⟩).length ≤ 4000000 := by
            have := congrArg List.length hto
            rw [List.length_append] at this
            have := HTL.out
            omega
          have HYP := Aside0.mk (HGA.out.1 g false (wr.alloc (.cells #[.int .i64 d.ty, .bool d.bo, .int .i64 d.n, .int .u64 (d.bits : Int), .slice X4 Xn4 Xk4, .int .i64 d.ky, .int .i64 d.el, .slice X7 Xn7 Xk7, .slice X8 Xn8 Xk8] 27)) _ ⟨HGW.out.1, HGW.out.2.2.1, HGW.out.2.2.2.1, HGW.out.2.2.2.2.1, HGW.out.2.2.2.2.2.1⟩ HGO.out.2.1 (by rw [List.length_append] at hle; omega) (hy1.move (Pc := fun b => b < (wr.alloc (.cells #[.int .i64 d.ty, .bool d.bo, .int .i64 d.n, .int .u64 (d.bits : Int), .slice X4 Xn4 Xk4, .int .i64 d.ky, .int .i64 d.el, .slice X7 Xn7 Xk7, .slice X8 Xn8 Xk8] 27)).heap.size) (fun b hb => hbr2.block b hb) (fun b hb => Nat.lt_of_lt_of_le hb hbr2.size)))
          obtain ⟨EB, hEB⟩ : ∃ EB, N.byB long ⟨d, ls2, fs2⟩ = EB := ⟨_, rfl⟩
          rw [hEB] at hto hle HYP
          obtain ⟨M, hM⟩ : ∃ M, EB.length = M := ⟨_, rfl⟩
          rw [List.length_append, hM] at hle
          have HM := Aside0.mk hM
          have HTO2 := Aside0.mk hto
          have HO7 := Aside0.mk (HO.out.alloc (.cells #[.int .i64 d.ty, .bool d.bo, .int .i64 d.n, .int .u64 (d.bits : Int), .slice X4 Xn4 Xk4, .int .i64 d.ky, .int .i64 d.el, .slice X7 Xn7 Xk7, .slice X8 Xn8 Xk8] 27))
          have HB7 := Aside0.mk hbr2
          have HG7 := Aside0.mk g7
          have HL9 : Aside0 (lcs = pr ++ ([.int .i64 d.ty, .bool d.bo, .int .i64 d.n, .int .u64 (d.bits : Int), .slice X4 Xn4 Xk4, .int .i64 d.ky, .int .i64 d.el, .slice X7 Xn7 Xk7, .slice X8 Xn8 Xk8] ++ t1)) := ⟨by rw [HLE.out, g1]; rfl⟩
          have HCI := Aside0.mk ci
          have HPN := Aside0.mk (Blk.new wr #[.int .i64 d.ty, .bool d.bo, .int .i64 d.n, .int .u64 (d.bits : Int), .slice X4 Xn4 Xk4, .int .i64 d.ky, .int .i64 d.el, .slice X7 Xn7 Xk7, .slice X8 Xn8 Xk8] 27)
          clear g1 g2 g3 g4 g5 g6 g7 hy1 hrow hcell hcs hbr2 hto hEB hM
          go_upto_region 36 with (fail)
          clear z0 z1 z2 z3 z4 z5 z6 z7 z8
          generalize hw7 : World.alloc _ _ = w7 at HYP HB7 HPN HO7 ⊢
          clear hw7
          obtain ⟨u0, u1, u2, u3, u4, u5, u6, u7, u8, uz⟩ := nine HPN.out
          go_wp2_with (first
            | (go_at_call 12; (with_reducible refine HYP.out.mono ?_); rintro e w5 HQ; obtain ⟨v5, rfl, ho⟩ := HQ.out; obtain ⟨A5, c5, rfl, hc5, hr5⟩ := ho.read; rw [HM.out] at hc5 hr5; rw [HM.out]; have HR5 := Aside0.mk hr5; have HO5 := Aside0.mk (HO7.out.below HQ.below); have HB5 := Aside0.mk (HB7.out.trans (HQ.below.mono HB7.out.size)); clear HQ ho hr5)
            | (at_builtin; refine appendRead (w0 := w) w.heap.size rfl (.tmp 135) (.tmp 138) 23 5 .u8 1 rfl Tryd.underlying23 infoU8 (by decide) _ P A5 M c5 EB rfl rfl HO5.out HB5.out ?hb HR5.out ?hl ?_; (case hb => exact HB5.out.size); (case hl => omega); intro v6 w6 ho hb hg; have HO6 := Aside0.mk ho; have HB6 := Aside0.mk hb; clear ho hb hg))
          go_roundg (gk - 1)
          all_goals first
            | (have := HK.out; have := HCI.out; omega)
            | (exact ⟨i + 1, od, ev, id, tl, t1, pr ++ [.int .i64 d.ty, .bool d.bo, .int .i64 d.n, .int .u64 (d.bits : Int), .slice X4 Xn4 Xk4, .int .i64 d.ky, .int .i64 d.el, .slice X7 Xn7 Xk7, .slice X8 Xn8 Xk8], P ++ EB, HCI.out, by go_num, ⟨by have := HGl.out; have : (F.cons d id ls2 fs2 tl).len = tl.len + 1 := rfl; omega⟩, ⟨HGO.out.2.2⟩, ⟨by rw [HL9.out, List.append_assoc]⟩, ⟨by rw [List.length_append, HPR.out]; show i * 9 + 9 = (i + 1) * 9; omega⟩, HG7, ⟨HGA.out.2⟩, ⟨HGW.out.2.2.2.2.2.2⟩, HO6, HTO2, HB6, ⟨by have := HK.out; omega⟩⟩)
      · have hin : i = ls.len := by omega
        have hP : P = TOT := by
          have hd := HTO.out
          have hg := HGl.out
          cases G with
          | nil => rw [← hd]; exact (List.append_nil _).symm
          | cons d id ls2 fs2 tl => exfalso; have : (F.cons d id ls2 fs2 tl).len = tl.len + 1 := rfl; omega
        have ct : decide ((i : Int) < (ls.len : Nat)) = false := decide_eq_false (by omega)
        have ctt : decide (i < ls.len) = false := decide_eq_false ci
        have HFI := Aside0.mk hP
        clear hin hP ci
        go_wp2_with (fail)
        go_ret
        exact ⟨⟨_, rfl, HFI.out ▸ HO.out⟩, HBr.out⟩
end Go.Proofs.YtcboegodjlfmnaaDoor.Twb
