import Derived.Test.YtcboegodjlfmnaaDoorSlTvd
import Derived.Laws.IdiomCopy
namespace Go.Proofs.YtcboegodjlfmnaaDoor.Tve
open Go.Proofs.YtcboegodjlfmnaaDoor.Tvc Go.Proofs.YtcboegodjlfmnaaDoor.Tvd Go.Proofs.YtcboegodjlfmnaaDoor.Tpa Go.Proofs.YtcboegodjlfmnaaDoor.Tvb Go.Proofs.YtcboegodjlfmnaaDoor.Tvo Go.Proofs.YtcboegodjlfmnaaDoor.Sbu Go.Proofs.YtcboegodjlfmnaaDoor.Dpu Go.Proofs.YtcboegodjlfmnaaDoor.Pak Go.Proofs.YtcboegodjlfmnaaDoor.Buf Go.Proofs.YtcboegodjlfmnaaDoor.Fit Go.Proofs.YtcboegodjlfmnaaDoor.Bit Go.Proofs.YtcboegodjlfmnaaDoor.Wrd Go.Proofs.YtcboegodjlfmnaaDoor.Spl Go.Proofs.YtcboegodjlfmnaaDoor.Str Go.Proofs.YtcboegodjlfmnaaDoor.Flt Go.Proofs.YtcboegodjlfmnaaDoor.Owe Go.Proofs.YtcboegodjlfmnaaDoor.Num Go.Proofs.YtcboegodjlfmnaaDoor.Le Go.Proofs.YtcboegodjlfmnaaDoor.Lst Go.Proofs.YtcboegodjlfmnaaDoor.Aid Go.RowKit Go.Proofs.YtcboegodjlfmnaaDoorW.PrintWords Go.Proofs.YtcboegodjlfmnaaDoorW.PrintLast Go.Proofs.YtcboegodjlfmnaaDoorW.PrintMore
set_option linter.unusedVariables false
set_option linter.unusedSimpArgs false
theorem isBuf_same {B b : Nat} {bs : List Value} {w : World} {v : Value} {lr x : Int} (h : Lib.IsBuffer 95 5 B b bs w) (hb : Blk w b #[v, .int .i64 0, .int .i8 lr] 95) (ho : w.ownsRow B 5 1 v bs.length bs) (hne : v.ownBlock ≠ some b) :
    Lib.IsBuffer 95 5 B b bs ((w.setCell ⟨b, 2, none⟩ (.int .i8 x)).setCell ⟨b, 0, none⟩ v) ∧ Below B w ((w.setCell ⟨b, 2, none⟩ (.int .i8 x)).setCell ⟨b, 0, none⟩ v) ∧ Lib.OthersKept 5 (some b) w ((w.setCell ⟨b, 2, none⟩ (.int .i8 x)).setCell ⟨b, 0, none⟩ v) := by
  have h2 := (hb.set 2 (.int .i8 x)).set 0 v
  refine ⟨⟨h.1, v, x, by simpa using h2.out, ?_, hne⟩, ((Below.refl B w).setCell (p := ⟨b, 2, none⟩) h.1 _).setCell (p := ⟨b, 0, none⟩) h.1 _, ((Lib.OthersKept.refl _ _ _).setCell ⟨b, 2, none⟩ rfl _).setCell ⟨b, 0, none⟩ rfl _⟩
  exact own_move ho fun k hk => by
    have hn : k ≠ b := fun e => hne (e ▸ hk)
    rw [Below.heap_setCell _ _ _ k hn, Below.heap_setCell _ _ _ k hn]
set_option maxRecDepth 100000 in
/-- no bytes at all -/
theorem bufWrite0 (B b : Nat) (bs : List Value) (A : Option Addr) (c : Nat) (w : World) (h : Lib.IsBuffer 95 5 B b bs w) :
    Calls Tryd.prog 174 #[.pointer (some ⟨b, 0, none⟩), .slice A 0 c] w fun e w' => e = .returned (.tuple #[.int .i64 0, .nilIface]) ∧ Lib.IsBuffer 95 5 B b bs w' ∧ Below B w w' ∧ Lib.OthersKept 5 (some b) w w' := by
  obtain ⟨hB, v, lr, hbk, hown, hne⟩ := id h
  have hb : Blk w b #[v, .int .i64 0, .int .i8 lr] 95 := ⟨hbk⟩
  obtain ⟨ao, l, cap, rfl, hlc, hcm⟩ : ∃ (ao : Option Addr) (l cap : Nat), v = .slice ao l cap ∧ l ≤ cap ∧ cap ≤ maxLen := by
    rcases hown.2 with ⟨rfl, _⟩ | ⟨g, cp, cur, rfl, _, _, h3, h4, _⟩
    · exact ⟨none, 0, 0, rfl, Nat.le_refl _, Nat.zero_le _⟩
    · exact ⟨_, _, _, rfl, h3, h4⟩
  have HFIN := Aside0.mk (isBuf_same (x := 0) h hb hown hne)
  have hb2 : Blk (w.setCell ⟨b, 2, none⟩ (.int .i8 0)) b #[.slice ao l cap, .int .i64 0, .int .i8 0] 95 := by simpa using hb.set 2 (.int .i8 0)
  have hb3 : Blk ((w.setCell ⟨b, 2, none⟩ (.int .i8 0)).setCell ⟨b, 0, none⟩ (.slice ao l cap)) b #[.slice ao l cap, .int .i64 0, .int .i8 0] 95 := by simpa using hb2.set 0 (.slice ao l cap)
  have HG := Aside0.mk (bufGrow0 b ao l cap _ (hb2.cell (j := 0) rfl) (hb2.free 0) hlc hcm)
  have c2 := hb.cell (j := 2) rfl
  have f2 := hb.free 2
  have d0 := hb3.cell (j := 0) rfl
  obtain ⟨i8, h8⟩ := h8
  obtain ⟨A2, qcut, _⟩ := cutLo (P := Tryd.prog) 23 5 Tryd.underlying23 h8.1 h8.2 ao l cap .i64 (l : Int) l rfl (Nat.le_refl _) hlc
  rw [Nat.sub_self] at qcut
  obtain ⟨k, hk⟩ : ∃ k, cap - l = k := ⟨_, rfl⟩
  rw [hk] at qcut
  have hcp := fun W => run_copy_none (P := Tryd.prog) W 23 23 3 5 A2 A 0 k 0 c Tryd.underlying23 (by kernel_rfl) (Nat.min_eq_left (Nat.zero_le _))
  clear h hbk hown hne hb hb2 hb3 hlc hcm hk h8
  go_enter Tryd.func174, Tryd.ntmps174
  go_wp2_with (first
    | (go_at_call 145; (with_reducible refine HG.out.mono ?_); rintro e w2 ⟨rfl, rfl⟩))
  go_ret2
  exact ⟨rfl, HFIN.out⟩
set_option maxRecDepth 100000 in
theorem write0_calls (B g b c : Nat) (A : Option Addr) (bs : List Int) (w : World) (h : WrB w B g b bs) (hB : B ≤ w.heap.size) :
    Calls Tryd.prog 135 #[.pointer (some ⟨g, 1, none⟩), .slice A 0 c] w fun e w' => WrOk w w' B g b bs e := by
  have h9 := h.wb.dst
  have HW := Aside0.mk (bufWrite0 B b (nums .u8 bs) A c w h.buf)
  have H := Aside0.mk h
  have hm := m_Write
  clear h
  go_enter Tryd.func135, Tryd.ntmps135
  go_wp2_with (first
    | (go_at_call 174; (with_reducible refine HW.out.mono ?_); rintro e w2 ⟨rfl, hi, hb, hk⟩; have HI := Aside0.mk hi; have HB := Aside0.mk hb; have HK := Aside0.mk hk; clear hi hb hk))
  go_ret
  exact ⟨rfl, ⟨H.out.hg, H.out.hb, H.out.ne, wb_others H.out.wb H.out.ne HK.out, HI.out⟩, HB.out, Kept.of_others HK.out⟩
theorem c_src {w : World} {ad : Addr} {n : Nat} {xs : List Int} (h : (Kd.int .u8).C w (some ad) n xs) : ∀ j v, (nums .u8 xs)[j]? = some v → w.cell? (ad.add j) = some v := by
  intro j v hj
  have hp : 0 < xs.length := by
    have := (List.getElem?_eq_some_iff.1 hj).1
    simp [nums] at this; omega
  obtain ⟨ad2, e, hc⟩ := copySrc h hp
  obtain rfl := Option.some.inj e
  exact hc j v hj
set_option maxRecDepth 100000 in
theorem wBytes_calls (B g b : Nat) (bs : List Int) (A : Option Addr) (n c : Nat) (xs : List Int) (w : World) (h : WrB w B g b bs) (hB : B ≤ w.heap.size) (hC : (Kd.int .u8).C w A n xs) (hA : xs ≠ [] → ∃ ad, A = some ad ∧ ad.block < B) (hn : n ≤ 10000) (hlim : bs.length ≤ 100000000) :
    Calls Tryd.prog 120 #[.pointer (some ⟨g, 0, none⟩), .slice A n c] w fun e w' => WrOk w w' B g b (bs ++ (varL n ++ xs)) e := by
  have hl : xs.length = n := hC.1
  have HL := Aside0.mk (wLength_calls B g b bs n w h hB (by omega) hlim)
  have HVL := Aside0.mk (varL_len5 n (by omega))
  have HBW := Aside0.mk hB
  have HC := Aside0.mk hC
  have HLB := Aside0.mk hlim
  by_cases c0 : xs = []
  · subst c0
    obtain rfl : n = 0 := hl.symm
    have HW : Aside0 (∀ V, WrB V B g b (bs ++ varL 0) → B ≤ V.heap.size → Calls Tryd.prog 135 #[.pointer (some ⟨g, 1, none⟩), .slice A 0 c] V fun e w' => WrOk V w' B g b (bs ++ varL 0) e) := ⟨fun V h hB => write0_calls B g b c A (bs ++ varL 0) V h hB⟩
    have HL0 : Aside0 (Calls Tryd.prog 127 #[.pointer (some ⟨g, 0, none⟩), .int .i64 0] w fun e w' => WrOk w w' B g b (bs ++ varL 0) e) := ⟨HL.out⟩
    clear h hC hA hl hlim
    go_enter Tryd.func120, Tryd.ntmps120
    go_wp2_with (first
      | (go_at_call 127; (with_reducible refine HL0.out.mono ?_); rintro e w2 HQ; obtain rfl := HQ.ret; have HQ1 := Aside0.mk HQ; clear HQ)
      | (go_at_call 135; (with_reducible refine (HW.out _ HQ1.out.wr (Nat.le_trans HBW.out HQ1.out.below.size)).mono ?_); rintro e w3 HQ; obtain rfl := HQ.ret; have HQ2 := Aside0.mk HQ; clear HQ))
    go_ret
    rw [List.append_nil]
    exact HQ1.out.then HQ2.out
  · obtain ⟨ad, rfl, had⟩ := hA c0
    have HW : Aside0 (∀ V, WrB V B g b (bs ++ varL n) → Below B w V → Calls Tryd.prog 135 #[.pointer (some ⟨g, 1, none⟩), .slice (some ad) n c] V fun e w' => WrOk V w' B g b (bs ++ varL n ++ xs) e) := ⟨fun V h hb => write_calls B g b n c 0 ad (bs ++ varL n) xs [] V h (Nat.le_trans HBW.out hb.size) (fun j v hj => (World.cell?_of_block (by rw [add_block]; exact hb.block _ had)).trans (c_src HC.out j v hj)) hl (by have := h.hb; omega) (by rw [List.length_append]; have := HVL.out; have := HLB.out; omega)⟩
    clear h hC hl hlim
    go_enter Tryd.func120, Tryd.ntmps120
    go_wp2_with (first
      | (go_at_call 127; (with_reducible refine HL.out.mono ?_); rintro e w2 HQ; obtain rfl := HQ.ret; have HQ1 := Aside0.mk HQ; clear HQ)
      | (go_at_call 135; (with_reducible refine (HW.out _ HQ1.out.wr HQ1.out.below).mono ?_); rintro e w3 HQ; obtain rfl := HQ.ret; have HQ2 := Aside0.mk HQ; clear HQ))
    go_ret
    rw [← List.append_assoc]
    exact HQ1.out.then HQ2.out
set_option maxRecDepth 100000 in
theorem put4_calls (g b o n c : Nat) (pre : List Int) (x : Nat) (w : World) (hF : WbO w g b 1 pre) (ho : 1 + pre.length = o) (h9 : o + 4 ≤ 9) (hn : 4 ≤ n) (hx : x < 4294967296) :
    Calls Tryd.prog 142 #[.slice (some ⟨g, o, none⟩) n c, .int .u32 x] w fun e w' => e = .returned (.tuple #[]) ∧ WbO w' g b 1 (pre ++ lowL 4 x) ∧ w.grownBy w' (some g) := by
  have k0 : ∃ v, w.cell? ⟨g, o, none⟩ = some v := hF.cell o (by omega)
  have k1 := hF.cell (o + 1) (by omega)
  have k2 := hF.cell (o + 2) (by omega)
  have k3 := hF.eight (o + 3) (by omega) (by omega)
  obtain ⟨v0, k0⟩ := k0
  obtain ⟨v1, k1⟩ := k1
  obtain ⟨v2, k2⟩ := k2
  obtain ⟨v3, k3⟩ := k3
  have f0 := hF.free o
  have f1 := hF.free (o + 1)
  have f2 := hF.free (o + 2)
  have f3 := hF.free (o + 3)
  have i0 : decide (0 < n) = true := decide_eq_true (by omega)
  have i1 : decide (1 < n) = true := decide_eq_true (by omega)
  have i2 : decide (2 < n) = true := decide_eq_true (by omega)
  have i3 : decide (3 < n) = true := decide_eq_true (by omega)
  have H0 := hF.push o (by omega) (by omega) (by omega) ((x : Int) % 256)
  have H1 := H0.push (o + 1) (by rw [List.length_append]; simp; omega) (by omega) (by omega) ((x : Int) / 256 % 256)
  have H2 := H1.push (o + 2) (by rw [List.length_append, List.length_append]; simp; omega) (by omega) (by omega) ((x : Int) / 65536 % 256)
  have H3 := H2.push (o + 3) (by rw [List.length_append, List.length_append, List.length_append]; simp; omega) (by omega) (by omega) ((x : Int) / 16777216 % 256)
  have e : lowL 4 (x : Int) = [(x : Int) % 256, (x : Int) / 256 % 256, (x : Int) / 65536 % 256, (x : Int) / 16777216 % 256] := by
    show [(x : Int) / 256 ^ 0 % 256, (x : Int) / 256 ^ 1 % 256, (x : Int) / 256 ^ 2 % 256, (x : Int) / 256 ^ 3 % 256] = _
    simp
  rw [e]
  have HH : Aside0 (WbO ((((w.setCell ⟨g, o, none⟩ (.int .u8 ((x : Int) % 256))).setCell ⟨g, o + 1, none⟩ (.int .u8 ((x : Int) / 256 % 256))).setCell ⟨g, o + 2, none⟩ (.int .u8 ((x : Int) / 65536 % 256))).setCell ⟨g, o + 3, none⟩ (.int .u8 ((x : Int) / 16777216 % 256))) g b 1 (pre ++ [(x : Int) % 256, (x : Int) / 256 % 256, (x : Int) / 65536 % 256, (x : Int) / 16777216 % 256])) := ⟨by simpa using H3⟩
  have HG : Aside0 (w.grownBy ((((w.setCell ⟨g, o, none⟩ (.int .u8 ((x : Int) % 256))).setCell ⟨g, o + 1, none⟩ (.int .u8 ((x : Int) / 256 % 256))).setCell ⟨g, o + 2, none⟩ (.int .u8 ((x : Int) / 65536 % 256))).setCell ⟨g, o + 3, none⟩ (.int .u8 ((x : Int) / 16777216 % 256))) (some g)) := ⟨grownSet (grownSet (grownSet (grownSet (grownRefl _ _) _ _) _ _) _ _) _ _⟩
  clear hF H0 H1 H2 H3 e
  go_enter Tryd.func142, Tryd.ntmps142
  go_wp2
  go_end0
  have e2 : (x : Int) / 16777216 % 256 = (x : Int) / 16777216 := by omega
  first
    | exact ⟨rfl, HH.out, HG.out⟩
    | (rw [e2] at HH HG ⊢; exact ⟨rfl, HH.out, HG.out⟩)
theorem lowL_8 (v : Nat) : lowL 8 (v : Int) = lowL 4 ((v % 4294967296 : Nat) : Int) ++ lowL 4 ((v / 4294967296 : Nat) : Int) := by
  simp only [lowL, List.range_succ, List.range_zero, List.map_append, List.map_cons, List.map_nil, List.nil_append, List.cons_append, List.append_assoc]
  congr 1
  · omega
  congr 1
  · omega
  congr 1
  · omega
  congr 1
  · omega
  congr 1
  · omega
  congr 1
  · omega
  congr 1
  · omega
  congr 1
  omega
set_option maxRecDepth 100000 in
theorem put8_calls (g b : Nat) (x : Nat) (w : World) (hF : WbO w g b 1 []) (hx : x < 18446744073709551616) :
    Calls Tryd.prog 137 #[.slice (some ⟨g, 1, none⟩) 8 8, .int .u64 x] w fun e w' => e = .returned (.tuple #[]) ∧ WbO w' g b 1 (lowL 8 x) ∧ w.grownBy w' (some g) := by
  rw [lowL_8]
  have F1 := Aside0.mk (put4_calls g b 1 8 8 [] (x % 4294967296) w hF rfl (by omega) (by omega) (by omega))
  have F2 : Aside0 (∀ V, WbO V g b 1 (lowL 4 ((x % 4294967296 : Nat) : Int)) → Calls Tryd.prog 142 #[.slice (some ⟨g, 5, none⟩) 4 4, .int .u32 ((x / 4294967296 : Nat) : Int)] V fun e w' => e = .returned (.tuple #[]) ∧ WbO w' g b 1 (lowL 4 ((x % 4294967296 : Nat) : Int) ++ lowL 4 ((x / 4294967296 : Nat) : Int)) ∧ V.grownBy w' (some g)) := ⟨fun V hV => put4_calls g b 5 4 4 _ _ V hV (by rw [lowL_length]) (by omega) (by omega) (by omega)⟩
  obtain ⟨z7, x7⟩ := hF.eight 8 (by omega) (by omega)
  obtain ⟨xl, hxl⟩ : ∃ xl, x % 4294967296 = xl := ⟨_, rfl⟩
  obtain ⟨xh, hxh⟩ : ∃ xh, x / 4294967296 = xh := ⟨_, rfl⟩
  have el : (x : Int) % 4294967296 = (xl : Int) := by omega
  have eh : (x : Int) / 4294967296 = (xh : Int) := by omega
  have eh2 : ((x : Int) / 4294967296) % 4294967296 = (xh : Int) := by omega
  have eh3 : (xh : Int) % 4294967296 = (xh : Int) := by omega
  rw [hxl] at F1 F2 ⊢
  rw [hxh] at F2 ⊢
  rw [List.nil_append] at F1
  obtain ⟨i8, h8⟩ := h8
  clear hF hxl hxh
  go_enter Tryd.func137, Tryd.ntmps137
  go_wp2_with (go_at_call 142; (first
    | ((with_reducible refine F1.out.mono ?_); rintro e w2 ⟨rfl, hf, hg⟩; have HF2 := Aside0.mk hf; have HG2 := Aside0.mk hg; clear hf hg)
    | ((with_reducible refine (F2.out _ HF2.out).mono ?_); rintro e w3 ⟨rfl, hf, hg⟩; have HF3 := Aside0.mk hf; have HG3 := Aside0.mk hg; clear hf hg)))
  go_end0
  exact ⟨rfl, HF3.out, HG2.out.trans HG3.out⟩
set_option maxRecDepth 100000 in
set_option maxHeartbeats 4000000 in
theorem wFloat_calls (B g b : Nat) (bs : List Int) (x : Nat) (w : World) (h : WrB w B g b bs) (hB : B ≤ w.heap.size) (hx : x < 18446744073709551616) (hlim : bs.length ≤ 100000000) :
    Calls Tryd.prog 122 #[.pointer (some ⟨g, 0, none⟩), .float .f64 x] w fun e w' => WrOk w w' B g b (bs ++ lowL 8 x) e := by
  have hfb : ∀ W : World, (callFunc 36 #[.float .f64 x]).run Tryd.prog W = .ok (.value (.int .u64 (x : Int))) W := float64bits_run (x : Int) (by omega)
  have HP := Aside0.mk (put8_calls g b x w.drew h.wb.drew hx)
  have H := Aside0.mk h
  have HLB := Aside0.mk hlim
  have hcb := cutB g
  have HWR : Aside0 (∀ w1, WbO w1 g b 1 (lowL 8 x) → w.grownBy w1 (some g) → Calls Tryd.prog 135 #[.pointer (some ⟨g, 1, none⟩), .slice (some ⟨g, 1, none⟩) 8 8] w1 fun e w' => WrOk w w' B g b (bs ++ lowL 8 x) e) := ⟨fun w1 hw hg => by
    have h1 := H.out.grown hw hg
    refine (write_calls B g b 8 8 0 ⟨g, 1, none⟩ bs (lowL 8 x) [] w1 h1.1 (Nat.le_trans hB hg.size) (hw.src (by omega)) (by rw [lowL_length]) H.out.ne (by have := HLB.out; omega)).mono ?_
    intro e w2 hq
    exact ⟨hq.ret, hq.wr, h1.2.1.trans hq.below, h1.2.2.trans hq.kept⟩⟩
  clear h hlim hx
  go_enter Tryd.func122, Tryd.ntmps122
  go_upto_region 1 with (fail)
  go_region_held3 (fun (V : World) => True) (trivial)
    ((first
      | (go_at_call 137; (with_reducible refine HP.out.mono ?_); rintro e w2 ⟨rfl, hf, hg⟩; have HF := Aside0.mk hf; have HG : Aside0 (w.grownBy w2 (some g)) := ⟨⟨hg.os, hg.tape, hg.output, hg.size, hg.block⟩⟩; clear hf hg)
      | fail "no arm"))
  all_goals go_upto_region 2 with (fail)
  all_goals
    go_region_held3 (fun (V : World) => True) (trivial)
      ((first
        | (go_at_call 135; (with_reducible refine (HWR.out w2.drew HF.out.drew HG.out.drew2).mono ?_); rintro e w3 HQ; obtain rfl := HQ.ret; have HQ := Aside0.mk HQ)
        | fail "no arm"))
  all_goals go_wp2_with (fail)
  all_goals go_ret
  all_goals exact HQ.out
theorem keptC {g b k t : Nat} {w w' : World} {cs : Array Value} (h : Tvb.Kept g b w w') (hk : Blk w k cs t) (hg : g < k) (hb : b < k) (ht : t ≠ 5) : Blk w' k cs t := h.blk hk (by omega) (by omega) ht
set_option maxRecDepth 100000 in
set_option maxHeartbeats 4000000 in
theorem wMap_calls (B g b : Nat) (bs : List Int) (n ky el : Nat) (w : World) (h : WrB w B g b bs) (hB : B ≤ w.heap.size) (hn : n ≤ 1000) (hk : ky ≤ 12) (he : el ≤ 12) (hlim : bs.length ≤ 100000000) :
    Calls Tryd.prog 129 #[.pointer (some ⟨g, 0, none⟩), .agg #[.int .i32 n, .int .i8 (ky : Int), .int .i8 (el : Int)]] w fun e w' => WrOk w w' B g b (bs ++ (varL n ++ (if n = 0 then [] else [(ky : Int) * 16 + (el : Int)]))) e := by
  have HW1 := Aside0.mk (h.alloc (.cells #[.int .i32 n, .int .i8 (ky : Int), .int .i8 (el : Int)] 127))
  have HB1 : Aside0 (Below w.heap.size w (w.alloc (.cells #[.int .i32 n, .int .i8 (ky : Int), .int .i8 (el : Int)] 127))) := ⟨(Below.refl _ _).alloc (Nat.le_refl _) _⟩
  have HV1 := Aside0.mk (Blk.new w #[.int .i32 n, .int .i8 (ky : Int), .int .i8 (el : Int)] 127)
  have HLT := Aside0.mk h.lt
  have HBS := Aside0.mk hlim
  have HBW := Aside0.mk hB
  have hw2 : IntKind.u64.wrap (n : Int) = (n : Int) := IntWalk.u64_in _ (by omega)
  have HUV := Aside0.mk fun (V : World) (h : WrB V B g b bs) (hB : B ≤ V.heap.size) => writeUvarint_calls B g b n bs V h hB (by omega) (by omega)
  have HVL := Aside0.mk (varL_len5 n (by omega))
  have hu1 : (ky : Int) % 256 = (ky : Int) := by omega
  have hu2 : IntKind.u8.wrap (ky : Int) = (ky : Int) := by rw [IntKind.wrap_u8]; omega
  have hu3 : (el : Int) % 256 = (el : Int) := by omega
  have hu4 : IntKind.u8.wrap (el : Int) = (el : Int) := by rw [IntKind.wrap_u8]; omega
  have hu5 : (ky : Int) * 16 % 256 = (ky : Int) * 16 := by omega
  have hu6 : IntKind.u8.wrap ((ky : Int) * 16) = (ky : Int) * 16 := by rw [IntKind.wrap_u8]; omega
  have ho1 := oru8 ky el (by omega) (by omega)
  have HXA : Aside0 (∀ V, Blk V w.heap.size #[.int .i32 n, .int .i8 (ky : Int), .int .i8 (el : Int)] 127 → V.cell? ⟨w.heap.size, 0, none⟩ = some (.int .i32 n) ∧ V.cell? ⟨w.heap.size, 1, none⟩ = some (.int .i8 (ky : Int)) ∧ V.cell? ⟨w.heap.size, 2, none⟩ = some (.int .i8 (el : Int))) := ⟨fun V h => ⟨h.cell (j := 0) rfl, h.cell (j := 1) rfl, h.cell (j := 2) rfl⟩⟩
  obtain ⟨q0, q01, q02⟩ := HXA.out _ HV1.out
  clear h hlim
  by_cases c : n = 0
  · subst c
    have hz : ((0 : Nat) : Int) = 0 := rfl
    have HUV0 : Aside0 (∀ (V : World), WrB V B g b bs → B ≤ V.heap.size → Calls Tryd.prog 140 #[.pointer (some ⟨g, 0, none⟩), .int .u64 0] V fun e w' => WrOk V w' B g b (bs ++ varL 0) e) := ⟨HUV.out⟩
    rw [hz] at q0 HW1 HB1 HV1 hw2 HXA ⊢
    clear hn
    go_enter Tryd.func129, Tryd.ntmps129
    go_upto_region 1 with (fail)
    generalize hW1 : World.alloc _ _ = W1 at HW1 HB1 HV1 q0 q01 q02 ⊢
    clear hW1
    go_upto_region 2 with (first
      | (go_at_call 140; (with_reducible refine (HUV0.out _ HW1.out (Nat.le_trans HBW.out HB1.out.size)).mono ?_); rintro e w2 HQ; obtain rfl := HQ.ret; have HQ1 := Aside0.mk HQ; clear HQ))
    have hv2 := keptC HQ1.out.kept HV1.out HLT.out.1 HLT.out.2 (by decide)
    obtain ⟨r0, r01, r02⟩ := HXA.out _ hv2
    clear hv2 q0 q01 q02
    go_wp2_with (fail)
    go_ret
    try rw [if_pos rfl, List.append_nil]
    exact WrOk.behind HQ1.out HBW.out HB1.out
  · have z1 : ((n : Int) == 0) = false := by rw [beq_eq_false_iff_ne]; omega
    have z2 : (n == 0) = false := by rw [beq_eq_false_iff_ne]; omega
    rw [if_neg c]
    have HWB : Aside0 (∀ (x : Int) (V : World) (cs : List Int), WrB V B g b cs → B ≤ V.heap.size → cs.length ≤ 1000000000 → Calls Tryd.prog 136 #[.pointer (some ⟨g, 1, none⟩), .int .u8 x] V fun e w' => WrOk V w' B g b (cs ++ [x]) e) := ⟨fun x V cs h hB hl => writeByte_calls B g b cs x V h hB hl⟩
    clear hn c
    go_enter Tryd.func129, Tryd.ntmps129
    go_upto_region 1 with (fail)
    generalize hW1 : World.alloc _ _ = W1 at HW1 HB1 HV1 q0 q01 q02 ⊢
    clear hW1
    go_upto_region 2 with (first
      | (go_at_call 140; (with_reducible refine (HUV.out _ HW1.out (Nat.le_trans HBW.out HB1.out.size)).mono ?_); rintro e w2 HQ; obtain rfl := HQ.ret; have HQ1 := Aside0.mk HQ; clear HQ))
    have HV2 := Aside0.mk (keptC HQ1.out.kept HV1.out HLT.out.1 HLT.out.2 (by decide))
    obtain ⟨r0, r01, r02⟩ := HXA.out _ HV2.out
    clear q0 q01 q02
    go_upto_region 4 with (fail)
    go_region_held3 (fun (V : World) => V.cell? ⟨w.heap.size, 0, none⟩ = some (.int .i32 n) ∧ V.cell? ⟨w.heap.size, 1, none⟩ = some (.int .i8 (ky : Int)) ∧ V.cell? ⟨w.heap.size, 2, none⟩ = some (.int .i8 (el : Int)))
      (first
        | with_reducible exact HXA.out _ (keptC HQ.out.kept HV2.out.drew HLT.out.1 HLT.out.2 (by decide))
        | with_reducible exact HXA.out _ HV2.out.drew)
      ((first
        | (go_at_call 136; (with_reducible refine (HWB.out _ _ _ HQ1.out.wr.drew (Nat.le_trans HBW.out (Nat.le_trans HB1.out.size HQ1.out.below.drew.size)) (by rw [List.length_append]; have := HBS.out; have := HVL.out; omega)).mono ?_); rintro e w3 HQ; obtain rfl := HQ.ret; have HQ := Aside0.mk HQ)
        | fail "no arm"))
    all_goals go_wp2_with (fail)
    all_goals go_ret
    all_goals (rw [← List.append_assoc]; exact WrOk.behind (HQ1.out.then (WrOk.behind HQ.out (Nat.le_trans HBW.out (Nat.le_trans HB1.out.size HQ1.out.below.size)) (Below.refl _ _).drew)) HBW.out HB1.out)
end Go.Proofs.YtcboegodjlfmnaaDoor.Tve
