import Derived.Test.YtkefklemcoehmaaTri
/-! Numbers of 96 bits: reading. -/
namespace Go.Proofs.Ytkefklemcoehmaa.Trd
open Go.Proofs.Ytkefklemcoehmaa.Tri Go.Proofs.Ytkefklemcoehmaa.Lpf Go.Proofs.Ytkefklemcoehmaa.Lsf Go.Proofs.Ytkefklemcoehmaa.Pln Go.Proofs.Ytkefklemcoehmaa.Wrd Go.Proofs.Ytkefklemcoehmaa.Sim Go.Proofs.Ytkefklemcoehmaa.Spl Go.Proofs.Ytkefklemcoehmaa.Str Go.Proofs.Ytkefklemcoehmaa.Flt Go.Proofs.Ytkefklemcoehmaa.Owe Go.Proofs.Ytkefklemcoehmaa.Num Go.Proofs.Ytkefklemcoehmaa.Le Go.Proofs.Ytkefklemcoehmaa.Lst Go.Proofs.Ytkefklemcoehmaa.Aid Go.RowKit Go.Proofs.YtkefklemcoehmaaW.PrintWords Go.Proofs.YtkefklemcoehmaaW.PrintLast Go.Proofs.YtkefklemcoehmaaW.PrintMore
set_option linter.unusedVariables false
set_option linter.unusedSimpArgs false
def dec3 (bs : List Int) (j : Nat) : T3 := (wd4 bs (3 * j), wd4 bs (3 * j + 1), wd4 bs (3 * j + 2))
def decs3 (bs : List Int) (n : Nat) : List T3 := (List.range n).map (dec3 bs)
theorem decs3_succ (bs : List Int) (n : Nat) : decs3 bs (n + 1) = decs3 bs n ++ [dec3 bs n] := by simp [decs3, List.range_succ]
theorem decs3_length (bs : List Int) (n : Nat) : (decs3 bs n).length = n := by simp [decs3]
theorem le4_cut (bs : List Int) (o k : Nat) (ho : o = 4 * k) : le4L (bs.drop o) = wd4 bs k := by
  rw [wd4_rd, ← ho]
  unfold le4L
  rw [show (0 : Int) = ((0 : Nat) : Int) from rfl, show (1 : Int) = ((1 : Nat) : Int) from rfl, show (2 : Int) = ((2 : Nat) : Int) from rfl, show (3 : Int) = ((3 : Nat) : Int) from rfl]
  simp only [rd_drop]
  rfl
set_option maxHeartbeats 4000000 in
set_option maxRecDepth 100000 in
theorem plDecodeInt96_calls (p : Option Addr) (A : Option Addr) (N c n : Nat) (bs : List Int) (w : World) (hC : (Kd.int .u8).C w A N bs) (hc : N ≤ c) (hN : N = 12 * n) (hn : n ≤ 100000) (hb : bytesB bs = true) :
    Calls Try.prog 22 #[.pointer p, .slice none 0 0, .slice A N c] w fun e w' => ∃ v, e = .returned (.tuple #[v, .nilIface]) ∧ OwnX 52 w' w.heap.size v (decs3 bs n) ∧ Below w.heap.size w w' := by
  have HLN : Aside0 (bs.length = N) := ⟨hC.1⟩
  have HC := Aside0.mk hC
  have HBY := Aside0.mk hb
  have h1N : N ≤ 12 * n := by omega
  have h2N : 12 * n ≤ N := by omega
  have hq2 : (N : Int) % 12 = 0 := by omega
  obtain ⟨i8, h8⟩ := h8
  obtain ⟨ie, he, hez⟩ := Option.map_eq_some_iff.1 info3
  obtain ⟨cutz, _⟩ := cutHi (P := Try.prog) 51 52 Try.underlying51 he none 0 0 .i64 0 0 rfl (by omega) (by omega)
  clear hC hb hN he hez
  go_enter Try.func22, Try.ntmps22
  go_wp2_with (fail)
  clear hq2
  go_loopg [1, 8] n (fun kq v1 v8 w' => ∃ (j o : Nat), j ≤ n ∧ v8 = .int .i64 o ∧ o ≤ 12 * j ∧ 12 * j ≤ o ∧ Aside0 (OwnX 52 w' w.heap.size v1 (decs3 bs j)) ∧ Aside0 (Below w.heap.size w w') ∧ Aside0 (n - j ≤ kq))
  case atStart => exact ⟨0, 0, by omega, rfl, by omega, by omega, ⟨⟨Kd.R_nil _ _ _ _ _⟩⟩, ⟨Below.refl _ _⟩, ⟨by omega⟩⟩
  case round =>
    obtain ⟨j, o, hj, rfl, ho1, ho2, HO, HB, HK⟩ := hrel
    by_cases cj : j < n
    · have cjb : decide ((o : Int) < N) = true := decide_eq_true (by omega)
      have cjn : decide (o < N) = true := decide_eq_true (by omega)
      obtain ⟨A1, cut1, hC1⟩ := cutLo (P := Try.prog) 23 5 Try.underlying23 h8.1 h8.2 A N c .i64 (o : Int) o rfl (by omega) hc
      obtain ⟨A2, cut2, hC2⟩ := cutLo (P := Try.prog) 23 5 Try.underlying23 h8.1 h8.2 A N c .i64 ((o : Int) + 4) (o + 4) (by omega) (by omega) hc
      obtain ⟨A3, cut3, hC3⟩ := cutLo (P := Try.prog) 23 5 Try.underlying23 h8.1 h8.2 A N c .i64 ((o : Int) + 8) (o + 8) (by omega) (by omega) hc
      have hB1 := bytesB_drop HBY.out o
      have hB2 := bytesB_drop HBY.out (o + 4)
      have hB3 := bytesB_drop HBY.out (o + 8)
      have hD1 := hC1 _ _ _ rfl (Kd.C_below HC.out HB.out)
      have hD2 := hC2 _ _ _ rfl (Kd.C_below HC.out HB.out)
      have hD3 := hC3 _ _ _ rfl (Kd.C_below HC.out HB.out)
      have hL : ∀ (A : Option Addr) (n c : Nat) (l : List Int), (Kd.int .u8).C wr A n l → n ≤ c → 4 ≤ n → bytesB l = true → ∀ W, Below wr.heap.size wr W →
          Calls Try.prog 38 #[.slice A n c] W fun e w' => e = .returned (.int .u32 (le4L l)) ∧ Below wr.heap.size wr w' := fun A n c l hC hc hn hb W hW =>
        (pqplain_leUint32.calls' A n c l W (Kd.C_below hC hW) hc hn hb).mono fun e w' h => ⟨h.1, hW.trans (h.2.below.mono hW.size)⟩
      have F1 := Aside0.mk (hL A1 (N - o) (c - o) _ hD1 (by omega) (by omega) hB1)
      have F2 := Aside0.mk (hL A2 (N - (o + 4)) (c - (o + 4)) _ hD2 (by omega) (by omega) hB2)
      have F3 := Aside0.mk (hL A3 (N - (o + 8)) (c - (o + 8)) _ hD3 (by omega) (by omega) hB3)
      rw [le4_cut bs o (3 * j) (by omega)] at F1
      rw [le4_cut bs (o + 4) (3 * j + 1) (by omega)] at F2
      rw [le4_cut bs (o + 8) (3 * j + 2) (by omega)] at F3
      obtain ⟨y0, hy0⟩ : ∃ y, wd4 bs (3 * j) = y := ⟨_, rfl⟩
      obtain ⟨y1, hy1⟩ : ∃ y, wd4 bs (3 * j + 1) = y := ⟨_, rfl⟩
      obtain ⟨y2, hy2⟩ : ∃ y, wd4 bs (3 * j + 2) = y := ⟨_, rfl⟩
      rw [hy0] at F1
      rw [hy1] at F2
      rw [hy2] at F3
      have HQ : Aside0 (dec3 bs j = (y0, y1, y2)) := ⟨by rw [← hy0, ← hy1, ← hy2]; rfl⟩
      have qw1 : IntKind.i64.wrap ((o : Int) + 4) = (o : Int) + 4 := IntWalk.i64_in _ (by omega)
      have qw2 : IntKind.i64.wrap ((o : Int) + 8) = (o : Int) + 8 := IntWalk.i64_in _ (by omega)
      clear hL hB1 hB2 hB3 hD1 hD2 hD3 hC1 hC2 hC3 hy0 hy1 hy2 hj
      go_wp2_with (fail)
      have HS0 : Aside0 (Below wr.heap.size wr wr.drew) := ⟨drewN_below wr 1⟩
      have HBT : Aside0 (∀ W, Below wr.heap.size wr W → Below w.heap.size w W) := ⟨fun W hW => HB.out.trans (hW.mono HB.out.size)⟩
      have HOT : Aside0 (∀ W, Below wr.heap.size wr W → OwnX 52 W w.heap.size u1 (decs3 bs j)) := ⟨fun W hW => ⟨Kd.R_below HO.out.out hW⟩⟩
      go_region_held3 (fun (w9 : World) => True) (trivial)
        ((first
          | (go_at_call 38; (with_reducible refine (F1.out _ HS0.out).mono ?_); rintro e w1 ⟨rfl, hd⟩; have HS1 := Aside0.mk hd; clear hd)
          | (go_at_call 38; (with_reducible refine (F2.out _ HS1.out).mono ?_); rintro e w2 ⟨rfl, hd⟩; have HS2 := Aside0.mk hd; clear hd)
          | (go_at_call 38; (with_reducible refine (F3.out _ HS2.out).mono ?_); rintro e w3 ⟨rfl, hd⟩; have HS3 := Aside0.mk hd; clear hd)
          | (refine Kd.R_append_step tri (w0 := w) (W := w3) w.heap.size (by rfl) (.tmp 23) (.tmp 39) 51 52 (.agg #[.int .u32 0, .int .u32 0, .int .u32 0]) 12 (by rfl) Try.underlying51 info3 rfl (by decide) (by decide) u1 (decs3 bs j) (y0, y1, y2) (cells3 (y0, y1, y2)) (fun _ => True) (fun _ => False) (by rfl) (by rfl) ?hp ?hok ?hf ?ho ?hb ?hs ?hl ?_; (case hp => exact tri_M); (case hok => exact fun _ h => h.elim); (case hf => exact fun _ _ => trivial); (case ho => exact (HOT.out _ HS3.out).out); (case hb => exact HBT.out _ HS3.out); (case hs => exact (HBT.out _ HS3.out).size); (case hl => rw [decs3_length]; omega); intro v5 w5 ho5 hb5 hg5 hat5; have HO5 := Aside0.mk ho5; have HB5 := Aside0.mk hb5; clear ho5 hg5 hat5)
          | fail "no arm"))
      go_wp2_with (fail)
      go_roundg (gk - 1)
      case measure => have := HK.out; omega
      case rel => exact ⟨j + 1, o + 12, by omega, by go_num, by omega, by omega, ⟨⟨by rw [decs3_succ, HQ.out]; exact HO5.out⟩⟩, HB5, ⟨by have := HK.out; omega⟩⟩
    · obtain rfl : j = n := by omega
      have cjb : decide ((o : Int) < N) = false := decide_eq_false (by omega)
      have cjn : decide (o < N) = false := decide_eq_false (by omega)
      go_wp2_with (fail)
      go_ret2
      exact ⟨_, rfl, HO.out, HB.out⟩
set_option maxHeartbeats 4000000 in
set_option maxRecDepth 100000 in
theorem decodeInt96s_calls (A : Option Addr) (N c n : Nat) (bs : List Int) (w : World) (hC : (Kd.int .u8).C w A N bs) (hc : N ≤ c) (hN : N = 12 * n) (hn : n ≤ 100000) (hb : bytesB bs = true) :
    Calls Try.prog 10 #[.slice A N c] w fun e w' => ∃ v, e = .returned (.tuple #[v, .bool true]) ∧ OwnX 25 w' w.heap.size v (decs3 bs n) ∧ Below w.heap.size w w' := by
  have HLN : Aside0 (bs.length = N) := ⟨hC.1⟩
  have HBY := Aside0.mk hb
  have hNb : N ≤ 1200000 := by omega
  have HNQ := Aside0.mk hN
  have HC2 : Aside0 ((Kd.int .u8).C ((w.alloc (.cells #[] 58)).alloc (.cells #[] 5)) A N bs) := ⟨Kd.C_alloc (Kd.C_alloc hC _) _⟩
  have HE : Aside0 (Own ((w.alloc (.cells #[] 58)).alloc (.cells #[] 5)) w.heap.size 5 .u8 (.slice (some ⟨(w.alloc (.cells #[] 58)).heap.size, 0, none⟩) 0 0) []) := ⟨Own.empty (w.alloc (.cells #[] 58)) w.heap.size 5 .u8 (by simp)⟩
  have HEB : Aside0 (Below w.heap.size w ((w.alloc (.cells #[] 58)).alloc (.cells #[] 5))) := ⟨((Below.refl _ _).alloc (Nat.le_refl _) _).alloc (by simp) _⟩
  have es : (w.alloc (.cells #[] 58)).heap.size = w.heap.size + 1 := by simp
  rw [es] at HE
  clear hC hb es hN
  go_enter Try.func10, Try.ntmps10
  go_wp2_with (first
    | (at_builtin; refine appendRead (w0 := w) w.heap.size rfl (.tmp 12) (.tmp 13) 23 5 .u8 1 rfl Try.underlying23 infoU8 (by decide) _ [] A N c bs rfl rfl HE.out HEB.out ?hb HC2.out ?hl ?_; (case hb => exact HEB.out.size); (case hl => simp; omega); intro v1 w1 ho hb hg; rw [List.nil_append] at ho; obtain ⟨A1, c1, rfl, hc1, hr1⟩ := ho.read; rw [HLN.out] at hc1 hr1; rw [HLN.out]; have HR1 := Aside0.mk hr1; have HB1 := Aside0.mk hb; clear ho hb hg hr1)
    | (go_at_call 22; (with_reducible refine (plDecodeInt96_calls _ A1 N c1 n bs _ HR1.out hc1 HNQ.out hn HBY.out).mono ?_); rintro e w2 ⟨v2, rfl, ho, hb⟩; obtain ⟨A2, c2, rfl, hc2, hr2⟩ := ho.read; rw [decs3_length] at hc2 hr2; rw [decs3_length]; have HR2 := Aside0.mk hr2; have HB2 := Aside0.mk (HB1.out.trans (hb.mono HB1.out.size)); clear ho hb hr2))
  clear HC2 HE HEB HR1 HB1
  obtain ⟨ls, hls⟩ : ∃ ls, decs3 bs n = ls := ⟨_, rfl⟩
  have HLL : Aside0 (ls.length = n) := ⟨by rw [← hls]; exact decs3_length _ _⟩
  have HLS := Aside0.mk hls
  rw [hls] at HR2
  clear hls
  have HO2 : Aside0 (OwnX 25 w2 w.heap.size (.slice none 0 0) (ls.take 0)) := ⟨⟨Kd.R_nil _ _ _ _ _⟩⟩
  have HB3 : Aside0 (Below w2.heap.size w2 w2) := ⟨Below.refl _ _⟩
  go_loopg [6, 20] n (fun kq v6 v20 w' => ∃ (j : Nat), j ≤ n ∧ v20 = .int .i64 j ∧ Aside0 (OwnX 25 w' w2.heap.size v6 (ls.take j)) ∧ Aside0 (Below w2.heap.size w2 w') ∧ Aside0 (n - j ≤ kq))
  case atStart => exact ⟨0, by omega, rfl, ⟨⟨Kd.R_nil _ _ _ _ _⟩⟩, ⟨Below.refl _ _⟩, ⟨by omega⟩⟩
  case round =>
    clear HO2 HB3
    obtain ⟨j, hj, rfl, HO, HB, HK⟩ := hrel
    by_cases cj : j < n
    · have cjb : decide ((j : Int) < n) = true := decide_eq_true (by omega)
      obtain ⟨ad, ead, x0, x1, x2⟩ := at_tri (Kd.C_below HR2.out HB.out) j cj
      obtain ⟨y0, hy0⟩ : ∃ y, (rd3 ls j).1 = y := ⟨_, rfl⟩
      obtain ⟨y1, hy1⟩ : ∃ y, (rd3 ls j).2.1 = y := ⟨_, rfl⟩
      obtain ⟨y2, hy2⟩ : ∃ y, (rd3 ls j).2.2 = y := ⟨_, rfl⟩
      rw [hy0] at x0
      rw [hy1] at x1
      rw [hy2] at x2
      have b0 := World.block_lt_of_cell? wr _ x0
      have HQ : Aside0 (rd3 ls j = (y0, y1, y2)) := ⟨by rw [← hy0, ← hy1, ← hy2]⟩
      clear hy0 hy1 hy2
      have HBA : Aside0 (Below wr.heap.size wr (wr.alloc (.cells #[.int .u32 y0, .int .u32 y1, .int .u32 y2] 52))) := ⟨(Below.refl _ _).alloc (Nat.le_refl _) _⟩
      have HOA : Aside0 (OwnX 25 (wr.alloc (.cells #[.int .u32 y0, .int .u32 y1, .int .u32 y2] 52)) w2.heap.size u6 (ls.take j)) := ⟨⟨Kd.R_below HO.out.out HBA.out⟩⟩
      have HBB : Aside0 (Below w2.heap.size w2 (wr.alloc (.cells #[.int .u32 y0, .int .u32 y1, .int .u32 y2] 52))) := ⟨HB.out.trans (HBA.out.mono HB.out.size)⟩
      have HSZ : Aside0 ((wr.alloc (.cells #[.int .u32 y0, .int .u32 y1, .int .u32 y2] 52)).heap.size = wr.heap.size + 1) := ⟨Array.size_push _⟩
      subst ead
      go_wp2_with (first
        | (at_builtin; refine appendTri (w0 := w2) (W := wr.alloc (.cells #[.int .u32 y0, .int .u32 y1, .int .u32 y2] 52)) w2.heap.size ?hgd (.tmp 24) (.tmp 26) 22 25 ?ho ?ht ?hinfo u6 (ls.take j) y0 y1 y2 ?hs ?hx ?HO ?HB ?hbase ?hl ?_; (case hgd => rfl); (case ho => rfl); (case ht => exact Try.underlying22); (case hinfo => exact info3'); (case hs => rfl); (case hx => exact congrArg (fun z => Value.slice (some ⟨z, 0, none⟩) 1 1) HSZ.out.symm); (case HO => exact HOA.out); (case HB => exact HBB.out); (case hbase => exact HBB.out.size); (case hl => rw [List.length_take]; omega); intro v1 w1 ho hb hg; have HO1 := Aside0.mk ho; have HB1 := Aside0.mk hb; clear ho hb hg))
      go_roundg (gk - 1)
      case measure => have := HK.out; omega
      case rel => exact ⟨j + 1, by omega, by go_num, ⟨by rw [take_tri _ _ (by rw [HLL.out]; exact cj), HQ.out]; exact HO1.out⟩, HB1, ⟨by have := HK.out; omega⟩⟩
    · obtain rfl : j = n := by omega
      have cjb : decide ((j : Int) < j) = false := decide_eq_false (by omega)
      have HTA : Aside0 (ls.take j = decs3 bs j) := ⟨by rw [← HLL.out, List.take_length, HLL.out]; exact HLS.out.symm⟩
      rw [HTA.out] at HO
      go_wp2_with (first | go_quiet (fail))
      go_ret2
      exact ⟨_, rfl, ⟨Kd.R_below (Kd.R_lower HO.out.out HB2.out.size) ((drewN_below _ _))⟩, (HB2.out.trans (HB.out.mono HB2.out.size)).trans ((drewN_below _ _).mono (Nat.le_trans HB2.out.size HB.out.size))⟩
end Go.Proofs.Ytkefklemcoehmaa.Trd
