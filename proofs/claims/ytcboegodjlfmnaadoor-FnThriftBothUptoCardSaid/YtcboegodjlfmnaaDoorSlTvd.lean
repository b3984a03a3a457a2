import Derived.Test.YtcboegodjlfmnaaDoorSlTvc
import Derived.Test.YtcboegodjlfmnaaDoorSlMtb
import Derived.Deep.RegionHeld3
import Derived.Lib.BufferOld
namespace Go.Proofs.YtcboegodjlfmnaaDoor.Tvd
open Go.Proofs.YtcboegodjlfmnaaDoor.Tpa Go.Proofs.YtcboegodjlfmnaaDoor.Tvc Go.Proofs.YtcboegodjlfmnaaDoor.Tvb Go.Proofs.YtcboegodjlfmnaaDoor.Tvo Go.Proofs.YtcboegodjlfmnaaDoor.Sbu Go.Proofs.YtcboegodjlfmnaaDoor.Dpu Go.Proofs.YtcboegodjlfmnaaDoor.Pak Go.Proofs.YtcboegodjlfmnaaDoor.Buf Go.Proofs.YtcboegodjlfmnaaDoor.Fit Go.Proofs.YtcboegodjlfmnaaDoor.Bit Go.Proofs.YtcboegodjlfmnaaDoor.Wrd Go.Proofs.YtcboegodjlfmnaaDoor.Spl Go.Proofs.YtcboegodjlfmnaaDoor.Str Go.Proofs.YtcboegodjlfmnaaDoor.Flt Go.Proofs.YtcboegodjlfmnaaDoor.Owe Go.Proofs.YtcboegodjlfmnaaDoor.Num Go.Proofs.YtcboegodjlfmnaaDoor.Le Go.Proofs.YtcboegodjlfmnaaDoor.Lst Go.Proofs.YtcboegodjlfmnaaDoor.Aid Go.RowKit Go.Proofs.YtcboegodjlfmnaaDoorW.PrintWords Go.Proofs.YtcboegodjlfmnaaDoorW.PrintLast Go.Proofs.YtcboegodjlfmnaaDoorW.PrintMore
set_option linter.unusedVariables false
set_option linter.unusedSimpArgs false
theorem wrap_i8 (n : Int) : IntKind.i8.wrap n = (n + 128) % 256 - 128 := by
  simp [IntKind.wrap, IntKind.bits, IntKind.signed]; omega
theorem wrap_i16 (n : Int) : IntKind.i16.wrap n = (n + 32768) % 65536 - 32768 := by
  simp [IntKind.wrap, IntKind.bits, IntKind.signed]; omega
theorem oru8 (a b : Nat) (ha : a < 16) (hb : b < 16) : bits .or .u8 ((a : Int) * 16) (b : Int) = (a : Int) * 16 + (b : Int) := by
  have e : ((a : Int) * 16) = ((a * 16 : Nat) : Int) := by omega
  have := Nat.two_pow_add_eq_or_of_lt (i := 4) (b := b) (by omega) a
  rw [e, u8_or_nat (a * 16) b (by omega) (by omega), show a * 16 = 2 ^ 4 * a by omega, ← this]
  omega
theorem oru8c (b : Nat) (hb : b < 16) : bits .or .u8 240 (b : Int) = 240 + (b : Int) := by
  have := oru8 15 b (by omega) hb
  exact this
theorem _root_.Go.Proofs.YtcboegodjlfmnaaDoor.Tvb.WrB.old {w w' : World} {B g b : Nat} {bs : List Int} (h : WrB w B g b bs) (hb : Below w.heap.size w w') : WrB w' B g b bs :=
  ⟨h.hg, h.hb, h.ne, h.wb.same (hb.block _ h.wb.lt), h.buf.old hb⟩
theorem _root_.Go.Proofs.YtcboegodjlfmnaaDoor.Tvb.WrB.alloc {w : World} {B g b : Nat} {bs : List Int} (h : WrB w B g b bs) (o : Obj) : WrB (w.alloc o) B g b bs := h.old ((Below.refl _ _).alloc (Nat.le_refl _) _)
theorem _root_.Go.Proofs.YtcboegodjlfmnaaDoor.Tvb.WrB.drew {w : World} {B g b : Nat} {bs : List Int} (h : WrB w B g b bs) : WrB w.drew B g b bs := h.old (Below.refl _ _).drew
theorem _root_.Go.Proofs.YtcboegodjlfmnaaDoor.Tvb.WrB.lt {w : World} {B g b : Nat} {bs : List Int} (h : WrB w B g b bs) : g < w.heap.size ∧ b < w.heap.size := ⟨h.wb.lt, h.buf.lt⟩
theorem _root_.Go.Proofs.YtcboegodjlfmnaaDoor.Tvb.Kept.of_below {g b : Nat} {w w' : World} (h : Below w.heap.size w w') : Kept g b w w' := fun k o hk _ _ _ => (h.block k (Array.getElem?_eq_some_iff.1 hk).1).trans hk
theorem _root_.Go.Proofs.YtcboegodjlfmnaaDoor.Tvb.WrOk.behind {w w1 w' : World} {B g b : Nat} {bs : List Int} {e : Ending} (h : WrOk w1 w' B g b bs e) (hB : B ≤ w.heap.size) (hb : Below w.heap.size w w1) : WrOk w w' B g b bs e :=
  ⟨h.ret, h.wr, (hb.mono hB).trans h.below, (Tvb.Kept.of_below hb).trans h.kept⟩
theorem _root_.Go.Proofs.YtcboegodjlfmnaaDoor.Tvb.WrOk.then {w w1 w' : World} {B g b : Nat} {bs bs2 : List Int} {e1 e : Ending} (h1 : WrOk w w1 B g b bs e1) (h : WrOk w1 w' B g b bs2 e) : WrOk w w' B g b bs2 e :=
  ⟨h.ret, h.wr, h1.below.trans h.below, h1.kept.trans h.kept⟩
set_option maxRecDepth 100000 in
theorem bwInt8_calls (B g b : Nat) (bs : List Int) (x : Int) (w : World) (h : WrB w B g b bs) (hB : B ≤ w.heap.size) (hlim : bs.length ≤ 100000000) :
    Calls Tryd.prog 139 #[.pointer (some ⟨g, 1, none⟩), .int .i8 x] w fun e w' => WrOk w w' B g b (bs ++ [x % 256]) e := by
  have HW := Aside0.mk (writeByte_calls B g b bs (x % 256) w h hB (by omega))
  have hu : IntKind.u8.wrap x = x % 256 := IntKind.wrap_u8 x
  clear h hlim
  go_enter Tryd.func139, Tryd.ntmps139
  go_wp2_with (first
    | (go_at_call 136; (with_reducible refine HW.out.mono ?_); rintro e w2 HQ; obtain rfl := HQ.ret; have HQ := Aside0.mk HQ))
  go_ret
  exact HQ.out
set_option maxRecDepth 100000 in
theorem wInt8_calls (B g b : Nat) (bs : List Int) (x : Int) (w : World) (h : WrB w B g b bs) (hB : B ≤ w.heap.size) (hlim : bs.length ≤ 100000000) :
    Calls Tryd.prog 126 #[.pointer (some ⟨g, 0, none⟩), .int .i8 x] w fun e w' => WrOk w w' B g b (bs ++ [x % 256]) e := by
  have HW := Aside0.mk (bwInt8_calls B g b bs x w h hB hlim)
  clear h hlim
  go_enter Tryd.func126, Tryd.ntmps126
  go_wp2_with (first
    | (go_at_call 139; (with_reducible refine HW.out.mono ?_); rintro e w2 HQ; obtain rfl := HQ.ret; have HQ := Aside0.mk HQ))
  go_ret
  exact HQ.out
set_option maxRecDepth 100000 in
theorem wInt16_calls (B g b : Nat) (bs : List Int) (x : Int) (w : World) (h : WrB w B g b bs) (hB : B ≤ w.heap.size) (h0 : -32768 ≤ x) (h1 : x < 32768) (hlim : bs.length ≤ 100000000) :
    Calls Tryd.prog 123 #[.pointer (some ⟨g, 0, none⟩), .int .i16 x] w fun e w' => WrOk w w' B g b (bs ++ varL (zz x)) e := by
  have HW := Aside0.mk (writeVarint_calls B g b x bs w h hB (by omega) (by omega) (by omega))
  have hu : IntKind.i64.wrap x = x := IntWalk.i64_in _ (by omega)
  clear h hlim
  go_enter Tryd.func123, Tryd.ntmps123
  go_wp2_with (first
    | (go_at_call 138; (with_reducible refine HW.out.mono ?_); rintro e w2 HQ; obtain rfl := HQ.ret; have HQ := Aside0.mk HQ))
  go_ret
  exact HQ.out
set_option maxRecDepth 100000 in
theorem wInt32_calls (B g b : Nat) (bs : List Int) (x : Int) (w : World) (h : WrB w B g b bs) (hB : B ≤ w.heap.size) (h0 : -2147483648 ≤ x) (h1 : x < 2147483648) (hlim : bs.length ≤ 100000000) :
    Calls Tryd.prog 124 #[.pointer (some ⟨g, 0, none⟩), .int .i32 x] w fun e w' => WrOk w w' B g b (bs ++ varL (zz x)) e := by
  have HW := Aside0.mk (writeVarint_calls B g b x bs w h hB (by omega) (by omega) (by omega))
  have hu : IntKind.i64.wrap x = x := IntWalk.i64_in _ (by omega)
  clear h hlim
  go_enter Tryd.func124, Tryd.ntmps124
  go_wp2_with (first
    | (go_at_call 138; (with_reducible refine HW.out.mono ?_); rintro e w2 HQ; obtain rfl := HQ.ret; have HQ := Aside0.mk HQ))
  go_ret
  exact HQ.out
set_option maxRecDepth 100000 in
theorem wInt64_calls (B g b : Nat) (bs : List Int) (x : Int) (w : World) (h : WrB w B g b bs) (hB : B ≤ w.heap.size) (h0 : -9223372036854775808 ≤ x) (h1 : x < 9223372036854775808) (hlim : bs.length ≤ 100000000) :
    Calls Tryd.prog 125 #[.pointer (some ⟨g, 0, none⟩), .int .i64 x] w fun e w' => WrOk w w' B g b (bs ++ varL (zz x)) e := by
  have HW := Aside0.mk (writeVarint_calls B g b x bs w h hB (by omega) (by omega) (by omega))
  clear h hlim
  go_enter Tryd.func125, Tryd.ntmps125
  go_wp2_with (first
    | (go_at_call 138; (with_reducible refine HW.out.mono ?_); rintro e w2 HQ; obtain rfl := HQ.ret; have HQ := Aside0.mk HQ))
  go_ret
  exact HQ.out
set_option maxRecDepth 100000 in
theorem wLength_calls (B g b : Nat) (bs : List Int) (n : Nat) (w : World) (h : WrB w B g b bs) (hB : B ≤ w.heap.size) (hn : n ≤ 2147483647) (hlim : bs.length ≤ 100000000) :
    Calls Tryd.prog 127 #[.pointer (some ⟨g, 0, none⟩), .int .i64 n] w fun e w' => WrOk w w' B g b (bs ++ varL n) e := by
  have HW := Aside0.mk (writeUvarint_calls B g b n bs w h hB (by omega) (by omega))
  have hu : IntKind.u64.wrap (n : Int) = (n : Int) := IntWalk.u64_in _ (by omega)
  have c1 : decide ((n : Int) < 0) = false := decide_eq_false (by omega)
  have c2 : decide (2147483647 < (n : Int)) = false := decide_eq_false (by omega)
  have c22 : decide (2147483647 < n) = false := decide_eq_false (by omega)
  clear h hlim hn
  go_enter Tryd.func127, Tryd.ntmps127
  go_wp2_with (first
    | (go_at_call 140; (with_reducible refine HW.out.mono ?_); rintro e w2 HQ; obtain rfl := HQ.ret; have HQ := Aside0.mk HQ))
  go_ret
  exact HQ.out
theorem keptCells {g b k t : Nat} {w w' : World} {cs : Array Value} (h : Tvb.Kept g b w w') (hk : Blk w k cs t) (hg : g < k) (hb : b < k) (ht : t ≠ 5) : Blk w' k cs t := h.blk hk (by omega) (by omega) ht
structure Half (w wx : World) (B g b : Nat) (bs : List Int) (v : Value) : Prop where
  mk :: (out : v = .nilIface ∧ WrOk w wx B g b bs (.returned .nilIface))
set_option maxRecDepth 100000 in
set_option maxHeartbeats 4000000 in
theorem wList_calls (B g b : Nat) (bs : List Int) (n el : Nat) (w : World) (h : WrB w B g b bs) (hB : B ≤ w.heap.size) (hn : n ≤ 1000) (h3 : el ≤ 12) (hlim : bs.length ≤ 100000000) :
    Calls Tryd.prog 128 #[.pointer (some ⟨g, 0, none⟩), .agg #[.int .i32 n, .int .i8 (el : Int)]] w fun e w' => WrOk w w' B g b (bs ++ headL false n el) e := by
  have HW1 := Aside0.mk (h.alloc (.cells #[.int .i32 n, .int .i8 (el : Int)] 123))
  have HB1 : Aside0 (Below w.heap.size w (w.alloc (.cells #[.int .i32 n, .int .i8 (el : Int)] 123))) := ⟨(Below.refl _ _).alloc (Nat.le_refl _) _⟩
  have HV1 := Aside0.mk (Blk.new w #[.int .i32 n, .int .i8 (el : Int)] 123)
  have HLT := Aside0.mk h.lt
  have HWB : Aside0 (∀ (x : Int) (V : World) (cs : List Int), WrB V B g b cs → B ≤ V.heap.size → cs.length ≤ 1000000000 → Calls Tryd.prog 136 #[.pointer (some ⟨g, 1, none⟩), .int .u8 x] V fun e w' => WrOk V w' B g b (cs ++ [x]) e) := ⟨fun x V cs h hB hl => writeByte_calls B g b cs x V h hB hl⟩
  have hu1 : (el : Int) % 256 = (el : Int) := by omega
  have hu2 : IntKind.u8.wrap (el : Int) = (el : Int) := by rw [IntKind.wrap_u8]; omega
  have ho2 := oru8c el (by omega)
  have HBS := Aside0.mk hlim
  have HBW := Aside0.mk hB
  clear h hlim
  by_cases c : n < 15
  · have HE : Aside0 (headL false n (el : Int) = [(n : Int) * 16 + (el : Int)]) := ⟨by unfold headL; rw [if_pos ⟨c, rfl⟩]⟩
    have q1 : decide ((n : Int) ≤ 14) = true := decide_eq_true (by omega)
    have q2 : decide (n ≤ 14) = true := decide_eq_true (by omega)
    have hs1 : IntKind.i32.wrap ((n : Int) * 16) = (n : Int) * 16 := by rw [IntKind.wrap_i32]; omega
    have hs2 : ((n : Int) * 16) % 256 = (n : Int) * 16 := by omega
    have hs3 : IntKind.u8.wrap ((n : Int) * 16) = (n : Int) * 16 := by rw [IntKind.wrap_u8]; omega
    have ho1 := oru8 n el (by omega) (by omega)
    obtain ⟨q0, q01⟩ : (w.alloc (.cells #[.int .i32 n, .int .i8 (el : Int)] 123)).cell? ⟨w.heap.size, 0, none⟩ = some (.int .i32 n) ∧ (w.alloc (.cells #[.int .i32 n, .int .i8 (el : Int)] 123)).cell? ⟨w.heap.size, 1, none⟩ = some (.int .i8 (el : Int)) := ⟨HV1.out.cell (j := 0) rfl, HV1.out.cell (j := 1) rfl⟩
    have HXA : Aside0 (∀ V, Blk V w.heap.size #[.int .i32 n, .int .i8 (el : Int)] 123 → V.cell? ⟨w.heap.size, 0, none⟩ = some (.int .i32 n) ∧ V.cell? ⟨w.heap.size, 1, none⟩ = some (.int .i8 (el : Int))) := ⟨fun V h => ⟨h.cell (j := 0) rfl, h.cell (j := 1) rfl⟩⟩
    clear hn c
    go_enter Tryd.func128, Tryd.ntmps128
    go_upto_region 1 with (fail)
    generalize hW1 : World.alloc _ _ = W1 at HW1 HB1 HV1 q0 q01 ⊢
    clear hW1
    go_upto_region 2 with (fail)
    go_region_held3 (fun (V : World) => V.cell? ⟨w.heap.size, 0, none⟩ = some (.int .i32 n) ∧ V.cell? ⟨w.heap.size, 1, none⟩ = some (.int .i8 (el : Int)))
      (first
        | with_reducible exact HXA.out _ (keptCells HQ.out.kept HV1.out.drew HLT.out.1 HLT.out.2 (by decide))
        | with_reducible exact HXA.out _ HV1.out.drew)
      ((first
        | (go_at_call 136; (with_reducible refine (HWB.out _ _ bs HW1.out.drew (Nat.le_trans HBW.out HB1.out.drew.size) (by have := HBS.out; omega)).mono ?_); rintro e w2 HQ; obtain rfl := HQ.ret; have HQ := Aside0.mk HQ)
        | fail "no arm"))
    all_goals go_wp2_with (fail)
    all_goals go_ret
    all_goals (rw [HE.out]; exact WrOk.behind HQ.out HBW.out HB1.out.drew)
  · have HE : Aside0 (headL false n (el : Int) = [240 + (el : Int)] ++ varL n) := ⟨by unfold headL; rw [if_neg (fun h => c h.1)]; rfl⟩
    have q1 : decide ((n : Int) ≤ 14) = false := decide_eq_false (by omega)
    have q2 : decide (n ≤ 14) = false := decide_eq_false (by omega)
    have hw2 : IntKind.u64.wrap (n : Int) = (n : Int) := IntWalk.u64_in _ (by omega)
    obtain ⟨q0, q01⟩ : (w.alloc (.cells #[.int .i32 n, .int .i8 (el : Int)] 123)).cell? ⟨w.heap.size, 0, none⟩ = some (.int .i32 n) ∧ (w.alloc (.cells #[.int .i32 n, .int .i8 (el : Int)] 123)).cell? ⟨w.heap.size, 1, none⟩ = some (.int .i8 (el : Int)) := ⟨HV1.out.cell (j := 0) rfl, HV1.out.cell (j := 1) rfl⟩
    have HXA : Aside0 (∀ V, Blk V w.heap.size #[.int .i32 n, .int .i8 (el : Int)] 123 → V.cell? ⟨w.heap.size, 0, none⟩ = some (.int .i32 n) ∧ V.cell? ⟨w.heap.size, 1, none⟩ = some (.int .i8 (el : Int))) := ⟨fun V h => ⟨h.cell (j := 0) rfl, h.cell (j := 1) rfl⟩⟩
    have HUV := Aside0.mk fun (V : World) (h : WrB V B g b (bs ++ [240 + (el : Int)])) (hB : B ≤ V.heap.size) => writeUvarint_calls B g b n (bs ++ [240 + (el : Int)]) V h hB (by omega) (by rw [List.length_append]; have := HBS.out; simp only [List.length_cons, List.length_nil]; omega)
    obtain ⟨x, hx⟩ : ∃ x, 240 + (el : Int) = x := ⟨_, rfl⟩
    rw [hx] at ho2 HE HUV
    clear hn c hx
    go_enter Tryd.func128, Tryd.ntmps128
    go_upto_region 1 with (fail)
    generalize hW1 : World.alloc _ _ = W1 at HW1 HB1 HV1 q0 q01 ⊢
    clear hW1
    go_upto_region 3 with (fail)
    go_cut [5] from 21 (fun v5 wx => Half W1 wx B g b (bs ++ [x]) v5)
    case first =>
      go_region_held3 (fun (V : World) => V.cell? ⟨w.heap.size, 0, none⟩ = some (.int .i32 n) ∧ V.cell? ⟨w.heap.size, 1, none⟩ = some (.int .i8 (el : Int)))
        (first
          | with_reducible exact HXA.out _ (keptCells HQ.out.kept HV1.out.drew HLT.out.1 HLT.out.2 (by decide))
          | with_reducible exact HXA.out _ HV1.out.drew)
        ((first
          | (go_at_call 136; (with_reducible refine (HWB.out _ _ bs HW1.out.drew (Nat.le_trans HBW.out HB1.out.drew.size) (by have := HBS.out; omega)).mono ?_); rintro e w2 HQ; obtain rfl := HQ.ret; have HQ := Aside0.mk HQ)
          | fail "no arm"))
      all_goals (go_wp2_with (fail); go_meet)
      all_goals exact ⟨⟨rfl, WrOk.behind HQ.out (Nat.le_trans HBW.out HB1.out.size) (Below.refl _ _).drew⟩⟩
    case rest =>
      obtain ⟨rfl, hq⟩ := hcut.out
      have HQ1 := Aside0.mk hq
      have hv2 := keptCells hq.kept HV1.out HLT.out.1 HLT.out.2 (by decide)
      obtain ⟨r0, r01⟩ := HXA.out _ hv2
      clear hq hcut q0 q01 hv2
      go_wp2_with (first
        | (go_at_call 140; (with_reducible refine (HUV.out _ HQ1.out.wr (Nat.le_trans HBW.out (Nat.le_trans HB1.out.size HQ1.out.below.size))).mono ?_); rintro e w3 HQ2; obtain rfl := HQ2.ret; have HQ2 := Aside0.mk HQ2))
      go_ret
      rw [HE.out, ← List.append_assoc]
      exact WrOk.behind (HQ1.out.then HQ2.out) HBW.out HB1.out
end Go.Proofs.YtcboegodjlfmnaaDoor.Tvd
