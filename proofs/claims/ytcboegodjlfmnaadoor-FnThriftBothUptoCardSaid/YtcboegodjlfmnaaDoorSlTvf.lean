import Derived.Test.YtcboegodjlfmnaaDoorSlTve
namespace Go.Proofs.YtcboegodjlfmnaaDoor.Tvf
open Go.Proofs.YtcboegodjlfmnaaDoor.Tve Go.Proofs.YtcboegodjlfmnaaDoor.Tvc Go.Proofs.YtcboegodjlfmnaaDoor.Tvd Go.Proofs.YtcboegodjlfmnaaDoor.Tpa Go.Proofs.YtcboegodjlfmnaaDoor.Tvb Go.Proofs.YtcboegodjlfmnaaDoor.Tvo Go.Proofs.YtcboegodjlfmnaaDoor.Sbu Go.Proofs.YtcboegodjlfmnaaDoor.Dpu Go.Proofs.YtcboegodjlfmnaaDoor.Pak Go.Proofs.YtcboegodjlfmnaaDoor.Buf Go.Proofs.YtcboegodjlfmnaaDoor.Fit Go.Proofs.YtcboegodjlfmnaaDoor.Bit Go.Proofs.YtcboegodjlfmnaaDoor.Wrd Go.Proofs.YtcboegodjlfmnaaDoor.Spl Go.Proofs.YtcboegodjlfmnaaDoor.Str Go.Proofs.YtcboegodjlfmnaaDoor.Flt Go.Proofs.YtcboegodjlfmnaaDoor.Owe Go.Proofs.YtcboegodjlfmnaaDoor.Num Go.Proofs.YtcboegodjlfmnaaDoor.Le Go.Proofs.YtcboegodjlfmnaaDoor.Lst Go.Proofs.YtcboegodjlfmnaaDoor.Aid Go.RowKit Go.Proofs.YtcboegodjlfmnaaDoorW.PrintWords Go.Proofs.YtcboegodjlfmnaaDoorW.PrintLast Go.Proofs.YtcboegodjlfmnaaDoorW.PrintMore
set_option linter.unusedVariables false
set_option linter.unusedSimpArgs false
set_option maxRecDepth 100000 in
set_option maxHeartbeats 4000000 in
theorem wField_stop (B g b : Nat) (bs : List Int) (id : Int) (dl : Bool) (w : World) (h : WrB w B g b bs) (hB : B ≤ w.heap.size)  (hlim : bs.length ≤ 100000000) :
    Calls Tryd.prog 121 #[.pointer (some ⟨g, 0, none⟩), .agg #[.int .i16 id, .int .i8 0, .bool dl]] w fun e w' => WrOk w w' B g b (bs ++ [0]) e := by
  have HW1 := Aside0.mk (h.alloc (.cells #[.int .i16 id, .int .i8 0, .bool dl] 132))
  have HB1 : Aside0 (Below w.heap.size w (w.alloc (.cells #[.int .i16 id, .int .i8 0, .bool dl] 132))) := ⟨(Below.refl _ _).alloc (Nat.le_refl _) _⟩
  have HV1 := Aside0.mk (Blk.new w #[.int .i16 id, .int .i8 0, .bool dl] 132)
  have HLT := Aside0.mk h.lt
  have HBS := Aside0.mk hlim
  have HBW := Aside0.mk hB
  have HWB : Aside0 (∀ (x : Int) (V : World) (cs : List Int), WrB V B g b cs → B ≤ V.heap.size → cs.length ≤ 1000000000 → Calls Tryd.prog 136 #[.pointer (some ⟨g, 1, none⟩), .int .u8 x] V fun e w' => WrOk V w' B g b (cs ++ [x]) e) := ⟨fun x V cs h hB hl => writeByte_calls B g b cs x V h hB hl⟩
  have HXA : Aside0 (∀ V, Blk V w.heap.size #[.int .i16 id, .int .i8 0, .bool dl] 132 → V.cell? ⟨w.heap.size, 0, none⟩ = some (.int .i16 id) ∧ V.cell? ⟨w.heap.size, 1, none⟩ = some (.int .i8 0)) := ⟨fun V h => ⟨h.cell (j := 0) rfl, h.cell (j := 1) rfl⟩⟩
  obtain ⟨q0, q01⟩ := HXA.out _ HV1.out
  clear h hlim
  go_enter Tryd.func121, Tryd.ntmps121
  go_upto_region 1 with (fail)
  generalize hW1 : World.alloc _ _ = W1 at HW1 HB1 HV1 q0 q01 ⊢
  clear hW1
  go_wp2_with (first
    | (go_at_call 136; (with_reducible refine (HWB.out 0 _ bs HW1.out (Nat.le_trans HBW.out HB1.out.size) (by have := HBS.out; omega)).mono ?_); rintro e w2 HQ; obtain rfl := HQ.ret; have HQ := Aside0.mk HQ))
  go_ret
  exact WrOk.behind HQ.out HBW.out HB1.out
set_option maxRecDepth 100000 in
set_option maxHeartbeats 4000000 in
theorem wField_short (B g b : Nat) (bs : List Int) (n ty : Nat) (dl : Bool) (w : World) (h : WrB w B g b bs) (hB : B ≤ w.heap.size) (hn : n ≤ 15) (h1 : 1 ≤ ty) (h12 : ty ≤ 12) (hlim : bs.length ≤ 100000000) :
    Calls Tryd.prog 121 #[.pointer (some ⟨g, 0, none⟩), .agg #[.int .i16 (n : Int), .int .i8 (ty : Int), .bool dl]] w fun e w' => WrOk w w' B g b (bs ++ [(n : Int) * 16 + (ty : Int)]) e := by
  have HW1 := Aside0.mk (h.alloc (.cells #[.int .i16 (n : Int), .int .i8 (ty : Int), .bool dl] 132))
  have HB1 : Aside0 (Below w.heap.size w (w.alloc (.cells #[.int .i16 (n : Int), .int .i8 (ty : Int), .bool dl] 132))) := ⟨(Below.refl _ _).alloc (Nat.le_refl _) _⟩
  have HV1 := Aside0.mk (Blk.new w #[.int .i16 (n : Int), .int .i8 (ty : Int), .bool dl] 132)
  have HLT := Aside0.mk h.lt
  have HBS := Aside0.mk hlim
  have HBW := Aside0.mk hB
  have HWB : Aside0 (∀ (x : Int) (V : World) (cs : List Int), WrB V B g b cs → B ≤ V.heap.size → cs.length ≤ 1000000000 → Calls Tryd.prog 136 #[.pointer (some ⟨g, 1, none⟩), .int .u8 x] V fun e w' => WrOk V w' B g b (cs ++ [x]) e) := ⟨fun x V cs h hB hl => writeByte_calls B g b cs x V h hB hl⟩
  have HXA : Aside0 (∀ V, Blk V w.heap.size #[.int .i16 (n : Int), .int .i8 (ty : Int), .bool dl] 132 → V.cell? ⟨w.heap.size, 0, none⟩ = some (.int .i16 (n : Int)) ∧ V.cell? ⟨w.heap.size, 1, none⟩ = some (.int .i8 (ty : Int))) := ⟨fun V h => ⟨h.cell (j := 0) rfl, h.cell (j := 1) rfl⟩⟩
  obtain ⟨q0, q01⟩ := HXA.out _ HV1.out
  have z1 : ((ty : Int) == 0) = false := by rw [beq_eq_false_iff_ne]; omega
  have z2 : (ty == 0) = false := by rw [beq_eq_false_iff_ne]; omega
  have z3 : decide ((n : Int) ≤ 15) = true := decide_eq_true (by omega)
  have z4 : decide (n ≤ 15) = true := decide_eq_true hn
  have hs1 : IntKind.i16.wrap ((n : Int) * 16) = (n : Int) * 16 := by rw [wrap_i16]; omega
  have hs2 : ((n : Int) * 16) % 256 = (n : Int) * 16 := by omega
  have hs3 : IntKind.u8.wrap ((n : Int) * 16) = (n : Int) * 16 := by rw [IntKind.wrap_u8]; omega
  have hu1 : (ty : Int) % 256 = (ty : Int) := by omega
  have hu2 : IntKind.u8.wrap (ty : Int) = (ty : Int) := by rw [IntKind.wrap_u8]; omega
  have ho1 := oru8 n ty (by omega) (by omega)
  clear hn h1 h12
  clear h hlim
  go_enter Tryd.func121, Tryd.ntmps121
  go_upto_region 1 with (fail)
  generalize hW1 : World.alloc _ _ = W1 at HW1 HB1 HV1 q0 q01 ⊢
  clear hW1
  go_upto_region 4 with (fail)
  go_region_held3 (fun (V : World) => V.cell? ⟨w.heap.size, 0, none⟩ = some (.int .i16 (n : Int)) ∧ V.cell? ⟨w.heap.size, 1, none⟩ = some (.int .i8 (ty : Int)))
    (first
      | with_reducible exact HXA.out _ (keptC HQ.out.kept HV1.out.drew HLT.out.1 HLT.out.2 (by decide))
      | with_reducible exact HXA.out _ HV1.out.drew)
    ((first
      | (go_at_call 136; (with_reducible refine (HWB.out _ _ bs HW1.out.drew (Nat.le_trans HBW.out HB1.out.drew.size) (by have := HBS.out; omega)).mono ?_); rintro e w2 HQ; obtain rfl := HQ.ret; have HQ := Aside0.mk HQ)
      | fail "no arm"))
  all_goals go_wp2_with (fail)
  all_goals go_ret
  all_goals exact WrOk.behind HQ.out HBW.out HB1.out.drew
set_option maxRecDepth 100000 in
set_option maxHeartbeats 4000000 in
theorem wField_long (B g b : Nat) (bs : List Int) (n ty : Nat) (dl : Bool) (w : World) (h : WrB w B g b bs) (hB : B ≤ w.heap.size) (hn0 : 15 < n) (hn : n ≤ 32767) (h1 : 1 ≤ ty) (h12 : ty ≤ 12) (hlim : bs.length ≤ 90000000) :
    Calls Tryd.prog 121 #[.pointer (some ⟨g, 0, none⟩), .agg #[.int .i16 (n : Int), .int .i8 (ty : Int), .bool dl]] w fun e w' => WrOk w w' B g b (bs ++ ((ty : Int) :: varL (zz (n : Int)))) e := by
  have HW1 := Aside0.mk (h.alloc (.cells #[.int .i16 (n : Int), .int .i8 (ty : Int), .bool dl] 132))
  have HB1 : Aside0 (Below w.heap.size w (w.alloc (.cells #[.int .i16 (n : Int), .int .i8 (ty : Int), .bool dl] 132))) := ⟨(Below.refl _ _).alloc (Nat.le_refl _) _⟩
  have HV1 := Aside0.mk (Blk.new w #[.int .i16 (n : Int), .int .i8 (ty : Int), .bool dl] 132)
  have HLT := Aside0.mk h.lt
  have HBS := Aside0.mk hlim
  have HBW := Aside0.mk hB
  have HWB : Aside0 (∀ (x : Int) (V : World) (cs : List Int), WrB V B g b cs → B ≤ V.heap.size → cs.length ≤ 1000000000 → Calls Tryd.prog 136 #[.pointer (some ⟨g, 1, none⟩), .int .u8 x] V fun e w' => WrOk V w' B g b (cs ++ [x]) e) := ⟨fun x V cs h hB hl => writeByte_calls B g b cs x V h hB hl⟩
  have HXA : Aside0 (∀ V, Blk V w.heap.size #[.int .i16 (n : Int), .int .i8 (ty : Int), .bool dl] 132 → V.cell? ⟨w.heap.size, 0, none⟩ = some (.int .i16 (n : Int)) ∧ V.cell? ⟨w.heap.size, 1, none⟩ = some (.int .i8 (ty : Int))) := ⟨fun V h => ⟨h.cell (j := 0) rfl, h.cell (j := 1) rfl⟩⟩
  obtain ⟨q0, q01⟩ := HXA.out _ HV1.out
  have z1 : ((ty : Int) == 0) = false := by rw [beq_eq_false_iff_ne]; omega
  have z2 : (ty == 0) = false := by rw [beq_eq_false_iff_ne]; omega
  have z3 : decide ((n : Int) ≤ 15) = false := decide_eq_false (by omega)
  have z4 : decide (n ≤ 15) = false := decide_eq_false (by omega)
  have hu1 : (ty : Int) % 256 = (ty : Int) := by omega
  have hu2 : IntKind.u8.wrap (ty : Int) = (ty : Int) := by rw [IntKind.wrap_u8]; omega
  have HI : Aside0 (∀ V, WrB V B g b (bs ++ [(ty : Int)]) → B ≤ V.heap.size → Calls Tryd.prog 123 #[.pointer (some ⟨g, 0, none⟩), .int .i16 (n : Int)] V fun e w' => WrOk V w' B g b (bs ++ [(ty : Int)] ++ varL (zz (n : Int))) e) := ⟨fun V h hB => wInt16_calls B g b (bs ++ [(ty : Int)]) (n : Int) V h hB (by omega) (by omega) (by rw [List.length_append]; simp only [List.length_cons, List.length_nil]; omega)⟩
  clear hn hn0 h1 h12
  clear h hlim
  go_enter Tryd.func121, Tryd.ntmps121
  go_upto_region 1 with (fail)
  generalize hW1 : World.alloc _ _ = W1 at HW1 HB1 HV1 q0 q01 ⊢
  clear hW1
  go_upto_region 5 with (fail)
  go_cut [5] from 28 (fun v5 wx => Half W1 wx B g b (bs ++ [(ty : Int)]) v5)
  case first =>
    go_region_held3 (fun (V : World) => V.cell? ⟨w.heap.size, 0, none⟩ = some (.int .i16 (n : Int)) ∧ V.cell? ⟨w.heap.size, 1, none⟩ = some (.int .i8 (ty : Int)))
      (first
        | with_reducible exact HXA.out _ (keptC HQ.out.kept HV1.out.drew HLT.out.1 HLT.out.2 (by decide))
        | with_reducible exact HXA.out _ HV1.out.drew)
      ((first
        | (go_at_call 136; (with_reducible refine (HWB.out _ _ bs HW1.out.drew (Nat.le_trans HBW.out HB1.out.drew.size) (by have := HBS.out; omega)).mono ?_); rintro e w2 HQ; obtain rfl := HQ.ret; have HQ := Aside0.mk HQ)
        | fail "no arm"))
    all_goals (go_wp2_with (fail); go_meet)
    all_goals exact ⟨⟨rfl, WrOk.behind HQ.out (Nat.le_trans HBW.out HB1.out.size) (Below.refl _ _).drew⟩⟩
  case rest =>
    obtain ⟨rfl, hq⟩ := hcut.out
    have HQ1 := Aside0.mk hq
    have hv2 := keptC hq.kept HV1.out HLT.out.1 HLT.out.2 (by decide)
    obtain ⟨r0, r01⟩ := HXA.out _ hv2
    clear hq hcut q0 q01 hv2
    go_wp2_with (first
      | (go_at_call 123; (with_reducible refine (HI.out _ HQ1.out.wr (Nat.le_trans HBW.out (Nat.le_trans HB1.out.size HQ1.out.below.size))).mono ?_); rintro e w3 HQ2; obtain rfl := HQ2.ret; have HQ2 := Aside0.mk HQ2))
    go_ret
    rw [show bs ++ (ty : Int) :: varL (zz (n : Int)) = bs ++ [(ty : Int)] ++ varL (zz (n : Int)) by simp]
    exact WrOk.behind (HQ1.out.then HQ2.out) HBW.out HB1.out
end Go.Proofs.YtcboegodjlfmnaaDoor.Tvf
