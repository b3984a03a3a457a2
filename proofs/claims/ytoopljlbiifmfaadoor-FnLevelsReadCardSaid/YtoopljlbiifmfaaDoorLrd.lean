import Derived.Test.YtoopljlbiifmfaaDoorDec
/-! Runs of bytes: the method that reads them, the thin package. -/
namespace Go.Proofs.YtoopljlbiifmfaaDoor.Lrd
open Go.Proofs.YtoopljlbiifmfaaDoor.Dec Go.Proofs.YtoopljlbiifmfaaDoor.Uva Go.Proofs.YtoopljlbiifmfaaDoor.Rle Go.Proofs.YtoopljlbiifmfaaDoor.Run Go.Proofs.YtoopljlbiifmfaaDoor.Rlp Go.Proofs.YtoopljlbiifmfaaDoor.Rlb Go.Proofs.YtoopljlbiifmfaaDoor.Buf Go.Proofs.YtoopljlbiifmfaaDoor.Fit Go.Proofs.YtoopljlbiifmfaaDoor.Bit Go.Proofs.YtoopljlbiifmfaaDoor.Wrd Go.Proofs.YtoopljlbiifmfaaDoor.Spl Go.Proofs.YtoopljlbiifmfaaDoor.Str Go.Proofs.YtoopljlbiifmfaaDoor.Flt Go.Proofs.YtoopljlbiifmfaaDoor.Owe Go.Proofs.YtoopljlbiifmfaaDoor.Num Go.Proofs.YtoopljlbiifmfaaDoor.Le Go.Proofs.YtoopljlbiifmfaaDoor.Lst Go.Proofs.YtoopljlbiifmfaaDoor.Aid Go.RowKit Go.Proofs.YtoopljlbiifmfaaDoorW.PrintWords Go.Proofs.YtoopljlbiifmfaaDoorW.PrintLast Go.Proofs.YtoopljlbiifmfaaDoorW.PrintMore
set_option linter.unusedVariables false
set_option linter.unusedSimpArgs false
set_option maxHeartbeats 4000000 in
theorem rlWrapD_calls (p : Value) (w : World) :
    Calls Tryd.prog 58 #[p, .nilIface] w fun e w' => e = .returned .nilIface ∧ w = w' := by
  go_enter Tryd.func58, Tryd.ntmps58
  go_wp2_with (fail)
  go_ret
  exact ⟨rfl, rfl⟩
set_option maxHeartbeats 4000000 in
theorem rlDec_calls (g : Nat) (A : Option Addr) (N c : Nat) (w : Nat) (bs : List Int) (rs : List R) (w0 : World) (hp : w0.cell? ⟨g, 0, none⟩ = some (.int .i64 (w : Int))) (hC : (Kd.int .u8).C w0 A N bs) (hb : bs = hyb w rs) (hc : N ≤ c) (hn : N ≤ 1000000) (hw1 : 1 ≤ w) (hw8 : w ≤ 8) (hok : hybOk w rs) (hV : (hybV rs).length ≤ 1000000) :
    Calls Tryd.prog 40 #[.pointer (some ⟨g, 0, none⟩), .slice none 0 0, .slice A N c] w0 fun e w' => ∃ v, e = .returned (.tuple #[v, .nilIface]) ∧ Own w' w0.heap.size 5 .u8 v (hybV rs) ∧ Below w0.heap.size w0 w' := by
  have HCALL := Aside0.mk (decodeBytes_calls A N c w bs rs w0.drew (Kd.C_drewN hC 1) hb hc hn hw1 hw8 hok hV)
  have HBD : Aside0 (Below w0.heap.size w0 w0.drew) := ⟨drewN_below w0 1⟩
  obtain ⟨i8, h8⟩ := h8
  obtain ⟨cutz, _⟩ := cutHi (P := Tryd.prog) 25 5 Tryd.underlying25 h8.1 none 0 0 .i64 0 0 rfl (by omega) (by omega)
  have hlt := World.block_lt_of_cell? w0 _ hp
  have hpd : w0.drew.cell? ⟨g, 0, none⟩ = some (.int .i64 (w : Int)) := hp
  have hltd : g < w0.drew.heap.size := hlt
  have qw : IntKind.u64.wrap (w : Int) = (w : Int) := IntWalk.u64_in _ (by omega)
  clear hC
  go_enter Tryd.func40, Tryd.ntmps40
  go_wp2_with (fail)
  go_region_held3 (fun (w9 : World) => w9.cell? ⟨g, 0, none⟩ = some (.int .i64 (w : Int)))
    (first | assumption | exact hpd | exact HP2.out)
    ((first
      | (go_at_call 59; (with_reducible refine HCALL.out.mono ?_); rintro e w2 ⟨v2, rfl, ho, hb⟩; have HO2 := Aside0.mk ho; have HP2 : Aside0 (w2.cell? ⟨g, 0, none⟩ = some (.int .i64 (w : Int))) := ⟨(hb.cell hltd).trans hpd⟩; have HB2 := Aside0.mk (HBD.out.trans (hb.mono HBD.out.size)); clear ho hb)
      | fail "no arm"))
  go_wp2_with (first
    | (go_at_call 58; (with_reducible refine (rlWrapD_calls _ _).mono ?_); rintro e w3 ⟨rfl, rfl⟩))
  go_ret2
  exact ⟨v2, rfl, HO2.out, HB2.out⟩
set_option maxHeartbeats 4000000 in
theorem decodeLevelsRl_calls (A : Option Addr) (N c : Nat) (w : Nat) (bs : List Int) (rs : List R) (w0 : World) (hC : (Kd.int .u8).C w0 A N bs) (hb : bs = hyb w rs) (hc : N ≤ c) (hn : N ≤ 1000000) (hw1 : 1 ≤ w) (hw8 : w ≤ 8) (hok : hybOk w rs) (hV : (hybV rs).length ≤ 1000000) :
    Calls Tryd.prog 21 #[.string ⟨#[114, 108, 101]⟩, .int .i64 w, .slice A N c] w0 fun e w' => ∃ v, e = .returned (.tuple #[v, .bool true]) ∧ Own w' w0.heap.size 5 .u8 v (hybV rs) ∧ Below w0.heap.size w0 w' := by
  have HLN : Aside0 (bs.length = N) := ⟨hC.1⟩
  have HHB := Aside0.mk hb
  have HOK := Aside0.mk hok
  have HVL := Aside0.mk hV
  clear hb hok hV
  have HC2 : Aside0 ((Kd.int .u8).C ((w0.alloc (.cells #[.int .i64 (w : Int)] 67)).alloc (.cells #[] 5)) A N bs) := ⟨Kd.C_alloc (Kd.C_alloc hC _) _⟩
  have HP : Aside0 ((w0.alloc (.cells #[.int .i64 (w : Int)] 67)).cell? ⟨w0.heap.size, 0, none⟩ = some (.int .i64 (w : Int))) := ⟨(Blk.new w0 #[.int .i64 (w : Int)] 67).cell rfl⟩
  have HE : Aside0 (Own ((w0.alloc (.cells #[.int .i64 (w : Int)] 67)).alloc (.cells #[] 5)) (w0.heap.size + 1) 5 .u8 (.slice (some ⟨(w0.alloc (.cells #[.int .i64 (w : Int)] 67)).heap.size, 0, none⟩) 0 0) []) := ⟨Own.empty (w0.alloc (.cells #[.int .i64 (w : Int)] 67)) (w0.heap.size + 1) 5 .u8 (by simp)⟩
  have HEB : Aside0 (Below (w0.heap.size + 1) (w0.alloc (.cells #[.int .i64 (w : Int)] 67)) ((w0.alloc (.cells #[.int .i64 (w : Int)] 67)).alloc (.cells #[] 5))) := ⟨by
    have := (Below.refl (w0.alloc (.cells #[.int .i64 (w : Int)] 67)).heap.size (w0.alloc (.cells #[.int .i64 (w : Int)] 67))).alloc (Nat.le_refl _) (.cells #[] 5)
    rw [show (w0.alloc (.cells #[.int .i64 (w : Int)] 67)).heap.size = w0.heap.size + 1 by simp] at this
    exact this⟩
  have HB0 : Aside0 (Below w0.heap.size w0 (w0.alloc (.cells #[.int .i64 (w : Int)] 67))) := ⟨(Below.refl _ _).alloc (Nat.le_refl _) _⟩
  have es : (w0.alloc (.cells #[.int .i64 (w : Int)] 67)).heap.size = w0.heap.size + 1 := by simp
  rw [es] at HE
  have HES : Aside0 ((w0.alloc (.cells #[.int .i64 (w : Int)] 67)).heap.size = w0.heap.size + 1) := ⟨es⟩
  clear hC es
  go_enter Tryd.func21, Tryd.ntmps21
  go_wp2_with (first
    | (at_builtin; refine appendRead (w0 := (w0.alloc (.cells #[.int .i64 (w : Int)] 67))) (w0.heap.size + 1) rfl (.tmp 17) (.tmp 18) 25 5 .u8 1 rfl Tryd.underlying25 infoU8 (by decide) _ [] A N c bs rfl rfl HE.out HEB.out ?hb HC2.out ?hl ?_; (case hb => have := HEB.out.size; rw [HES.out] at this; exact this); (case hl => simp; omega); intro v1 w1 ho hb hg; rw [List.nil_append] at ho; obtain ⟨A1, c1, rfl, hc1, hr1⟩ := ho.read; rw [HLN.out] at hc1 hr1; rw [HLN.out]; have HR1 := Aside0.mk hr1; have HP1 : Aside0 (w1.cell? ⟨w0.heap.size, 0, none⟩ = some (.int .i64 (w : Int))) := ⟨(hb.cell (by show w0.heap.size < w0.heap.size + 1; omega)).trans HP.out⟩; have HB1 : Aside0 (Below w0.heap.size w0 w1) := ⟨HB0.out.trans (hb.mono (by omega))⟩; clear ho hb hg hr1)
    | (go_at_call 40; (with_reducible refine (rlDec_calls w0.heap.size A1 N c1 w bs rs w1 HP1.out HR1.out HHB.out hc1 hn hw1 hw8 HOK.out HVL.out).mono ?_); rintro e w2 ⟨v2, rfl, ho, hb⟩; have HB2 := Aside0.mk (HB1.out.trans (hb.mono HB1.out.size)); have HO2 := Aside0.mk (Own.lower ho HB1.out.size); clear ho hb)
    | go_quiet (fail))
  go_ret2
  exact ⟨v2, rfl, HO2.out.drewN _, HB2.out.trans ((drewN_below _ _).mono HB2.out.size)⟩
end Go.Proofs.YtoopljlbiifmfaaDoor.Lrd
