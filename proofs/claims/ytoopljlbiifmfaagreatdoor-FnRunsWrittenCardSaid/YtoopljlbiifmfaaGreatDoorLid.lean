import Derived.Test.YtoopljlbiifmfaaGreatDoorDej
/-! Numbers of 32 bits in runs: the methods that read them, the thin package. -/
namespace Go.Proofs.YtoopljlbiifmfaaGreatDoor.Lid
open Go.Proofs.YtoopljlbiifmfaaGreatDoor.Dej Go.Proofs.YtoopljlbiifmfaaGreatDoor.Dei Go.Proofs.YtoopljlbiifmfaaGreatDoor.Uni Go.Proofs.YtoopljlbiifmfaaGreatDoor.Dec Go.Proofs.YtoopljlbiifmfaaGreatDoor.Uva Go.Proofs.YtoopljlbiifmfaaGreatDoor.Rle Go.Proofs.YtoopljlbiifmfaaGreatDoor.Run Go.Proofs.YtoopljlbiifmfaaGreatDoor.Rlp Go.Proofs.YtoopljlbiifmfaaGreatDoor.Rlb Go.Proofs.YtoopljlbiifmfaaGreatDoor.Buf Go.Proofs.YtoopljlbiifmfaaGreatDoor.Fit Go.Proofs.YtoopljlbiifmfaaGreatDoor.Bit Go.Proofs.YtoopljlbiifmfaaGreatDoor.Wrd Go.Proofs.YtoopljlbiifmfaaGreatDoor.Spl Go.Proofs.YtoopljlbiifmfaaGreatDoor.Str Go.Proofs.YtoopljlbiifmfaaGreatDoor.Flt Go.Proofs.YtoopljlbiifmfaaGreatDoor.Owe Go.Proofs.YtoopljlbiifmfaaGreatDoor.Num Go.Proofs.YtoopljlbiifmfaaGreatDoor.Le Go.Proofs.YtoopljlbiifmfaaGreatDoor.Lst Go.Proofs.YtoopljlbiifmfaaGreatDoor.Aid Go.RowKit Go.Proofs.YtoopljlbiifmfaaGreatDoorW.PrintWords Go.Proofs.YtoopljlbiifmfaaGreatDoorW.PrintLast Go.Proofs.YtoopljlbiifmfaaGreatDoorW.PrintMore
set_option linter.unusedVariables false
set_option linter.unusedSimpArgs false
theorem own_read9 {w : World} {base t : Nat} {k : IntKind} {v : Value} {xs : List Int} (h : Own w base t k v xs) : ∃ A c, v = .slice A xs.length c ∧ xs.length ≤ c ∧ c ≤ 9223372036854775807 ∧ (Kd.int k).C w A xs.length xs := by
  obtain ⟨A, c, e, hc, hC⟩ := h.read
  rcases own_front h with ⟨e2, hx⟩ | ⟨g, C, e2, _, h9, _⟩
  · rw [e] at e2
    injection e2 with _ _ e3
    exact ⟨A, c, e, hc, by omega, hC⟩
  · rw [e] at e2
    injection e2 with _ _ e3
    exact ⟨A, c, e, hc, by omega, hC⟩
set_option maxHeartbeats 4000000 in
theorem rlWrapI_calls (p : Value) (w : World) :
    Calls Tryz.prog 30 #[p, .nilIface] w fun e w' => e = .returned .nilIface ∧ w = w' := by
  go_enter Tryz.func30, Tryz.ntmps30
  go_wp2_with (fail)
  go_ret
  exact ⟨rfl, rfl⟩
set_option maxHeartbeats 4000000 in
theorem rlDec32_calls (g : Nat) (A : Option Addr) (N c : Nat) (w : Nat) (bs : List Int) (rs : List R) (w0 : World) (hp : w0.cell? ⟨g, 0, none⟩ = some (.int .i64 (w : Int))) (hC : (Kd.int .u8).C w0 A N bs) (hb : bs = hyb w rs) (hc : N ≤ c) (hc9 : c ≤ 9223372036854775807) (hn : N ≤ 2000000) (hw1 : 1 ≤ w) (hw8 : w ≤ 32) (hok : hybOk w rs) (hV : (hybV rs).length ≤ 1000000) :
    Calls Tryz.prog 22 #[.pointer (some ⟨g, 0, none⟩), .slice none 0 0, .slice A N c] w0 fun e w' => ∃ v, e = .returned (.tuple #[v, .nilIface]) ∧ Own w' w0.heap.size 21 .i32 v (i32L (hybV rs)) ∧ Below w0.heap.size w0 w' := by
  have HCALL := Aside0.mk (decodeInt32_calls A N c w bs rs w0.drew (Kd.C_drewN hC 1) hb hc hc9 hn hw1 hw8 hok hV)
  have HBD : Aside0 (Below w0.heap.size w0 w0.drew) := ⟨drewN_below w0 1⟩
  obtain ⟨i32, h32⟩ : ∃ i, (Tryz.prog.info? 21) = some i ∧ i.size = 1 := Option.map_eq_some_iff.1 (show (Tryz.prog.info? 21).map (fun i => i.size) = some 1 by kernel_rfl)
  obtain ⟨cutz, _⟩ := cutHi (P := Tryz.prog) 22 21 Tryz.underlying22 h32.1 none 0 0 .i64 0 0 rfl (by omega) (by omega)
  have hlt := World.block_lt_of_cell? w0 _ hp
  have hpd : w0.drew.cell? ⟨g, 0, none⟩ = some (.int .i64 (w : Int)) := hp
  have hltd : g < w0.drew.heap.size := hlt
  have qw : IntKind.u64.wrap (w : Int) = (w : Int) := IntWalk.u64_in _ (by omega)
  clear hC
  go_enter Tryz.func22, Tryz.ntmps22
  go_wp2_with (fail)
  go_region_held3 (fun (w9 : World) => w9.cell? ⟨g, 0, none⟩ = some (.int .i64 (w : Int)))
    (first | assumption | exact hpd | exact HP2.out)
    ((first
      | (go_at_call 39; (with_reducible refine HCALL.out.mono ?_); rintro e w2 ⟨v2, rfl, ho, hb⟩; have HO2 := Aside0.mk ho; have HP2 : Aside0 (w2.cell? ⟨g, 0, none⟩ = some (.int .i64 (w : Int))) := ⟨(hb.cell hltd).trans hpd⟩; have HB2 := Aside0.mk (HBD.out.trans (hb.mono HBD.out.size)); clear ho hb)
      | fail "no arm"))
  go_wp2_with (first
    | (go_at_call 30; (with_reducible refine (rlWrapI_calls _ _).mono ?_); rintro e w3 ⟨rfl, rfl⟩))
  go_ret2
  exact ⟨v2, rfl, HO2.out, HB2.out⟩
set_option maxHeartbeats 4000000 in
theorem diWrapI_calls (p : Value) (w : World) :
    Calls Tryz.prog 36 #[p, .nilIface] w fun e w' => e = .returned .nilIface ∧ w = w' := by
  go_enter Tryz.func36, Tryz.ntmps36
  go_wp2_with (fail)
  go_ret
  exact ⟨rfl, rfl⟩
set_option maxHeartbeats 4000000 in
theorem diDec32_calls (p : Option Addr) (A : Option Addr) (N c : Nat) (w : Nat) (bs : List Int) (rs : List R) (w0 : World) (hC : (Kd.int .u8).C w0 A (N + 1) ((w : Int) :: bs)) (hb : bs = hyb w rs) (hc : N + 1 ≤ c) (hc9 : c ≤ 9223372036854775807) (hn : N ≤ 2000000) (hw1 : 1 ≤ w) (hw8 : w ≤ 32) (hok : hybOk w rs) (hV : (hybV rs).length ≤ 1000000) :
    Calls Tryz.prog 26 #[.pointer p, .slice none 0 0, .slice A (N + 1) c] w0 fun e w' => ∃ v, e = .returned (.tuple #[v, .nilIface]) ∧ Own w' w0.heap.size 21 .i32 v (i32L (hybV rs)) ∧ Below w0.heap.size w0 w' := by
  have hbl : N = bs.length := by have := hC.1; simp at this; omega
  obtain ⟨i8, h8⟩ := h8
  obtain ⟨A1, cut1, hC1⟩ := cutLo (P := Tryz.prog) 27 5 Tryz.underlying27 h8.1 h8.2 A (N + 1) c .i64 1 1 rfl (by omega) hc
  have hCd := hC1 (Kd.int .u8) w0.drew _ rfl (Kd.C_drewN hC 1)
  rw [List.drop_one, List.tail_cons, show N + 1 - 1 = N by omega] at hCd
  rw [show N + 1 - 1 = N by omega] at cut1
  have HCALL := Aside0.mk (decodeInt32_calls A1 N (c - 1) w bs rs w0.drew hCd hb (by omega) (by omega) hn hw1 hw8 hok hV)
  have HBD : Aside0 (Below w0.heap.size w0 w0.drew) := ⟨drewN_below w0 1⟩
  obtain ⟨i32, h32⟩ : ∃ i, (Tryz.prog.info? 21) = some i ∧ i.size = 1 := Option.map_eq_some_iff.1 (show (Tryz.prog.info? 21).map (fun i => i.size) = some 1 by kernel_rfl)
  obtain ⟨cutz, _⟩ := cutHi (P := Tryz.prog) 22 21 Tryz.underlying22 h32.1 none 0 0 .i64 0 0 rfl (by omega) (by omega)
  obtain ⟨ad, ead, hp⟩ := Kd.at_int hC 0 (by omega) (by omega)
  have hp : w0.cell? (ad.add 0) = some (.int .u8 (w : Int)) := hp
  have had : ad.add 0 = ad := by simp [Addr.add]
  rw [had] at hp
  have hlt := World.block_lt_of_cell? w0 _ hp
  have hpd : w0.drew.cell? ad = some (.int .u8 (w : Int)) := hp
  have hltd : ad.block < w0.drew.heap.size := hlt
  have qn0 : (((N : Int) + 1) == 0) = false := by rw [beq_eq_false_iff_ne]; omega
  have qn1 : (0 < N + 1) = True := eq_true (by omega)
  have qn2 : ((0 : Int) < (N : Int) + 1) = True := eq_true (by omega)
  have qw : IntKind.u64.wrap (w : Int) = (w : Int) := IntWalk.u64_in _ (by omega)
  subst ead
  clear hC hC1 hCd hbl hb hok hV had
  go_enter Tryz.func26, Tryz.ntmps26
  go_wp2_with (fail)
  go_region_held3 (fun (w9 : World) => w9.cell? ad = some (.int .u8 (w : Int)))
    (first | assumption | exact hpd | exact HP2.out)
    ((first
      | (go_at_call 39; go_loud (with_reducible refine HCALL.out.mono ?_); rintro e w2 ⟨v2, rfl, ho, hb⟩; have HO2 := Aside0.mk ho; have HP2 : Aside0 (w2.cell? ad = some (.int .u8 (w : Int))) := ⟨(hb.cell hltd).trans hpd⟩; have HB2 := Aside0.mk (HBD.out.trans (hb.mono HBD.out.size)); clear ho hb)
      | fail "no arm"))
  go_wp2_with (first
    | (go_at_call 36; (with_reducible refine (diWrapI_calls _ _).mono ?_); rintro e w3 ⟨rfl, rfl⟩))
  go_ret2
  exact ⟨v2, rfl, HO2.out, HB2.out⟩
set_option maxHeartbeats 4000000 in
theorem decodeInt32sRl_calls (A : Option Addr) (N c : Nat) (w : Nat) (bs : List Int) (rs : List R) (w0 : World) (hC : (Kd.int .u8).C w0 A N bs) (hb : bs = hyb w rs) (hc : N ≤ c) (hn : N ≤ 2000000) (hw1 : 1 ≤ w) (hw8 : w ≤ 32) (hok : hybOk w rs) (hV : (hybV rs).length ≤ 1000000) :
    Calls Tryz.prog 9 #[.string ⟨#[114, 108, 101]⟩, .int .i64 w, .slice A N c] w0 fun e w' => ∃ v, e = .returned (.tuple #[v, .bool true]) ∧ Own w' w0.heap.size 21 .i32 v (i32L (hybV rs)) ∧ Below w0.heap.size w0 w' := by
  have HLN : Aside0 (bs.length = N) := ⟨hC.1⟩
  have HHB := Aside0.mk hb
  have HOK := Aside0.mk hok
  have HVL := Aside0.mk hV
  have HC2 : Aside0 ((Kd.int .u8).C (w0.alloc (.cells #[] 5)) A N bs) := ⟨Kd.C_alloc hC _⟩
  have HE := Aside0.mk (Own.empty w0 w0.heap.size 5 .u8 (Nat.le_refl _))
  have HEB : Aside0 (Below w0.heap.size w0 (w0.alloc (.cells #[] 5))) := ⟨(Below.refl _ _).alloc (Nat.le_refl _) _⟩
  clear hb hok hV hC
  go_enter Tryz.func9, Tryz.ntmps9
  go_wp2_with (first
    | (at_builtin; refine appendRead (w0 := w0) w0.heap.size rfl (.tmp 11) (.tmp 12) 27 5 .u8 1 rfl Tryz.underlying27 infoU8 (by decide) _ [] A N c bs rfl rfl HE.out HEB.out ?hb HC2.out ?hl ?_; (case hb => exact HEB.out.size); (case hl => simp; omega); intro v1 w1 ho hb hg; rw [List.nil_append] at ho; obtain ⟨A1, c1, rfl, hc1, hc19, hr1⟩ := own_read9 ho; rw [HLN.out] at hc1 hr1; rw [HLN.out]; have HR1 := Aside0.mk (Kd.C_alloc hr1 (.cells #[.int .i64 (w : Int)] 47)); have HP1 : Aside0 ((w1.alloc (.cells #[.int .i64 (w : Int)] 47)).cell? ⟨w1.heap.size, 0, none⟩ = some (.int .i64 (w : Int))) := ⟨(Blk.new w1 #[.int .i64 (w : Int)] 47).cell rfl⟩; have HBA : Aside0 (Below w0.heap.size w0 (w1.alloc (.cells #[.int .i64 (w : Int)] 47))) := ⟨hb.alloc hb.size _⟩; clear ho hb hg hr1)
    | (go_at_call 22; go_loud (with_reducible refine (rlDec32_calls w1.heap.size A1 N c1 w bs rs _ HP1.out HR1.out HHB.out hc1 hc19 hn hw1 hw8 HOK.out HVL.out).mono ?_); rintro e w2 ⟨v2, rfl, ho, hb⟩; have HB2 := Aside0.mk (HBA.out.trans (hb.mono HBA.out.size)); have HO2 := Aside0.mk (Own.lower ho HBA.out.size); clear ho hb)
    | go_quiet (fail))
  go_ret2
  exact ⟨v2, rfl, HO2.out.drewN _, HB2.out.trans ((drewN_below _ _).mono HB2.out.size)⟩
set_option maxHeartbeats 4000000 in
theorem decodeInt32sDi_calls (A : Option Addr) (N c : Nat) (w : Nat) (bs : List Int) (rs : List R) (w0 : World) (hC : (Kd.int .u8).C w0 A (N + 1) ((w : Int) :: bs)) (hb : bs = hyb w rs) (hc : N + 1 ≤ c) (hn : N ≤ 2000000) (hw1 : 1 ≤ w) (hw8 : w ≤ 32) (hok : hybOk w rs) (hV : (hybV rs).length ≤ 1000000) :
    Calls Tryz.prog 9 #[.string ⟨#[114, 108, 101, 100, 105, 99, 116]⟩, .int .i64 0, .slice A (N + 1) c] w0 fun e w' => ∃ v, e = .returned (.tuple #[v, .bool true]) ∧ Own w' w0.heap.size 21 .i32 v (i32L (hybV rs)) ∧ Below w0.heap.size w0 w' := by
  have HLN : Aside0 (((w : Int) :: bs).length = N + 1) := ⟨hC.1⟩
  have HHB := Aside0.mk hb
  have HOK := Aside0.mk hok
  have HVL := Aside0.mk hV
  have HC2 : Aside0 ((Kd.int .u8).C (w0.alloc (.cells #[] 5)) A (N + 1) ((w : Int) :: bs)) := ⟨Kd.C_alloc hC _⟩
  have HE := Aside0.mk (Own.empty w0 w0.heap.size 5 .u8 (Nat.le_refl _))
  have HEB : Aside0 (Below w0.heap.size w0 (w0.alloc (.cells #[] 5))) := ⟨(Below.refl _ _).alloc (Nat.le_refl _) _⟩
  clear hb hok hV hC
  go_enter Tryz.func9, Tryz.ntmps9
  go_wp2_with (first
    | (at_builtin; refine appendRead (w0 := w0) w0.heap.size rfl (.tmp 11) (.tmp 12) 27 5 .u8 1 rfl Tryz.underlying27 infoU8 (by decide) _ [] A (N + 1) c ((w : Int) :: bs) rfl rfl HE.out HEB.out ?hb HC2.out ?hl ?_; (case hb => exact HEB.out.size); (case hl => simp; omega); intro v1 w1 ho hb hg; rw [List.nil_append] at ho; obtain ⟨A1, c1, rfl, hc1, hc19, hr1⟩ := own_read9 ho; rw [HLN.out] at hc1 hr1; rw [HLN.out]; have HR1 := Aside0.mk (Kd.C_alloc hr1 (.cells #[] 56)); have HBA : Aside0 (Below w0.heap.size w0 (w1.alloc (.cells #[] 56))) := ⟨hb.alloc hb.size _⟩; clear ho hb hg hr1)
    | (go_at_call 26; go_loud (with_reducible refine (diDec32_calls _ A1 N c1 w bs rs _ HR1.out HHB.out hc1 hc19 hn hw1 hw8 HOK.out HVL.out).mono ?_); rintro e w2 ⟨v2, rfl, ho, hb⟩; have HB2 := Aside0.mk (HBA.out.trans (hb.mono HBA.out.size)); have HO2 := Aside0.mk (Own.lower ho HBA.out.size); clear ho hb)
    | go_quiet (fail))
  go_ret2
  exact ⟨v2, rfl, HO2.out.drewN _, HB2.out.trans ((drewN_below _ _).mono HB2.out.size)⟩
end Go.Proofs.YtoopljlbiifmfaaGreatDoor.Lid
