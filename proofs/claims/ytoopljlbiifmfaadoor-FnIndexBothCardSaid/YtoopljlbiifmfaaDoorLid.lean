import Derived.Test.YtoopljlbiifmfaaDoorDej
/-! Numbers of 32 bits in runs: the methods that read them, the thin package. -/
namespace Go.Proofs.YtoopljlbiifmfaaDoor.Lid
open Go.Proofs.YtoopljlbiifmfaaDoor.Dej Go.Proofs.YtoopljlbiifmfaaDoor.Dei Go.Proofs.YtoopljlbiifmfaaDoor.Uni Go.Proofs.YtoopljlbiifmfaaDoor.Dec Go.Proofs.YtoopljlbiifmfaaDoor.Uva Go.Proofs.YtoopljlbiifmfaaDoor.Rle Go.Proofs.YtoopljlbiifmfaaDoor.Run Go.Proofs.YtoopljlbiifmfaaDoor.Rlp Go.Proofs.YtoopljlbiifmfaaDoor.Rlb Go.Proofs.YtoopljlbiifmfaaDoor.Buf Go.Proofs.YtoopljlbiifmfaaDoor.Fit Go.Proofs.YtoopljlbiifmfaaDoor.Bit Go.Proofs.YtoopljlbiifmfaaDoor.Wrd Go.Proofs.YtoopljlbiifmfaaDoor.Spl Go.Proofs.YtoopljlbiifmfaaDoor.Str Go.Proofs.YtoopljlbiifmfaaDoor.Flt Go.Proofs.YtoopljlbiifmfaaDoor.Owe Go.Proofs.YtoopljlbiifmfaaDoor.Num Go.Proofs.YtoopljlbiifmfaaDoor.Le Go.Proofs.YtoopljlbiifmfaaDoor.Lst Go.Proofs.YtoopljlbiifmfaaDoor.Aid Go.RowKit Go.Proofs.YtoopljlbiifmfaaDoorW.PrintWords Go.Proofs.YtoopljlbiifmfaaDoorW.PrintLast Go.Proofs.YtoopljlbiifmfaaDoorW.PrintMore
set_option linter.unusedVariables false
set_option linter.unusedSimpArgs false
theorem own_read9 {w : World} {base t : Nat} {k : IntKind} {v : Value} {xs : List Int} (h : Own w base t k v xs) : ∃ A c, v = .slice A xs.length c ∧ xs.length ≤ c ∧ c ≤ 9223372036854775807 ∧ (Kd.int k).C w A xs.length xs := by
  obtain ⟨A, c, e, hc, hC⟩ := h.read
  rcases own_front h with ⟨e2, hx⟩ | ⟨g, C, e2, _, h9, _⟩
  · rw [e] at e2
    injection e2 with _ _ e3
    exact ⟨A, c, e, hc, by omega, hC⟩
  · rw [e] at e2
    injection e2 with _ _ e3
    exact ⟨A, c, e, hc, by omega, hC⟩
set_option maxHeartbeats 4000000 in
theorem rlWrapI_calls (p : Value) (w : World) :
    Calls Tryd.prog 58 #[p, .nilIface] w fun e w' => e = .returned .nilIface ∧ w = w' := by
  go_enter Tryd.func58, Tryd.ntmps58
  go_wp2_with (fail)
  go_ret
  exact ⟨rfl, rfl⟩
set_option maxHeartbeats 4000000 in
theorem rlDec32_calls (g : Nat) (A : Option Addr) (N c : Nat) (w : Nat) (bs : List Int) (rs : List R) (w0 : World) (hp : w0.cell? ⟨g, 0, none⟩ = some (.int .i64 (w : Int))) (hC : (Kd.int .u8).C w0 A N bs) (hb : bs = hyb w rs) (hc : N ≤ c) (hc9 : c ≤ 9223372036854775807) (hn : N ≤ 2000000) (hw1 : 1 ≤ w) (hw8 : w ≤ 32) (hok : hybOk w rs) (hV : (hybV rs).length ≤ 1000000) :
    Calls Tryd.prog 45 #[.pointer (some ⟨g, 0, none⟩), .slice none 0 0, .slice A N c] w0 fun e w' => ∃ v, e = .returned (.tuple #[v, .nilIface]) ∧ Own w' w0.heap.size 21 .i32 v (i32L (hybV rs)) ∧ Below w0.heap.size w0 w' := by
  have HCALL := Aside0.mk (decodeInt32_calls A N c w bs rs w0.drew (Kd.C_drewN hC 1) hb hc hc9 hn hw1 hw8 hok hV)
  have HBD : Aside0 (Below w0.heap.size w0 w0.drew) := ⟨drewN_below w0 1⟩
  obtain ⟨i32, h32⟩ : ∃ i, (Tryd.prog.info? 21) = some i ∧ i.size = 1 := Option.map_eq_some_iff.1 (show (Tryd.prog.info? 21).map (fun i => i.size) = some 1 by kernel_rfl)
  obtain ⟨cutz, _⟩ := cutHi (P := Tryd.prog) 43 21 Tryd.underlying43 h32.1 none 0 0 .i64 0 0 rfl (by omega) (by omega)
  have hlt := World.block_lt_of_cell? w0 _ hp
  have hpd : w0.drew.cell? ⟨g, 0, none⟩ = some (.int .i64 (w : Int)) := hp
  have hltd : g < w0.drew.heap.size := hlt
  have qw : IntKind.u64.wrap (w : Int) = (w : Int) := IntWalk.u64_in _ (by omega)
  clear hC
  go_enter Tryd.func45, Tryd.ntmps45
  go_wp2_with (fail)
  go_region_held3 (fun (w9 : World) => w9.cell? ⟨g, 0, none⟩ = some (.int .i64 (w : Int)))
    (first | assumption | exact hpd | exact HP2.out)
    ((first
      | (go_at_call 66; (with_reducible refine HCALL.out.mono ?_); rintro e w2 ⟨v2, rfl, ho, hb⟩; have HO2 := Aside0.mk ho; have HP2 : Aside0 (w2.cell? ⟨g, 0, none⟩ = some (.int .i64 (w : Int))) := ⟨(hb.cell hltd).trans hpd⟩; have HB2 := Aside0.mk (HBD.out.trans (hb.mono HBD.out.size)); clear ho hb)
      | fail "no arm"))
  go_wp2_with (first
    | (go_at_call 58; (with_reducible refine (rlWrapI_calls _ _).mono ?_); rintro e w3 ⟨rfl, rfl⟩))
  go_ret2
  exact ⟨v2, rfl, HO2.out, HB2.out⟩
set_option maxHeartbeats 4000000 in
theorem diWrapI_calls (p : Value) (w : World) :
    Calls Tryd.prog 72 #[p, .nilIface] w fun e w' => e = .returned .nilIface ∧ w = w' := by
  go_enter Tryd.func72, Tryd.ntmps72
  go_wp2_with (fail)
  go_ret
  exact ⟨rfl, rfl⟩
set_option maxHeartbeats 4000000 in
theorem diDec32A_calls (p : Option Addr) (A : Option Addr) (N c : Nat) (w : Nat) (bs : List Int) (rs : List R) (w0 : World) (hC : (Kd.int .u8).C w0 A (N + 1) ((w : Int) :: bs)) (hb : bs = hyb w rs) (hc : N + 1 ≤ c) (hc9 : c ≤ 9223372036854775807) (hn : N ≤ 2000000) (hw1 : 1 ≤ w ∨ ∀ r ∈ rs, ∃ v k, r = R.rep v k) (hw8 : w ≤ 32) (hok : hybOk w rs) (hV : (hybV rs).length ≤ 1000000) :
    Calls Tryd.prog 49 #[.pointer p, .slice none 0 0, .slice A (N + 1) c] w0 fun e w' => ∃ v, e = .returned (.tuple #[v, .nilIface]) ∧ Own w' w0.heap.size 21 .i32 v (i32L (hybV rs)) ∧ Below w0.heap.size w0 w' := by
  have hbl : N = bs.length := by have := hC.1; simp at this; omega
  obtain ⟨i8, h8⟩ := h8
  obtain ⟨A1, cut1, hC1⟩ := cutLo (P := Tryd.prog) 25 5 Tryd.underlying25 h8.1 h8.2 A (N + 1) c .i64 1 1 rfl (by omega) hc
  have hCd := hC1 (Kd.int .u8) w0.drew _ rfl (Kd.C_drewN hC 1)
  rw [List.drop_one, List.tail_cons, show N + 1 - 1 = N by omega] at hCd
  rw [show N + 1 - 1 = N by omega] at cut1
  have HCALL := Aside0.mk (decodeInt32A_calls A1 N (c - 1) w bs rs w0.drew hCd hb (by omega) (by omega) hn hw1 hw8 hok hV)
  have HBD : Aside0 (Below w0.heap.size w0 w0.drew) := ⟨drewN_below w0 1⟩
  obtain ⟨i32, h32⟩ : ∃ i, (Tryd.prog.info? 21) = some i ∧ i.size = 1 := Option.map_eq_some_iff.1 (show (Tryd.prog.info? 21).map (fun i => i.size) = some 1 by kernel_rfl)
  obtain ⟨cutz, _⟩ := cutHi (P := Tryd.prog) 43 21 Tryd.underlying43 h32.1 none 0 0 .i64 0 0 rfl (by omega) (by omega)
  obtain ⟨ad, ead, hp⟩ := Kd.at_int hC 0 (by omega) (by omega)
  have hp : w0.cell? (ad.add 0) = some (.int .u8 (w : Int)) := hp
  have had : ad.add 0 = ad := by simp [Addr.add]
  rw [had] at hp
  have hlt := World.block_lt_of_cell? w0 _ hp
  have hpd : w0.drew.cell? ad = some (.int .u8 (w : Int)) := hp
  have hltd : ad.block < w0.drew.heap.size := hlt
  have qn0 : (((N : Int) + 1) == 0) = false := by rw [beq_eq_false_iff_ne]; omega
  have qn1 : (0 < N + 1) = True := eq_true (by omega)
  have qn2 : ((0 : Int) < (N : Int) + 1) = True := eq_true (by omega)
  have qw : IntKind.u64.wrap (w : Int) = (w : Int) := IntWalk.u64_in _ (by omega)
  subst ead
  clear hC hC1 hCd hbl hb hok hV had
  go_enter Tryd.func49, Tryd.ntmps49
  go_wp2_with (fail)
  go_region_held3 (fun (w9 : World) => w9.cell? ad = some (.int .u8 (w : Int)))
    (first | assumption | exact hpd | exact HP2.out)
    ((first
      | (go_at_call 66; go_loud (with_reducible refine HCALL.out.mono ?_); rintro e w2 ⟨v2, rfl, ho, hb⟩; have HO2 := Aside0.mk ho; have HP2 : Aside0 (w2.cell? ad = some (.int .u8 (w : Int))) := ⟨(hb.cell hltd).trans hpd⟩; have HB2 := Aside0.mk (HBD.out.trans (hb.mono HBD.out.size)); clear ho hb)
      | fail "no arm"))
  go_wp2_with (first
    | (go_at_call 72; (with_reducible refine (diWrapI_calls _ _).mono ?_); rintro e w3 ⟨rfl, rfl⟩))
  go_ret2
  exact ⟨v2, rfl, HO2.out, HB2.out⟩
set_option maxHeartbeats 4000000 in
theorem decodeInt32sRl_calls (A : Option Addr) (N c : Nat) (w : Nat) (bs : List Int) (rs : List R) (w0 : World) (hC : (Kd.int .u8).C w0 A N bs) (hb : bs = hyb w rs) (hc : N ≤ c) (hn : N ≤ 2000000) (hw1 : 1 ≤ w) (hw8 : w ≤ 32) (hok : hybOk w rs) (hV : (hybV rs).length ≤ 1000000) :
    Calls Tryd.prog 29 #[.string ⟨#[114, 108, 101]⟩, .int .i64 w, .slice A N c] w0 fun e w' => ∃ v, e = .returned (.tuple #[v, .bool true]) ∧ Own w' w0.heap.size 21 .i32 v (i32L (hybV rs)) ∧ Below w0.heap.size w0 w' := by
  have HLN : Aside0 (bs.length = N) := ⟨hC.1⟩
  have HHB := Aside0.mk hb
  have HOK := Aside0.mk hok
  have HVL := Aside0.mk hV
  have HC2 : Aside0 ((Kd.int .u8).C (w0.alloc (.cells #[] 5)) A N bs) := ⟨Kd.C_alloc hC _⟩
  have HE := Aside0.mk (Own.empty w0 w0.heap.size 5 .u8 (Nat.le_refl _))
  have HEB : Aside0 (Below w0.heap.size w0 (w0.alloc (.cells #[] 5))) := ⟨(Below.refl _ _).alloc (Nat.le_refl _) _⟩
  clear hb hok hV hC
  go_enter Tryd.func29, Tryd.ntmps29
  go_wp2_with (first
    | (at_builtin; refine appendRead (w0 := w0) w0.heap.size rfl (.tmp 11) (.tmp 12) 25 5 .u8 1 rfl Tryd.underlying25 infoU8 (by decide) _ [] A N c bs rfl rfl HE.out HEB.out ?hb HC2.out ?hl ?_; (case hb => exact HEB.out.size); (case hl => simp; omega); intro v1 w1 ho hb hg; rw [List.nil_append] at ho; obtain ⟨A1, c1, rfl, hc1, hc19, hr1⟩ := own_read9 ho; rw [HLN.out] at hc1 hr1; rw [HLN.out]; have HR1 := Aside0.mk (Kd.C_alloc hr1 (.cells #[.int .i64 (w : Int)] 67)); have HP1 : Aside0 ((w1.alloc (.cells #[.int .i64 (w : Int)] 67)).cell? ⟨w1.heap.size, 0, none⟩ = some (.int .i64 (w : Int))) := ⟨(Blk.new w1 #[.int .i64 (w : Int)] 67).cell rfl⟩; have HBA : Aside0 (Below w0.heap.size w0 (w1.alloc (.cells #[.int .i64 (w : Int)] 67))) := ⟨hb.alloc hb.size _⟩; clear ho hb hg hr1)
    | (go_at_call 45; go_loud (with_reducible refine (rlDec32_calls w1.heap.size A1 N c1 w bs rs _ HP1.out HR1.out HHB.out hc1 hc19 hn hw1 hw8 HOK.out HVL.out).mono ?_); rintro e w2 ⟨v2, rfl, ho, hb⟩; have HB2 := Aside0.mk (HBA.out.trans (hb.mono HBA.out.size)); have HO2 := Aside0.mk (Own.lower ho HBA.out.size); clear ho hb)
    | go_quiet (fail))
  go_ret2
  exact ⟨v2, rfl, HO2.out.drewN _, HB2.out.trans ((drewN_below _ _).mono HB2.out.size)⟩
set_option maxHeartbeats 4000000 in
theorem decodeInt32sDiA_calls (A : Option Addr) (N c : Nat) (w : Nat) (bs : List Int) (rs : List R) (w0 : World) (hC : (Kd.int .u8).C w0 A (N + 1) ((w : Int) :: bs)) (hb : bs = hyb w rs) (hc : N + 1 ≤ c) (hn : N ≤ 2000000) (hw1 : 1 ≤ w ∨ ∀ r ∈ rs, ∃ v k, r = R.rep v k) (hw8 : w ≤ 32) (hok : hybOk w rs) (hV : (hybV rs).length ≤ 1000000) :
    Calls Tryd.prog 29 #[.string ⟨#[114, 108, 101, 100, 105, 99, 116]⟩, .int .i64 0, .slice A (N + 1) c] w0 fun e w' => ∃ v, e = .returned (.tuple #[v, .bool true]) ∧ Own w' w0.heap.size 21 .i32 v (i32L (hybV rs)) ∧ Below w0.heap.size w0 w' := by
  have HLN : Aside0 (((w : Int) :: bs).length = N + 1) := ⟨hC.1⟩
  have HHB := Aside0.mk hb
  have HOK := Aside0.mk hok
  have HW1 := Aside0.mk hw1
  clear hw1
  have HVL := Aside0.mk hV
  have HC2 : Aside0 ((Kd.int .u8).C (w0.alloc (.cells #[] 5)) A (N + 1) ((w : Int) :: bs)) := ⟨Kd.C_alloc hC _⟩
  have HE := Aside0.mk (Own.empty w0 w0.heap.size 5 .u8 (Nat.le_refl _))
  have HEB : Aside0 (Below w0.heap.size w0 (w0.alloc (.cells #[] 5))) := ⟨(Below.refl _ _).alloc (Nat.le_refl _) _⟩
  clear hb hok hV hC
  go_enter Tryd.func29, Tryd.ntmps29
  go_wp2_with (first
    | (at_builtin; refine appendRead (w0 := w0) w0.heap.size rfl (.tmp 11) (.tmp 12) 25 5 .u8 1 rfl Tryd.underlying25 infoU8 (by decide) _ [] A (N + 1) c ((w : Int) :: bs) rfl rfl HE.out HEB.out ?hb HC2.out ?hl ?_; (case hb => exact HEB.out.size); (case hl => simp; omega); intro v1 w1 ho hb hg; rw [List.nil_append] at ho; obtain ⟨A1, c1, rfl, hc1, hc19, hr1⟩ := own_read9 ho; rw [HLN.out] at hc1 hr1; rw [HLN.out]; have HR1 := Aside0.mk (Kd.C_alloc hr1 (.cells #[] 80)); have HBA : Aside0 (Below w0.heap.size w0 (w1.alloc (.cells #[] 80))) := ⟨hb.alloc hb.size _⟩; clear ho hb hg hr1)
    | (go_at_call 49; go_loud (with_reducible refine (diDec32A_calls _ A1 N c1 w bs rs _ HR1.out HHB.out hc1 hc19 hn HW1.out hw8 HOK.out HVL.out).mono ?_); rintro e w2 ⟨v2, rfl, ho, hb⟩; have HB2 := Aside0.mk (HBA.out.trans (hb.mono HBA.out.size)); have HO2 := Aside0.mk (Own.lower ho HBA.out.size); clear ho hb)
    | go_quiet (fail))
  go_ret2
  exact ⟨v2, rfl, HO2.out.drewN _, HB2.out.trans ((drewN_below _ _).mono HB2.out.size)⟩
theorem decodeInt32sDi_calls (A : Option Addr) (N c : Nat) (w : Nat) (bs : List Int) (rs : List R) (w0 : World) (hC : (Kd.int .u8).C w0 A (N + 1) ((w : Int) :: bs)) (hb : bs = hyb w rs) (hc : N + 1 ≤ c) (hn : N ≤ 2000000) (hw1 : 1 ≤ w) (hw8 : w ≤ 32) (hok : hybOk w rs) (hV : (hybV rs).length ≤ 1000000) :
    Calls Tryd.prog 29 #[.string ⟨#[114, 108, 101, 100, 105, 99, 116]⟩, .int .i64 0, .slice A (N + 1) c] w0 fun e w' => ∃ v, e = .returned (.tuple #[v, .bool true]) ∧ Own w' w0.heap.size 21 .i32 v (i32L (hybV rs)) ∧ Below w0.heap.size w0 w' :=
  decodeInt32sDiA_calls A N c w bs rs w0 hC hb hc hn (.inl hw1) hw8 hok hV
set_option maxHeartbeats 4000000 in
theorem enInts_calls (A : Option Addr) (n c : Nat) (l : List Int) (w : World) (hC : (Kd.int .u64).C w A n l) (hc : n ≤ c) (hn : n ≤ 2147483647) (hh : u64L l) :
    Calls Tryd.prog 31 #[.slice A n c] w fun e w' => ∃ v, e = .returned v ∧ Own w' w.heap.size 21 .i32 v (i32L l) ∧ Below w.heap.size w w' := by
  have HLN : Aside0 (l.length = n) := ⟨hC.1⟩
  have HC := Aside0.mk hC
  have HH := Aside0.mk hh
  clear hC hh
  go_enter Tryd.func31, Tryd.ntmps31
  go_wp2_with (fail)
  go_loopg [3, 5, 8] n (fun kq v3 v5 v8 w' => ∃ (j : Nat), j ≤ n ∧ v8 = .int .i64 j ∧ Aside0 (Own w' w.heap.size 21 .i32 v3 (i32L (l.take j))) ∧ Aside0 (Below w.heap.size w w') ∧ Aside0 (n - j ≤ kq))
  case atStart => exact ⟨0, by omega, rfl, ⟨Own.nil _ _ _ _⟩, ⟨Below.refl _ _⟩, ⟨by omega⟩⟩
  case round =>
    obtain ⟨j, hj, rfl, HO, HB, HK⟩ := hrel
    by_cases cj : j < n
    · have cjb : decide ((j : Int) < n) = true := decide_eq_true (by omega)
      obtain ⟨ad, ead, hcell⟩ := Kd.at_int (Kd.C_below HC.out HB.out) (j : Int) (by omega) (by omega)
      rw [Int.toNat_natCast] at hcell
      obtain ⟨y, hy⟩ : ∃ y, rd l (j : Int) = y := ⟨_, rfl⟩
      rw [hy] at hcell
      obtain ⟨z, hz⟩ : ∃ z, IntKind.i32.wrap y = z := ⟨_, rfl⟩
      have HTK : Aside0 (i32L (l.take (j + 1)) = i32L (l.take j) ++ [z]) := ⟨by rw [List.take_succ_eq_append_getElem (by rw [HLN.out]; exact cj), i32L_app, ← hz, ← hy, rd_nat _ _ (by rw [HLN.out]; exact cj)]; rfl⟩
      have hln : (i32L (l.take j)).length ≤ 2147483647 := by rw [i32L_length, List.length_take]; omega
      have HLT := Aside0.mk hln
      clear hy hln
      subst ead
      go_wp2_with (first
        | (at_builtin; go_loud (refine appendOwn (w0 := w) w.heap.size rfl (.tmp 12) (.tmp 15) 43 21 .i32 4 rfl Tryd.underlying43 infoI32u (by decide) u3 (i32L (l.take j)) z rfl rfl HO.out HB.out ?hb ?hl ?_); (case hb => exact HB.out.size); (case hl => have := HLT.out; omega); intro v1 w1 ho hb hg; have HO1 := Aside0.mk ho; have HB1 := Aside0.mk hb; clear ho hb hg))
      go_roundg (gk - 1)
      case measure => have := HK.out; omega
      case rel =>
        refine ⟨j + 1, by omega, by go_num, ⟨?_⟩, HB1, ⟨by have := HK.out; omega⟩⟩
        rw [HTK.out]; exact HO1.out
    · obtain rfl : j = n := by omega
      have cjb : decide ((j : Int) < j) = false := decide_eq_false (by omega)
      go_wp2_with (fail)
      go_ret
      have := HO.out
      rw [← HLN.out, List.take_length] at this
      exact ⟨_, rfl, this, HB.out⟩
end Go.Proofs.YtoopljlbiifmfaaDoor.Lid
