import Derived.Test.YtoopljlbiifmfaaDoorDbi
/-! Truth values in runs: the methods that read them. -/
namespace Go.Proofs.YtoopljlbiifmfaaDoor.Dbm
open Go.Proofs.YtoopljlbiifmfaaDoor.Dbi Go.Proofs.YtoopljlbiifmfaaDoor.Dec Go.Proofs.YtoopljlbiifmfaaDoor.Uva Go.Proofs.YtoopljlbiifmfaaDoor.Rle Go.Proofs.YtoopljlbiifmfaaDoor.Run Go.Proofs.YtoopljlbiifmfaaDoor.Rlp Go.Proofs.YtoopljlbiifmfaaDoor.Rlb Go.Proofs.YtoopljlbiifmfaaDoor.Buf Go.Proofs.YtoopljlbiifmfaaDoor.Fit Go.Proofs.YtoopljlbiifmfaaDoor.Bit Go.Proofs.YtoopljlbiifmfaaDoor.Wrd Go.Proofs.YtoopljlbiifmfaaDoor.Spl Go.Proofs.YtoopljlbiifmfaaDoor.Str Go.Proofs.YtoopljlbiifmfaaDoor.Flt Go.Proofs.YtoopljlbiifmfaaDoor.Owe Go.Proofs.YtoopljlbiifmfaaDoor.Num Go.Proofs.YtoopljlbiifmfaaDoor.Le Go.Proofs.YtoopljlbiifmfaaDoor.Lst Go.Proofs.YtoopljlbiifmfaaDoor.Aid Go.RowKit Go.Proofs.YtoopljlbiifmfaaDoorW.PrintWords Go.Proofs.YtoopljlbiifmfaaDoorW.PrintLast Go.Proofs.YtoopljlbiifmfaaDoorW.PrintMore
set_option linter.unusedVariables false
set_option linter.unusedSimpArgs false
theorem le4_head (n : Nat) (hn : n < 4294967296) (bs : List Int) : le4L (lowL 4 (n : Int) ++ bs) = (n : Int) := by
  simp [le4L, le4, lowL, rd, List.range_succ]
  omega
theorem hyb_nil_of {b : Nat} {rs : List R} (h : hyb b rs = []) : rs = [] := by
  cases rs with
  | nil => rfl
  | cons r rs =>
    have e : hyb b (r :: rs) = r.bytes b ++ hyb b rs := rfl
    rw [e] at h
    have h1 := (List.append_eq_nil_iff.1 h).1
    cases r with
    | rep v k =>
      have := varL_pos (2 * k)
      have h2 := (List.append_eq_nil_iff.1 h1).1
      rw [h2] at this; simp at this
    | grp l =>
      have := varL_pos (2 * (l.length / 8) + 1)
      have h2 := (List.append_eq_nil_iff.1 h1).1
      rw [h2] at this; simp at this
set_option maxHeartbeats 4000000 in
theorem rlWrapB_calls (p : Value) (w : World) :
    Calls Tryd.prog 58 #[p, .nilIface] w fun e w' => e = .returned .nilIface ∧ w = w' := by
  go_enter Tryd.func58, Tryd.ntmps58
  go_wp2_with (fail)
  go_ret
  exact ⟨rfl, rfl⟩
set_option maxHeartbeats 4000000 in
theorem rlDecB_calls (p : Option Addr) (A : Option Addr) (N c : Nat) (X : List Int) (rs : List R) (w0 : World) (hC : (Kd.int .u8).C w0 A (N + 4) (lowL 4 (N : Int) ++ X)) (hb : X = hyb 1 rs) (hX : X.length = N) (hby : bytesB (lowL 4 (N : Int) ++ X) = true) (hc : N + 4 ≤ c) (hn : N ≤ 1000000) (hok : hybOk 1 rs) (hV : (hybV rs).length ≤ 1000000) :
    Calls Tryd.prog 39 #[.pointer p, .slice none 0 0, .slice A (N + 4) c] w0 fun e w' => ∃ v, e = .returned (.tuple #[v, .nilIface]) ∧ Own w' w0.heap.size 5 .u8 v (dBs rs) ∧ Below w0.heap.size w0 w' := by
  obtain ⟨i8, h8⟩ := h8
  obtain ⟨cutz, _⟩ := cutHi (P := Tryd.prog) 25 5 Tryd.underlying25 h8.1 none 0 0 .i64 0 0 rfl (by omega) (by omega)
  by_cases h0 : N = 0
  · have hrs : rs = [] := hyb_nil_of (by rw [← hb]; exact List.eq_nil_of_length_eq_zero (by omega))
    subst h0
    have q4 : (((0 : Nat) : Int) + 4 == 4) = true := by decide
    go_enter Tryd.func39, Tryd.ntmps39
    go_wp2_with (fail)
    go_ret2
    refine ⟨_, rfl, ?_, Below.refl _ _⟩
    rw [hrs]; exact Own.nil _ _ _ _
  have q4 : ((N : Int) + 4 == 4) = false := by rw [beq_eq_false_iff_ne]; omega
  have q5 : decide ((N : Int) + 4 < 4) = false := decide_eq_false (by omega)
  have q6 : decide ((N : Int) < (N : Int)) = false := decide_eq_false (by omega)
  have HLE := Aside0.mk (pqrle_leUint32.calls' A (N + 4) c _ w0 hC (by omega) (by omega) hby)
  rw [le4_head N (by omega) X] at HLE
  obtain ⟨A1, cut1, hC1⟩ := cutLo (P := Tryd.prog) 25 5 Tryd.underlying25 h8.1 h8.2 A (N + 4) c .i64 4 4 rfl (by omega) hc
  have hCd := hC1 (Kd.int .u8) w0 _ rfl hC
  rw [List.drop_left' (lowL_length 4 _), show N + 4 - 4 = N by omega] at hCd
  rw [show N + 4 - 4 = N by omega] at cut1
  have hcc : N ≤ c - 4 := by omega
  obtain ⟨cc, hcq⟩ : ∃ cc, c - 4 = cc := ⟨_, rfl⟩
  rw [hcq] at cut1 hcc
  obtain ⟨cut2, hC2⟩ := cutHi (P := Tryd.prog) 25 5 Tryd.underlying25 h8.1 A1 N cc .i64 (N : Int) N rfl (Nat.le_refl _) hcc
  have hNw : IntKind.i64.wrap (N : Int) = (N : Int) := IntWalk.i64_in _ (by omega)
  have HCR := Aside0.mk hCd
  have HHB := Aside0.mk hb
  have HOK := Aside0.mk hok
  have HVL := Aside0.mk hV
  clear hC hC1 hCd hC2 hb hok hV hby hcq
  go_enter Tryd.func39, Tryd.ntmps39
  go_wp2_with (first
    | (go_at_call 56; go_loud (with_reducible refine HLE.out.mono ?_); rintro e w1 ⟨rfl, ⟨nd, rfl⟩⟩))
  have HCALL := Aside0.mk (decodeBits_calls A1 N cc X rs (w0.drewN (nd + 1)) (Kd.C_drewN HCR.out (nd + 1)) HHB.out hcc hn HOK.out HVL.out)
  have HBD : Aside0 (Below w0.heap.size w0 (w0.drewN (nd + 1))) := ⟨drewN_below w0 (nd + 1)⟩
  go_region_held3 (fun (w9 : World) => True) (trivial)
    ((first
      | (go_at_call 57; go_loud (with_reducible refine HCALL.out.mono ?_); rintro e w2 ⟨v2, rfl, ho, hb⟩; have HO2 := Aside0.mk ho; have HB2 := Aside0.mk (HBD.out.trans (hb.mono HBD.out.size)); clear ho hb)
      | fail "no arm"))
  go_wp2_with (first
    | (go_at_call 58; (with_reducible refine (rlWrapB_calls _ _).mono ?_); rintro e w3 ⟨rfl, rfl⟩))
  go_ret2
  exact ⟨v2, rfl, HO2.out, HB2.out⟩
set_option maxHeartbeats 4000000 in
theorem decodeBitsRl_calls (A : Option Addr) (N c : Nat) (X : List Int) (rs : List R) (w0 : World) (hC : (Kd.int .u8).C w0 A (N + 4) (lowL 4 (N : Int) ++ X)) (hb : X = hyb 1 rs) (hX : X.length = N) (hby : bytesB (lowL 4 (N : Int) ++ X) = true) (hc : N + 4 ≤ c) (hn : N ≤ 1000000) (hok : hybOk 1 rs) (hV : (hybV rs).length ≤ 1000000) :
    Calls Tryd.prog 16 #[.string ⟨#[114, 108, 101]⟩, .slice A (N + 4) c] w0 fun e w' => ∃ v, e = .returned (.tuple #[v, .bool true]) ∧ Own w' w0.heap.size 5 .u8 v (dBs rs) ∧ Below w0.heap.size w0 w' := by
  have HLN : Aside0 ((lowL 4 (N : Int) ++ X).length = N + 4) := ⟨hC.1⟩
  have HHB := Aside0.mk hb
  have HXX := Aside0.mk hX
  have HBY := Aside0.mk hby
  have HOK := Aside0.mk hok
  have HVL := Aside0.mk hV
  obtain ⟨Z, hZ⟩ : ∃ Z, lowL 4 (N : Int) ++ X = Z := ⟨_, rfl⟩
  rw [hZ] at hC HLN HBY
  have HZ := Aside0.mk hZ
  have HC2 : Aside0 ((Kd.int .u8).C ((w0.alloc (.cells #[.int .i64 1] 67)).alloc (.cells #[] 5)) A (N + 4) Z) := ⟨Kd.C_alloc (Kd.C_alloc hC _) _⟩
  have HE : Aside0 (Own ((w0.alloc (.cells #[.int .i64 1] 67)).alloc (.cells #[] 5)) (w0.heap.size + 1) 5 .u8 (.slice (some ⟨(w0.alloc (.cells #[.int .i64 1] 67)).heap.size, 0, none⟩) 0 0) []) := ⟨Own.empty (w0.alloc (.cells #[.int .i64 1] 67)) (w0.heap.size + 1) 5 .u8 (by simp)⟩
  have HEB : Aside0 (Below (w0.heap.size + 1) (w0.alloc (.cells #[.int .i64 1] 67)) ((w0.alloc (.cells #[.int .i64 1] 67)).alloc (.cells #[] 5))) := ⟨by
    have := (Below.refl (w0.alloc (.cells #[.int .i64 1] 67)).heap.size (w0.alloc (.cells #[.int .i64 1] 67))).alloc (Nat.le_refl _) (.cells #[] 5)
    rw [show (w0.alloc (.cells #[.int .i64 1] 67)).heap.size = w0.heap.size + 1 by simp] at this
    exact this⟩
  have HB0 : Aside0 (Below w0.heap.size w0 (w0.alloc (.cells #[.int .i64 1] 67))) := ⟨(Below.refl _ _).alloc (Nat.le_refl _) _⟩
  have es : (w0.alloc (.cells #[.int .i64 1] 67)).heap.size = w0.heap.size + 1 := by simp
  rw [es] at HE
  have HES : Aside0 ((w0.alloc (.cells #[.int .i64 1] 67)).heap.size = w0.heap.size + 1) := ⟨es⟩
  clear hC es hb hX hby hok hV hZ
  go_enter Tryd.func16, Tryd.ntmps16
  go_wp2_with (first
    | (at_builtin; go_loud (refine appendRead (w0 := (w0.alloc (.cells #[.int .i64 1] 67))) (w0.heap.size + 1) rfl (.tmp 25) (.tmp 26) 25 5 .u8 1 rfl Tryd.underlying25 infoU8 (by decide) _ [] A (N + 4) c Z rfl rfl HE.out HEB.out ?hb HC2.out ?hl ?_); (case hb => have := HEB.out.size; rw [HES.out] at this; exact this); (case hl => simp; omega); intro v1 w1 ho hb hg; rw [List.nil_append] at ho; obtain ⟨A1, c1, rfl, hc1, hr1⟩ := ho.read; rw [HLN.out] at hc1 hr1; rw [HLN.out]; have HR1 : Aside0 ((Kd.int .u8).C w1 A1 (N + 4) (lowL 4 (N : Int) ++ X)) := ⟨by rw [HZ.out]; exact hr1⟩; have HB1 : Aside0 (Below w0.heap.size w0 w1) := ⟨HB0.out.trans (hb.mono (by omega))⟩; clear ho hb hg hr1)
    | (go_at_call 39; go_loud (with_reducible refine (rlDecB_calls _ A1 N c1 X rs w1 HR1.out HHB.out HXX.out (by rw [HZ.out]; exact HBY.out) hc1 hn HOK.out HVL.out).mono ?_); rintro e w2 ⟨v2, rfl, ho, hb⟩; have HB2 := Aside0.mk (HB1.out.trans (hb.mono HB1.out.size)); have HO2 := Aside0.mk (Own.lower ho HB1.out.size); clear ho hb)
    | go_quiet (fail))
  go_ret2
  exact ⟨v2, rfl, HO2.out.drewN _, HB2.out.trans ((drewN_below _ _).mono HB2.out.size)⟩
end Go.Proofs.YtoopljlbiifmfaaDoor.Dbm
