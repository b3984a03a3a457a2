import Derived.Test.YtoopljlbiifmfaaDoorBpk
/-! Packed levels: the methods, the thin package, the law. -/
namespace Go.Proofs.YtoopljlbiifmfaaDoor.Lbp
open Go.Proofs.YtoopljlbiifmfaaDoor.Bpk Go.Proofs.YtoopljlbiifmfaaDoor.Fit Go.Proofs.YtoopljlbiifmfaaDoor.Bit Go.Proofs.YtoopljlbiifmfaaDoor.Wrd Go.Proofs.YtoopljlbiifmfaaDoor.Spl Go.Proofs.YtoopljlbiifmfaaDoor.Str Go.Proofs.YtoopljlbiifmfaaDoor.Flt Go.Proofs.YtoopljlbiifmfaaDoor.Owe Go.Proofs.YtoopljlbiifmfaaDoor.Num Go.Proofs.YtoopljlbiifmfaaDoor.Le Go.Proofs.YtoopljlbiifmfaaDoor.Lst Go.Proofs.YtoopljlbiifmfaaDoor.Aid Go.RowKit Go.Proofs.YtoopljlbiifmfaaDoorW.PrintWords Go.Proofs.YtoopljlbiifmfaaDoorW.PrintLast Go.Proofs.YtoopljlbiifmfaaDoorW.PrintMore
set_option linter.unusedVariables false
set_option linter.unusedSimpArgs false
set_option maxHeartbeats 4000000 in
theorem bpWrap_calls (p : Value) (w : World) :
    Calls Tryd.prog 61 #[p, .nilIface] w fun e w' => e = .returned .nilIface ∧ w = w' := by
  go_enter Tryd.func61, Tryd.ntmps61
  go_wp2_with (fail)
  go_ret
  exact ⟨rfl, rfl⟩
set_option maxHeartbeats 4000000 in
theorem bpEnc_calls (g : Nat) (A : Option Addr) (n c : Nat) (w : Nat) (l : List Int) (w0 : World) (hp : w0.cell? ⟨g, 0, none⟩ = some (.int .i64 (w : Int))) (hC : (Kd.int .u8).C w0 A n l) (hc : n ≤ c) (hn : n ≤ 100000) (hn0 : 0 < n) (hw1 : 1 ≤ w) (hw8 : w ≤ 8) (hu : fitL w l) :
    Calls Tryd.prog 43 #[.pointer (some ⟨g, 0, none⟩), .slice none 0 0, .slice A n c] w0 fun e w' => ∃ v, e = .returned (.tuple #[v, .nilIface]) ∧ Own w' w0.heap.size 5 .u8 v (bytesH (upTo (bitsOf w l) (n * w)) ((n * w + 7) / 8)) ∧ Below w0.heap.size w0 w' := by
  have HCALL := Aside0.mk (bpEncode_calls A n c w l w0.drew (Kd.C_drewN hC 1) hc hn hn0 hw1 hw8 hu)
  have HBD : Aside0 (Below w0.heap.size w0 w0.drew) := ⟨drewN_below w0 1⟩
  obtain ⟨i8, h8⟩ := h8
  obtain ⟨cutz, _⟩ := cutHi (P := Tryd.prog) 25 5 Tryd.underlying25 h8.1 none 0 0 .i64 0 0 rfl (by omega) (by omega)
  have hlt := World.block_lt_of_cell? w0 _ hp
  have hpd : w0.drew.cell? ⟨g, 0, none⟩ = some (.int .i64 (w : Int)) := hp
  have hltd : g < w0.drew.heap.size := hlt
  have qw : IntKind.u64.wrap (w : Int) = (w : Int) := IntWalk.u64_in _ (by omega)
  obtain ⟨L, hL⟩ : ∃ L, bytesH (upTo (bitsOf w l) (n * w)) ((n * w + 7) / 8) = L := ⟨_, rfl⟩
  rw [hL] at HCALL ⊢
  clear hC hu hL
  go_enter Tryd.func43, Tryd.ntmps43
  go_wp2_with (fail)
  go_region_held3 (fun (w9 : World) => w9.cell? ⟨g, 0, none⟩ = some (.int .i64 (w : Int)))
    (first | assumption | exact hpd | exact HP2.out)
    ((first
      | (go_at_call 63; (with_reducible refine HCALL.out.mono ?_); rintro e w2 ⟨v2, rfl, ho, hb⟩; have HO2 := Aside0.mk ho; have HP2 : Aside0 (w2.cell? ⟨g, 0, none⟩ = some (.int .i64 (w : Int))) := ⟨(hb.cell hltd).trans hpd⟩; have HB2 := Aside0.mk (HBD.out.trans (hb.mono HBD.out.size)); clear ho hb)
      | fail "no arm"))
  go_wp2_with (first
    | (go_at_call 61; (with_reducible refine (bpWrap_calls _ _).mono ?_); rintro e w3 ⟨rfl, rfl⟩))
  go_ret2
  exact ⟨v2, rfl, HO2.out, HB2.out⟩
set_option maxHeartbeats 4000000 in
theorem bpDec_calls (g : Nat) (A : Option Addr) (N c : Nat) (w V : Nat) (bs : List Int) (w0 : World) (hp : w0.cell? ⟨g, 0, none⟩ = some (.int .i64 (w : Int))) (hC : (Kd.int .u8).C w0 A N bs) (hc : N ≤ c) (hn : N ≤ 100001) (hn0 : 0 < N) (hw1 : 1 ≤ w) (hw8 : w ≤ 8) (hu : bytesB bs = true) (hV : V = 8 * N / w + if 8 * N % w = 0 then 0 else 1) :
    Calls Tryd.prog 41 #[.pointer (some ⟨g, 0, none⟩), .slice none 0 0, .slice A N c] w0 fun e w' => ∃ v, e = .returned (.tuple #[v, .nilIface]) ∧ Own w' w0.heap.size 5 .u8 v ((List.range V).map fun k => (valH bs w (k * w) : Int)) ∧ Below w0.heap.size w0 w' := by
  have HCALL := Aside0.mk (bpDecode_calls A N c w V bs w0.drew (Kd.C_drewN hC 1) hc hn hn0 hw1 hw8 hu hV)
  have HBD : Aside0 (Below w0.heap.size w0 w0.drew) := ⟨drewN_below w0 1⟩
  obtain ⟨i8, h8⟩ := h8
  obtain ⟨cutz, _⟩ := cutHi (P := Tryd.prog) 25 5 Tryd.underlying25 h8.1 none 0 0 .i64 0 0 rfl (by omega) (by omega)
  have hlt := World.block_lt_of_cell? w0 _ hp
  have hpd : w0.drew.cell? ⟨g, 0, none⟩ = some (.int .i64 (w : Int)) := hp
  have hltd : g < w0.drew.heap.size := hlt
  have qw : IntKind.u64.wrap (w : Int) = (w : Int) := IntWalk.u64_in _ (by omega)
  obtain ⟨L, hL⟩ : ∃ L, ((List.range V).map fun k => (valH bs w (k * w) : Int)) = L := ⟨_, rfl⟩
  rw [hL] at HCALL ⊢
  clear hC hu hL hV
  go_enter Tryd.func41, Tryd.ntmps41
  go_wp2_with (fail)
  go_region_held3 (fun (w9 : World) => w9.cell? ⟨g, 0, none⟩ = some (.int .i64 (w : Int)))
    (first | assumption | exact hpd | exact HP2.out)
    ((first
      | (go_at_call 60; (with_reducible refine HCALL.out.mono ?_); rintro e w2 ⟨v2, rfl, ho, hb⟩; have HO2 := Aside0.mk ho; have HP2 : Aside0 (w2.cell? ⟨g, 0, none⟩ = some (.int .i64 (w : Int))) := ⟨(hb.cell hltd).trans hpd⟩; have HB2 := Aside0.mk (HBD.out.trans (hb.mono HBD.out.size)); clear ho hb)
      | fail "no arm"))
  go_wp2_with (first
    | (go_at_call 61; (with_reducible refine (bpWrap_calls _ _).mono ?_); rintro e w3 ⟨rfl, rfl⟩))
  go_ret2
  exact ⟨v2, rfl, HO2.out, HB2.out⟩
set_option maxHeartbeats 4000000 in
theorem encodeLevelsBp_calls (A : Option Addr) (N c : Nat) (w : Nat) (bs : List Int) (w0 : World) (hC : (Kd.int .u8).C w0 A N bs) (hc : N ≤ c) (hn : N ≤ 100000) (hn0 : 0 < N) (hw1 : 1 ≤ w) (hw8 : w ≤ 8) (hu : fitL w bs) :
    Calls Tryd.prog 26 #[.string ⟨#[98, 105, 116, 112, 97, 99, 107, 101, 100]⟩, .int .i64 w, .slice A N c] w0 fun e w' => ∃ v, e = .returned (.tuple #[v, .bool true]) ∧ Own w' w0.heap.size 5 .u8 v (bytesH (upTo (bitsOf w bs) (N * w)) ((N * w + 7) / 8)) ∧ Below w0.heap.size w0 w' := by
  have HLN : Aside0 (bs.length = N) := ⟨hC.1⟩
  have HU := Aside0.mk hu
  have HV0 : True := trivial
  have HC2 : Aside0 ((Kd.int .u8).C ((w0.alloc (.cells #[.int .i64 (w : Int)] 69)).alloc (.cells #[] 5)) A N bs) := ⟨Kd.C_alloc (Kd.C_alloc hC _) _⟩
  have HP : Aside0 ((w0.alloc (.cells #[.int .i64 (w : Int)] 69)).cell? ⟨w0.heap.size, 0, none⟩ = some (.int .i64 (w : Int))) := ⟨(Blk.new w0 #[.int .i64 (w : Int)] 69).cell rfl⟩
  have HE : Aside0 (Own ((w0.alloc (.cells #[.int .i64 (w : Int)] 69)).alloc (.cells #[] 5)) (w0.heap.size + 1) 5 .u8 (.slice (some ⟨(w0.alloc (.cells #[.int .i64 (w : Int)] 69)).heap.size, 0, none⟩) 0 0) []) := ⟨Own.empty (w0.alloc (.cells #[.int .i64 (w : Int)] 69)) (w0.heap.size + 1) 5 .u8 (by simp)⟩
  have HEB : Aside0 (Below (w0.heap.size + 1) (w0.alloc (.cells #[.int .i64 (w : Int)] 69)) ((w0.alloc (.cells #[.int .i64 (w : Int)] 69)).alloc (.cells #[] 5))) := ⟨by
    have := (Below.refl (w0.alloc (.cells #[.int .i64 (w : Int)] 69)).heap.size (w0.alloc (.cells #[.int .i64 (w : Int)] 69))).alloc (Nat.le_refl _) (.cells #[] 5)
    rw [show (w0.alloc (.cells #[.int .i64 (w : Int)] 69)).heap.size = w0.heap.size + 1 by simp] at this
    exact this⟩
  have HB0 : Aside0 (Below w0.heap.size w0 (w0.alloc (.cells #[.int .i64 (w : Int)] 69))) := ⟨(Below.refl _ _).alloc (Nat.le_refl _) _⟩
  have es : (w0.alloc (.cells #[.int .i64 (w : Int)] 69)).heap.size = w0.heap.size + 1 := by simp
  rw [es] at HE
  have HES : Aside0 ((w0.alloc (.cells #[.int .i64 (w : Int)] 69)).heap.size = w0.heap.size + 1) := ⟨es⟩
  clear hC hu es
  go_enter Tryd.func26, Tryd.ntmps26
  go_wp2_with (first
    | (at_builtin; refine appendRead (w0 := w0.alloc (.cells #[.int .i64 (w : Int)] 69)) (w0.heap.size + 1) rfl (.tmp 29) (.tmp 30) 25 5 .u8 1 rfl Tryd.underlying25 infoU8 (by decide) _ [] A N c bs rfl rfl HE.out HEB.out ?hb HC2.out ?hl ?_; (case hb => have := HEB.out.size; rw [HES.out] at this; exact this); (case hl => simp; omega); intro v1 w1 ho hb hg; rw [List.nil_append] at ho; obtain ⟨A1, c1, rfl, hc1, hr1⟩ := ho.read; rw [HLN.out] at hc1 hr1; rw [HLN.out]; have HR1 := Aside0.mk hr1; have HP1 : Aside0 (w1.cell? ⟨w0.heap.size, 0, none⟩ = some (.int .i64 (w : Int))) := ⟨(hb.cell (by show w0.heap.size < w0.heap.size + 1; omega)).trans HP.out⟩; have HB1 : Aside0 (Below w0.heap.size w0 w1) := ⟨HB0.out.trans (hb.mono (by omega))⟩; clear ho hb hg hr1)
    | (go_at_call 43; (with_reducible refine (bpEnc_calls w0.heap.size A1 N c1 w bs w1 HP1.out HR1.out hc1 hn hn0 hw1 hw8 HU.out).mono ?_); rintro e w2 ⟨v2, rfl, ho, hb⟩; have HB2 := Aside0.mk (HB1.out.trans (hb.mono HB1.out.size)); have HO2 := Aside0.mk (Own.lower ho HB1.out.size); clear ho hb)
    | go_quiet (fail))
  go_ret2
  exact ⟨v2, rfl, HO2.out.drewN _, HB2.out.trans ((drewN_below _ _).mono HB2.out.size)⟩
set_option maxHeartbeats 4000000 in
theorem decodeLevelsBp_calls (A : Option Addr) (N c : Nat) (w V : Nat) (bs : List Int) (w0 : World) (hC : (Kd.int .u8).C w0 A N bs) (hc : N ≤ c) (hn : N ≤ 100001) (hn0 : 0 < N) (hw1 : 1 ≤ w) (hw8 : w ≤ 8) (hu : bytesB bs = true) (hV : V = 8 * N / w + if 8 * N % w = 0 then 0 else 1) :
    Calls Tryd.prog 21 #[.string ⟨#[98, 105, 116, 112, 97, 99, 107, 101, 100]⟩, .int .i64 w, .slice A N c] w0 fun e w' => ∃ v, e = .returned (.tuple #[v, .bool true]) ∧ Own w' w0.heap.size 5 .u8 v ((List.range V).map fun k => (valH bs w (k * w) : Int)) ∧ Below w0.heap.size w0 w' := by
  have HLN : Aside0 (bs.length = N) := ⟨hC.1⟩
  have HU := Aside0.mk hu
  have HV := Aside0.mk hV
  have HC2 : Aside0 ((Kd.int .u8).C ((w0.alloc (.cells #[.int .i64 (w : Int)] 69)).alloc (.cells #[] 5)) A N bs) := ⟨Kd.C_alloc (Kd.C_alloc hC _) _⟩
  have HP : Aside0 ((w0.alloc (.cells #[.int .i64 (w : Int)] 69)).cell? ⟨w0.heap.size, 0, none⟩ = some (.int .i64 (w : Int))) := ⟨(Blk.new w0 #[.int .i64 (w : Int)] 69).cell rfl⟩
  have HE : Aside0 (Own ((w0.alloc (.cells #[.int .i64 (w : Int)] 69)).alloc (.cells #[] 5)) (w0.heap.size + 1) 5 .u8 (.slice (some ⟨(w0.alloc (.cells #[.int .i64 (w : Int)] 69)).heap.size, 0, none⟩) 0 0) []) := ⟨Own.empty (w0.alloc (.cells #[.int .i64 (w : Int)] 69)) (w0.heap.size + 1) 5 .u8 (by simp)⟩
  have HEB : Aside0 (Below (w0.heap.size + 1) (w0.alloc (.cells #[.int .i64 (w : Int)] 69)) ((w0.alloc (.cells #[.int .i64 (w : Int)] 69)).alloc (.cells #[] 5))) := ⟨by
    have := (Below.refl (w0.alloc (.cells #[.int .i64 (w : Int)] 69)).heap.size (w0.alloc (.cells #[.int .i64 (w : Int)] 69))).alloc (Nat.le_refl _) (.cells #[] 5)
    rw [show (w0.alloc (.cells #[.int .i64 (w : Int)] 69)).heap.size = w0.heap.size + 1 by simp] at this
    exact this⟩
  have HB0 : Aside0 (Below w0.heap.size w0 (w0.alloc (.cells #[.int .i64 (w : Int)] 69))) := ⟨(Below.refl _ _).alloc (Nat.le_refl _) _⟩
  have es : (w0.alloc (.cells #[.int .i64 (w : Int)] 69)).heap.size = w0.heap.size + 1 := by simp
  rw [es] at HE
  have HES : Aside0 ((w0.alloc (.cells #[.int .i64 (w : Int)] 69)).heap.size = w0.heap.size + 1) := ⟨es⟩
  clear hC hu es hV
  go_enter Tryd.func21, Tryd.ntmps21
  go_wp2_with (first
    | (at_builtin; refine appendRead (w0 := w0.alloc (.cells #[.int .i64 (w : Int)] 69)) (w0.heap.size + 1) rfl (.tmp 29) (.tmp 30) 25 5 .u8 1 rfl Tryd.underlying25 infoU8 (by decide) _ [] A N c bs rfl rfl HE.out HEB.out ?hb HC2.out ?hl ?_; (case hb => have := HEB.out.size; rw [HES.out] at this; exact this); (case hl => simp; omega); intro v1 w1 ho hb hg; rw [List.nil_append] at ho; obtain ⟨A1, c1, rfl, hc1, hr1⟩ := ho.read; rw [HLN.out] at hc1 hr1; rw [HLN.out]; have HR1 := Aside0.mk hr1; have HP1 : Aside0 (w1.cell? ⟨w0.heap.size, 0, none⟩ = some (.int .i64 (w : Int))) := ⟨(hb.cell (by show w0.heap.size < w0.heap.size + 1; omega)).trans HP.out⟩; have HB1 : Aside0 (Below w0.heap.size w0 w1) := ⟨HB0.out.trans (hb.mono (by omega))⟩; clear ho hb hg hr1)
    | (go_at_call 41; (with_reducible refine (bpDec_calls w0.heap.size A1 N c1 w V bs w1 HP1.out HR1.out hc1 hn hn0 hw1 hw8 HU.out HV.out).mono ?_); rintro e w2 ⟨v2, rfl, ho, hb⟩; have HB2 := Aside0.mk (HB1.out.trans (hb.mono HB1.out.size)); have HO2 := Aside0.mk (Own.lower ho HB1.out.size); clear ho hb)
    | go_quiet (fail))
  go_ret2
  exact ⟨v2, rfl, HO2.out.drewN _, HB2.out.trans ((drewN_below _ _).mono HB2.out.size)⟩
theorem bytesH_bytes (f : Nat → Bool) (n : Nat) : bytesB (bytesH f n) = true := by
  apply bytesB_of
  intro x hx
  simp only [bytesH, List.mem_map] at hx
  obtain ⟨i, _, rfl⟩ := hx
  have := byteH_lt f i
  exact ⟨by omega, by omega⟩
theorem packed_back (w n N V : Nat) (l : List Int) (hl : l.length = n) (hw : 0 < w) (hN : n * w ≤ 8 * N) (hV : n ≤ V) (hu : fitL w l) :
    ((List.range V).map fun k => (valH (bytesH (upTo (bitsOf w l) (n * w)) N) w (k * w) : Int)).take n = l := by
  apply List.ext_getElem
  · simp; omega
  · intro j h1 h2
    have hj : j < n := by omega
    have hx := hu _ (List.getElem_mem h2)
    obtain ⟨y, hy⟩ : ∃ y : Nat, l[j] = (y : Int) := ⟨(l[j]).toNat, by omega⟩
    rw [hy] at hx ⊢
    have hyw : y < 2 ^ w := by have := hx.2; exact_mod_cast this
    have hyr : rd l (j : Nat) = (y : Int) := by rw [rd_nat _ _ h2]; exact hy
    simp only [List.getElem_take, List.getElem_map, List.getElem_range]
    have hjw : j * w + w ≤ n * w := by rw [← Nat.succ_mul]; exact Nat.mul_le_mul_right w hj
    congr 1
    symm
    refine eq_bitsN hyw fun r hr => ?_
    rw [bitH_bytesH _ _ _ (by omega)]
    unfold upTo
    rw [decide_eq_true (by omega), Bool.true_and, show j * w + w - 1 - r = j * w + (w - 1 - r) by omega, bitsOf_at w l j (j * w) y hw rfl hyr (w - 1 - r) (by omega)]
    congr 1; omega
set_option maxHeartbeats 8000000 in
set_option maxRecDepth 100000 in
theorem levelsPackedLaw (x : Int) (a1 : Option Addr) (len1 cap1 : Nat) (z1 : List Int) (W : World) (hx : (Lit.int .i64 x).wf = true) (w1 : IsRow .u8 W a1 len1 cap1 z1) (y1 : len1 * 1 ≤ 140737488351232) :
    Calls Tryd.prog 6 #[.int .i64 x, .slice a1 len1 cap1] W fun e w' => e = .returned (.bool true) ∧ Below W.heap.size W w' := by
  obtain ⟨l, hlen, hc, hC, hwf⟩ := isRow_open w1
  have HLN := Aside0.mk hlen
  have HC := Aside0.mk hC
  have HWF := Aside0.mk hwf
  clear w1 hC hwf hlen
  by_cases h1 : 2147483647 < len1
  · have q1 : decide (2147483647 < (len1 : Int)) = true := decide_eq_true (by omega)
    go_enter Tryd.func6, Tryd.ntmps6
    go_wp2
    go_ret
    exact ⟨rfl, Below.refl _ _⟩
  have q1 : decide (2147483647 < (len1 : Int)) = false := decide_eq_false (by omega)
  obtain ⟨hs1, hs2⟩ := widthI_bd x 8 (by omega)
  obtain ⟨w, hw⟩ : ∃ w : Nat, widthI x 8 = (w : Int) := ⟨(widthI x 8).toNat, by omega⟩
  rw [hw] at hs1 hs2
  have HSX := Aside0.mk hw
  have hw1 : 1 ≤ w := by omega
  have hw8 : w ≤ 8 := by omega
  clear hs1 hs2 hw
  have HEW : Aside0 (∀ w0 : World, Calls Tryd.prog 20 #[.int .i64 x, .int .i64 8] w0 fun e w' => e = .returned (.int .i64 (w : Int)) ∧ w0 = w') := ⟨fun w0 => by have := enWidth_calls x 8 (by omega) (by omega) w0; rw [HSX.out] at this; exact this⟩
  by_cases h0 : len1 = 0
  · have q0 : ((len1 : Int) == 0) = true := by rw [h0]; rfl
    go_enter Tryd.func6, Tryd.ntmps6
    go_wp2_with (first
      | (go_at_call 20; (with_reducible refine (HEW.out _).mono ?_); rintro e w0 ⟨rfl, rfl⟩))
    go_ret
    exact ⟨rfl, Below.refl _ _⟩
  have q0 : ((len1 : Int) == 0) = false := by rw [beq_eq_false_iff_ne]; omega
  have HWI := Aside0.mk (wide_byte_calls a1 len1 cap1 l W HC.out hc (by omega) HWF.out)
  rw [wide64_bytes HWF.out] at HWI
  have HU64 : Aside0 (u64L l) := ⟨fun x hx => by have := HWF.out x hx; simp [Lit.wf, IntKind.min, IntKind.max, IntKind.signed, IntKind.bits] at this; unfold u64B; omega⟩
  by_cases hf : fitL w l ∧ l.length ≤ 100000
  · have HFB : Aside0 (fitB w l = true) := ⟨decide_eq_true hf⟩
    have HFL := Aside0.mk hf.1
    have hn9 : len1 ≤ 100000 := by have := hf.2; rw [HLN.out] at this; exact this
    clear hf
    obtain ⟨M, hM⟩ : ∃ M, len1 * w = M := ⟨_, rfl⟩
    have hMi : (len1 : Int) * (w : Int) = (M : Int) := by rw [← hM]; push_cast; rfl
    have hMb : M ≤ 800000 := by
      rw [← hM]
      exact Nat.le_trans (Nat.mul_le_mul hn9 hw8) (by omega)
    have hM0 : 0 < M := by rw [← hM]; exact Nat.mul_pos (by omega) (by omega)
    obtain ⟨N, hN⟩ : ∃ N, (M + 7) / 8 = N := ⟨_, rfl⟩
    have hNi2 : ((M : Int) + 7) / 8 = (N : Int) := by rw [← hN]; omega
    have hN0 : 0 < N := by omega
    have hNb : N ≤ 100001 := by omega
    obtain ⟨V, hV⟩ : ∃ V, V = 8 * N / w + if 8 * N % w = 0 then 0 else 1 := ⟨_, rfl⟩
    have hVn : len1 ≤ V := by
      have h1 : len1 ≤ 8 * N / w := by
        rw [Nat.le_div_iff_mul_le (by omega), hM]; omega
      omega
    have HV := Aside0.mk hV
    obtain ⟨X, hX⟩ : ∃ X, bytesH (upTo (bitsOf w l) (len1 * w)) ((len1 * w + 7) / 8) = X := ⟨_, rfl⟩
    have HXL : Aside0 (X.length = N) := ⟨by rw [← hX, bytesH_length, hM, hN]⟩
    have HXB : Aside0 (bytesB X = true) := ⟨by rw [← hX]; exact bytesH_bytes _ _⟩
    have HXV : Aside0 (((List.range V).map fun k => (valH X w (k * w) : Int)).take len1 = l) := ⟨by rw [← hX, hM, hN, ← hM]; exact packed_back w len1 N V l HLN.out (by omega) (by rw [hM]; omega) hVn HFL.out⟩
    obtain ⟨Y, hY⟩ : ∃ Y, ((List.range V).map fun k => (valH X w (k * w) : Int)) = Y := ⟨_, rfl⟩
    have HYL : Aside0 (Y.length = V) := ⟨by rw [← hY]; simp⟩
    rw [hY] at HXV
    have HENC : Aside0 (∀ w2, Below W.heap.size W w2 → Calls Tryd.prog 26 #[.string ⟨#[98, 105, 116, 112, 97, 99, 107, 101, 100]⟩, .int .i64 w, .slice a1 len1 cap1] w2 fun e w' => ∃ v, e = .returned (.tuple #[v, .bool true]) ∧ Own w' w2.heap.size 5 .u8 v X ∧ Below w2.heap.size w2 w') := ⟨fun w2 hb => by
      have := encodeLevelsBp_calls a1 len1 cap1 w l w2 (Kd.C_below HC.out hb) hc hn9 (by omega) hw1 hw8 HFL.out
      rw [hX] at this
      exact this⟩
    have HDEC : Aside0 (∀ (A : Option Addr) (c : Nat) (w3 : World), (Kd.int .u8).C w3 A N X → N ≤ c → Calls Tryd.prog 21 #[.string ⟨#[98, 105, 116, 112, 97, 99, 107, 101, 100]⟩, .int .i64 w, .slice A N c] w3 fun e w' => ∃ v, e = .returned (.tuple #[v, .bool true]) ∧ Own w' w3.heap.size 5 .u8 v Y ∧ Below w3.heap.size w3 w') := ⟨fun A c w3 h3 hc3 => by
      have := decodeLevelsBp_calls A N c w V X w3 h3 hc3 hNb hN0 hw1 hw8 HXB.out HV.out
      rw [hY] at this
      exact this⟩
    obtain ⟨i8, h8⟩ := h8
    have HC8 := Aside0.mk fun (A : Option Addr) (c : Nat) (hcc : V ≤ c) => cutHi (P := Tryd.prog) 25 5 Tryd.underlying25 h8.1 A V c .i64 (len1 : Int) len1 rfl (by omega) hcc
    have qv : decide ((len1 : Int) ≤ (V : Int)) = true := decide_eq_true (by omega)
    have qv2 : decide (len1 ≤ V) = true := decide_eq_true hVn
    have qv3 : (len1 ≤ V) = True := eq_true hVn
    clear hM hN hV hX hY
    go_enter Tryd.func6, Tryd.ntmps6
    go_wp2_with (first
      | (go_at_call 20; (with_reducible refine (HEW.out _).mono ?_); rintro e w0 ⟨rfl, rfl⟩)
      | (go_at_call 25; (with_reducible refine HWI.out.mono ?_); rintro e w1 ⟨v1, rfl, ho, hb⟩; obtain ⟨A1, c1, rfl, hc1, hr1⟩ := ho.read; rw [HLN.out] at hc1 hr1; rw [HLN.out]; have HR1 := Aside0.mk hr1; have HB1 := Aside0.mk hb; clear ho hb hr1)
      | (go_at_call 24; (with_reducible refine (allFit_calls w A1 len1 c1 l w1 HR1.out hc1 (by omega) (by omega) HU64.out).mono ?_); rintro e w2 ⟨he, rfl⟩; rw [HFB.out] at he; subst he)
      | (go_at_call 26; (with_reducible refine (HENC.out w1 HB1.out).mono ?_); rintro e w3 ⟨v3, rfl, ho, hb⟩; obtain ⟨A3, c3, rfl, hc3, hr3⟩ := ho.read; rw [HXL.out] at hc3 hr3; rw [HXL.out]; have HR3 := Aside0.mk hr3; have HB3 := Aside0.mk (HB1.out.trans (hb.mono HB1.out.size)); clear ho hb hr3)
      | (go_at_call 21; (with_reducible refine (HDEC.out A3 c3 w3 HR3.out hc3).mono ?_); rintro e w4 ⟨v4, rfl, ho, hb⟩; obtain ⟨A4, c4, rfl, hc4, hr4⟩ := ho.read; rw [HYL.out] at hc4 hr4; rw [HYL.out]; obtain ⟨cut4, hC4⟩ := HC8.out A4 c4 hc4; have HR4 : Aside0 ((Kd.int .u8).C w4 A4 len1 l) := ⟨by have := hC4 (Kd.int .u8) w4 Y hr4; rw [HXV.out] at this; exact this⟩; have HB4 := Aside0.mk (HB3.out.trans (hb.mono HB3.out.size)); clear ho hb hr4 hC4)
      | (go_at_call 28; (with_reducible refine (same_calls A4 a1 len1 c4 cap1 l w4 HR4.out (Kd.C_below HC.out HB4.out)).mono ?_); rintro e w5 ⟨rfl, ⟨nd, rfl⟩⟩; have HB5 := Aside0.mk (HB4.out.trans ((drewN_below w4 nd).mono HB4.out.size))))
    go_ret
    exact ⟨rfl, HB5.out⟩
  · have HFB : Aside0 (fitB w l = false) := ⟨decide_eq_false hf⟩
    clear hf
    go_enter Tryd.func6, Tryd.ntmps6
    go_wp2_with (first
      | (go_at_call 20; (with_reducible refine (HEW.out _).mono ?_); rintro e w0 ⟨rfl, rfl⟩)
      | (go_at_call 25; (with_reducible refine HWI.out.mono ?_); rintro e w1 ⟨v1, rfl, ho, hb⟩; obtain ⟨A1, c1, rfl, hc1, hr1⟩ := ho.read; rw [HLN.out] at hc1 hr1; rw [HLN.out]; have HR1 := Aside0.mk hr1; have HB1 := Aside0.mk hb; clear ho hb hr1)
      | (go_at_call 24; (with_reducible refine (allFit_calls w A1 len1 c1 l w1 HR1.out hc1 (by omega) (by omega) HU64.out).mono ?_); rintro e w2 ⟨he, rfl⟩; rw [HFB.out] at he; subst he))
    go_ret
    exact ⟨rfl, HB1.out⟩
end Go.Proofs.YtoopljlbiifmfaaDoor.Lbp
