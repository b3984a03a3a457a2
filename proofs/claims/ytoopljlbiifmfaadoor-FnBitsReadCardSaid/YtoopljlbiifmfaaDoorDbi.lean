import Derived.Test.YtoopljlbiifmfaaDoorDec
/-! Truth values in runs: the decoder. -/
namespace Go.Proofs.YtoopljlbiifmfaaDoor.Dbi
open Go.Proofs.YtoopljlbiifmfaaDoor.Dec Go.Proofs.YtoopljlbiifmfaaDoor.Uva Go.Proofs.YtoopljlbiifmfaaDoor.Rle Go.Proofs.YtoopljlbiifmfaaDoor.Run Go.Proofs.YtoopljlbiifmfaaDoor.Rlp Go.Proofs.YtoopljlbiifmfaaDoor.Rlb Go.Proofs.YtoopljlbiifmfaaDoor.Buf Go.Proofs.YtoopljlbiifmfaaDoor.Fit Go.Proofs.YtoopljlbiifmfaaDoor.Bit Go.Proofs.YtoopljlbiifmfaaDoor.Wrd Go.Proofs.YtoopljlbiifmfaaDoor.Spl Go.Proofs.YtoopljlbiifmfaaDoor.Str Go.Proofs.YtoopljlbiifmfaaDoor.Flt Go.Proofs.YtoopljlbiifmfaaDoor.Owe Go.Proofs.YtoopljlbiifmfaaDoor.Num Go.Proofs.YtoopljlbiifmfaaDoor.Le Go.Proofs.YtoopljlbiifmfaaDoor.Lst Go.Proofs.YtoopljlbiifmfaaDoor.Aid Go.RowKit Go.Proofs.YtoopljlbiifmfaaDoorW.PrintWords Go.Proofs.YtoopljlbiifmfaaDoorW.PrintLast Go.Proofs.YtoopljlbiifmfaaDoorW.PrintMore
set_option linter.unusedVariables false
set_option linter.unusedSimpArgs false
/-- the bytes that a run of single bits is read as -/
def dB : R → List Int
  | .rep v k => List.replicate ((k + 7) / 8) (v : Int)
  | .grp l => packLo 1 l
def dBs (rs : List R) : List Int := rs.flatMap dB
theorem dBs_snoc (rs : List R) (r : R) : dBs (rs ++ [r]) = dBs rs ++ dB r := by simp [dBs]
theorem dB_len (r : R) : (dB r).length ≤ r.vals.length := by
  cases r with
  | rep v k => simp [dB, R.vals]; omega
  | grp l =>
    simp only [dB, R.vals]
    unfold packLo; rw [bytesLo_length]; omega
theorem dBs_len (rs : List R) : (dBs rs).length ≤ (hybV rs).length := by
  induction rs with
  | nil => simp [dBs, hybV]
  | cons r rs ih =>
    have e1 : dBs (r :: rs) = dB r ++ dBs rs := rfl
    have e2 : hybV (r :: rs) = r.vals ++ hybV rs := rfl
    rw [e1, e2, List.length_append, List.length_append]
    have := dB_len r
    omega
set_option maxHeartbeats 16000000 in
set_option maxRecDepth 100000 in
theorem decodeBits_calls (A : Option Addr) (N c : Nat) (bs : List Int) (rs : List R) (w : World) (hC : (Kd.int .u8).C w A N bs) (hb : bs = hyb 1 rs) (hc : N ≤ c) (hn : N ≤ 1000000) (hok : hybOk 1 rs) (hV : (hybV rs).length ≤ 1000000) :
    Calls Tryd.prog 57 #[.slice none 0 0, .slice A N c] w fun e w' => ∃ v, e = .returned (.tuple #[v, .nilIface]) ∧ Own w' w.heap.size 5 .u8 v (dBs rs) ∧ Below w.heap.size w w' := by
  have HLN : Aside0 (bs.length = N) := ⟨hC.1⟩
  have HC := Aside0.mk hC
  have HBB := Aside0.mk hb
  have HOK := Aside0.mk hok
  have HVL := Aside0.mk hV
  obtain ⟨i8, h8⟩ := h8
  have HO0 : Aside0 (Own w w.heap.size 5 .u8 (.slice none 0 0) (dBs [])) := ⟨Own.nil _ _ _ _⟩
  have HB0 : Aside0 (Below w.heap.size w w) := ⟨Below.refl _ _⟩
  clear hC hb hok hV
  go_enter Tryd.func57, Tryd.ntmps57
  go_wp2_with (fail)
  go_loopg [0, 6] rs.length (fun kq v0 v6 w' => ∃ (ra rb : List R) (i : Nat), Aside0 (rs = ra ++ rb) ∧ v6 = .int .i64 i ∧ Aside0 ((hyb 1 ra).length = i) ∧ Aside0 (Own w' w.heap.size 5 .u8 v0 (dBs ra)) ∧ Aside0 (Below w.heap.size w w') ∧ Aside0 (rb.length ≤ kq))
  case atStart => exact ⟨[], rs, 0, ⟨rfl⟩, rfl, ⟨rfl⟩, HO0, HB0, ⟨Nat.le_refl _⟩⟩
  case round =>
    clear HO0 HB0
    obtain ⟨ra, rb, i, HR, rfl, HI, HO, HB, HK⟩ := hrel
    have hvl : (hybV ra).length + (hybV rb).length ≤ 1000000 := by
      have h := HVL.out
      rw [HR.out, hybV_app, List.length_append] at h; exact h
    cases rb with
    | nil =>
      have hiN : i = N := by
        have h := HLN.out
        rw [HBB.out, HR.out, List.append_nil, HI.out] at h; exact h
      subst hiN
      have cib : decide ((i : Int) < i) = false := decide_eq_false (by omega)
      go_wp2_with (fail)
      go_ret2
      refine ⟨_, rfl, ?_, HB.out⟩
      rw [HR.out, List.append_nil]; exact HO.out
    | cons r rb =>
      have hdr : bs.drop i = r.bytes 1 ++ hyb 1 rb := by
        rw [HBB.out, HR.out, hyb_app, List.drop_left' HI.out]; rfl
      have hrok : r.ok 1 := HOK.out r (by rw [HR.out]; simp)
      have hlen : i + ((r.bytes 1).length + (hyb 1 rb).length) = N := by
        have h := HLN.out
        rw [HBB.out, HR.out, hyb_app, List.length_append, HI.out] at h
        have h2 : hyb 1 (r :: rb) = r.bytes 1 ++ hyb 1 rb := rfl
        rw [h2, List.length_append] at h; exact h
      have hvc : (hybV (r :: rb)).length = r.vals.length + (hybV rb).length := by
        have h2 : hybV (r :: rb) = r.vals ++ hybV rb := rfl
        rw [h2, List.length_append]
      rw [hvc] at hvl
      have hdl := dBs_len ra
      have HRS2 : Aside0 (rs = ra ++ [r] ++ rb) := ⟨by rw [HR.out]; simp⟩
      have hCr := Kd.C_below HC.out HB.out
      obtain ⟨A1, cut1, hC1⟩ := cutLo (P := Tryd.prog) 25 5 Tryd.underlying25 h8.1 h8.2 A N c .i64 (i : Int) i rfl (by omega) hc
      have hCd := hC1 (Kd.int .u8) wr bs rfl hCr
      obtain ⟨A0, c0, rfl, hc0, _⟩ := HO.out.read
      obtain ⟨n0, hn0⟩ : ∃ n0, (dBs ra).length = n0 := ⟨_, rfl⟩
      have HN0 := Aside0.mk hn0
      have HKr := Aside0.mk (show rb.length + 1 ≤ gk from HK.out)
      cases r with
      | rep v k =>
        obtain ⟨hk0, hvb⟩ := hrok
        have hby : (R.rep v k).bytes 1 = varL (2 * k) ++ [(v : Int)] := by
          simp only [R.bytes]
          congr 1
          simp [lowL]; omega
        have hvk : (R.rep v k).vals.length = k := by simp [R.vals]
        rw [hvk] at hvl
        rw [hby, List.append_assoc] at hdr
        rw [hby, List.length_append, List.length_singleton] at hlen
        obtain ⟨x, hx⟩ : ∃ x, 2 * k = x := ⟨_, rfl⟩
        rw [hx] at hdr hlen
        have HUV := Aside0.mk (uvarint_calls A1 (N - i) (c - i) (bs.drop i) ([(v : Int)] ++ hyb 1 rb) x wr hCd (by omega) (by omega) hdr (by omega))
        have hL5 := varL_len5 x (by omega)
        have hL0 := varL_pos x
        obtain ⟨L, hL⟩ : ∃ L, (varL x).length = L := ⟨_, rfl⟩
        have hat : rd bs (i + L : Nat) = (v : Int) := by
          rw [← rd_drop, hdr, rd_append, if_neg (by omega), hL, Nat.sub_self]; rfl
        rw [hL] at HUV hL5 hL0 hlen
        obtain ⟨J, hJ⟩ : ∃ J, i + L = J := ⟨_, rfl⟩
        have hJI : (i : Int) + (L : Int) = (J : Int) := by omega
        rw [hJ] at hat
        obtain ⟨ad, ead, hcell⟩ := Kd.at_int hCr (J : Int) (by omega) (by omega)
        rw [Int.toNat_natCast, hat] at hcell
        have qi : decide ((i : Int) < (N : Int)) = true := decide_eq_true (by omega)
        have qL0 : ((L : Int) == 0) = false := by rw [beq_eq_false_iff_ne]; omega
        have qLn : decide ((L : Int) < 0) = false := decide_eq_false (by omega)
        have hx2 : (x : Int) / 2 = (k : Int) := by omega
        have hxm : (x : Int) % 2 = 0 := by omega
        have qand : bits .and .u64 (x : Int) 1 = 0 := by
          rw [show (1 : Int) = ((2 ^ 1 - 1 : Nat) : Int) by decide, and64 x 1 (by omega) (by omega)]; omega
        have qk0 : ((k : Int) == 0) = false := by rw [beq_eq_false_iff_ne]; omega
        have qk9 : decide (2147483647 < (k : Int)) = false := decide_eq_false (by omega)
        have qk92 : decide (2147483647 < k) = false := decide_eq_false (by omega)
        have qJN : decide ((J : Int) < (N : Int)) = true := decide_eq_true (by omega)
        have qJN2 : decide (J < N) = true := decide_eq_true (by omega)
        have HBC := Aside0.mk fun W => byteCount_calls k W (by omega)
        obtain ⟨q, hq⟩ : ∃ q, (k + 7) / 8 = q := ⟨_, rfl⟩
        rw [hq] at HBC
        obtain ⟨S, hS⟩ : ∃ S, n0 + q = S := ⟨_, rfl⟩
        have hSI : (n0 : Int) + (q : Int) = (S : Int) := by omega
        have hS9 : S ≤ 4000000 := by omega
        have hq1 : 1 ≤ q := by omega
        have HRS := Aside0.mk (resize_calls w.heap.size _ (dBs ra) S wr HO.out HB.out.size (by omega) (by omega) (by omega))
        rw [hn0] at HRS hc0
        have HFL : Aside0 (∀ (W : World) (g M : Nat), Front W g M 5 .u8 (dBs ra) → S ≤ M → Calls Tryd.prog 84 #[.slice (some ⟨g, n0, none⟩) (S - n0) (M - n0), .int .u8 v] W fun e w' => e = .returned (.tuple #[]) ∧ Front w' g M 5 .u8 (dBs ra ++ List.replicate q (v : Int)) ∧ W.grownBy w' (some g)) := ⟨fun W g M hf hM => by
          have := fill_calls g M 5 (S - n0) (M - n0) (dBs ra) v W hf (by omega) (by omega)
          rw [hn0, show S - n0 = q by omega] at this
          rw [show S - n0 = q by omega]
          exact this⟩
        have HX := Aside0.mk hx
        have HHD := Aside0.mk hby
        have HLL := Aside0.mk hL
        have HQQ := Aside0.mk hq
        rw [hn0] at hdl ⊢
        clear hdr hCr hC1 hCd hn0 hat hx hL hby hvk hq
        subst ead
        go_wp2_with (first
          | (go_at_call 80; go_loud (with_reducible refine HUV.out.mono ?_); rintro e w1 ⟨rfl, rfl⟩)
          | (go_at_call 82; go_loud (with_reducible refine (HBC.out _).mono ?_); rintro e w1 ⟨rfl, rfl⟩)
          | (go_at_call 83; go_loud (with_reducible refine HRS.out.mono ?_); rintro e w2 ⟨g, M, rfl, hf, h1, h2, h3, h4, hb2⟩; have HF2 := Aside0.mk hf; have HB2 := Aside0.mk hb2; have cut2 := cutFrom0 (P := Tryd.prog) 25 5 Tryd.underlying25 h8.1 h8.2 g S M n0 (by omega) h1 (by omega); clear hf hb2)
          | (go_at_call 84; go_loud (with_reducible refine (HFL.out _ g M HF2.out h1).mono ?_); rintro e w3 ⟨rfl, hf, hg⟩; have HF3 := Aside0.mk hf; have HG3 := Aside0.mk hg; clear hf hg))
        go_roundg (gk - 1)
        case measure => have := HKr.out; omega
        case rel =>
          refine ⟨ra ++ [R.rep v k], rb, J + 1, HRS2, by go_num, ⟨by rw [hyb_snoc, HHD.out, List.length_append, HI.out, List.length_append, HX.out, HLL.out]; simp; omega⟩, ⟨?_⟩, ⟨?_⟩, ⟨by have := HKr.out; omega⟩⟩
          · rw [dBs_snoc]
            have h := HF3.out.toOwn (base := w.heap.size) h3 h2
            rw [List.length_append, HN0.out, List.length_replicate, hS] at h
            show Own _ _ _ _ _ (_ ++ List.replicate ((k + 7) / 8) (v : Int))
            rw [HQQ.out]
            exact h
          · exact (HB.out.trans (HB2.out.mono HB.out.size)).grown HG3.out (by have := HB.out.size; have := HB2.out.size; omega) (fun j hj => by injection hj with hj; omega)
      | grp l =>
        obtain ⟨hl0, hl8, hlf⟩ := hrok
        obtain ⟨K, hK⟩ : ∃ K, l.length / 8 = K := ⟨_, rfl⟩
        have hlK : l.length = 8 * K := by omega
        have hpl : (packLo 1 l).length = K := by
          unfold packLo; rw [bytesLo_length, hlK, Nat.mul_one]; omega
        have hby : (R.grp l).bytes 1 = varL (2 * K + 1) ++ packLo 1 l := by
          simp only [R.bytes, hK]
        have hvk : (R.grp l).vals.length = 8 * K := hlK
        rw [hvk] at hvl
        rw [hby, List.append_assoc] at hdr
        rw [hby, List.length_append, hpl] at hlen
        obtain ⟨x, hx⟩ : ∃ x, 2 * K + 1 = x := ⟨_, rfl⟩
        rw [hx] at hdr hlen
        have HUV := Aside0.mk (uvarint_calls A1 (N - i) (c - i) (bs.drop i) (packLo 1 l ++ hyb 1 rb) x wr hCd (by omega) (by omega) hdr (by omega))
        have hL5 := varL_len5 x (by omega)
        have hL0 := varL_pos x
        obtain ⟨L, hL⟩ : ∃ L, (varL x).length = L := ⟨_, rfl⟩
        rw [hL] at HUV hL5 hL0 hlen
        obtain ⟨J, hJ⟩ : ∃ J, i + L = J := ⟨_, rfl⟩
        have hJI : (i : Int) + (L : Int) = (J : Int) := by omega
        obtain ⟨Y, hY⟩ : ∃ Y, J + K = Y := ⟨_, rfl⟩
        have hYI : (J : Int) + (K : Int) = (Y : Int) := by omega
        obtain ⟨A2, cut2, hC2⟩ := cutMid (P := Tryd.prog) 25 5 Tryd.underlying25 h8.1 h8.2 A N c .i64 .i64 (J : Int) (Y : Int) J Y rfl rfl (by omega) (by omega) hc
        rw [show Y - J = K by omega] at cut2 hC2
        have hmid : (bs.take Y).drop J = packLo 1 l := by
          rw [List.drop_take, show Y - J = K by omega, ← hJ, ← List.drop_drop, hdr, List.drop_left' hL, List.take_left' hpl]
        have hCm := hC2 (Kd.int .u8) wr bs rfl hCr
        rw [hmid] at hCm
        have HCM := Aside0.mk hCm
        have qi : decide ((i : Int) < (N : Int)) = true := decide_eq_true (by omega)
        have qL0 : ((L : Int) == 0) = false := by rw [beq_eq_false_iff_ne]; omega
        have qLn : decide ((L : Int) < 0) = false := decide_eq_false (by omega)
        have hx2 : (x : Int) / 2 = (K : Int) := by omega
        have hxm : (x : Int) % 2 = 1 := by omega
        have qand : bits .and .u64 (x : Int) 1 = 1 := by
          rw [show (1 : Int) = ((2 ^ 1 - 1 : Nat) : Int) by decide, and64 x 1 (by omega) (by omega)]; omega
        have qk0 : ((K : Int) == 0) = false := by rw [beq_eq_false_iff_ne]; omega
        have qk9 : decide (2147483647 < (K : Int)) = false := decide_eq_false (by omega)
        have qk92 : decide (2147483647 < K) = false := decide_eq_false (by omega)
        have qJN : decide ((N : Int) < (Y : Int)) = false := decide_eq_false (by omega)
        have qJN2 : decide (N < Y) = false := decide_eq_false (by omega)
        have hKw : IntKind.i64.wrap (K : Int) = (K : Int) := IntWalk.i64_in _ (by omega)
        have HX := Aside0.mk hx
        have HHD := Aside0.mk hby
        have HLL := Aside0.mk hL
        have HPL := Aside0.mk hpl
        rw [hn0] at hc0 hdl ⊢
        clear hdr hCr hC1 hCd hn0 hx hL hby hvk hmid hCm hC2 hpl
        go_wp2_with (first
          | (go_at_call 80; go_loud (with_reducible refine HUV.out.mono ?_); rintro e w1 ⟨rfl, rfl⟩)
          | (at_builtin; go_loud (refine appendRead (w0 := w) w.heap.size rfl (.tmp 61) (.tmp 65) 25 5 .u8 1 rfl Tryd.underlying25 infoU8 (by decide) (.slice A0 n0 c0) (dBs ra) A2 K (c - J) (packLo 1 l) rfl rfl ?ho HB.out ?hb HCM.out ?hl ?_); (case ho => have h := HO.out; rw [HN0.out] at h; exact h); (case hb => exact HB.out.size); go_loud ((case hl => rw [HN0.out]; omega)); intro v1 w1 ho hb hg; have HO1 := Aside0.mk ho; have HB1 := Aside0.mk hb; clear ho hb hg))
        go_roundg (gk - 1)
        case measure => have := HKr.out; omega
        case rel =>
          refine ⟨ra ++ [R.grp l], rb, Y, HRS2, by go_num, ⟨by rw [hyb_snoc, HHD.out, List.length_append, HI.out, List.length_append, HX.out, HLL.out, HPL.out]; omega⟩, ⟨?_⟩, HB1, ⟨by have := HKr.out; omega⟩⟩
          rw [dBs_snoc]; exact HO1.out
end Go.Proofs.YtoopljlbiifmfaaDoor.Dbi
