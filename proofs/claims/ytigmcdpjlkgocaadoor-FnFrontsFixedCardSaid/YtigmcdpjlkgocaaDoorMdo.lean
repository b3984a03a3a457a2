import Derived.Test.YtigmcdpjlkgocaaDoorDfp
/-! Texts with shared fronts: the decoder. -/
namespace Go.Proofs.YtigmcdpjlkgocaaDoor.Dfd
open Go.Proofs.YtigmcdpjlkgocaaDoor.Dfp Go.Proofs.YtigmcdpjlkgocaaDoor.Dls Go.Proofs.YtigmcdpjlkgocaaDoor.Dlp Go.Proofs.YtigmcdpjlkgocaaDoor.Dre Go.Proofs.YtigmcdpjlkgocaaDoor.Dle Go.Proofs.YtigmcdpjlkgocaaDoor.Dib Go.Proofs.YtigmcdpjlkgocaaDoor.Dew Go.Proofs.YtigmcdpjlkgocaaDoor.Dtx Go.Proofs.YtigmcdpjlkgocaaDoor.Dct Go.Proofs.YtigmcdpjlkgocaaDoor.Dst Go.Proofs.YtigmcdpjlkgocaaDoor.Deo Go.Proofs.YtigmcdpjlkgocaaDoor.Den Go.Proofs.YtigmcdpjlkgocaaDoor.Deb Go.Proofs.YtigmcdpjlkgocaaDoor.Dds Go.Proofs.YtigmcdpjlkgocaaDoor.Dpu Go.Proofs.YtigmcdpjlkgocaaDoor.Pak Go.Proofs.YtigmcdpjlkgocaaDoor.Buf Go.Proofs.YtigmcdpjlkgocaaDoor.Fit Go.Proofs.YtigmcdpjlkgocaaDoor.Bit Go.Proofs.YtigmcdpjlkgocaaDoor.Wrd Go.Proofs.YtigmcdpjlkgocaaDoor.Spl Go.Proofs.YtigmcdpjlkgocaaDoor.Str Go.Proofs.YtigmcdpjlkgocaaDoor.Flt Go.Proofs.YtigmcdpjlkgocaaDoor.Owe Go.Proofs.YtigmcdpjlkgocaaDoor.Num Go.Proofs.YtigmcdpjlkgocaaDoor.Le Go.Proofs.YtigmcdpjlkgocaaDoor.Lst Go.Proofs.YtigmcdpjlkgocaaDoor.Aid Go.RowKit Go.Proofs.YtigmcdpjlkgocaaDoorW.PrintWords Go.Proofs.YtigmcdpjlkgocaaDoorW.PrintLast Go.Proofs.YtigmcdpjlkgocaaDoorW.PrintMore
set_option linter.unusedVariables false
set_option linter.unusedSimpArgs false
/-- the last text lies in what has been joined -/
def LastIn (base : Nat) (v0 : Value) (xs : List Int) (A : Option Addr) (n : Nat) (l : List Int) : Prop := ∀ W : World, Own W base 5 .u8 v0 xs → (Kd.int .u8).C W A n l
theorem infoU32f : (Tryd.prog.info? 84).map (fun i => (i.zero, i.size, i.bytes)) = some (some (.int .u32 0), 1, 4) := by kernel_rfl
theorem tneU : (5 : Nat) ≠ 84 := by decide
set_option maxHeartbeats 16000000 in
set_option maxRecDepth 100000 in
theorem decBA_calls (A : Option Addr) (M c : Nat) (Pa : Option Addr) (pc : Nat) (Sa : Option Addr) (sc n : Nat) (ls : List (List Int)) (ns : List Nat) (w : World) (hC : (Kd.int .u8).C w A M (joinL (tailsL ls ns))) (hc : M ≤ c)
    (hP : (Kd.int .i32).C w Pa n (intsL ns)) (hpc : n ≤ pc) (hS : (Kd.int .i32).C w Sa n (lenL (tailsL ls ns))) (hsc : n ≤ sc) (hn : ls.length = n) (hn9 : n ≤ 100000) (hs : sumLen ls ≤ 100000) (hF : FrOk ls ns) :
    Calls Tryd.prog 83 #[.slice none 0 0, .slice A M c, .slice Pa n pc, .slice Sa n sc, .slice none 0 0] w fun e w' => ∃ v u, e = .returned (.tuple #[v, u, .nilIface]) ∧ Own w' w.heap.size 5 .u8 v (joinL ls) ∧ Own w' w.heap.size 84 .u32 u (offsL ls (n + 1)) ∧ Below w.heap.size w w' := by
  have HLN := Aside0.mk hn
  have HNL : Aside0 (ns.length = n) := ⟨by rw [hF.len]; exact hn⟩
  have HTL : Aside0 ((tailsL ls ns).length = n) := ⟨by rw [tailsL_length, hF.len]; exact hn⟩
  have HF := Aside0.mk hF
  have HS := Aside0.mk hs
  have HSM := Aside0.mk (sumLen_le ls)
  have HP := Aside0.mk hP
  have HSU := Aside0.mk hS
  have HMT : Aside0 (sumLen (tailsL ls ns) = M) := ⟨by rw [← joinL_length]; exact hC.1⟩
  have HTM := Aside0.mk (sumLen_le (tailsL ls ns))
  have hM9 : M ≤ 100000 := by have := tails_le hF.len; have := HMT.out; omega
  have HC0 : Aside0 (∀ W1, Below w.heap.size w W1 → (Kd.int .u8).C W1 A M ((joinL (tailsL ls ns)).drop (sumLen ((tailsL ls ns).take 0)))) := ⟨fun W1 h => by rw [List.take_zero, show sumLen ([] : List (List Int)) = 0 from rfl, List.drop_zero]; exact Kd.C_below hC h⟩
  have HO0 : Aside0 (Own w w.heap.size 5 .u8 (.slice none 0 0) (joinL (ls.take 0))) := ⟨Own.nil _ _ _ _⟩
  have HP0 : Aside0 (Own w w.heap.size 84 .u32 (.slice none 0 0) (offsL ls 0)) := ⟨Own.nil _ _ _ _⟩
  have HB0 : Aside0 (Below w.heap.size w w) := ⟨Below.refl _ _⟩
  have HL0 : Aside0 (LastIn w.heap.size (.slice none 0 0) (joinL (ls.take 0)) none 0 (prevL ls 0)) := ⟨fun W _ => ⟨rfl, by omega, fun h => absurd h (by omega)⟩⟩
  obtain ⟨i8, h8⟩ := h8
  obtain ⟨i32, h32⟩ : ∃ i, (Tryd.prog.info? 21) = some i ∧ i.size = 1 := Option.map_eq_some_iff.1 (show (Tryd.prog.info? 21).map (fun i => i.size) = some 1 by kernel_rfl)
  obtain ⟨cutp, _⟩ := cutHi (P := Tryd.prog) 45 21 Tryd.underlying45 h32.1 Pa n pc .i64 (n : Int) n rfl (Nat.le_refl _) hpc
  obtain ⟨cuts, _⟩ := cutHi (P := Tryd.prog) 45 21 Tryd.underlying45 h32.1 Sa n sc .i64 (n : Int) n rfl (Nat.le_refl _) hsc
  clear hC hP hS hn hs hF
  go_enter Tryd.func83, Tryd.ntmps83
  go_wp2_with (fail)
  go_loopg [0, 1, 4, 13, 14, 15, 16, 17, 28] n (fun kq v0 v1 v4 v13 v14 v15 v16 v17 v28 w' => ∃ (j o r : Nat) (Ar : Option Addr) (cr : Nat) (Al : Option Addr) (ll cl : Nat), j ≤ n ∧ v28 = .int .i64 j ∧ v1 = .slice Ar r cr ∧ r ≤ cr ∧ v13 = .slice Al ll cl ∧ ll ≤ cl ∧ Aside0 (o = sumLen ((tailsL ls ns).take j)) ∧ o + r = M ∧ Aside0 ((prevL ls j).length = ll) ∧ Aside0 (∀ W1, Below w.heap.size w W1 → (Kd.int .u8).C W1 Ar r ((joinL (tailsL ls ns)).drop (sumLen ((tailsL ls ns).take j)))) ∧ Aside0 (Own w' w.heap.size 5 .u8 v0 (joinL (ls.take j))) ∧ Aside0 (Own w' w.heap.size 84 .u32 v4 (offsL ls j)) ∧ Aside0 (LastIn w.heap.size v0 (joinL (ls.take j)) Al ll (prevL ls j)) ∧ Aside0 (Below w.heap.size w w') ∧ Aside0 (n - j ≤ kq))
  case atStart => exact ⟨0, 0, M, A, c, none, 0, 0, by omega, rfl, rfl, hc, rfl, by omega, ⟨by simp [sumLen]⟩, by omega, ⟨rfl⟩, HC0, HO0, HP0, HL0, HB0, ⟨by omega⟩⟩
  case round =>
    clear HC0 HO0 HP0 HB0 HL0 cutp cuts
    obtain ⟨j, o, r, Ar, cr, Al, ll, cl, hj, rfl, rfl, hrc, rfl, hlc, HQ, hor, HPL, HR, HO, HPO, HL, HB, HK⟩ := hrel
    obtain ⟨A0, c0, e0, hc0, hr0⟩ := HO.out.read
    obtain ⟨L0, hL0⟩ : ∃ L0, (joinL (ls.take j)).length = L0 := ⟨_, rfl⟩
    have hL0s : L0 = sumLen (ls.take j) := by rw [← hL0, joinL_length]
    have hL9 : L0 ≤ 100000 := by have := HSM.out j; have := HS.out; omega
    rw [hL0] at e0 hc0 hr0
    have HL0 := Aside0.mk hL0
    have HL0s := Aside0.mk hL0s
    have HOF : Aside0 ((offsL ls j).length = j) := ⟨offsL_length _ _⟩
    have qL : IntKind.u32.wrap (L0 : Int) = (L0 : Int) := by rw [IntKind.wrap_u32]; omega
    subst e0
    clear hr0 hL0 hL0s
    by_cases cj : j < n
    · have cjb : decide ((j : Int) < n) = true := decide_eq_true (by omega)
      have cjn : decide (j < n) = true := decide_eq_true cj
      have hfa := HF.out.at' j (by rw [HLN.out]; exact cj)
      obtain ⟨ad, ead, x0⟩ := Kd.at_int (Kd.C_below HSU.out HB.out) (j : Int) (by omega) (by omega)
      obtain ⟨bd, ebd, y0⟩ := Kd.at_int (Kd.C_below HP.out HB.out) (j : Int) (by omega) (by omega)
      rw [Int.toNat_natCast, rd_lenL _ j (by rw [HTL.out]; exact cj)] at x0
      rw [Int.toNat_natCast, rd_intsL ns j (by rw [HNL.out]; exact cj)] at y0
      have hst := sumLen_take (tailsL ls ns) j (by rw [HTL.out]; exact cj)
      have hq9 := HTM.out (j + 1)
      rw [HMT.out] at hq9
      have hjd := join_drop (tailsL ls ns) j (by rw [HTL.out]; exact cj)
      have htg := tailsL_getD ls ns j (by rw [HNL.out]; exact cj)
      obtain ⟨p, hp⟩ : ∃ p, ns.getD j 0 = p := ⟨_, rfl⟩
      rw [hp] at y0 hfa htg
      obtain ⟨l, hl⟩ : ∃ l, (tailsL ls ns).getD j [] = l := ⟨_, rfl⟩
      rw [hl] at x0 hst hjd htg
      obtain ⟨d, hd⟩ : ∃ d, l.length = d := ⟨_, rfl⟩
      rw [hd] at x0 hst
      have hdr : d ≤ r := by have := HQ.out; omega
      have hpl : p ≤ ll := by rw [← HPL.out]; exact hfa.le1
      have hjoin := hfa.join
      rw [← htg] at hjoin
      have HJ := Aside0.mk (joinL_take ls j (by rw [HLN.out]; exact cj))
      rw [← hjoin] at HJ
      have hl1 : (joinL (ls.take (j + 1))).length ≤ 100000 := by rw [joinL_length]; have := HSM.out (j + 1); have := HS.out; omega
      have HJL : Aside0 ((joinL (ls.take j) ++ (prevL ls j).take p ++ l).length ≤ 100000) := ⟨by rw [List.append_assoc, ← HJ.out]; exact hl1⟩
      have HJP := Aside0.mk (join_prev ls j (by rw [HLN.out]; exact cj))
      have hsj := sumLen_take ls j (by rw [HLN.out]; exact cj)
      have HNX : Aside0 ((prevL ls (j + 1)).length + sumLen (ls.take j) = sumLen (ls.take (j + 1))) := ⟨by rw [prevL_succ]; omega⟩
      obtain ⟨r', hr'⟩ : ∃ r', r - d = r' := ⟨_, rfl⟩
      have HR' := HR.out
      rw [hjd] at HR'
      obtain ⟨cutH, hCH⟩ := cutHi (P := Tryd.prog) 29 5 Tryd.underlying29 h8.1 Ar r cr .i64 (d : Int) d rfl hdr hrc
      obtain ⟨Ac, cutL, hCL⟩ := cutLo (P := Tryd.prog) 29 5 Tryd.underlying29 h8.1 h8.2 Ar r cr .i64 (d : Int) d rfl hdr hrc
      obtain ⟨cutP, hCP⟩ := cutHi (P := Tryd.prog) 29 5 Tryd.underlying29 h8.1 Al ll cl .i64 (p : Int) p rfl hpl hlc
      have HRC : Aside0 (∀ W1, Below w.heap.size w W1 → (Kd.int .u8).C W1 Ar d l) := ⟨fun W1 hW => by have h := hCH (Kd.int .u8) W1 _ (HR' W1 hW); rw [← hd, List.take_left] at h; rw [← hd]; exact h⟩
      have HRN : Aside0 (∀ W1, Below w.heap.size w W1 → (Kd.int .u8).C W1 Ac r' ((joinL (tailsL ls ns)).drop (sumLen ((tailsL ls ns).take (j + 1))))) := ⟨fun W1 hW => by have h := hCL (Kd.int .u8) W1 _ rfl (HR' W1 hW); rw [← hd, List.drop_left] at h; rw [← hr', ← hd]; exact h⟩
      have HLP : Aside0 (∀ W1, Own W1 w.heap.size 5 .u8 (.slice A0 L0 c0) (joinL (ls.take j)) → (Kd.int .u8).C W1 Al p ((prevL ls j).take p)) := ⟨fun W1 h => hCP (Kd.int .u8) W1 _ (HL.out W1 h)⟩
      rw [hr'] at cutL
      have HQ1 : Aside0 (o + d = sumLen ((tailsL ls ns).take (j + 1))) := ⟨by have := HQ.out; omega⟩
      have HPT : Aside0 (((prevL ls j).take p).length = p) := ⟨by rw [List.length_take, HPL.out]; omega⟩
      have HLD := Aside0.mk hd
      have hlp9 : L0 + p + d ≤ 100000 := by have := HJL.out; rw [List.length_append, List.length_append, HL0.out, HPT.out, hd] at this; exact this
      have hsum : L0 + p + d = sumLen (ls.take (j + 1)) := by rw [← joinL_length, HJ.out, List.length_append, List.length_append, HL0.out, HPT.out, hd]; omega
      have HSQ := Aside0.mk hsum
      have qd : decide ((d : Int) < 0) = false := decide_eq_false (by omega)
      have qd2 : decide ((r : Int) < (d : Int)) = false := decide_eq_false (by omega)
      have qd3 : ¬ r < d := by omega
      have qp : decide ((p : Int) < 0) = false := decide_eq_false (by omega)
      have qp2 : decide ((ll : Int) < (p : Int)) = false := decide_eq_false (by omega)
      have qp3 : ¬ ll < p := by omega
      have hrc' : r' ≤ cr - d := by omega
      have hor' : o + d + r' = M := by omega
      have b0 := World.block_lt_of_cell? wr _ x0
      have b1 := World.block_lt_of_cell? wr _ y0
      have qi1 : (j : Int) < (n : Int) := by omega
      clear hst hq9 hjd hr' HR' hCH hCL hCP hd hp hl hl1 hjoin htg hfa hsj hsum hdr hpl
      subst ead ebd
      go_wp2_with (first
        | (at_builtin; go_loud (refine appendOwn (w0 := w) w.heap.size rfl (.tmp 75) (.tmp 78) 77 84 .u32 4 rfl Tryd.underlying77 infoU32f (by decide) u4 (offsL ls j) L0 rfl rfl HPO.out HB.out ?hb ?hl ?_); (case hb => exact HB.out.size); (case hl => rw [HOF.out]; omega); intro v1 w1 ho hb hg; have HO1 := Aside0.mk (HO.out.grown hg (own_types HO.out HPO.out tneU)); have HP1 := Aside0.mk ho; have HB1 := Aside0.mk hb; clear ho hb hg)
        | (at_builtin; go_loud (refine appendRead (w0 := w) w.heap.size rfl (.tmp 80) (.tmp 83) 29 5 .u8 1 rfl Tryd.underlying29 infoU8 (by decide) _ (joinL (ls.take j)) Al p cl ((prevL ls j).take p) rfl rfl HO1.out HB1.out HB1.out.size (HLP.out _ HO1.out) ?hl ?_); (case hl => rw [HL0.out]; omega); intro v2 w2 ho hb hg; have HP2 := Aside0.mk (HP1.out.grown hg (own_types HP1.out HO1.out (Ne.symm tneU))); have HO2 := Aside0.mk ho; have HB2 := Aside0.mk hb; clear ho hb hg)
        | (at_builtin; go_loud (refine appendRead (w0 := w) w.heap.size rfl (.tmp 85) (.tmp 88) 29 5 .u8 1 rfl Tryd.underlying29 infoU8 (by decide) v2 (joinL (ls.take j) ++ (prevL ls j).take p) Ar d cr l rfl rfl HO2.out HB2.out HB2.out.size (HRC.out _ HB2.out) ?hl ?_); (case hl => rw [List.length_append, HL0.out, HPT.out]; omega); intro v3 w3 ho hb hg; have HP3 := Aside0.mk (HP2.out.grown hg (own_types HP2.out HO2.out (Ne.symm tneU))); rw [List.append_assoc, ← HJ.out] at ho; obtain ⟨A3, c3, rfl, hc3, hr3⟩ := ho.read; have hq3 : (joinL (ls.take (j + 1))).length = L0 + p + d := (by rw [joinL_length]; exact HSQ.out.symm); rw [hq3] at ho hc3 hr3; rw [hq3]; obtain ⟨Az, cutZ, hCZ⟩ := cutLo (P := Tryd.prog) 29 5 Tryd.underlying29 h8.1 h8.2 A3 (L0 + p + d) c3 .i64 (L0 : Int) L0 rfl (by omega) hc3; have HO3 := Aside0.mk ho; have HB3 := Aside0.mk hb; have HZ3 : Aside0 (LastIn w.heap.size (.slice A3 (L0 + p + d) c3) (joinL (ls.take (j + 1))) Az (L0 + p + d - L0) (prevL ls (j + 1))) := (Aside0.mk (fun W hW => by obtain ⟨A5, c5, e5, _, hr5⟩ := hW.read; rw [hq3] at e5 hr5; injection e5 with e51 e52 e53; rw [← e51] at hr5; have h := hCZ (Kd.int .u8) W _ rfl hr5; rw [HL0s.out, HJP.out] at h; rw [HL0s.out]; exact h)); clear ho hb hg hr3 hCZ)
        | fail)
      go_roundg (gk - 1)
      case measure => have := HK.out; omega
      case rel =>
        refine ⟨j + 1, o + d, r', Ac, cr - d, Az, L0 + p + d - L0, c3 - L0, by omega, by go_num, rfl, hrc', rfl, by omega, HQ1, hor', ⟨by have h1 := HNX.out; have h2 := HSQ.out; have h3 := HL0s.out; omega⟩, HRN, HO3, ⟨?_⟩, HZ3, HB3, ⟨by have := HK.out; omega⟩⟩
        rw [offsL_succ, ← HL0s.out]; exact HP3.out
    · obtain rfl : j = n := by omega
      have cjb : decide ((j : Int) < j) = false := decide_eq_false (by omega)
      have HTA : Aside0 (ls.take j = ls) := ⟨by rw [← HLN.out, List.take_length]⟩
      go_wp2_with (first
        | (at_builtin; go_loud (refine appendOwn (w0 := w) w.heap.size rfl (.tmp 98) (.tmp 102) 77 84 .u32 4 rfl Tryd.underlying77 infoU32f (by decide) u4 (offsL ls j) L0 rfl rfl HPO.out HB.out ?hb ?hl ?_); (case hb => exact HB.out.size); (case hl => rw [HOF.out]; omega); intro v1 w1 ho hb hg; have HO1 := Aside0.mk (HO.out.grown hg (own_types HO.out HPO.out tneU)); have HP1 := Aside0.mk ho; have HB1 := Aside0.mk hb; clear ho hb hg))
      go_ret3
      have ho := HO1.out
      rw [HTA.out] at ho
      exact ⟨_, _, rfl, ho, by rw [offsL_succ, ← HL0s.out]; exact HP1.out, HB1.out⟩
set_option maxHeartbeats 16000000 in
set_option maxRecDepth 100000 in
theorem frDecodeS_calls (p0 : Option Addr) (A : Option Addr) (N c k : Nat) (X : List Int) (ls : List (List Int)) (B P S : Nat) (w : World) (hC : (Kd.int .u8).C w A N X) (hX : FrStr ls X B P S) (hc : N ≤ c) (hN : N ≤ 268435455) (hk : ls.length = k) (hk9 : k ≤ 100000) (hs : sumLen ls ≤ 100000) :
    Calls Tryd.prog 43 #[.pointer p0, .slice none 0 0, .slice A N c, .slice none 0 0] w fun e w' => ∃ v u, e = .returned (.tuple #[v, u, .nilIface]) ∧ Own w' w.heap.size 5 .u8 v (joinL ls) ∧ Own w' w.heap.size 84 .u32 u (offsL ls (k + 1)) ∧ Below w.heap.size w w' := by
  obtain ⟨ns, mid, bs, hF, hX1, bs2, hX2⟩ := hX
  have HC := Aside0.mk hC
  have HX1 := Aside0.mk hX1
  have HX2 := Aside0.mk hX2
  have HF := Aside0.mk hF
  have HKL := Aside0.mk hk
  have HS := Aside0.mk hs
  have HNL : Aside0 ((intsL ns).length = k) := ⟨by rw [intsL_length, hF.len]; exact hk⟩
  have HLL : Aside0 ((lenL (tailsL ls ns)).length = k) := ⟨by rw [lenL_length, tailsL_length, hF.len]; exact hk⟩
  obtain ⟨R, hR⟩ : ∃ R, mid.length = R := ⟨_, rfl⟩
  have HML := Aside0.mk hR
  have hR9 : R ≤ N := by
    have h1 := hC.1
    rw [hX1.eq] at h1
    simp only [List.length_append] at h1
    omega
  obtain ⟨M, hM⟩ : ∃ M, (joinL (tailsL ls ns)).length = M := ⟨_, rfl⟩
  have HJL := Aside0.mk hM
  obtain ⟨i8, h8⟩ := h8
  obtain ⟨i32, h32⟩ : ∃ i, (Tryd.prog.info? 84) = some i ∧ i.size = 1 := Option.map_eq_some_iff.1 (show (Tryd.prog.info? 84).map (fun i => i.size) = some 1 by kernel_rfl)
  obtain ⟨cutz, _⟩ := cutHi (P := Tryd.prog) 29 5 Tryd.underlying29 h8.1 none 0 0 .i64 0 0 rfl (by omega) (by omega)
  obtain ⟨cuty, _⟩ := cutHi (P := Tryd.prog) 77 84 Tryd.underlying77 h32.1 none 0 0 .i64 0 0 rfl (by omega) (by omega)
  have HBD : Aside0 (∀ q, Below w.heap.size w (w.drewN q)) := ⟨fun q => drewN_below w q⟩
  clear hC hX1 hX2 hF hk hs hR hM
  go_enter_defers Tryd.func43, Tryd.ntmps43
  go_wp2_with (first
    | (go_at_call 74; (first
      | ((with_reducible refine (getBuf_calls (w.drewN _)).mono ?_); rintro e w1 ⟨p1, a1, rfl, hn, hb⟩; have HN1 := Aside0.mk hn; have HB1 := Aside0.mk ((HBD.out _).trans hb); clear hn hb)
      | ((with_reducible refine (getBuf_calls w1).mono ?_); rintro e w2 ⟨p2, a2, rfl, hn, hb⟩; have HN2 := Aside0.mk hn; have HP12 := Aside0.mk (HN1.out.cell.below hb HN1.out.cell.lt); have hne : p1 ≠ p2 := (by have h1 := HN1.out.cell.lt; have h2 := hn.bp; omega); have HNE := Aside0.mk hne; have HB2 := Aside0.mk (HB1.out.trans (hb.mono HB1.out.size)); clear hn hb hne)))
    | (go_at_call 76; (first
      | ((with_reducible refine (bufDecode_calls p1 (some ⟨a1, 0, none⟩) 1024 A N c (intsL ns) X mid B P S bs w2 HP12.out (Kd.C_below HC.out HB2.out) HX1.out hc hN (by rw [HNL.out]; exact hk9)).mono ?_); rintro e w3 ⟨A3, c3, A4, c4, rfl, hblk, hkc, hv, hrc, hr, hg⟩; rw [HNL.out] at hblk hkc hv; rw [HML.out] at hrc hr; rw [HML.out]; have HP3 := Aside0.mk hblk; have HV3 := Aside0.mk hv; have HR3 := Aside0.mk hr; have HQ3 := Aside0.mk (blkGrown HN2.out.cell hg (Ne.symm HNE.out)); have HB3 := Aside0.mk (belowGrown HB2.out hg HN1.out.bp); clear hblk hv hr hg)
      | ((with_reducible refine (bufDecode_calls p2 (some ⟨a2, 0, none⟩) 1024 A3 R c3 (lenL (tailsL ls ns)) mid (joinL (tailsL ls ns)) B P S bs2 w3 HQ3.out HR3.out HX2.out hrc (by omega) (by rw [HLL.out]; exact hk9)).mono ?_); rintro e w4 ⟨A5, c5, A6, c6, rfl, hblk, hkc6, hv, hrc5, hr, hg⟩; rw [HLL.out] at hblk hkc6 hv; rw [HJL.out] at hrc5 hr; rw [HJL.out]; have HQ4 := Aside0.mk hblk; have HW4 := Aside0.mk hv; have HR4 := Aside0.mk hr; have HP4 := Aside0.mk (blkGrown HP3.out hg HNE.out); have HV4 := Aside0.mk (C_grown_buf HV3.out HQ3.out hg); have HB4 := Aside0.mk (belowGrown HB3.out hg (by have h1 := HN2.out.bp; have h2 := HB1.out.size; omega)); have xp4 := HP4.out.cell (j := 0) (v := .slice A4 k c4) rfl; have xq4 := HQ4.out.cell (j := 0) (v := .slice A6 k c6) rfl; clear hblk hv hr hg)))
    | go_quiet (fail))
  have HXX : Aside0 (∀ W1, Below w4.heap.size w4 W1 → W1.cell? ⟨p1, 0, none⟩ = some (.slice A4 k c4) ∧ W1.cell? ⟨p2, 0, none⟩ = some (.slice A6 k c6)) := ⟨fun W1 h => ⟨(h.cell HP4.out.lt).trans xp4, (h.cell HQ4.out.lt).trans xq4⟩⟩
  have hbq := drewN_below w4 nq
  generalize w4.drewN nq = wz at *
  have HBr : Aside0 (Below w4.heap.size w4 wz.drew) := ⟨hbq.drew⟩
  clear hbq
  have HCALL : Aside0 (∀ W1, Below w4.heap.size w4 W1 → Calls Tryd.prog 83 #[.slice none 0 0, .slice A5 M c5, .slice A4 k c4, .slice A6 k c6, .slice none 0 0] W1 fun e w' => ∃ v u, e = .returned (.tuple #[v, u, .nilIface]) ∧ Own w' W1.heap.size 5 .u8 v (joinL ls) ∧ Own w' W1.heap.size 84 .u32 u (offsL ls (k + 1)) ∧ Below W1.heap.size W1 w') := ⟨fun W1 h => decBA_calls A5 M c5 A4 c4 A6 c6 k ls ns W1 (Kd.C_below HR4.out h) hrc5 (Kd.C_below HV4.out h) hkc (Kd.C_below HW4.out h) hkc6 HKL.out hk9 HS.out HF.out⟩
  have HBW : Aside0 (∀ W1, Below w4.heap.size w4 W1 → Below w.heap.size w W1) := ⟨fun W1 h => HB4.out.trans (h.mono HB4.out.size)⟩
  go_region_held3 (fun (w9 : World) => w9.cell? ⟨p1, 0, none⟩ = some (.slice A4 k c4) ∧ w9.cell? ⟨p2, 0, none⟩ = some (.slice A6 k c6))
    (first | exact HXX.out _ HB5.out | exact HXX.out _ HBr.out)
    ((first
      | (go_at_call 83; (with_reducible refine (HCALL.out _ HBr.out).mono ?_); rintro e w5 ⟨v5, u5, rfl, ho, hp, hb⟩; have HB5 := Aside0.mk (HBr.out.trans (hb.mono HBr.out.size)); have HSZ := Aside0.mk (HBW.out _ HBr.out).size; have HO5 := Aside0.mk (Own.lower ho HSZ.out); have HP5 := Aside0.mk (Own.lower hp HSZ.out); clear ho hp hb)
      | fail "no arm"))
  go_wp2_with (fail)
  refine leaves_cons (f := 75) (args := #[.pointer (some ⟨p2, 0, none⟩)]) (by simp) (by simp [go_sem]) ?_
  refine (putBuf_d _ _ _).mono ?_
  rintro e u' w'' ⟨rfl, rfl, rfl⟩
  refine leaves_cons (u := .returning) (f := 75) (args := #[.pointer (some ⟨p1, 0, none⟩)]) (by simp) (by simp [go_sem]) ?_
  refine (putBuf_d _ _ _).mono ?_
  rintro e u' w'' ⟨rfl, rfl, rfl⟩
  exact ⟨_, results_tmp3 rfl _ _ _, _, _, rfl, HO5.out, HP5.out, HBW.out _ HB5.out⟩
end Go.Proofs.YtigmcdpjlkgocaaDoor.Dfd

/-! Texts of one length with shared fronts: the decoder. -/
namespace Go.Proofs.YtigmcdpjlkgocaaDoor.Dfg
open Go.Proofs.YtigmcdpjlkgocaaDoor.Dfd Go.Proofs.YtigmcdpjlkgocaaDoor.Dfp Go.Proofs.YtigmcdpjlkgocaaDoor.Dls Go.Proofs.YtigmcdpjlkgocaaDoor.Dlp Go.Proofs.YtigmcdpjlkgocaaDoor.Dre Go.Proofs.YtigmcdpjlkgocaaDoor.Dle Go.Proofs.YtigmcdpjlkgocaaDoor.Dib Go.Proofs.YtigmcdpjlkgocaaDoor.Dew Go.Proofs.YtigmcdpjlkgocaaDoor.Dtx Go.Proofs.YtigmcdpjlkgocaaDoor.Dct Go.Proofs.YtigmcdpjlkgocaaDoor.Dst Go.Proofs.YtigmcdpjlkgocaaDoor.Deo Go.Proofs.YtigmcdpjlkgocaaDoor.Den Go.Proofs.YtigmcdpjlkgocaaDoor.Deb Go.Proofs.YtigmcdpjlkgocaaDoor.Dds Go.Proofs.YtigmcdpjlkgocaaDoor.Dpu Go.Proofs.YtigmcdpjlkgocaaDoor.Pak Go.Proofs.YtigmcdpjlkgocaaDoor.Buf Go.Proofs.YtigmcdpjlkgocaaDoor.Fit Go.Proofs.YtigmcdpjlkgocaaDoor.Bit Go.Proofs.YtigmcdpjlkgocaaDoor.Wrd Go.Proofs.YtigmcdpjlkgocaaDoor.Spl Go.Proofs.YtigmcdpjlkgocaaDoor.Str Go.Proofs.YtigmcdpjlkgocaaDoor.Flt Go.Proofs.YtigmcdpjlkgocaaDoor.Owe Go.Proofs.YtigmcdpjlkgocaaDoor.Num Go.Proofs.YtigmcdpjlkgocaaDoor.Le Go.Proofs.YtigmcdpjlkgocaaDoor.Lst Go.Proofs.YtigmcdpjlkgocaaDoor.Aid Go.RowKit Go.Proofs.YtigmcdpjlkgocaaDoorW.PrintWords Go.Proofs.YtigmcdpjlkgocaaDoorW.PrintLast Go.Proofs.YtigmcdpjlkgocaaDoorW.PrintMore
set_option linter.unusedVariables false
set_option linter.unusedSimpArgs false
set_option maxHeartbeats 16000000 in
set_option maxRecDepth 100000 in
theorem decBF_calls (s : Int) (A : Option Addr) (M c : Nat) (Pa : Option Addr) (pc : Nat) (Sa : Option Addr) (sc n : Nat) (ls : List (List Int)) (ns : List Nat) (w : World) (hC : (Kd.int .u8).C w A M (joinL (tailsL ls ns))) (hc : M ≤ c)
    (hP : (Kd.int .i32).C w Pa n (intsL ns)) (hpc : n ≤ pc) (hS : (Kd.int .i32).C w Sa n (lenL (tailsL ls ns))) (hsc : n ≤ sc) (hn : ls.length = n) (hn9 : n ≤ 100000) (hs : sumLen ls ≤ 100000) (hF : FrOk ls ns) :
    Calls Tryd.prog 100 #[.slice none 0 0, .slice A M c, .int .i64 s, .slice Pa n pc, .slice Sa n sc] w fun e w' => ∃ v, e = .returned (.tuple #[v, .nilIface]) ∧ Own w' w.heap.size 5 .u8 v (joinL ls) ∧ Below w.heap.size w w' := by
  have HLN := Aside0.mk hn
  have HNL : Aside0 (ns.length = n) := ⟨by rw [hF.len]; exact hn⟩
  have HTL : Aside0 ((tailsL ls ns).length = n) := ⟨by rw [tailsL_length, hF.len]; exact hn⟩
  have HF := Aside0.mk hF
  have HS := Aside0.mk hs
  have HSM := Aside0.mk (sumLen_le ls)
  have HP := Aside0.mk hP
  have HSU := Aside0.mk hS
  have HMT : Aside0 (sumLen (tailsL ls ns) = M) := ⟨by rw [← joinL_length]; exact hC.1⟩
  have HTM := Aside0.mk (sumLen_le (tailsL ls ns))
  have hM9 : M ≤ 100000 := by have := tails_le hF.len; have := HMT.out; omega
  have HC0 : Aside0 (∀ W1, Below w.heap.size w W1 → (Kd.int .u8).C W1 A M ((joinL (tailsL ls ns)).drop (sumLen ((tailsL ls ns).take 0)))) := ⟨fun W1 h => by rw [List.take_zero, show sumLen ([] : List (List Int)) = 0 from rfl, List.drop_zero]; exact Kd.C_below hC h⟩
  have HO0 : Aside0 (Own w w.heap.size 5 .u8 (.slice none 0 0) (joinL (ls.take 0))) := ⟨Own.nil _ _ _ _⟩
  have HB0 : Aside0 (Below w.heap.size w w) := ⟨Below.refl _ _⟩
  have HL0 : Aside0 (LastIn w.heap.size (.slice none 0 0) (joinL (ls.take 0)) none 0 (prevL ls 0)) := ⟨fun W _ => ⟨rfl, by omega, fun h => absurd h (by omega)⟩⟩
  obtain ⟨i8, h8⟩ := h8
  obtain ⟨i32, h32⟩ : ∃ i, (Tryd.prog.info? 21) = some i ∧ i.size = 1 := Option.map_eq_some_iff.1 (show (Tryd.prog.info? 21).map (fun i => i.size) = some 1 by kernel_rfl)
  obtain ⟨cutp, _⟩ := cutHi (P := Tryd.prog) 45 21 Tryd.underlying45 h32.1 Pa n pc .i64 (n : Int) n rfl (Nat.le_refl _) hpc
  obtain ⟨cuts, _⟩ := cutHi (P := Tryd.prog) 45 21 Tryd.underlying45 h32.1 Sa n sc .i64 (n : Int) n rfl (Nat.le_refl _) hsc
  clear hC hP hS hn hs hF
  go_enter Tryd.func100, Tryd.ntmps100
  go_wp2_with (fail)
  go_loopg [0, 1, 12, 13, 14, 15, 16, 27] n (fun kq v0 v1 v12 v13 v14 v15 v16 v27 w' => ∃ (j o r : Nat) (Ar : Option Addr) (cr : Nat) (Al : Option Addr) (ll cl : Nat), j ≤ n ∧ v27 = .int .i64 j ∧ v1 = .slice Ar r cr ∧ r ≤ cr ∧ v12 = .slice Al ll cl ∧ ll ≤ cl ∧ Aside0 (o = sumLen ((tailsL ls ns).take j)) ∧ o + r = M ∧ Aside0 ((prevL ls j).length = ll) ∧ Aside0 (∀ W1, Below w.heap.size w W1 → (Kd.int .u8).C W1 Ar r ((joinL (tailsL ls ns)).drop (sumLen ((tailsL ls ns).take j)))) ∧ Aside0 (Own w' w.heap.size 5 .u8 v0 (joinL (ls.take j))) ∧ Aside0 (LastIn w.heap.size v0 (joinL (ls.take j)) Al ll (prevL ls j)) ∧ Aside0 (Below w.heap.size w w') ∧ Aside0 (n - j ≤ kq))
  case atStart => exact ⟨0, 0, M, A, c, none, 0, 0, by omega, rfl, rfl, hc, rfl, by omega, ⟨by simp [sumLen]⟩, by omega, ⟨rfl⟩, HC0, HO0, HL0, HB0, ⟨by omega⟩⟩
  case round =>
    clear HC0 HO0 HB0 HL0 cutp cuts
    obtain ⟨j, o, r, Ar, cr, Al, ll, cl, hj, rfl, rfl, hrc, rfl, hlc, HQ, hor, HPL, HR, HO, HL, HB, HK⟩ := hrel
    obtain ⟨A0, c0, e0, hc0, hr0⟩ := HO.out.read
    obtain ⟨L0, hL0⟩ : ∃ L0, (joinL (ls.take j)).length = L0 := ⟨_, rfl⟩
    have hL0s : L0 = sumLen (ls.take j) := by rw [← hL0, joinL_length]
    have hL9 : L0 ≤ 100000 := by have := HSM.out j; have := HS.out; omega
    rw [hL0] at e0 hc0 hr0
    have HL0 := Aside0.mk hL0
    have HL0s := Aside0.mk hL0s
    have qL : IntKind.u32.wrap (L0 : Int) = (L0 : Int) := by rw [IntKind.wrap_u32]; omega
    subst e0
    clear hr0 hL0 hL0s
    by_cases cj : j < n
    · have cjb : decide ((j : Int) < n) = true := decide_eq_true (by omega)
      have cjn : decide (j < n) = true := decide_eq_true cj
      have hfa := HF.out.at' j (by rw [HLN.out]; exact cj)
      obtain ⟨ad, ead, x0⟩ := Kd.at_int (Kd.C_below HSU.out HB.out) (j : Int) (by omega) (by omega)
      obtain ⟨bd, ebd, y0⟩ := Kd.at_int (Kd.C_below HP.out HB.out) (j : Int) (by omega) (by omega)
      rw [Int.toNat_natCast, rd_lenL _ j (by rw [HTL.out]; exact cj)] at x0
      rw [Int.toNat_natCast, rd_intsL ns j (by rw [HNL.out]; exact cj)] at y0
      have hst := sumLen_take (tailsL ls ns) j (by rw [HTL.out]; exact cj)
      have hq9 := HTM.out (j + 1)
      rw [HMT.out] at hq9
      have hjd := join_drop (tailsL ls ns) j (by rw [HTL.out]; exact cj)
      have htg := tailsL_getD ls ns j (by rw [HNL.out]; exact cj)
      obtain ⟨p, hp⟩ : ∃ p, ns.getD j 0 = p := ⟨_, rfl⟩
      rw [hp] at y0 hfa htg
      obtain ⟨l, hl⟩ : ∃ l, (tailsL ls ns).getD j [] = l := ⟨_, rfl⟩
      rw [hl] at x0 hst hjd htg
      obtain ⟨d, hd⟩ : ∃ d, l.length = d := ⟨_, rfl⟩
      rw [hd] at x0 hst
      have hdr : d ≤ r := by have := HQ.out; omega
      have hpl : p ≤ ll := by rw [← HPL.out]; exact hfa.le1
      have hjoin := hfa.join
      rw [← htg] at hjoin
      have HJ := Aside0.mk (joinL_take ls j (by rw [HLN.out]; exact cj))
      rw [← hjoin] at HJ
      have hl1 : (joinL (ls.take (j + 1))).length ≤ 100000 := by rw [joinL_length]; have := HSM.out (j + 1); have := HS.out; omega
      have HJL : Aside0 ((joinL (ls.take j) ++ (prevL ls j).take p ++ l).length ≤ 100000) := ⟨by rw [List.append_assoc, ← HJ.out]; exact hl1⟩
      have HJP := Aside0.mk (join_prev ls j (by rw [HLN.out]; exact cj))
      have hsj := sumLen_take ls j (by rw [HLN.out]; exact cj)
      have HNX : Aside0 ((prevL ls (j + 1)).length + sumLen (ls.take j) = sumLen (ls.take (j + 1))) := ⟨by rw [prevL_succ]; omega⟩
      obtain ⟨r', hr'⟩ : ∃ r', r - d = r' := ⟨_, rfl⟩
      have HR' := HR.out
      rw [hjd] at HR'
      obtain ⟨cutH, hCH⟩ := cutHi (P := Tryd.prog) 29 5 Tryd.underlying29 h8.1 Ar r cr .i64 (d : Int) d rfl hdr hrc
      obtain ⟨Ac, cutL, hCL⟩ := cutLo (P := Tryd.prog) 29 5 Tryd.underlying29 h8.1 h8.2 Ar r cr .i64 (d : Int) d rfl hdr hrc
      obtain ⟨cutP, hCP⟩ := cutHi (P := Tryd.prog) 29 5 Tryd.underlying29 h8.1 Al ll cl .i64 (p : Int) p rfl hpl hlc
      have HRC : Aside0 (∀ W1, Below w.heap.size w W1 → (Kd.int .u8).C W1 Ar d l) := ⟨fun W1 hW => by have h := hCH (Kd.int .u8) W1 _ (HR' W1 hW); rw [← hd, List.take_left] at h; rw [← hd]; exact h⟩
      have HRN : Aside0 (∀ W1, Below w.heap.size w W1 → (Kd.int .u8).C W1 Ac r' ((joinL (tailsL ls ns)).drop (sumLen ((tailsL ls ns).take (j + 1))))) := ⟨fun W1 hW => by have h := hCL (Kd.int .u8) W1 _ rfl (HR' W1 hW); rw [← hd, List.drop_left] at h; rw [← hr', ← hd]; exact h⟩
      have HLP : Aside0 (∀ W1, Own W1 w.heap.size 5 .u8 (.slice A0 L0 c0) (joinL (ls.take j)) → (Kd.int .u8).C W1 Al p ((prevL ls j).take p)) := ⟨fun W1 h => hCP (Kd.int .u8) W1 _ (HL.out W1 h)⟩
      rw [hr'] at cutL
      have HQ1 : Aside0 (o + d = sumLen ((tailsL ls ns).take (j + 1))) := ⟨by have := HQ.out; omega⟩
      have HPT : Aside0 (((prevL ls j).take p).length = p) := ⟨by rw [List.length_take, HPL.out]; omega⟩
      have HLD := Aside0.mk hd
      have hlp9 : L0 + p + d ≤ 100000 := by have := HJL.out; rw [List.length_append, List.length_append, HL0.out, HPT.out, hd] at this; exact this
      have hsum : L0 + p + d = sumLen (ls.take (j + 1)) := by rw [← joinL_length, HJ.out, List.length_append, List.length_append, HL0.out, HPT.out, hd]; omega
      have HSQ := Aside0.mk hsum
      have qd : decide ((d : Int) < 0) = false := decide_eq_false (by omega)
      have qd2 : decide ((r : Int) < (d : Int)) = false := decide_eq_false (by omega)
      have qd3 : ¬ r < d := by omega
      have qp : decide ((p : Int) < 0) = false := decide_eq_false (by omega)
      have qp2 : decide ((ll : Int) < (p : Int)) = false := decide_eq_false (by omega)
      have qp3 : ¬ ll < p := by omega
      have hrc' : r' ≤ cr - d := by omega
      have hor' : o + d + r' = M := by omega
      have b0 := World.block_lt_of_cell? wr _ x0
      have b1 := World.block_lt_of_cell? wr _ y0
      have qi1 : (j : Int) < (n : Int) := by omega
      clear hst hq9 hjd hr' HR' hCH hCL hCP hd hp hl hl1 hjoin htg hfa hsj hsum hdr hpl
      subst ead ebd
      go_wp2_with (first
        | (at_builtin; go_loud (refine appendRead (w0 := w) w.heap.size rfl (.tmp 70) (.tmp 73) 29 5 .u8 1 rfl Tryd.underlying29 infoU8 (by decide) _ (joinL (ls.take j)) Al p cl ((prevL ls j).take p) rfl rfl HO.out HB.out HB.out.size (HLP.out _ HO.out) ?hl ?_); (case hl => rw [HL0.out]; omega); intro v2 w2 ho hb hg; have HO2 := Aside0.mk ho; have HB2 := Aside0.mk hb; clear ho hb hg)
        | (at_builtin; go_loud (refine appendRead (w0 := w) w.heap.size rfl (.tmp 75) (.tmp 78) 29 5 .u8 1 rfl Tryd.underlying29 infoU8 (by decide) v2 (joinL (ls.take j) ++ (prevL ls j).take p) Ar d cr l rfl rfl HO2.out HB2.out HB2.out.size (HRC.out _ HB2.out) ?hl ?_); (case hl => rw [List.length_append, HL0.out, HPT.out]; omega); intro v3 w3 ho hb hg; rw [List.append_assoc, ← HJ.out] at ho; obtain ⟨A3, c3, rfl, hc3, hr3⟩ := ho.read; have hq3 : (joinL (ls.take (j + 1))).length = L0 + p + d := (by rw [joinL_length]; exact HSQ.out.symm); rw [hq3] at ho hc3 hr3; rw [hq3]; obtain ⟨Az, cutZ, hCZ⟩ := cutLo (P := Tryd.prog) 29 5 Tryd.underlying29 h8.1 h8.2 A3 (L0 + p + d) c3 .i64 (L0 : Int) L0 rfl (by omega) hc3; have HO3 := Aside0.mk ho; have HB3 := Aside0.mk hb; have HZ3 : Aside0 (LastIn w.heap.size (.slice A3 (L0 + p + d) c3) (joinL (ls.take (j + 1))) Az (L0 + p + d - L0) (prevL ls (j + 1))) := (Aside0.mk (fun W hW => by obtain ⟨A5, c5, e5, _, hr5⟩ := hW.read; rw [hq3] at e5 hr5; injection e5 with e51 e52 e53; rw [← e51] at hr5; have h := hCZ (Kd.int .u8) W _ rfl hr5; rw [HL0s.out, HJP.out] at h; rw [HL0s.out]; exact h)); clear ho hb hg hr3 hCZ)
        | fail)
      go_roundg (gk - 1)
      case measure => have := HK.out; omega
      case rel =>
        exact ⟨j + 1, o + d, r', Ac, cr - d, Az, L0 + p + d - L0, c3 - L0, by omega, by go_num, rfl, hrc', rfl, by omega, HQ1, hor', ⟨by have h1 := HNX.out; have h2 := HSQ.out; have h3 := HL0s.out; omega⟩, HRN, HO3, HZ3, HB3, ⟨by have := HK.out; omega⟩⟩
    · obtain rfl : j = n := by omega
      have cjb : decide ((j : Int) < j) = false := decide_eq_false (by omega)
      have HTA : Aside0 (ls.take j = ls) := ⟨by rw [← HLN.out, List.take_length]⟩
      go_wp2_with (fail)
      go_ret2
      have ho := HO.out
      rw [HTA.out] at ho
      exact ⟨_, rfl, ho, HB.out⟩
set_option maxHeartbeats 16000000 in
set_option maxRecDepth 100000 in
theorem ffDecodeS_calls (p0 : Option Addr) (s : Nat) (hs1 : 1 ≤ s) (hs9 : s ≤ 100) (A : Option Addr) (N c k : Nat) (X : List Int) (ls : List (List Int)) (B P S : Nat) (w : World) (hC : (Kd.int .u8).C w A N X) (hX : FrStr ls X B P S) (hc : N ≤ c) (hN : N ≤ 268435455) (hk : ls.length = k) (hk9 : k ≤ 100000) (hs : sumLen ls ≤ 100000) :
    Calls Tryd.prog 60 #[.pointer p0, .slice none 0 0, .slice A N c, .int .i64 s] w fun e w' => ∃ v, e = .returned (.tuple #[v, .nilIface]) ∧ Own w' w.heap.size 5 .u8 v (joinL ls) ∧ Below w.heap.size w w' := by
  obtain ⟨ns, mid, bs, hF, hX1, bs2, hX2⟩ := hX
  have HC := Aside0.mk hC
  have HX1 := Aside0.mk hX1
  have HX2 := Aside0.mk hX2
  have HF := Aside0.mk hF
  have HKL := Aside0.mk hk
  have HS := Aside0.mk hs
  have HNL : Aside0 ((intsL ns).length = k) := ⟨by rw [intsL_length, hF.len]; exact hk⟩
  have HLL : Aside0 ((lenL (tailsL ls ns)).length = k) := ⟨by rw [lenL_length, tailsL_length, hF.len]; exact hk⟩
  obtain ⟨R, hR⟩ : ∃ R, mid.length = R := ⟨_, rfl⟩
  have HML := Aside0.mk hR
  have hR9 : R ≤ N := by
    have h1 := hC.1
    rw [hX1.eq] at h1
    simp only [List.length_append] at h1
    omega
  obtain ⟨M, hM⟩ : ∃ M, (joinL (tailsL ls ns)).length = M := ⟨_, rfl⟩
  have HJL := Aside0.mk hM
  obtain ⟨i8, h8⟩ := h8
  have q1 : decide ((s : Int) < 0) = false := decide_eq_false (by omega)
  have q2 : decide (32767 < (s : Int)) = false := decide_eq_false (by omega)
  have q2n : decide (32767 < s) = false := decide_eq_false (by omega)
  obtain ⟨cutz, _⟩ := cutHi (P := Tryd.prog) 29 5 Tryd.underlying29 h8.1 none 0 0 .i64 0 0 rfl (by omega) (by omega)
  have HBD : Aside0 (∀ q, Below w.heap.size w (w.drewN q)) := ⟨fun q => drewN_below w q⟩
  clear hC hX1 hX2 hF hk hs hR hM
  go_enter_defers Tryd.func60, Tryd.ntmps60
  go_wp2_with (first
    | (go_at_call 74; (first
      | ((with_reducible refine (getBuf_calls w).mono ?_); rintro e w1 ⟨p1, a1, rfl, hn, hb⟩; have HN1 := Aside0.mk hn; have HB1 := Aside0.mk hb; clear hn hb)
      | ((with_reducible refine (getBuf_calls w1).mono ?_); rintro e w2 ⟨p2, a2, rfl, hn, hb⟩; have HN2 := Aside0.mk hn; have HP12 := Aside0.mk (HN1.out.cell.below hb HN1.out.cell.lt); have hne : p1 ≠ p2 := (by have h1 := HN1.out.cell.lt; have h2 := hn.bp; omega); have HNE := Aside0.mk hne; have HB2 := Aside0.mk (HB1.out.trans (hb.mono HB1.out.size)); clear hn hb hne)))
    | (go_at_call 76; (first
      | ((with_reducible refine (bufDecode_calls p1 (some ⟨a1, 0, none⟩) 1024 A N c (intsL ns) X mid B P S bs w2 HP12.out (Kd.C_below HC.out HB2.out) HX1.out hc hN (by rw [HNL.out]; exact hk9)).mono ?_); rintro e w3 ⟨A3, c3, A4, c4, rfl, hblk, hkc, hv, hrc, hr, hg⟩; rw [HNL.out] at hblk hkc hv; rw [HML.out] at hrc hr; rw [HML.out]; have HP3 := Aside0.mk hblk; have HV3 := Aside0.mk hv; have HR3 := Aside0.mk hr; have HQ3 := Aside0.mk (blkGrown HN2.out.cell hg (Ne.symm HNE.out)); have HB3 := Aside0.mk (belowGrown HB2.out hg HN1.out.bp); clear hblk hv hr hg)
      | ((with_reducible refine (bufDecode_calls p2 (some ⟨a2, 0, none⟩) 1024 A3 R c3 (lenL (tailsL ls ns)) mid (joinL (tailsL ls ns)) B P S bs2 w3 HQ3.out HR3.out HX2.out hrc (by omega) (by rw [HLL.out]; exact hk9)).mono ?_); rintro e w4 ⟨A5, c5, A6, c6, rfl, hblk, hkc6, hv, hrc5, hr, hg⟩; rw [HLL.out] at hblk hkc6 hv; rw [HJL.out] at hrc5 hr; rw [HJL.out]; have HQ4 := Aside0.mk hblk; have HW4 := Aside0.mk hv; have HR4 := Aside0.mk hr; have HP4 := Aside0.mk (blkGrown HP3.out hg HNE.out); have HV4 := Aside0.mk (C_grown_buf HV3.out HQ3.out hg); have HB4 := Aside0.mk (belowGrown HB3.out hg (by have h1 := HN2.out.bp; have h2 := HB1.out.size; omega)); have xp4 := HP4.out.cell (j := 0) (v := .slice A4 k c4) rfl; have xq4 := HQ4.out.cell (j := 0) (v := .slice A6 k c6) rfl; clear hblk hv hr hg)))
    | go_quiet (fail))
  have HXX : Aside0 (∀ W1, Below w4.heap.size w4 W1 → W1.cell? ⟨p1, 0, none⟩ = some (.slice A4 k c4) ∧ W1.cell? ⟨p2, 0, none⟩ = some (.slice A6 k c6)) := ⟨fun W1 h => ⟨(h.cell HP4.out.lt).trans xp4, (h.cell HQ4.out.lt).trans xq4⟩⟩
  have hbq := drewN_below w4 nq
  generalize w4.drewN nq = wz at *
  have HBr : Aside0 (Below w4.heap.size w4 wz.drew) := ⟨hbq.drew⟩
  clear hbq
  have HCALL : Aside0 (∀ W1, Below w4.heap.size w4 W1 → Calls Tryd.prog 100 #[.slice none 0 0, .slice A5 M c5, .int .i64 s, .slice A4 k c4, .slice A6 k c6] W1 fun e w' => ∃ v, e = .returned (.tuple #[v, .nilIface]) ∧ Own w' W1.heap.size 5 .u8 v (joinL ls) ∧ Below W1.heap.size W1 w') := ⟨fun W1 h => decBF_calls s A5 M c5 A4 c4 A6 c6 k ls ns W1 (Kd.C_below HR4.out h) hrc5 (Kd.C_below HV4.out h) hkc (Kd.C_below HW4.out h) hkc6 HKL.out hk9 HS.out HF.out⟩
  have HBW : Aside0 (∀ W1, Below w4.heap.size w4 W1 → Below w.heap.size w W1) := ⟨fun W1 h => HB4.out.trans (h.mono HB4.out.size)⟩
  go_region_held3 (fun (w9 : World) => w9.cell? ⟨p1, 0, none⟩ = some (.slice A4 k c4) ∧ w9.cell? ⟨p2, 0, none⟩ = some (.slice A6 k c6))
    (first | exact HXX.out _ HB5.out | exact HXX.out _ HBr.out)
    ((first
      | (go_at_call 100; (with_reducible refine (HCALL.out _ HBr.out).mono ?_); rintro e w5 ⟨v5, rfl, ho, hb⟩; have HB5 := Aside0.mk (HBr.out.trans (hb.mono HBr.out.size)); have HSZ := Aside0.mk (HBW.out _ HBr.out).size; have HO5 := Aside0.mk (Own.lower ho HSZ.out); clear ho hb)
      | fail "no arm"))
  go_wp2_with (fail)
  refine leaves_cons (f := 75) (args := #[.pointer (some ⟨p2, 0, none⟩)]) (by simp) (by simp [go_sem]) ?_
  refine (putBuf_d _ _ _).mono ?_
  rintro e u' w'' ⟨rfl, rfl, rfl⟩
  refine leaves_cons (u := .returning) (f := 75) (args := #[.pointer (some ⟨p1, 0, none⟩)]) (by simp) (by simp [go_sem]) ?_
  refine (putBuf_d _ _ _).mono ?_
  rintro e u' w'' ⟨rfl, rfl, rfl⟩
  exact ⟨_, results_tmp2 rfl _ _ _, _, rfl, HO5.out, HBW.out _ HB5.out⟩
end Go.Proofs.YtigmcdpjlkgocaaDoor.Dfg
