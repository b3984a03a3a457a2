import Derived.Test.YtigmcdpjlkgocaaDoorDfp
import Derived.Test.YtigmcdpjlkgocaaDoorDlq
import Derived.Deep.CutRange
/-! Texts with shared fronts: the statements' writer. -/
namespace Go.Proofs.YtigmcdpjlkgocaaDoor.Dfq
open Go.Proofs.YtigmcdpjlkgocaaDoor.Dlq Go.Proofs.YtigmcdpjlkgocaaDoor.Dby Go.Proofs.YtigmcdpjlkgocaaDoor.Dbp Go.Proofs.YtigmcdpjlkgocaaDoor.Dfm Go.Proofs.YtigmcdpjlkgocaaDoor.Dfp Go.Proofs.YtigmcdpjlkgocaaDoor.Dls Go.Proofs.YtigmcdpjlkgocaaDoor.Dlp Go.Proofs.YtigmcdpjlkgocaaDoor.Dre Go.Proofs.YtigmcdpjlkgocaaDoor.Dle Go.Proofs.YtigmcdpjlkgocaaDoor.Dib Go.Proofs.YtigmcdpjlkgocaaDoor.Dew Go.Proofs.YtigmcdpjlkgocaaDoor.Dtx Go.Proofs.YtigmcdpjlkgocaaDoor.Dct Go.Proofs.YtigmcdpjlkgocaaDoor.Dst Go.Proofs.YtigmcdpjlkgocaaDoor.Deo Go.Proofs.YtigmcdpjlkgocaaDoor.Den Go.Proofs.YtigmcdpjlkgocaaDoor.Deb Go.Proofs.YtigmcdpjlkgocaaDoor.Dds Go.Proofs.YtigmcdpjlkgocaaDoor.Dpu Go.Proofs.YtigmcdpjlkgocaaDoor.Pak Go.Proofs.YtigmcdpjlkgocaaDoor.Buf Go.Proofs.YtigmcdpjlkgocaaDoor.Fit Go.Proofs.YtigmcdpjlkgocaaDoor.Bit Go.Proofs.YtigmcdpjlkgocaaDoor.Wrd Go.Proofs.YtigmcdpjlkgocaaDoor.Spl Go.Proofs.YtigmcdpjlkgocaaDoor.Str Go.Proofs.YtigmcdpjlkgocaaDoor.Flt Go.Proofs.YtigmcdpjlkgocaaDoor.Owe Go.Proofs.YtigmcdpjlkgocaaDoor.Num Go.Proofs.YtigmcdpjlkgocaaDoor.Le Go.Proofs.YtigmcdpjlkgocaaDoor.Lst Go.Proofs.YtigmcdpjlkgocaaDoor.Aid Go.RowKit Go.Proofs.YtigmcdpjlkgocaaDoorW.PrintWords Go.Proofs.YtigmcdpjlkgocaaDoorW.PrintLast Go.Proofs.YtigmcdpjlkgocaaDoorW.PrintMore
set_option linter.unusedVariables false
set_option linter.unusedSimpArgs false
theorem take_grow {xs ys : List Int} {i : Nat} (h : xs.take i = ys.take i) (h1 : i < xs.length) (h2 : i < ys.length) (e : rd xs (i : Nat) = rd ys (i : Nat)) : xs.take (i + 1) = ys.take (i + 1) := by
  rw [List.take_succ_eq_append_getElem h1, List.take_succ_eq_append_getElem h2, h, ← rd_nat xs i h1, ← rd_nat ys i h2, e]
theorem mask_any2 (a : Int) (M : Nat) (hM : M < 4611686018427387904) : ∃ r : Nat, Go.bits .and .i64 a (M : Int) = (r : Int) ∧ r ≤ M := by
  have h : Go.bits .and .i64 a (M : Int) = IntKind.i64.wrap (((BitVec.ofInt 64 a &&& BitVec.ofInt 64 (M : Int)).toNat : Nat) : Int) := rfl
  have h2 : (BitVec.ofInt 64 a &&& BitVec.ofInt 64 (M : Int)).toNat ≤ M := by
    rw [BitVec.toNat_and]
    refine Nat.le_trans Nat.and_le_right ?_
    rw [BitVec.toNat_ofInt]
    omega
  refine ⟨(BitVec.ofInt 64 a &&& BitVec.ofInt 64 (M : Int)).toNat, ?_, h2⟩
  rw [h, IntWalk.i64_in _ (by omega)]
/-- how much two texts have in common, at least -/
structure ComAt (xs ys : List Int) (n : Nat) : Prop where
  le1 : n ≤ xs.length
  le2 : n ≤ ys.length
  eq : xs.take n = ys.take n
set_option maxHeartbeats 4000000 in
set_option maxRecDepth 100000 in
theorem common_calls (A : Option Addr) (na ca : Nat) (B : Option Addr) (nb cb : Nat) (xs ys : List Int) (w : World) (hA : (Kd.int .u8).C w A na xs) (hB : (Kd.int .u8).C w B nb ys) (ha9 : na ≤ 2147483647) (hb9 : nb ≤ 2147483647) :
    Calls Tryd.prog 44 #[.slice A na ca, .slice B nb cb] w fun e w' => ∃ n : Nat, e = .returned (.int .i64 n) ∧ ComAt xs ys n ∧ Drawn0 w w' := by
  have HXL : Aside0 (xs.length = na) := ⟨hA.1⟩
  have HYL : Aside0 (ys.length = nb) := ⟨hB.1⟩
  have HA := Aside0.mk hA
  have HB := Aside0.mk hB
  clear hA hB
  go_enter Tryd.func44, Tryd.ntmps44
  go_wp2_with (fail)
  go_loopg [5] na (fun kq v5 w' => ∃ (i : Nat), i ≤ na ∧ v5 = .int .i64 i ∧ Aside0 (ComAt xs ys i) ∧ Aside0 (Drawn0 w w') ∧ Aside0 (na - i ≤ kq))
  case atStart => exact ⟨0, by omega, rfl, ⟨⟨Nat.zero_le _, Nat.zero_le _, by simp⟩⟩, ⟨Drawn0.refl _⟩, ⟨by omega⟩⟩
  case round =>
    obtain ⟨i, hi, rfl, HCA, HD, HK⟩ := hrel
    by_cases c1 : i < na
    · have q1 : decide ((i : Int) < (na : Int)) = true := decide_eq_true (by omega)
      have q1n : decide (i < na) = true := decide_eq_true c1
      by_cases c2 : i < nb
      · have q2 : decide ((i : Int) < (nb : Int)) = true := decide_eq_true (by omega)
        have q2n : decide (i < nb) = true := decide_eq_true c2
        obtain ⟨ad, ead, x0⟩ := Kd.at_int (Kd.C_below HA.out HD.out.below) (i : Int) (by omega) (by omega)
        obtain ⟨bd, ebd, y0⟩ := Kd.at_int (Kd.C_below HB.out HD.out.below) (i : Int) (by omega) (by omega)
        rw [Int.toNat_natCast] at x0 y0
        obtain ⟨x, hx⟩ : ∃ x, rd xs (i : Nat) = x := ⟨_, rfl⟩
        obtain ⟨y, hy⟩ : ∃ y, rd ys (i : Nat) = y := ⟨_, rfl⟩
        rw [hx] at x0
        rw [hy] at y0
        have HX := Aside0.mk hx
        have HY := Aside0.mk hy
        have b0 := World.block_lt_of_cell? wr _ x0
        have b1 := World.block_lt_of_cell? wr _ y0
        have qi1 : ((i : Int) < (na : Int)) = True := eq_true (by omega)
        have qi2 : ((i : Int) < (nb : Int)) = True := eq_true (by omega)
        have qi3 : (i < na) = True := eq_true c1
        have qi4 : (i < nb) = True := eq_true c2
        have qi0 : ((0 : Int) ≤ (i : Int)) = True := eq_true (by omega)
        clear hx hy
        subst ead ebd
        by_cases e : x = y
        · subst e
          go_wp2_with (first | go_quiet (fail))
          go_roundg (gk - 1)
          case measure => have := HK.out; omega
          case rel => exact ⟨i + 1, by omega, by go_num, ⟨⟨by rw [HXL.out]; omega, by rw [HYL.out]; omega, take_grow HCA.out.eq (by rw [HXL.out]; exact c1) (by rw [HYL.out]; exact c2) (by rw [HX.out, HY.out])⟩⟩, ⟨drawnTrans HD.out ⟨⟨_, rfl⟩⟩⟩, ⟨by have := HK.out; omega⟩⟩
        · have qe : decide (x = y) = false := decide_eq_false e
          have qe2 : (x == y) = false := by simpa using e
          go_wp2_with (first | go_quiet (fail))
          go_ret
          exact ⟨i, rfl, HCA.out, drawnTrans HD.out ⟨⟨_, rfl⟩⟩⟩
      · have q2 : decide ((i : Int) < (nb : Int)) = false := decide_eq_false (by omega)
        have q2n : decide (i < nb) = false := decide_eq_false c2
        go_wp2_with (first | go_quiet (fail))
        go_ret
        exact ⟨i, rfl, HCA.out, drawnTrans HD.out ⟨⟨_, rfl⟩⟩⟩
    · obtain rfl : i = na := by omega
      have q1 : decide ((i : Int) < (i : Int)) = false := decide_eq_false (by omega)
      go_wp2_with (first | go_quiet (fail))
      go_ret
      exact ⟨i, rfl, HCA.out, drawnTrans HD.out ⟨⟨_, rfl⟩⟩⟩
set_option maxHeartbeats 16000000 in
set_option maxRecDepth 100000 in
theorem frontBytesS_calls (t : Nat) (B P S : Nat) (Am : Option Addr) (nm cm : Nat) (mr : List Int) (A : Option Addr) (n c : Nat) (ls : List (List Int)) (La : Option Addr) (nl cl : Nat) (lz : List Int) (W : World) (hC : (Kd.slice t (Kd.int .u8)).C W A n ls) (hc : n ≤ c) (hn : n ≤ 100000) (hs : sumLen ls ≤ 100000)
    (hL : (Kd.int .i64).C W La nl lz) (hcl : nl ≤ cl) (hnl : nl ≤ 1000) (hM : (Kd.int .i64).C W Am nm mr) (hcm : nm ≤ cm) (hnm : nm ≤ 100) (hmr : ∀ x ∈ mr, 0 ≤ x ∧ x ≤ 64) (hB : B = P * S) (hB1 : 128 ≤ B) (hB9 : B ≤ 1024) (hBm : B % 128 = 0) (hS : S % 32 = 0) (hP : 0 < P) (hP9 : P ≤ 32) :
    Calls Tryd.prog 20 #[.slice A n c, .slice La nl cl, .agg #[.int .i64 B, .int .i64 P, .slice Am nm cm]] W fun e w' => ∃ v X, e = .returned v ∧ Own w' W.heap.size 5 .u8 v X ∧ FrStr ls X B P S ∧ X.length ≤ 5000000 ∧ Below W.heap.size W w' := by
  have HLN : Aside0 (ls.length = n) := ⟨hC.1⟩
  have HC := Aside0.mk hC
  have HM := Aside0.mk hM
  have HL := Aside0.mk hL
  have HS := Aside0.mk hs
  have HMR := Aside0.mk hmr
  have HBS := Aside0.mk hB
  have HBm := Aside0.mk hBm
  have HSm := Aside0.mk hS
  obtain ⟨x0, x1, x2⟩ := form_cells W B P Am nm cm
  have hlt0 : W.heap.size < (W.alloc (.cells #[.int .i64 B, .int .i64 P, .slice Am nm cm] 25)).heap.size := by simp
  have hB0 : Aside0 (Below W.heap.size W (W.alloc (.cells #[.int .i64 B, .int .i64 P, .slice Am nm cm] 25))) := ⟨(Below.refl _ _).alloc (Nat.le_refl _) _⟩
  have HXX : Aside0 ((W.alloc (.cells #[.int .i64 B, .int .i64 P, .slice Am nm cm] 25)).cell? ⟨W.heap.size, 0, none⟩ = some (.int .i64 B) ∧ (W.alloc (.cells #[.int .i64 B, .int .i64 P, .slice Am nm cm] 25)).cell? ⟨W.heap.size, 1, none⟩ = some (.int .i64 P) ∧ (W.alloc (.cells #[.int .i64 B, .int .i64 P, .slice Am nm cm] 25)).cell? ⟨W.heap.size, 2, none⟩ = some (.slice Am nm cm)) := ⟨⟨x0, x1, x2⟩⟩
  obtain ⟨i8, h8⟩ := h8
  clear hC hM hL hs hmr hB hBm hS x0 x1 x2
  go_enter Tryd.func20, Tryd.ntmps20
  go_wp2_with (fail)
  obtain ⟨w0, hw0⟩ : ∃ w0, W.alloc (.cells #[.int .i64 B, .int .i64 P, .slice Am nm cm] 25) = w0 := ⟨_, rfl⟩
  rw [hw0] at hB0 HXX hlt0 ⊢
  have HWC : Aside0 (∀ W1, Below w0.heap.size w0 W1 → Below W.heap.size W W1) := ⟨fun W1 h => hB0.out.trans (h.mono (Nat.le_of_lt hlt0))⟩
  clear hw0
  have HD0 : Aside0 (Own w0 w0.heap.size 2 .i64 (.slice none 0 0) (intsL [])) := ⟨Own.nil _ _ _ _⟩
  have HT0 : Aside0 (OwnE encS w0 w0.heap.size 29 (.slice none 0 0) []) := ⟨OwnE.nil _ _ _ _⟩
  have HV0 : Aside0 (∀ W1, Below w0.heap.size w0 W1 → Views W1 (tailsL ls []) []) := ⟨fun W1 _ => ⟨by simp [tailsL], fun j l h => by simp [tailsL] at h⟩⟩
  have HB0 : Aside0 (Below w0.heap.size w0 w0) := ⟨Below.refl _ _⟩
  go_loopg [7, 8, 9, 10, 11, 14] n (fun kq v7 v8 v9 v10 v11 v14 w' => ∃ (j : Nat) (ns : List Nat) (zs : List (Option Addr × Nat × Nat)), j ≤ n ∧ v14 = .int .i64 j ∧ Aside0 (ns.length = j) ∧ Aside0 (∀ i : Nat, i < j → FrAt ls i (ns.getD i 0)) ∧ Aside0 (Own w' w0.heap.size 2 .i64 v7 (intsL ns)) ∧ Aside0 (OwnE encS w' w0.heap.size 29 v8 zs) ∧ Aside0 (∀ W1, Below w0.heap.size w0 W1 → Views W1 (tailsL ls ns) zs) ∧ Aside0 (Below w0.heap.size w0 w') ∧ Aside0 (n - j ≤ kq))
  case atStart => exact ⟨0, [], [], by omega, rfl, ⟨rfl⟩, ⟨fun i hi => by omega⟩, HD0, HT0, HV0, HB0, ⟨by omega⟩⟩
  case round =>
    clear HD0 HT0 HV0 HB0
    obtain ⟨j, ns, zs, hj, rfl, HNJ, HFA, HO, HT, HV, HB, HK⟩ := hrel
    by_cases cj : j < n
    · have cjb : decide ((j : Int) < n) = true := decide_eq_true (by omega)
      have cjn : decide (j < n) = true := decide_eq_true cj
      obtain ⟨ad, Aj, cj', ead, hcell, hle, hCj⟩ := at_list (Kd.C_below HC.out (HWC.out _ HB.out)) j cj
      have hj9 : (ls.getD j []).length ≤ 100000 := by
        have h1 := sumLen_take ls j (by rw [HLN.out]; exact cj)
        have h2 := sumLen_le ls (j + 1)
        have := HS.out; omega
      obtain ⟨m, hm⟩ : ∃ m, (ls.getD j []).length = m := ⟨_, rfl⟩
      rw [hm] at hcell hle hCj hj9
      have HMJ := Aside0.mk hm
      have HCJ := Aside0.mk hCj
      clear hm hCj
      subst ead
      have qi1 : (j : Int) < (n : Int) := by omega
      go_upto_if 20 with (fail)
      go_cut [11, 14] from 14 to 52 (fun v11 v14 wx => ∃ n0 : Nat, v14 = .int .i64 j ∧ v11 = .int .i64 n0 ∧ n0 ≤ m ∧ Aside0 (FrAt ls j n0) ∧ Aside0 (Drawn0 wr wx))
      case first =>
        by_cases c0 : j = 0
        · have q0 : decide (0 < (j : Int)) = false := decide_eq_false (by omega)
          have q0n : decide (0 < j) = false := decide_eq_false (by omega)
          have q0p : ¬ 0 < j := by omega
          clear c0
          go_wp2_with (fail)
          go_meet
          exact ⟨0, rfl, rfl, Nat.zero_le _, ⟨FrAt.zero ls j⟩, ⟨Drawn0.refl _⟩⟩
        · have q0 : decide (0 < (j : Int)) = true := decide_eq_true (by omega)
          have q0n : decide (0 < j) = true := decide_eq_true (by omega)
          have q0p : 0 < j := by omega
          obtain ⟨i, hi⟩ : ∃ i, j = i + 1 := ⟨j - 1, by omega⟩
          have hji : (j : Int) - 1 = (i : Int) := by omega
          have hpv : prevL ls j = ls.getD i [] := by rw [hi]; rfl
          obtain ⟨ad', Ai, ci, ead', hcell', hle', hCi⟩ := at_list (Kd.C_below HC.out (HWC.out _ HB.out)) i (by omega)
          obtain rfl : ad = ad' := by injection ead'
          have hi9 : (ls.getD i []).length ≤ 100000 := by
            have h1 := sumLen_take ls i (by rw [HLN.out]; omega)
            have h2 := sumLen_le ls (i + 1)
            have := HS.out; omega
          obtain ⟨mi, hmi⟩ : ∃ mi, (ls.getD i []).length = mi := ⟨_, rfl⟩
          rw [hmi] at hcell' hle' hCi hi9
          have HCC := Aside0.mk (common_calls Ai mi ci Aj m cj' (ls.getD i []) (ls.getD j []) wr hCi HCJ.out (by omega) (by omega))
          have HPV := Aside0.mk hpv
          have hi0 : (0 : Int) ≤ (i : Int) := by omega
          have hin : (i : Int) < (n : Int) := by omega
          have hin2 : i < n := by omega
          have bi := World.block_lt_of_cell? wr _ hcell'
          clear hi hpv hmi hCi
          go_wp2_with (first
            | (go_at_call 44; go_loud (with_reducible refine HCC.out.mono ?_); rintro e w2 ⟨n0, rfl, hca, hd⟩; have HCA := Aside0.mk hca; have HD := Aside0.mk hd; clear hca hd))
          go_meet
          exact ⟨n0, rfl, rfl, by have := HCA.out.le2; rw [HMJ.out] at this; exact this, ⟨⟨by rw [HPV.out]; exact HCA.out.le1, HCA.out.le2, by rw [HPV.out]; exact HCA.out.eq⟩⟩, HD⟩
      case rest =>
      obtain ⟨n0, rfl, rfl, hn0, HF0, HD0⟩ := hcut
      go_upto_if 30 with (fail)
      go_cut [11, 14] from 14 to 52 (fun v11 v14 wx => ∃ n1 : Nat, v14 = .int .i64 j ∧ v11 = .int .i64 n1 ∧ n1 ≤ m ∧ Aside0 (FrAt ls j n1) ∧ Aside0 (Drawn0 wr wx))
      case first =>
        by_cases c0 : nl = 0
        · have q0 : decide (0 < (nl : Int)) = false := decide_eq_false (by omega)
          have q0n : decide (0 < nl) = false := decide_eq_false (by omega)
          have q0p : ¬ 0 < nl := by omega
          clear c0
          go_wp2_with (fail)
          go_meet
          exact ⟨n0, rfl, rfl, hn0, HF0, HD0⟩
        · have q0 : decide (0 < (nl : Int)) = true := decide_eq_true (by omega)
          have q0n : decide (0 < nl) = true := decide_eq_true (by omega)
          have q0p : 0 < nl := by omega
          obtain ⟨k, hk⟩ : ∃ k, j % nl = k := ⟨_, rfl⟩
          have hkl : k < nl := by rw [← hk]; exact Nat.mod_lt _ (by omega)
          have hkt : (j : Int).tmod (nl : Int) = (k : Int) := by rw [Int.tmod_eq_emod_of_nonneg (by omega), ← hk]; rfl
          obtain ⟨ld, eld, y0⟩ := Kd.at_int (Kd.C_below HL.out ((HWC.out _ HB.out).trans (HD0.out.below.mono (HWC.out _ HB.out).size))) (k : Int) (by omega) (by omega)
          rw [Int.toNat_natCast] at y0
          obtain ⟨x, hx⟩ : ∃ x, rd lz (k : Nat) = x := ⟨_, rfl⟩
          rw [hx] at y0
          obtain ⟨mm, hmm, hm9⟩ := mask_any2 x 255 (by decide)
          have e1 : ((255 : Nat) : Int) = 255 := rfl
          rw [e1] at hmm
          have hk2 : (j : Int) % (nl : Int) = (k : Int) := by rw [← hk]; rfl
          have hk3 : ((j % nl : Nat) : Int) = (k : Int) := by rw [hk]
          have hk0 : (0 : Int) ≤ (k : Int) := by omega
          have hk1 : (k : Int) < (nl : Int) := by omega
          have hnl0 : ((nl : Int) == 0) = false := by simpa using (show (nl : Int) ≠ 0 by omega)
          have hnl0' : (nl : Int) ≠ 0 := by omega
          have bl := World.block_lt_of_cell? _ _ y0
          clear hk hx e1
          subst eld
          by_cases cm : mm < n0
          · have qm : decide (0 < (n0 : Int) - (mm : Int)) = true := decide_eq_true (by omega)
            have qm2 : 0 < (n0 : Int) - (mm : Int) := by omega
            obtain ⟨n1, hn1⟩ : ∃ n1, n0 - mm = n1 := ⟨_, rfl⟩
            have hn1i : (n0 : Int) - (mm : Int) = (n1 : Int) := by omega
            have hn1p : 0 < n1 := by omega
            have qn1 : decide (0 < (n1 : Int)) = true := decide_eq_true (by omega)
            have hn1l : n1 ≤ n0 := by omega
            clear hn1 qm qm2
            go_wp2_with (fail)
            go_meet
            exact ⟨n1, rfl, rfl, by omega, ⟨HF0.out.less hn1l⟩, HD0⟩
          · have qm : decide (0 < (n0 : Int) - (mm : Int)) = false := decide_eq_false (by omega)
            have qm2 : ¬ 0 < (n0 : Int) - (mm : Int) := by omega
            go_wp2_with (fail)
            go_meet
            exact ⟨0, rfl, by rw [Int.max_eq_left (by omega)]; rfl, Nat.zero_le _, ⟨FrAt.zero ls j⟩, HD0⟩
      case rest =>
      obtain ⟨n1, rfl, rfl, hn1, HF1, HD1⟩ := hcut
      have HO1 := Aside0.mk (HO.out.below HD1.out.below)
      have HT1 := Aside0.mk (HT.out.below HD1.out.below)
      have HB1 := Aside0.mk (HB.out.trans (HD1.out.below.mono HB.out.size))
      have HCJ1 : Aside0 (∀ W1, Below w0.heap.size w0 W1 → (Kd.int .u8).C W1 Aj m (ls.getD j [])) := ⟨fun W1 h => by
        obtain ⟨ad', Ai, ci, ead', hcell', hle', hCi⟩ := at_list (Kd.C_below HC.out (HWC.out _ h)) j cj
        have e1 := (Kd.C_below HC.out (HWC.out _ h))
        obtain rfl : ad = ad' := by injection ead'
        have hca := hcell
        have h0 := at_list HC.out j cj
        obtain ⟨ad2, A2, c2, e2, hc2, hl2, hC2⟩ := h0
        obtain rfl : ad = ad2 := by injection e2
        have hs2 := (HWC.out _ HB.out).cell (World.block_lt_of_cell? W _ hc2)
        rw [hc2, hca] at hs2
        injection hs2 with hs2
        injection hs2 with hs3 hs4 hs5
        rw [hs3]
        have := Kd.C_below hC2 (HWC.out _ h)
        rw [HMJ.out] at this
        exact this⟩
      obtain ⟨q, hq⟩ : ∃ q, m - n1 = q := ⟨_, rfl⟩
      obtain ⟨Aq, cutq, hCq⟩ := cutLo (P := Tryd.prog) 29 5 Tryd.underlying29 h8.1 h8.2 Aj m cj' .i64 (n1 : Int) n1 rfl hn1 hle
      have HTQ : Aside0 (((ls.getD j []).drop n1).length = q) := ⟨by rw [List.length_drop, HMJ.out]; exact hq⟩
      have HCQ : Aside0 (∀ W1, Below w0.heap.size w0 W1 → (Kd.int .u8).C W1 Aq q ((ls.getD j []).drop n1)) := ⟨fun W1 h => by have := hCq (Kd.int .u8) W1 _ rfl (HCJ1.out W1 h); rw [hq] at this; exact this⟩
      rw [hq] at cutq
      have hqc : q ≤ cj' - n1 := by omega
      have HIL : Aside0 ((intsL ns).length = j) := ⟨by rw [intsL_length]; exact HNJ.out⟩
      have HZL : Aside0 (zs.length = j) := ⟨by rw [(HV.out wr HB.out).len, tailsL_length]; exact HNJ.out⟩
      clear hq hCq hcell HO HT
      go_wp2_with (first
        | (at_builtin; go_loud (refine appendOwn (w0 := w0) w0.heap.size rfl (.tmp 42) (.tmp 44) 22 2 .i64 8 rfl Tryd.underlying22 infoI64l (by decide) u7 (intsL ns) n1 rfl rfl HO1.out HB1.out ?hb ?hl ?_); (case hb => exact HB1.out.size); (case hl => rw [HIL.out]; omega); intro v2 w2 ho hb hg; have HT2 := Aside0.mk (HT1.out.grown hg (own_type_ne HT1.out.out HO1.out.out (by decide))); have HO2 := Aside0.mk ho; have HB2 := Aside0.mk hb; clear ho hb hg)
        | (at_builtin; go_loud (refine appendOneE (w0 := w0) encS w0.heap.size rfl (.tmp 46) (.tmp 50) 35 29 (.slice none 0 0) 24 rfl Tryd.underlying35 infoSl2 rfl (by decide) u8 zs (Aq, q, cj' - n1) rfl rfl rfl HT2.out HB2.out ?hb ?hl ?_); (case hb => exact HB2.out.size); (case hl => rw [HZL.out]; omega); intro v3 w3 ho hb hg; have HO3 := Aside0.mk (HO2.out.grown hg (own_type_ne HO2.out.out HT2.out.out (by decide))); have HT3 := Aside0.mk ho; have HB3 := Aside0.mk hb; clear ho hb hg))
      go_roundg (gk - 1)
      case measure => have := HK.out; omega
      case rel =>
        refine ⟨j + 1, ns ++ [n1], zs ++ [(Aq, q, cj' - n1)], by omega, by go_num, ⟨by rw [List.length_append, HNJ.out]; rfl⟩, ⟨fun i hi => ?_⟩, ⟨by rw [intsL_snoc]; exact HO3.out⟩, HT3, ⟨fun W1 hW => ?_⟩, HB3, ⟨by have := HK.out; omega⟩⟩
        · have hnj := HNJ.out
          by_cases h : i < j
          · rw [List.getD_eq_getElem?_getD, List.getElem?_append_left (by omega), ← List.getD_eq_getElem?_getD]; exact HFA.out i h
          · obtain rfl : i = j := by omega
            rw [List.getD_eq_getElem?_getD, List.getElem?_append_right (by omega), hnj, Nat.sub_self]; exact HF1.out
        · rw [tailsL_snoc, HNJ.out]
          have h := (HV.out W1 hW).snoc (by rw [HTQ.out]; exact hqc) (by rw [HTQ.out]; exact HCQ.out W1 hW)
          rw [HTQ.out] at h
          exact h
    · obtain rfl : j = n := by omega
      have cjb : decide ((j : Int) < j) = false := decide_eq_false (by omega)
      have HFO : Aside0 (FrOk ls ns) := ⟨⟨by rw [HNJ.out, HLN.out], fun i hi => HFA.out i (by rw [← HLN.out]; exact hi)⟩⟩
      have HIL : Aside0 ((intsL ns).length = j) := ⟨by rw [intsL_length]; exact HNJ.out⟩
      have HTL : Aside0 ((tailsL ls ns).length = j) := ⟨by rw [tailsL_length]; exact HNJ.out⟩
      obtain ⟨A7, c7, e7, hc7, hr7⟩ := HO.out.read
      obtain ⟨A8, c8, e8, hc8, hr8⟩ := views_C HT.out (HV.out wr HB.out) 5
      rw [HIL.out] at e7 hc7 hr7
      rw [HTL.out] at e8 hc8 hr8
      subst e7 e8
      have HR7 := Aside0.mk hr7
      have HR8 := Aside0.mk hr8
      have HSL : Aside0 (sumLen (tailsL ls ns) ≤ 100000) := ⟨Nat.le_trans (tails_le HFO.out.len) HS.out⟩
      have HIB := Aside0.mk (intsL_bd HFO.out HS.out)
      have HXA : Aside0 (∀ W1, Below w0.heap.size w0 W1 → W1.cell? ⟨W.heap.size, 0, none⟩ = some (.int .i64 B) ∧ W1.cell? ⟨W.heap.size, 1, none⟩ = some (.int .i64 P) ∧ W1.cell? ⟨W.heap.size, 2, none⟩ = some (.slice Am nm cm)) := ⟨fun W1 h => ⟨(h.cell hlt0).trans HXX.out.1, (h.cell hlt0).trans HXX.out.2.1, (h.cell hlt0).trans HXX.out.2.2⟩⟩
      have HBd : Aside0 (Below wr.heap.size wr wr.drew) := ⟨(Below.refl _ _).drew⟩
      have HXW : Aside0 (∀ W1, Below wr.heap.size wr W1 → Below w0.heap.size w0 W1) := ⟨fun W1 h => HB.out.trans (h.mono HB.out.size)⟩
      have HDB : Aside0 (∀ W1, Below wr.heap.size wr W1 → Calls Tryd.prog 14 #[.int .i64 32, .slice A7 j c7, .agg #[.int .i64 B, .int .i64 P, .slice Am nm cm]] W1 fun e w' => ∃ v bs, e = .returned v ∧ Own w' W1.heap.size 5 .u8 v (hdG B P j (fstI (intsL ns)) ++ blksB bs) ∧ strOk 32 P S (j - 1) bs ∧ (fstI (intsL ns) :: blksV .i32 (fstI (intsL ns)) bs).take j = intsL ns ∧ (blksB bs).length ≤ 1000000 ∧ Below W1.heap.size W1 w') := ⟨fun W1 h => deltaBytes32_calls B P S Am nm cm mr A7 j c7 (intsL ns) W1 (Kd.C_below HR7.out h) hc7 hn HIB.out (Kd.C_below HM.out (HWC.out _ (HXW.out _ h))) hcm hnm HMR.out HBS.out hB1 hB9 HSm.out hP hP9⟩
      have HLB : Aside0 (∀ W1, Below wr.heap.size wr W1 → Calls Tryd.prog 22 #[.slice A8 j c8, .agg #[.int .i64 B, .int .i64 P, .slice Am nm cm]] W1 fun e w' => ∃ v X, e = .returned v ∧ Own w' W1.heap.size 5 .u8 v X ∧ LenStr (tailsL ls ns) X B P S ∧ X.length ≤ 2000000 ∧ Below W1.heap.size W1 w') := ⟨fun W1 h => by
        refine (lengthBytes_calls 5 B P S Am nm cm mr A8 j c8 (tailsL ls ns) W1 (Kd.C_below HR8.out h) hc8 hn HSL.out (Kd.C_below HM.out (HWC.out _ (HXW.out _ h))) hcm hnm HMR.out HBS.out hB1 hB9 HBm.out HSm.out hP hP9).mono ?_
        rintro e w' ⟨v, X, bs, e1, ho, hX, hl, hb⟩
        exact ⟨v, X, e1, ho, ⟨bs, hX⟩, hl, hb⟩⟩
      clear hr7 hr8 HO HT HV
      go_wp2_with (fail)
      go_region_held3 (fun (w9 : World) => w9.cell? ⟨W.heap.size, 0, none⟩ = some (.int .i64 B) ∧ w9.cell? ⟨W.heap.size, 1, none⟩ = some (.int .i64 P) ∧ w9.cell? ⟨W.heap.size, 2, none⟩ = some (.slice Am nm cm))
        (first | exact HXA.out _ (HXW.out _ HB7.out) | exact HXA.out _ (HXW.out _ HB6.out) | exact HXA.out _ (HXW.out _ HB5.out) | exact HXA.out _ (HXW.out _ HBd.out))
        ((first
          | (go_at_call 14; (with_reducible refine (HDB.out _ HBd.out).mono ?_); rintro e w5 ⟨v5, bs, rfl, ho, hok, hv, hl, hb⟩; have HB5 := Aside0.mk (HBd.out.trans (hb.mono HBd.out.size)); have HO5 := Aside0.mk ho; have HOK := Aside0.mk hok; have HVV := Aside0.mk hv; have HLE := Aside0.mk hl; have HB45 := Aside0.mk hb; have HX9 : Aside0 ((hdG B P j (fstI (intsL ns)) ++ blksB bs).length ≤ 1000040) := (Aside0.mk (by have h1 := hdG_len B P j (fstI (intsL ns)) (by omega) (by omega) (by omega) (by have := (fstI_bd HIB.out).1; omega) (by have := (fstI_bd HIB.out).2; omega); rw [List.length_append]; omega)); clear ho hb hok hv hl)
          | (go_at_call 22; (with_reducible refine (HLB.out _ HB5.out).mono ?_); rintro e w6 ⟨v6, X6, rfl, ho, hX6, hl6, hb⟩; obtain ⟨A6, c6, rfl, hc6, hr6⟩ := ho.read; have HX6 := Aside0.mk hX6; obtain ⟨M6, hM6⟩ : ∃ M6, X6.length = M6 := ⟨_, rfl⟩; rw [hM6] at hc6 hr6 hl6; rw [hM6]; have HM6 := Aside0.mk hM6; have HR6 := Aside0.mk hr6; have HB6 := Aside0.mk (HB5.out.trans (hb.mono HB5.out.size)); have HO6 := Aside0.mk (HO5.out.below hb); have HB46 := Aside0.mk (HB45.out.trans (hb.mono HB45.out.size)); clear ho hb hr6 hX6 hM6)
          | (refine appendReadStep (w0 := wr.drew) wr.drew.heap.size (by rfl) (.tmp 55) (.tmp 58) 29 5 .u8 1 (by rfl) Tryd.underlying29 infoU8 (by decide) v5 _ A6 M6 c6 X6 (by rfl) (by rfl) HO6.out HB46.out HB46.out.size HR6.out ?hl ?_; (case hl => have := HX9.out; omega); intro v7 w7 ho hb hg; have HO7 := Aside0.mk ho; have HB7 := Aside0.mk (HBd.out.trans (hb.mono HBd.out.size)); clear ho hb hg)
          | fail "no arm"))
      go_wp2_with (fail)
      go_ret
      refine ⟨v7, _, rfl, Own.lower HO7.out (HWC.out _ (HXW.out _ HBd.out)).size, ⟨ns, X6, bs, HFO.out, ⟨by rw [HIL.out, List.append_assoc], HBS.out, HBm.out, HSm.out, hP, by omega, by omega, by rw [HIL.out]; exact HOK.out, by rw [HIL.out]; exact HVV.out, HIB.out⟩, HX6.out⟩, ?_, HWC.out _ (HXW.out _ HB7.out)⟩
      have h1 := HX9.out
      rw [List.length_append, HM6.out]
      omega
end Go.Proofs.YtigmcdpjlkgocaaDoor.Dfq
