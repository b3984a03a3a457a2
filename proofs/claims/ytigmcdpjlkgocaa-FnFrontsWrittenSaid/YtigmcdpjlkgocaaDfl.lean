import Derived.Test.YtigmcdpjlkgocaaDfp
import Derived.Test.YtigmcdpjlkgocaaDbz
import Derived.Deep.CutRange
/-! Texts with shared fronts: how much two texts share. -/
namespace Go.Proofs.Ytigmcdpjlkgocaa.Dfl
open Go.Proofs.Ytigmcdpjlkgocaa.Dby Go.Proofs.Ytigmcdpjlkgocaa.Dfp Go.Proofs.Ytigmcdpjlkgocaa.Dls Go.Proofs.Ytigmcdpjlkgocaa.Dlp Go.Proofs.Ytigmcdpjlkgocaa.Dre Go.Proofs.Ytigmcdpjlkgocaa.Dle Go.Proofs.Ytigmcdpjlkgocaa.Dib Go.Proofs.Ytigmcdpjlkgocaa.Dew Go.Proofs.Ytigmcdpjlkgocaa.Dtx Go.Proofs.Ytigmcdpjlkgocaa.Dct Go.Proofs.Ytigmcdpjlkgocaa.Dst Go.Proofs.Ytigmcdpjlkgocaa.Deo Go.Proofs.Ytigmcdpjlkgocaa.Den Go.Proofs.Ytigmcdpjlkgocaa.Deb Go.Proofs.Ytigmcdpjlkgocaa.Dds Go.Proofs.Ytigmcdpjlkgocaa.Dpu Go.Proofs.Ytigmcdpjlkgocaa.Pak Go.Proofs.Ytigmcdpjlkgocaa.Buf Go.Proofs.Ytigmcdpjlkgocaa.Fit Go.Proofs.Ytigmcdpjlkgocaa.Bit Go.Proofs.Ytigmcdpjlkgocaa.Wrd Go.Proofs.Ytigmcdpjlkgocaa.Spl Go.Proofs.Ytigmcdpjlkgocaa.Str Go.Proofs.Ytigmcdpjlkgocaa.Flt Go.Proofs.Ytigmcdpjlkgocaa.Owe Go.Proofs.Ytigmcdpjlkgocaa.Num Go.Proofs.Ytigmcdpjlkgocaa.Le Go.Proofs.Ytigmcdpjlkgocaa.Lst Go.Proofs.Ytigmcdpjlkgocaa.Aid Go.RowKit Go.Proofs.YtigmcdpjlkgocaaW.PrintWords Go.Proofs.YtigmcdpjlkgocaaW.PrintLast Go.Proofs.YtigmcdpjlkgocaaW.PrintMore
set_option linter.unusedVariables false
set_option linter.unusedSimpArgs false
theorem take_growL {xs ys : List Int} {i : Nat} (h : xs.take i = ys.take i) (h1 : i < xs.length) (h2 : i < ys.length) (e : rd xs (i : Nat) = rd ys (i : Nat)) : xs.take (i + 1) = ys.take (i + 1) := by
  rw [List.take_succ_eq_append_getElem h1, List.take_succ_eq_append_getElem h2, h, ← rd_nat xs i h1, ← rd_nat ys i h2, e]
/-- how much two texts have in common, at least -/
structure ComL (xs ys : List Int) (n : Nat) : Prop where
  le1 : n ≤ xs.length
  le2 : n ≤ ys.length
  eq : xs.take n = ys.take n
set_option maxHeartbeats 4000000 in
set_option maxRecDepth 100000 in
theorem linear_calls (A : Option Addr) (na ca : Nat) (B : Option Addr) (nb cb : Nat) (xs ys : List Int) (w : World) (hA : (Kd.int .u8).C w A na xs) (hB : (Kd.int .u8).C w B nb ys) (ha9 : na ≤ 2147483647) (hb9 : nb ≤ 2147483647) :
    Calls Try.prog 46 #[.slice A na ca, .slice B nb cb] w fun e w' => ∃ n : Nat, e = .returned (.int .i64 n) ∧ ComL xs ys n ∧ Drawn0 w w' := by
  have HXL : Aside0 (xs.length = na) := ⟨hA.1⟩
  have HYL : Aside0 (ys.length = nb) := ⟨hB.1⟩
  have HA := Aside0.mk hA
  have HB := Aside0.mk hB
  clear hA hB
  go_enter Try.func46, Try.ntmps46
  go_wp2_with (fail)
  go_loopg [4] na (fun kq v4 w' => ∃ (i : Nat), i ≤ na ∧ v4 = .int .i64 i ∧ Aside0 (ComL xs ys i) ∧ Aside0 (Drawn0 w w') ∧ Aside0 (na - i ≤ kq))
  case atStart => exact ⟨0, by omega, rfl, ⟨⟨Nat.zero_le _, Nat.zero_le _, by simp⟩⟩, ⟨Drawn0.refl _⟩, ⟨by omega⟩⟩
  case round =>
    obtain ⟨i, hi, rfl, HCA, HD, HK⟩ := hrel
    by_cases c1 : i < na
    · have q1 : decide ((i : Int) < (na : Int)) = true := decide_eq_true (by omega)
      have q1n : decide (i < na) = true := decide_eq_true c1
      by_cases c2 : i < nb
      · have q2 : decide ((i : Int) < (nb : Int)) = true := decide_eq_true (by omega)
        have q2n : decide (i < nb) = true := decide_eq_true c2
        obtain ⟨ad, ead, x0⟩ := Kd.at_int (Kd.C_below HA.out HD.out.below) (i : Int) (by omega) (by omega)
        obtain ⟨bd, ebd, y0⟩ := Kd.at_int (Kd.C_below HB.out HD.out.below) (i : Int) (by omega) (by omega)
        rw [Int.toNat_natCast] at x0 y0
        obtain ⟨x, hx⟩ : ∃ x, rd xs (i : Nat) = x := ⟨_, rfl⟩
        obtain ⟨y, hy⟩ : ∃ y, rd ys (i : Nat) = y := ⟨_, rfl⟩
        rw [hx] at x0
        rw [hy] at y0
        have HX := Aside0.mk hx
        have HY := Aside0.mk hy
        have b0 := World.block_lt_of_cell? wr _ x0
        have b1 := World.block_lt_of_cell? wr _ y0
        have qi1 : ((i : Int) < (na : Int)) = True := eq_true (by omega)
        have qi2 : ((i : Int) < (nb : Int)) = True := eq_true (by omega)
        have qi3 : (i < na) = True := eq_true c1
        have qi4 : (i < nb) = True := eq_true c2
        have qi0 : ((0 : Int) ≤ (i : Int)) = True := eq_true (by omega)
        clear hx hy
        subst ead ebd
        by_cases e : x = y
        · subst e
          go_wp2_with (first | go_quiet (fail))
          go_roundg (gk - 1)
          case measure => have := HK.out; omega
          case rel => exact ⟨i + 1, by omega, by go_num, ⟨⟨by rw [HXL.out]; omega, by rw [HYL.out]; omega, take_growL HCA.out.eq (by rw [HXL.out]; exact c1) (by rw [HYL.out]; exact c2) (by rw [HX.out, HY.out])⟩⟩, ⟨drawnTrans HD.out ⟨⟨_, rfl⟩⟩⟩, ⟨by have := HK.out; omega⟩⟩
        · have qe : decide (x = y) = false := decide_eq_false e
          have qe2 : (x == y) = false := by simpa using e
          go_wp2_with (first | go_quiet (fail))
          go_ret
          exact ⟨i, rfl, HCA.out, drawnTrans HD.out ⟨⟨_, rfl⟩⟩⟩
      · have q2 : decide ((i : Int) < (nb : Int)) = false := decide_eq_false (by omega)
        have q2n : decide (i < nb) = false := decide_eq_false c2
        go_wp2_with (first | go_quiet (fail))
        go_ret
        exact ⟨i, rfl, HCA.out, drawnTrans HD.out ⟨⟨_, rfl⟩⟩⟩
    · obtain rfl : i = na := by omega
      have q1 : decide ((i : Int) < (i : Int)) = false := decide_eq_false (by omega)
      go_wp2_with (first | go_quiet (fail))
      go_ret
      exact ⟨i, rfl, HCA.out, drawnTrans HD.out ⟨⟨_, rfl⟩⟩⟩
theorem toList_strOf (xs : List Int) : (strOfNums xs).toList = xs.map fun x => UInt8.ofNat x.toNat := by
  rw [ByteArray.toList_eq]; rfl
/-- an answer that says yes only where it is so -/
structure EqRes (w : World) (xs ys : List Int) (e : Ending) (w' : World) : Prop where
  mk :: (out : ∃ r : Bool, e = .returned (.bool r) ∧ (r = true → xs = ys) ∧ Drawn0 w w')
theorem bytes_inj : ∀ {xs ys : List Int}, bytesB xs = true → bytesB ys = true → xs.map (fun x => UInt8.ofNat x.toNat) = ys.map (fun x => UInt8.ofNat x.toNat) → xs = ys
  | [], [], _, _, _ => rfl
  | [], _ :: _, _, _, h => by simp at h
  | _ :: _, [], _, _, h => by simp at h
  | x :: xs, y :: ys, hx, hy, h => by
    simp only [List.map_cons, List.cons.injEq] at h
    have h1 := bytesB_mem hx x (List.mem_cons_self ..)
    have h2 := bytesB_mem hy y (List.mem_cons_self ..)
    have e := congrArg UInt8.toNat h.1
    simp only [UInt8.toNat_ofNat'] at e
    unfold byt at h1 h2
    have e2 : x = y := by
      have : x.toNat % 256 = y.toNat % 256 := e
      omega
    rw [e2, bytes_inj (bytesB_of fun z hz => bytesB_mem hx z (List.mem_cons_of_mem _ hz)) (bytesB_of fun z hz => bytesB_mem hy z (List.mem_cons_of_mem _ hz)) h.2]
set_option maxHeartbeats 4000000 in
theorem equal_calls (A0 A1 : Option Addr) (n0 n1 c0 c1 : Nat) (xs ys : List Int) (w : World) (h0 : (Kd.int .u8).C w A0 n0 xs) (h1 : (Kd.int .u8).C w A1 n1 ys) (hx : bytesB xs = true) (hy : bytesB ys = true) :
    Calls Try.prog 63 #[.slice A0 n0 c0, .slice A1 n1 c1] w (EqRes w xs ys) := by
  have hn : xs.length = n0 := h0.1
  subst hn
  have hn : ys.length = n1 := h1.1
  subst hn
  have hcv3 := Kd.C_string (P := Try.prog) (A := A0) (c := c0) Try.underlying23 Try.underlying5 Try.underlying9 h0
  have hcv4 := Kd.C_string (P := Try.prog) (A := A1) (c := c1) Try.underlying23 Try.underlying5 Try.underlying9 h1
  clear h0 h1
  go_enter Try.func63, Try.ntmps63
  go_wp2
  go_ret
  refine ⟨⟨_, rfl, fun h => ?_, Drawn0.refl _⟩⟩
  have h2 : (strOfNums xs).toList = (strOfNums ys).toList := eq_of_beq h
  rw [toList_strOf, toList_strOf] at h2
  exact bytes_inj hx hy h2
/-- the closure's answer: no only where the fronts agree -/
structure ClRes (w : World) (xs ys : List Int) (i : Nat) (e : Ending) (w' : World) : Prop where
  mk :: (out : ∃ r : Bool, e = .returned (.bool r) ∧ (r = false → xs.take (i + 1) = ys.take (i + 1)) ∧ Below w.heap.size w w')
set_option maxHeartbeats 4000000 in
set_option maxRecDepth 100000 in
theorem clos_calls (pa pb : Nat) (A : Option Addr) (na ca : Nat) (B : Option Addr) (nb cb : Nat) (xs ys : List Int) (i : Nat) (w : World) (xa : w.cell? ⟨pa, 0, none⟩ = some (.slice A na ca)) (xb : w.cell? ⟨pb, 0, none⟩ = some (.slice B nb cb)) (hA : (Kd.int .u8).C w A na xs) (hB : (Kd.int .u8).C w B nb ys) (hca : na ≤ ca) (hcb : nb ≤ cb) (hx : bytesB xs = true) (hy : bytesB ys = true) (ha9 : na ≤ 2147483647) (hb9 : nb ≤ 2147483647) (h1 : i < na) (h2 : i < nb) :
    Calls Try.prog 62 #[.int .i64 i, .pointer (some ⟨pa, 0, none⟩), .pointer (some ⟨pb, 0, none⟩)] w (ClRes w xs ys i) := by
  obtain ⟨i8, h8⟩ := h8
  obtain ⟨m, hm⟩ : ∃ m, i + 1 = m := ⟨_, rfl⟩
  have hmi : (i : Int) + 1 = (m : Int) := by omega
  have hmw : IntKind.i64.wrap (m : Int) = (m : Int) := IntWalk.i64_in _ (by omega)
  obtain ⟨cutA, hCA⟩ := cutHi (P := Try.prog) 23 5 Try.underlying23 h8.1 A na ca .i64 (m : Int) m rfl (by omega) hca
  obtain ⟨cutB, hCB⟩ := cutHi (P := Try.prog) 23 5 Try.underlying23 h8.1 B nb cb .i64 (m : Int) m rfl (by omega) hcb
  have HEQ : Aside0 (∀ W1, Below w.heap.size w W1 → Calls Try.prog 63 #[.slice A m ca, .slice B m cb] W1 (EqRes W1 (xs.take m) (ys.take m))) := ⟨fun W1 h => equal_calls A B m m ca cb (xs.take m) (ys.take m) W1 (hCA (Kd.int .u8) W1 _ (Kd.C_below hA h)) (hCB (Kd.int .u8) W1 _ (Kd.C_below hB h)) (bytesB_take hx m) (bytesB_take hy m)⟩
  have HXX : Aside0 (∀ W1, Below w.heap.size w W1 → W1.cell? ⟨pa, 0, none⟩ = some (.slice A na ca) ∧ W1.cell? ⟨pb, 0, none⟩ = some (.slice B nb cb)) := ⟨fun W1 h => ⟨(h.cell (World.block_lt_of_cell? w _ xa)).trans xa, (h.cell (World.block_lt_of_cell? w _ xb)).trans xb⟩⟩
  have HBd : Aside0 (Below w.heap.size w w.drew) := ⟨(Below.refl _ _).drew⟩
  have HM := Aside0.mk hm
  clear hA hB hCA hCB hm
  go_enter Try.func62, Try.ntmps62
  go_wp2_with (fail)
  go_region_held3 (fun (w9 : World) => w9.cell? ⟨pa, 0, none⟩ = some (.slice A na ca) ∧ w9.cell? ⟨pb, 0, none⟩ = some (.slice B nb cb))
    (first | exact HXX.out _ HB2.out | exact HXX.out _ HBd.out)
    ((first
      | (go_at_call 63; (with_reducible refine (HEQ.out _ HBd.out).mono ?_); rintro e w2 ⟨⟨r, rfl, hr, hd⟩⟩; have HB2 := Aside0.mk (HBd.out.trans (hd.below.mono HBd.out.size)); have HRR := Aside0.mk hr; clear hr hd)
      | fail "no arm"))
  go_wp2_with (fail)
  go_ret
  exact ⟨⟨!r, rfl, fun h => by rw [HM.out]; exact HRR.out (by simpa using h), HB2.out⟩⟩
/-- what the search finds -/
structure SrRes (w : World) (xs ys : List Int) (e : Ending) (w' : World) : Prop where
  mk :: (out : ∃ n : Nat, e = .returned (.int .i64 n) ∧ ComL xs ys n ∧ Below w.heap.size w w')
set_option maxHeartbeats 4000000 in
set_option maxRecDepth 100000 in
theorem search_calls (pa pb : Nat) (A : Option Addr) (na ca : Nat) (B : Option Addr) (nb cb : Nat) (xs ys : List Int) (n : Nat) (w : World) (xa : w.cell? ⟨pa, 0, none⟩ = some (.slice A na ca)) (xb : w.cell? ⟨pb, 0, none⟩ = some (.slice B nb cb)) (hA : (Kd.int .u8).C w A na xs) (hB : (Kd.int .u8).C w B nb ys) (hca : na ≤ ca) (hcb : nb ≤ cb) (hx : bytesB xs = true) (hy : bytesB ys = true) (ha9 : na ≤ 2147483647) (hb9 : nb ≤ 2147483647) (h1 : n ≤ na) (h2 : n ≤ nb) :
    Calls Try.prog 61 #[.int .i64 n, .func (.func 62) #[] #[.pointer (some ⟨pa, 0, none⟩), .pointer (some ⟨pb, 0, none⟩)]] w (SrRes w xs ys) := by
  have HXL : Aside0 (xs.length = na) := ⟨hA.1⟩
  have HYL : Aside0 (ys.length = nb) := ⟨hB.1⟩
  have HCL : Aside0 (∀ W1, Below w.heap.size w W1 → ∀ i : Nat, i < n → Calls Try.prog 62 #[.int .i64 i, .pointer (some ⟨pa, 0, none⟩), .pointer (some ⟨pb, 0, none⟩)] W1 (ClRes W1 xs ys i)) := ⟨fun W1 h i hi => clos_calls pa pb A na ca B nb cb xs ys i W1 ((h.cell (World.block_lt_of_cell? w _ xa)).trans xa) ((h.cell (World.block_lt_of_cell? w _ xb)).trans xb) (Kd.C_below hA h) (Kd.C_below hB h) hca hcb hx hy ha9 hb9 (by omega) (by omega)⟩
  clear xa xb hA hB hx hy
  go_enter Try.func61, Try.ntmps61
  go_wp2_with (fail)
  go_loopg [5, 6, 7] n (fun kq v5 v6 v7 w' => ∃ (i j : Nat), i ≤ j ∧ j ≤ n ∧ v5 = .int .i64 i ∧ v6 = .int .i64 j ∧ Aside0 (xs.take i = ys.take i) ∧ Aside0 (Below w.heap.size w w') ∧ Aside0 (j - i ≤ kq))
  case atStart => exact ⟨0, n, by omega, by omega, rfl, rfl, ⟨by simp⟩, ⟨Below.refl _ _⟩, ⟨by omega⟩⟩
  case round =>
    obtain ⟨i, j, hij, hjn, rfl, rfl, HT, HB, HK⟩ := hrel
    by_cases cj : i < j
    · have cjb : decide ((i : Int) < (j : Int)) = true := decide_eq_true (by omega)
      have cjn : decide (i < j) = true := decide_eq_true cj
      obtain ⟨h, hh⟩ : ∃ h, (i + j) / 2 = h := ⟨_, rfl⟩
      have hhi : ((i : Int) + (j : Int)) / 2 = (h : Int) := by omega
      have hhj : h < j := by omega
      have hih : i ≤ h := by omega
      have hw1 : IntKind.u64.wrap ((i : Int) + (j : Int)) = (i : Int) + (j : Int) := IntWalk.u64_in _ (by omega)
      have hw2 : IntKind.i64.wrap (h : Int) = (h : Int) := IntWalk.i64_in _ (by omega)
      have HCC := Aside0.mk (HCL.out wr HB.out h (by omega))
      clear hh
      go_wp2_with (fail)
      go_at_call 62
      refine HCC.out.mono ?_
      rintro e w2 ⟨⟨r, rfl, hr, hb⟩⟩
      have HR := Aside0.mk hr
      have HB2 := Aside0.mk (HB.out.trans (hb.mono HB.out.size))
      clear hr hb
      cases r
      · go_wp2_with (fail)
        go_roundg (gk - 1)
        case measure => have := HK.out; omega
        case rel => exact ⟨h + 1, j, by omega, hjn, by go_num, rfl, ⟨HR.out (by simp)⟩, HB2, ⟨by have := HK.out; omega⟩⟩
      · go_wp2_with (fail)
        go_roundg (gk - 1)
        case measure => have := HK.out; omega
        case rel => exact ⟨i, h, hih, by omega, rfl, by go_num, HT, HB2, ⟨by have := HK.out; omega⟩⟩
    · obtain rfl : i = j := by omega
      have cjb : decide ((i : Int) < (i : Int)) = false := decide_eq_false (by omega)
      go_wp2_with (fail)
      go_ret
      exact ⟨⟨i, rfl, ⟨by rw [HXL.out]; omega, by rw [HYL.out]; omega, HT.out⟩, HB.out⟩⟩
set_option maxHeartbeats 4000000 in
set_option maxRecDepth 100000 in
theorem binary_calls (A : Option Addr) (na ca : Nat) (B : Option Addr) (nb cb : Nat) (xs ys : List Int) (w : World) (hA : (Kd.int .u8).C w A na xs) (hB : (Kd.int .u8).C w B nb ys) (hca : na ≤ ca) (hcb : nb ≤ cb) (hx : bytesB xs = true) (hy : bytesB ys = true) (ha9 : na ≤ 2147483647) (hb9 : nb ≤ 2147483647) :
    Calls Try.prog 47 #[.slice A na ca, .slice B nb cb] w (SrRes w xs ys) := by
  obtain ⟨m, hm⟩ : ∃ m, min na nb = m := ⟨_, rfl⟩
  have hmi : min (na : Int) (nb : Int) = (m : Int) := by omega
  have hm1 : m ≤ na := by omega
  have hm2 : m ≤ nb := by omega
  have hmf : ∀ (fn : Fn) (first cap : Array Value) (w : World), (Instr.makeFunc fn first cap).run Try.prog w = .ok (.func fn first cap) w := fun _ _ _ _ => rfl
  have hB2 : Aside0 (Below w.heap.size w ((w.alloc (.cells #[.slice A na ca] 23)).alloc (.cells #[.slice B nb cb] 23))) := ⟨((Below.refl _ _).alloc (Nat.le_refl _) _).alloc (by simp) _⟩
  have hsz : (w.alloc (.cells #[.slice A na ca] 23)).heap.size = w.heap.size + 1 := by simp
  have x2 : ((w.alloc (.cells #[.slice A na ca] 23)).alloc (.cells #[.slice B nb cb] 23)).cell? ⟨w.heap.size, 0, none⟩ = some (.slice A na ca) := ((Blk.new w #[.slice A na ca] 23).alloc _).cell rfl
  have x3 : ((w.alloc (.cells #[.slice A na ca] 23)).alloc (.cells #[.slice B nb cb] 23)).cell? ⟨w.heap.size + 1, 0, none⟩ = some (.slice B nb cb) := by
    have h := (Blk.new (w.alloc (.cells #[.slice A na ca] 23)) #[.slice B nb cb] 23)
    rw [hsz] at h
    exact h.cell rfl
  have HS := Aside0.mk (search_calls w.heap.size (w.heap.size + 1) A na ca B nb cb xs ys m _ x2 x3 (Kd.C_below hA hB2.out) (Kd.C_below hB hB2.out) hca hcb hx hy ha9 hb9 hm1 hm2)
  clear hA hB hx hy hm
  go_enter Try.func47, Try.ntmps47
  go_wp2_with (first
    | (go_at_call 61; go_loud (with_reducible refine HS.out.mono ?_); rintro e w2 ⟨⟨r, rfl, hr, hb⟩⟩; have HR := Aside0.mk hr; have HB2 := Aside0.mk (hB2.out.trans (hb.mono hB2.out.size)); clear hr hb))
  go_ret
  exact ⟨⟨r, rfl, HR.out, HB2.out⟩⟩
end Go.Proofs.Ytigmcdpjlkgocaa.Dfl
