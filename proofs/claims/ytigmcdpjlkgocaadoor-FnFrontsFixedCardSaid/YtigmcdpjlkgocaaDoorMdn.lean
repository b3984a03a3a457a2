import Derived.Test.YtigmcdpjlkgocaaDoorDfp
import Derived.Test.YtigmcdpjlkgocaaDoorDbz
import Derived.Deep.CutRange
import Derived.Deep.RegionHeld3
/-! Texts with shared fronts: how much two texts share. -/
namespace Go.Proofs.YtigmcdpjlkgocaaDoor.Dfl
open Go.Proofs.YtigmcdpjlkgocaaDoor.Dby Go.Proofs.YtigmcdpjlkgocaaDoor.Dfp Go.Proofs.YtigmcdpjlkgocaaDoor.Dls Go.Proofs.YtigmcdpjlkgocaaDoor.Dlp Go.Proofs.YtigmcdpjlkgocaaDoor.Dre Go.Proofs.YtigmcdpjlkgocaaDoor.Dle Go.Proofs.YtigmcdpjlkgocaaDoor.Dib Go.Proofs.YtigmcdpjlkgocaaDoor.Dew Go.Proofs.YtigmcdpjlkgocaaDoor.Dtx Go.Proofs.YtigmcdpjlkgocaaDoor.Dct Go.Proofs.YtigmcdpjlkgocaaDoor.Dst Go.Proofs.YtigmcdpjlkgocaaDoor.Deo Go.Proofs.YtigmcdpjlkgocaaDoor.Den Go.Proofs.YtigmcdpjlkgocaaDoor.Deb Go.Proofs.YtigmcdpjlkgocaaDoor.Dds Go.Proofs.YtigmcdpjlkgocaaDoor.Dpu Go.Proofs.YtigmcdpjlkgocaaDoor.Pak Go.Proofs.YtigmcdpjlkgocaaDoor.Buf Go.Proofs.YtigmcdpjlkgocaaDoor.Fit Go.Proofs.YtigmcdpjlkgocaaDoor.Bit Go.Proofs.YtigmcdpjlkgocaaDoor.Wrd Go.Proofs.YtigmcdpjlkgocaaDoor.Spl Go.Proofs.YtigmcdpjlkgocaaDoor.Str Go.Proofs.YtigmcdpjlkgocaaDoor.Flt Go.Proofs.YtigmcdpjlkgocaaDoor.Owe Go.Proofs.YtigmcdpjlkgocaaDoor.Num Go.Proofs.YtigmcdpjlkgocaaDoor.Le Go.Proofs.YtigmcdpjlkgocaaDoor.Lst Go.Proofs.YtigmcdpjlkgocaaDoor.Aid Go.RowKit Go.Proofs.YtigmcdpjlkgocaaDoorW.PrintWords Go.Proofs.YtigmcdpjlkgocaaDoorW.PrintLast Go.Proofs.YtigmcdpjlkgocaaDoorW.PrintMore
set_option linter.unusedVariables false
set_option linter.unusedSimpArgs false
theorem take_growL {xs ys : List Int} {i : Nat} (h : xs.take i = ys.take i) (h1 : i < xs.length) (h2 : i < ys.length) (e : rd xs (i : Nat) = rd ys (i : Nat)) : xs.take (i + 1) = ys.take (i + 1) := by
  rw [List.take_succ_eq_append_getElem h1, List.take_succ_eq_append_getElem h2, h, ← rd_nat xs i h1, ← rd_nat ys i h2, e]
/-- how much two texts have in common, at least -/
structure ComL (xs ys : List Int) (n : Nat) : Prop where
  le1 : n ≤ xs.length
  le2 : n ≤ ys.length
  eq : xs.take n = ys.take n
set_option maxHeartbeats 4000000 in
set_option maxRecDepth 100000 in
theorem linear_calls (A : Option Addr) (na ca : Nat) (B : Option Addr) (nb cb : Nat) (xs ys : List Int) (w : World) (hA : (Kd.int .u8).C w A na xs) (hB : (Kd.int .u8).C w B nb ys) (ha9 : na ≤ 2147483647) (hb9 : nb ≤ 2147483647) :
    Calls Tryd.prog 92 #[.slice A na ca, .slice B nb cb] w fun e w' => ∃ n : Nat, e = .returned (.int .i64 n) ∧ ComL xs ys n ∧ Drawn0 w w' := by
  have HXL : Aside0 (xs.length = na) := ⟨hA.1⟩
  have HYL : Aside0 (ys.length = nb) := ⟨hB.1⟩
  have HA := Aside0.mk hA
  have HB := Aside0.mk hB
  clear hA hB
  go_enter Tryd.func92, Tryd.ntmps92
  go_wp2_with (fail)
  go_loopg [4] na (fun kq v4 w' => ∃ (i : Nat), i ≤ na ∧ v4 = .int .i64 i ∧ Aside0 (ComL xs ys i) ∧ Aside0 (Drawn0 w w') ∧ Aside0 (na - i ≤ kq))
  case atStart => exact ⟨0, by omega, rfl, ⟨⟨Nat.zero_le _, Nat.zero_le _, by simp⟩⟩, ⟨Drawn0.refl _⟩, ⟨by omega⟩⟩
  case round =>
    obtain ⟨i, hi, rfl, HCA, HD, HK⟩ := hrel
    by_cases c1 : i < na
    · have q1 : decide ((i : Int) < (na : Int)) = true := decide_eq_true (by omega)
      have q1n : decide (i < na) = true := decide_eq_true c1
      by_cases c2 : i < nb
      · have q2 : decide ((i : Int) < (nb : Int)) = true := decide_eq_true (by omega)
        have q2n : decide (i < nb) = true := decide_eq_true c2
        obtain ⟨ad, ead, x0⟩ := Kd.at_int (Kd.C_below HA.out HD.out.below) (i : Int) (by omega) (by omega)
        obtain ⟨bd, ebd, y0⟩ := Kd.at_int (Kd.C_below HB.out HD.out.below) (i : Int) (by omega) (by omega)
        rw [Int.toNat_natCast] at x0 y0
        obtain ⟨x, hx⟩ : ∃ x, rd xs (i : Nat) = x := ⟨_, rfl⟩
        obtain ⟨y, hy⟩ : ∃ y, rd ys (i : Nat) = y := ⟨_, rfl⟩
        rw [hx] at x0
        rw [hy] at y0
        have HX := Aside0.mk hx
        have HY := Aside0.mk hy
        have b0 := World.block_lt_of_cell? wr _ x0
        have b1 := World.block_lt_of_cell? wr _ y0
        have qi1 : ((i : Int) < (na : Int)) = True := eq_true (by omega)
        have qi2 : ((i : Int) < (nb : Int)) = True := eq_true (by omega)
        have qi3 : (i < na) = True := eq_true c1
        have qi4 : (i < nb) = True := eq_true c2
        have qi0 : ((0 : Int) ≤ (i : Int)) = True := eq_true (by omega)
        clear hx hy
        subst ead ebd
        by_cases e : x = y
        · subst e
          go_wp2_with (first | go_quiet (fail))
          go_roundg (gk - 1)
          case measure => have := HK.out; omega
          case rel => exact ⟨i + 1, by omega, by go_num, ⟨⟨by rw [HXL.out]; omega, by rw [HYL.out]; omega, take_growL HCA.out.eq (by rw [HXL.out]; exact c1) (by rw [HYL.out]; exact c2) (by rw [HX.out, HY.out])⟩⟩, ⟨drawnTrans HD.out ⟨⟨_, rfl⟩⟩⟩, ⟨by have := HK.out; omega⟩⟩
        · have qe : decide (x = y) = false := decide_eq_false e
          have qe2 : (x == y) = false := by simpa using e
          go_wp2_with (first | go_quiet (fail))
          go_ret
          exact ⟨i, rfl, HCA.out, drawnTrans HD.out ⟨⟨_, rfl⟩⟩⟩
      · have q2 : decide ((i : Int) < (nb : Int)) = false := decide_eq_false (by omega)
        have q2n : decide (i < nb) = false := decide_eq_false c2
        go_wp2_with (first | go_quiet (fail))
        go_ret
        exact ⟨i, rfl, HCA.out, drawnTrans HD.out ⟨⟨_, rfl⟩⟩⟩
    · obtain rfl : i = na := by omega
      have q1 : decide ((i : Int) < (i : Int)) = false := decide_eq_false (by omega)
      go_wp2_with (first | go_quiet (fail))
      go_ret
      exact ⟨i, rfl, HCA.out, drawnTrans HD.out ⟨⟨_, rfl⟩⟩⟩
theorem toList_strOf (xs : List Int) : (strOfNums xs).toList = xs.map fun x => UInt8.ofNat x.toNat := by
  rw [ByteArray.toList_eq]; rfl
/-- an answer that says yes only where it is so -/
structure EqRes (w : World) (xs ys : List Int) (e : Ending) (w' : World) : Prop where
  mk :: (out : ∃ r : Bool, e = .returned (.bool r) ∧ (r = true → xs = ys) ∧ Drawn0 w w')
theorem bytes_inj : ∀ {xs ys : List Int}, bytesB xs = true → bytesB ys = true → xs.map (fun x => UInt8.ofNat x.toNat) = ys.map (fun x => UInt8.ofNat x.toNat) → xs = ys
  | [], [], _, _, _ => rfl
  | [], _ :: _, _, _, h => by simp at h
  | _ :: _, [], _, _, h => by simp at h
  | x :: xs, y :: ys, hx, hy, h => by
    simp only [List.map_cons, List.cons.injEq] at h
    have h1 := bytesB_mem hx x (List.mem_cons_self ..)
    have h2 := bytesB_mem hy y (List.mem_cons_self ..)
    have e := congrArg UInt8.toNat h.1
    simp only [UInt8.toNat_ofNat'] at e
    unfold byt at h1 h2
    have e2 : x = y := by
      have : x.toNat % 256 = y.toNat % 256 := e
      omega
    rw [e2, bytes_inj (bytesB_of fun z hz => bytesB_mem hx z (List.mem_cons_of_mem _ hz)) (bytesB_of fun z hz => bytesB_mem hy z (List.mem_cons_of_mem _ hz)) h.2]
set_option maxHeartbeats 4000000 in
theorem equal_calls (A0 A1 : Option Addr) (n0 n1 c0 c1 : Nat) (xs ys : List Int) (w : World) (h0 : (Kd.int .u8).C w A0 n0 xs) (h1 : (Kd.int .u8).C w A1 n1 ys) (hx : bytesB xs = true) (hy : bytesB ys = true) :
    Calls Tryd.prog 134 #[.slice A0 n0 c0, .slice A1 n1 c1] w (EqRes w xs ys) := by
  have hn : xs.length = n0 := h0.1
  subst hn
  have hn : ys.length = n1 := h1.1
  subst hn
  have hcv3 := Kd.C_string (P := Tryd.prog) (A := A0) (c := c0) Tryd.underlying29 Tryd.underlying5 Tryd.underlying9 h0
  have hcv4 := Kd.C_string (P := Tryd.prog) (A := A1) (c := c1) Tryd.underlying29 Tryd.underlying5 Tryd.underlying9 h1
  clear h0 h1
  go_enter Tryd.func134, Tryd.ntmps134
  go_wp2
  go_ret
  refine ⟨⟨_, rfl, fun h => ?_, Drawn0.refl _⟩⟩
  have h2 : (strOfNums xs).toList = (strOfNums ys).toList := eq_of_beq h
  rw [toList_strOf, toList_strOf] at h2
  exact bytes_inj hx hy h2
/-- the closure's answer: no only where the fronts agree -/
structure ClRes (w : World) (xs ys : List Int) (i : Nat) (e : Ending) (w' : World) : Prop where
  mk :: (out : ∃ r : Bool, e = .returned (.bool r) ∧ (r = false → xs.take (i + 1) = ys.take (i + 1)) ∧ Below w.heap.size w w')
set_option maxHeartbeats 4000000 in
set_option maxRecDepth 100000 in
theorem clos_calls (pa pb : Nat) (A : Option Addr) (na ca : Nat) (B : Option Addr) (nb cb : Nat) (xs ys : List Int) (i : Nat) (w : World) (xa : w.cell? ⟨pa, 0, none⟩ = some (.slice A na ca)) (xb : w.cell? ⟨pb, 0, none⟩ = some (.slice B nb cb)) (hA : (Kd.int .u8).C w A na xs) (hB : (Kd.int .u8).C w B nb ys) (hca : na ≤ ca) (hcb : nb ≤ cb) (hx : bytesB xs = true) (hy : bytesB ys = true) (ha9 : na ≤ 2147483647) (hb9 : nb ≤ 2147483647) (h1 : i < na) (h2 : i < nb) :
    Calls Tryd.prog 133 #[.int .i64 i, .pointer (some ⟨pa, 0, none⟩), .pointer (some ⟨pb, 0, none⟩)] w (ClRes w xs ys i) := by
  obtain ⟨i8, h8⟩ := h8
  obtain ⟨m, hm⟩ : ∃ m, i + 1 = m := ⟨_, rfl⟩
  have hmi : (i : Int) + 1 = (m : Int) := by omega
  have hmw : IntKind.i64.wrap (m : Int) = (m : Int) := IntWalk.i64_in _ (by omega)
  obtain ⟨cutA, hCA⟩ := cutHi (P := Tryd.prog) 29 5 Tryd.underlying29 h8.1 A na ca .i64 (m : Int) m rfl (by omega) hca
  obtain ⟨cutB, hCB⟩ := cutHi (P := Tryd.prog) 29 5 Tryd.underlying29 h8.1 B nb cb .i64 (m : Int) m rfl (by omega) hcb
  have HEQ : Aside0 (∀ W1, Below w.heap.size w W1 → Calls Tryd.prog 134 #[.slice A m ca, .slice B m cb] W1 (EqRes W1 (xs.take m) (ys.take m))) := ⟨fun W1 h => equal_calls A B m m ca cb (xs.take m) (ys.take m) W1 (hCA (Kd.int .u8) W1 _ (Kd.C_below hA h)) (hCB (Kd.int .u8) W1 _ (Kd.C_below hB h)) (bytesB_take hx m) (bytesB_take hy m)⟩
  have HXX : Aside0 (∀ W1, Below w.heap.size w W1 → W1.cell? ⟨pa, 0, none⟩ = some (.slice A na ca) ∧ W1.cell? ⟨pb, 0, none⟩ = some (.slice B nb cb)) := ⟨fun W1 h => ⟨(h.cell (World.block_lt_of_cell? w _ xa)).trans xa, (h.cell (World.block_lt_of_cell? w _ xb)).trans xb⟩⟩
  have HBd : Aside0 (Below w.heap.size w w.drew) := ⟨(Below.refl _ _).drew⟩
  have HM := Aside0.mk hm
  clear hA hB hCA hCB hm
  go_enter Tryd.func133, Tryd.ntmps133
  go_wp2_with (fail)
  go_region_held3 (fun (w9 : World) => w9.cell? ⟨pa, 0, none⟩ = some (.slice A na ca) ∧ w9.cell? ⟨pb, 0, none⟩ = some (.slice B nb cb))
    (first | exact HXX.out _ HB2.out | exact HXX.out _ HBd.out)
    ((first
      | (go_at_call 134; (with_reducible refine (HEQ.out _ HBd.out).mono ?_); rintro e w2 ⟨⟨r, rfl, hr, hd⟩⟩; have HB2 := Aside0.mk (HBd.out.trans (hd.below.mono HBd.out.size)); have HRR := Aside0.mk hr; clear hr hd)
      | fail "no arm"))
  go_wp2_with (fail)
  go_ret
  exact ⟨⟨!r, rfl, fun h => by rw [HM.out]; exact HRR.out (by simpa using h), HB2.out⟩⟩
/-- what the search finds -/
structure SrRes (w : World) (xs ys : List Int) (e : Ending) (w' : World) : Prop where
  mk :: (out : ∃ n : Nat, e = .returned (.int .i64 n) ∧ ComL xs ys n ∧ Below w.heap.size w w')
set_option maxHeartbeats 4000000 in
set_option maxRecDepth 100000 in
theorem search_calls (pa pb : Nat) (A : Option Addr) (na ca : Nat) (B : Option Addr) (nb cb : Nat) (xs ys : List Int) (n : Nat) (w : World) (xa : w.cell? ⟨pa, 0, none⟩ = some (.slice A na ca)) (xb : w.cell? ⟨pb, 0, none⟩ = some (.slice B nb cb)) (hA : (Kd.int .u8).C w A na xs) (hB : (Kd.int .u8).C w B nb ys) (hca : na ≤ ca) (hcb : nb ≤ cb) (hx : bytesB xs = true) (hy : bytesB ys = true) (ha9 : na ≤ 2147483647) (hb9 : nb ≤ 2147483647) (h1 : n ≤ na) (h2 : n ≤ nb) :
    Calls Tryd.prog 132 #[.int .i64 n, .func (.func 133) #[] #[.pointer (some ⟨pa, 0, none⟩), .pointer (some ⟨pb, 0, none⟩)]] w (SrRes w xs ys) := by
  have HXL : Aside0 (xs.length = na) := ⟨hA.1⟩
  have HYL : Aside0 (ys.length = nb) := ⟨hB.1⟩
  have HCL : Aside0 (∀ W1, Below w.heap.size w W1 → ∀ i : Nat, i < n → Calls Tryd.prog 133 #[.int .i64 i, .pointer (some ⟨pa, 0, none⟩), .pointer (some ⟨pb, 0, none⟩)] W1 (ClRes W1 xs ys i)) := ⟨fun W1 h i hi => clos_calls pa pb A na ca B nb cb xs ys i W1 ((h.cell (World.block_lt_of_cell? w _ xa)).trans xa) ((h.cell (World.block_lt_of_cell? w _ xb)).trans xb) (Kd.C_below hA h) (Kd.C_below hB h) hca hcb hx hy ha9 hb9 (by omega) (by omega)⟩
  clear xa xb hA hB hx hy
  go_enter Tryd.func132, Tryd.ntmps132
  go_wp2_with (fail)
  go_loopg [5, 6, 7] n (fun kq v5 v6 v7 w' => ∃ (i j : Nat), i ≤ j ∧ j ≤ n ∧ v5 = .int .i64 i ∧ v6 = .int .i64 j ∧ Aside0 (xs.take i = ys.take i) ∧ Aside0 (Below w.heap.size w w') ∧ Aside0 (j - i ≤ kq))
  case atStart => exact ⟨0, n, by omega, by omega, rfl, rfl, ⟨by simp⟩, ⟨Below.refl _ _⟩, ⟨by omega⟩⟩
  case round =>
    obtain ⟨i, j, hij, hjn, rfl, rfl, HT, HB, HK⟩ := hrel
    by_cases cj : i < j
    · have cjb : decide ((i : Int) < (j : Int)) = true := decide_eq_true (by omega)
      have cjn : decide (i < j) = true := decide_eq_true cj
      obtain ⟨h, hh⟩ : ∃ h, (i + j) / 2 = h := ⟨_, rfl⟩
      have hhi : ((i : Int) + (j : Int)) / 2 = (h : Int) := by omega
      have hhj : h < j := by omega
      have hih : i ≤ h := by omega
      have hw1 : IntKind.u64.wrap ((i : Int) + (j : Int)) = (i : Int) + (j : Int) := IntWalk.u64_in _ (by omega)
      have hw2 : IntKind.i64.wrap (h : Int) = (h : Int) := IntWalk.i64_in _ (by omega)
      have HCC := Aside0.mk (HCL.out wr HB.out h (by omega))
      clear hh
      go_wp2_with (fail)
      go_at_call 133
      refine HCC.out.mono ?_
      rintro e w2 ⟨⟨r, rfl, hr, hb⟩⟩
      have HR := Aside0.mk hr
      have HB2 := Aside0.mk (HB.out.trans (hb.mono HB.out.size))
      clear hr hb
      cases r
      · go_wp2_with (fail)
        go_roundg (gk - 1)
        case measure => have := HK.out; omega
        case rel => exact ⟨h + 1, j, by omega, hjn, by go_num, rfl, ⟨HR.out (by simp)⟩, HB2, ⟨by have := HK.out; omega⟩⟩
      · go_wp2_with (fail)
        go_roundg (gk - 1)
        case measure => have := HK.out; omega
        case rel => exact ⟨i, h, hih, by omega, rfl, by go_num, HT, HB2, ⟨by have := HK.out; omega⟩⟩
    · obtain rfl : i = j := by omega
      have cjb : decide ((i : Int) < (i : Int)) = false := decide_eq_false (by omega)
      go_wp2_with (fail)
      go_ret
      exact ⟨⟨i, rfl, ⟨by rw [HXL.out]; omega, by rw [HYL.out]; omega, HT.out⟩, HB.out⟩⟩
set_option maxHeartbeats 4000000 in
set_option maxRecDepth 100000 in
theorem binary_calls (A : Option Addr) (na ca : Nat) (B : Option Addr) (nb cb : Nat) (xs ys : List Int) (w : World) (hA : (Kd.int .u8).C w A na xs) (hB : (Kd.int .u8).C w B nb ys) (hca : na ≤ ca) (hcb : nb ≤ cb) (hx : bytesB xs = true) (hy : bytesB ys = true) (ha9 : na ≤ 2147483647) (hb9 : nb ≤ 2147483647) :
    Calls Tryd.prog 105 #[.slice A na ca, .slice B nb cb] w (SrRes w xs ys) := by
  obtain ⟨m, hm⟩ : ∃ m, min na nb = m := ⟨_, rfl⟩
  have hmi : min (na : Int) (nb : Int) = (m : Int) := by omega
  have hm1 : m ≤ na := by omega
  have hm2 : m ≤ nb := by omega
  have hmf : ∀ (fn : Fn) (first cap : Array Value) (w : World), (Instr.makeFunc fn first cap).run Tryd.prog w = .ok (.func fn first cap) w := fun _ _ _ _ => rfl
  have hB2 : Aside0 (Below w.heap.size w ((w.alloc (.cells #[.slice A na ca] 29)).alloc (.cells #[.slice B nb cb] 29))) := ⟨((Below.refl _ _).alloc (Nat.le_refl _) _).alloc (by simp) _⟩
  have hsz : (w.alloc (.cells #[.slice A na ca] 29)).heap.size = w.heap.size + 1 := by simp
  have x2 : ((w.alloc (.cells #[.slice A na ca] 29)).alloc (.cells #[.slice B nb cb] 29)).cell? ⟨w.heap.size, 0, none⟩ = some (.slice A na ca) := ((Blk.new w #[.slice A na ca] 29).alloc _).cell rfl
  have x3 : ((w.alloc (.cells #[.slice A na ca] 29)).alloc (.cells #[.slice B nb cb] 29)).cell? ⟨w.heap.size + 1, 0, none⟩ = some (.slice B nb cb) := by
    have h := (Blk.new (w.alloc (.cells #[.slice A na ca] 29)) #[.slice B nb cb] 29)
    rw [hsz] at h
    exact h.cell rfl
  have HS := Aside0.mk (search_calls w.heap.size (w.heap.size + 1) A na ca B nb cb xs ys m _ x2 x3 (Kd.C_below hA hB2.out) (Kd.C_below hB hB2.out) hca hcb hx hy ha9 hb9 hm1 hm2)
  clear hA hB hx hy hm
  go_enter Tryd.func105, Tryd.ntmps105
  go_wp2_with (first
    | (go_at_call 132; go_loud (with_reducible refine HS.out.mono ?_); rintro e w2 ⟨⟨r, rfl, hr, hb⟩⟩; have HR := Aside0.mk hr; have HB2 := Aside0.mk (hB2.out.trans (hb.mono hB2.out.size)); clear hr hb))
  go_ret
  exact ⟨⟨r, rfl, HR.out, HB2.out⟩⟩
end Go.Proofs.YtigmcdpjlkgocaaDoor.Dfl

/-! Texts with shared fronts: what both encoders want. -/
namespace Go.Proofs.YtigmcdpjlkgocaaDoor.Dfe0
open Go.Proofs.YtigmcdpjlkgocaaDoor.Dfl Go.Proofs.YtigmcdpjlkgocaaDoor.Dhd Go.Proofs.YtigmcdpjlkgocaaDoor.Dgr Go.Proofs.YtigmcdpjlkgocaaDoor.Dml Go.Proofs.YtigmcdpjlkgocaaDoor.Dby Go.Proofs.YtigmcdpjlkgocaaDoor.Dfp Go.Proofs.YtigmcdpjlkgocaaDoor.Dls Go.Proofs.YtigmcdpjlkgocaaDoor.Dlp Go.Proofs.YtigmcdpjlkgocaaDoor.Dre Go.Proofs.YtigmcdpjlkgocaaDoor.Dle Go.Proofs.YtigmcdpjlkgocaaDoor.Dib Go.Proofs.YtigmcdpjlkgocaaDoor.Dew Go.Proofs.YtigmcdpjlkgocaaDoor.Dtx Go.Proofs.YtigmcdpjlkgocaaDoor.Dct Go.Proofs.YtigmcdpjlkgocaaDoor.Dst Go.Proofs.YtigmcdpjlkgocaaDoor.Deo Go.Proofs.YtigmcdpjlkgocaaDoor.Den Go.Proofs.YtigmcdpjlkgocaaDoor.Deb Go.Proofs.YtigmcdpjlkgocaaDoor.Dds Go.Proofs.YtigmcdpjlkgocaaDoor.Dpu Go.Proofs.YtigmcdpjlkgocaaDoor.Pak Go.Proofs.YtigmcdpjlkgocaaDoor.Buf Go.Proofs.YtigmcdpjlkgocaaDoor.Fit Go.Proofs.YtigmcdpjlkgocaaDoor.Bit Go.Proofs.YtigmcdpjlkgocaaDoor.Wrd Go.Proofs.YtigmcdpjlkgocaaDoor.Spl Go.Proofs.YtigmcdpjlkgocaaDoor.Str Go.Proofs.YtigmcdpjlkgocaaDoor.Flt Go.Proofs.YtigmcdpjlkgocaaDoor.Owe Go.Proofs.YtigmcdpjlkgocaaDoor.Num Go.Proofs.YtigmcdpjlkgocaaDoor.Le Go.Proofs.YtigmcdpjlkgocaaDoor.Lst Go.Proofs.YtigmcdpjlkgocaaDoor.Aid Go.RowKit Go.Proofs.YtigmcdpjlkgocaaDoorW.PrintWords Go.Proofs.YtigmcdpjlkgocaaDoorW.PrintLast Go.Proofs.YtigmcdpjlkgocaaDoorW.PrintMore
set_option linter.unusedVariables false
set_option linter.unusedSimpArgs false
theorem own_ne_blk {w : World} {b t : Nat} {k : IntKind} {v : Value} {xs : List Int} {p T : Nat} {cs : Array Value} (h : Own w b t k v xs) (hp : Blk w p cs T) (hne : t ≠ T) : v.ownBlock ≠ some p := by
  rcases h.out.2 with ⟨rfl, _⟩ | ⟨g, c, cur, rfl, _, hb, _⟩
  · intro e; cases e
  · intro e
    have e2 : g = p := by injection e
    subst e2
    have h2 := hp.out
    rw [hb] at h2
    injection h2 with h2
    injection h2 with h3 h4 h5
    exact hne h4
theorem setSize (w : World) (p : Addr) (v : Value) : (w.setCell p v).heap.size = w.heap.size := by simp
theorem tneB : (21 : Nat) ≠ 119 := by decide
/-- two buffers with rows of their own -/
structure Two (w : World) (base p1 p2 : Nat) (v1 v2 : Value) (xs ys : List Int) : Prop where
  b1 : Blk w p1 #[v1] 119
  b2 : Blk w p2 #[v2] 119
  o1 : Own w base 21 .i32 v1 xs
  o2 : Own w base 21 .i32 v2 ys
  ne : p1 ≠ p2
  apt : Apt v1 v2
  bp1 : base ≤ p1
  bp2 : base ≤ p2
namespace Two
variable {w w1 : World} {base p1 p2 : Nat} {v1 v2 : Value} {xs ys : List Int}
theorem symm (h : Two w base p1 p2 v1 v2 xs ys) : Two w base p2 p1 v2 v1 ys xs := ⟨h.b2, h.b1, h.o2, h.o1, Ne.symm h.ne, apt_sym h.apt, h.bp2, h.bp1⟩
theorem below (h : Two w base p1 p2 v1 v2 xs ys) (hb : Below w.heap.size w w1) : Two w1 base p1 p2 v1 v2 xs ys :=
  ⟨h.b1.below hb h.b1.lt, h.b2.below hb h.b2.lt, h.o1.below hb, h.o2.below hb, h.ne, h.apt, h.bp1, h.bp2⟩
theorem grown1 (h : Two w base p1 p2 v1 v2 xs ys) (hg : w.grownBy w1 v1.ownBlock) : Blk w1 p1 #[v1] 119 ∧ Blk w1 p2 #[v2] 119 :=
  ⟨⟨(hg.block p1 h.b1.lt (fun e => own_ne_blk h.o1 h.b1 tneB e.symm)).trans h.b1.out⟩, ⟨(hg.block p2 h.b2.lt (fun e => own_ne_blk h.o1 h.b2 tneB e.symm)).trans h.b2.out⟩⟩
theorem put1 (h : Two w base p1 p2 v1 v2 xs ys) {u : Value} {zs : List Int} (ho : Own w1 base 21 .i32 u zs) (hg : w.grownBy w1 v1.ownBlock) (hat : u.ownBlock = v1.ownBlock ∨ ∃ b, u.ownBlock = some b ∧ w.heap.size ≤ b) :
    Two (w1.setCell ⟨p1, 0, none⟩ u) base p1 p2 u v2 zs ys := by
  obtain ⟨c1, c2⟩ := h.grown1 hg
  have hs : w1.grownBy (w1.setCell ⟨p1, 0, none⟩ u) (some p1) := grownSet (grownRefl w1 _) 0 u
  have o2 : Own w1 base 21 .i32 v2 ys := h.o2.grown hg (apt_sym h.apt).out
  exact ⟨c1.set 0 u, c2.far (fun e => h.ne e.symm) u, ho.grown hs (.inr (own_ne_blk ho c1 tneB)), o2.grown hs (.inr (own_ne_blk o2 c1 tneB)), h.ne, apt_sym (apt_step (apt_sym h.apt) h.o2 hat), h.bp1, h.bp2⟩
end Two
theorem newTwo {w1 w2 : World} {base p1 a1 p2 a2 : Nat} (h1 : NewBuf w1 base p1 a1) (h2 : NewBuf w2 w1.heap.size p2 a2) (hb : Below w1.heap.size w1 w2) (hbs : base ≤ w1.heap.size) :
    Two w2 base p1 p2 (.slice (some ⟨a1, 0, none⟩) 0 1024) (.slice (some ⟨a2, 0, none⟩) 0 1024) [] [] := by
  have l1 := h1.cell.lt
  have l2 := h1.row.lt
  have b1 := h2.bp
  have b2 := h2.ba
  refine ⟨h1.cell.below hb l1, h2.cell, ?_, ?_, by omega, ⟨.inr fun e => by have e' : a1 = a2 := (by injection e); omega⟩, h1.bp, by omega⟩
  · have := (h1.row.below hb l2).toOwn (base := base) (n := 0) h1.ba (Nat.zero_le _) (by rw [List.length_replicate]; omega)
    rw [List.length_replicate, List.take_zero] at this
    exact this
  · have := h2.row.toOwn (base := base) (n := 0) (by omega) (Nat.zero_le _) (by rw [List.length_replicate]; omega)
    rw [List.length_replicate, List.take_zero] at this
    exact this
set_option maxHeartbeats 4000000 in
set_option maxRecDepth 100000 in
/-- made longer by t, which may be nothing -/
theorem resizeA_calls (base : Nat) (v : Value) (xs : List Int) (L t size : Nat) (w : World) (hO : Own w base 5 .u8 v xs) (hb : base ≤ w.heap.size) (hL : xs.length = L) (hL0 : 0 < L) (hs : size = L + t) (hs9 : size ≤ 1073741824) :
    Calls Tryd.prog 94 #[v, .int .i64 size] w fun e w' => ∃ g M, e = .returned (.slice (some ⟨g, 0, none⟩) size M) ∧ Front w' g M 5 .u8 (xs ++ List.replicate t 0) ∧ size ≤ M ∧ M ≤ 9223372036854775807 ∧ base ≤ g ∧ w.grownBy w' (some g) := by
  by_cases ht : 0 < t
  · refine (resizeZ_calls base v xs size w hO hb (by omega) hs9).mono ?_
    rintro e w' ⟨g, M, e1, hf, h1, h2, h3, _, hg⟩
    rw [show size - xs.length = t by omega] at hf
    exact ⟨g, M, e1, hf, h1, h2, h3, hg⟩
  · obtain rfl : t = 0 := by omega
    obtain rfl : size = L := by omega
    rcases own_front hO with ⟨rfl, rfl⟩ | ⟨g, C, rfl, hbg, hC9, hF⟩
    · simp at hL; omega
    · have hle := hF.le
      rw [hL] at hle ⊢
      have qc : decide ((C : Int) < (size : Int)) = false := decide_eq_false (by omega)
      have qc2 : decide (C < size) = false := decide_eq_false (by omega)
      have qc3 : decide ((size : Int) < (size : Int)) = false := decide_eq_false (by omega)
      obtain ⟨i8, h8⟩ := h8
      have cut1 := cutAtMid0 (P := Tryd.prog) 29 5 Tryd.underlying29 h8.1 h8.2 g size C size (by omega)
      have HF := Aside0.mk hF
      clear hO hF hL hs
      go_enter Tryd.func94, Tryd.ntmps94
      go_wp2_with (fail)
      go_ret
      exact ⟨g, C, rfl, by rw [List.replicate_zero, List.append_nil]; exact HF.out, hle, hC9, hbg, grownRefl _ _⟩
section
variable {P : Program} {ops : Array Oper} {o : Oper} {a : Act} {Q : Exit → Act → World → Prop} {K : Act → World → Prop} {E : Prop} {w : World}
/-- a copy of nothing, as a step of a region that draws its order -/
theorem copyNoneStep (hgd : o.guard = none) (d s : Operand) (dT sT : TypeId)
    (ho : o.op = .call { callee := .builtin .copy, args := #[d, s], argTypes := #[dT, sT] }) (elem : TypeId) (hu : P.underlying dT = some (.slice elem)) (hsz : (P.info? elem).map (·.size) = some 1)
    (dA sA : Option Addr) (dL dC sL sC : Nat) (hd : a.eval d = .slice dA dL dC) (hs : a.eval s = .slice sA sL sC) (hn : Nat.min sL dL = 0) (h : K (a.put o.dst (goInt 0)) w) :
    if Region.wanted o (yielded ops a.tmps) = true then Oper.wp P o a w K Q else E := by
  have hw : Region.wanted o (yielded ops a.tmps) = true := by simp [Region.wanted, hgd]
  rw [if_pos hw]
  have hrun := run_copy_none (P := P) w dT sT o.type elem dA sA dL dC sL sC hu hsz hn
  unfold Oper.wp
  simp [execOp, ho, resolve, invoke, builtin, hd, hs, hrun, Result.andThen]
  exact h
end
theorem join_snoc_cut (ls : List (List Int)) (j p : Nat) (hj : j < ls.length) (hp : p ≤ (ls.getD j []).length) : ((joinL ls).take (sumLen (ls.take (j + 1)))).drop (sumLen (ls.take j) + p) = (ls.getD j []).drop p := by
  rw [← List.drop_drop, join_cut ls j hj]
theorem zeros_drop (a b : Nat) : (List.replicate a (0 : Int)).drop b = List.replicate (a - b) 0 := List.drop_replicate
end Go.Proofs.YtigmcdpjlkgocaaDoor.Dfe0

/-! Texts with shared fronts: the statements' reader. -/
namespace Go.Proofs.YtigmcdpjlkgocaaDoor.Dfs
open Go.Proofs.YtigmcdpjlkgocaaDoor.Dfe0 Go.Proofs.YtigmcdpjlkgocaaDoor.Dfl Go.Proofs.YtigmcdpjlkgocaaDoor.Dhd Go.Proofs.YtigmcdpjlkgocaaDoor.Dgr Go.Proofs.YtigmcdpjlkgocaaDoor.Dml Go.Proofs.YtigmcdpjlkgocaaDoor.Dby Go.Proofs.YtigmcdpjlkgocaaDoor.Dfp Go.Proofs.YtigmcdpjlkgocaaDoor.Dls Go.Proofs.YtigmcdpjlkgocaaDoor.Dlp Go.Proofs.YtigmcdpjlkgocaaDoor.Dre Go.Proofs.YtigmcdpjlkgocaaDoor.Dle Go.Proofs.YtigmcdpjlkgocaaDoor.Dib Go.Proofs.YtigmcdpjlkgocaaDoor.Dew Go.Proofs.YtigmcdpjlkgocaaDoor.Dtx Go.Proofs.YtigmcdpjlkgocaaDoor.Dct Go.Proofs.YtigmcdpjlkgocaaDoor.Dst Go.Proofs.YtigmcdpjlkgocaaDoor.Deo Go.Proofs.YtigmcdpjlkgocaaDoor.Den Go.Proofs.YtigmcdpjlkgocaaDoor.Deb Go.Proofs.YtigmcdpjlkgocaaDoor.Dds Go.Proofs.YtigmcdpjlkgocaaDoor.Dpu Go.Proofs.YtigmcdpjlkgocaaDoor.Pak Go.Proofs.YtigmcdpjlkgocaaDoor.Buf Go.Proofs.YtigmcdpjlkgocaaDoor.Fit Go.Proofs.YtigmcdpjlkgocaaDoor.Bit Go.Proofs.YtigmcdpjlkgocaaDoor.Wrd Go.Proofs.YtigmcdpjlkgocaaDoor.Spl Go.Proofs.YtigmcdpjlkgocaaDoor.Str Go.Proofs.YtigmcdpjlkgocaaDoor.Flt Go.Proofs.YtigmcdpjlkgocaaDoor.Owe Go.Proofs.YtigmcdpjlkgocaaDoor.Num Go.Proofs.YtigmcdpjlkgocaaDoor.Le Go.Proofs.YtigmcdpjlkgocaaDoor.Lst Go.Proofs.YtigmcdpjlkgocaaDoor.Aid Go.RowKit Go.Proofs.YtigmcdpjlkgocaaDoorW.PrintWords Go.Proofs.YtigmcdpjlkgocaaDoorW.PrintLast Go.Proofs.YtigmcdpjlkgocaaDoorW.PrintMore
set_option linter.unusedVariables false
set_option linter.unusedSimpArgs false
/-- slices of their own that show texts -/
structure OViews (w : World) (base : Nat) (ls : List (List Int)) (zs : List (Option Addr × Nat × Nat)) : Prop where
  len : zs.length = ls.length
  at' : ∀ (j : Nat) (l : List Int), ls[j]? = some l → ∃ A c, zs[j]? = some (A, l.length, c) ∧ Own w base 5 .u8 (.slice A l.length c) l
theorem OViews.views {w : World} {base : Nat} {ls : List (List Int)} {zs : List (Option Addr × Nat × Nat)} (h : OViews w base ls zs) : Views w ls zs :=
  ⟨h.len, fun j l hj => by
    obtain ⟨A, c, h1, h2⟩ := h.at' j l hj
    obtain ⟨A', c', e, hc, hC⟩ := h2.read
    injection e with e1 e2 e3
    exact ⟨A, c, h1, by rw [e3]; exact hc, by rw [e1]; exact hC⟩⟩
theorem OViews.below {w w1 : World} {base : Nat} {ls : List (List Int)} {zs : List (Option Addr × Nat × Nat)} (h : OViews w base ls zs) (hb : Below w.heap.size w w1) : OViews w1 base ls zs :=
  ⟨h.len, fun j l hj => by obtain ⟨A, c, h1, h2⟩ := h.at' j l hj; exact ⟨A, c, h1, h2.below hb⟩⟩
theorem tneS : (5 : Nat) ≠ 29 := by decide
theorem OViews.grown {w w1 : World} {base : Nat} {ls : List (List Int)} {zs zs' : List (Option Addr × Nat × Nat)} {u : Value} (h : OViews w base ls zs) (hE : OwnE encS w base 29 u zs') (hg : w.grownBy w1 u.ownBlock) : OViews w1 base ls zs :=
  ⟨h.len, fun j l hj => by obtain ⟨A, c, h1, h2⟩ := h.at' j l hj; exact ⟨A, c, h1, h2.grown hg (own_type_ne h2.out hE.out tneS)⟩⟩
theorem OViews.snoc {w : World} {base : Nat} {ls : List (List Int)} {zs : List (Option Addr × Nat × Nat)} (h : OViews w base ls zs) {l : List Int} {A : Option Addr} {c : Nat} (ho : Own w base 5 .u8 (.slice A l.length c) l) : OViews w base (ls ++ [l]) (zs ++ [(A, l.length, c)]) := by
  refine ⟨by simp [h.len], fun j l' hj => ?_⟩
  by_cases e : j < ls.length
  · rw [List.getElem?_append_left e] at hj
    obtain ⟨A', c', h1, h2⟩ := h.at' j l' hj
    exact ⟨A', c', by rw [List.getElem?_append_left (by rw [h.len]; exact e)]; exact h1, h2⟩
  · rw [List.getElem?_append_right (by omega)] at hj
    have e0 : j - ls.length = 0 := by
      have := (List.getElem?_eq_some_iff.1 hj).1
      simp at this; omega
    rw [e0] at hj
    have : l = l' := by simpa using hj
    subst this
    exact ⟨A, c, by rw [List.getElem?_append_right (by rw [h.len]; omega), h.len, e0]; rfl, ho⟩
set_option maxHeartbeats 16000000 in
set_option maxRecDepth 100000 in
theorem readFrontsV_calls (A : Option Addr) (N c : Nat) (X : List Int) (ls : List (List Int)) (B P S : Nat) (w : World) (hC : (Kd.int .u8).C w A N X) (hX : FrStr ls X B P S) (hPB : P ≤ B) (hc : N ≤ c) (hN : N ≤ 268435455) (hk9 : ls.length ≤ 100000) (hs : sumLen ls ≤ 100000) :
    Calls Tryd.prog 28 #[.slice A N c] w fun e w' => ∃ v, e = .returned (.tuple #[v, .bool true]) ∧ (∀ t', ∃ A c, v = .slice A ls.length c ∧ ls.length ≤ c ∧ (Kd.slice t' (Kd.int .u8)).C w' A ls.length ls) ∧ Below w.heap.size w w' := by
  obtain ⟨ns, mid, bs, hF, hX1, hX2⟩ := hX
  obtain ⟨k, hk⟩ : ∃ k, ls.length = k := ⟨_, rfl⟩
  have HKL := Aside0.mk hk
  have HF := Aside0.mk hF
  have HX2 := Aside0.mk hX2
  have HS := Aside0.mk hs
  have HNL : Aside0 (ns.length = k) := ⟨by rw [hF.len]; exact hk⟩
  have HIL : Aside0 ((intsL ns).length = k) := ⟨by rw [intsL_length]; exact HNL.out⟩
  have HTL : Aside0 ((tailsL ls ns).length = k) := ⟨by rw [tailsL_length]; exact HNL.out⟩
  have HSL : Aside0 (sumLen (tailsL ls ns) ≤ 100000) := ⟨Nat.le_trans (tails_le hF.len) hs⟩
  have hk99 : k ≤ 100000 := by omega
  obtain ⟨R, hR⟩ : ∃ R, mid.length = R := ⟨_, rfl⟩
  have HML := Aside0.mk hR
  have hR9 : R ≤ N := by
    have h1 := hC.1
    rw [hX1.eq] at h1
    simp only [List.length_append] at h1
    omega
  have hb := fstI_bd hX1.bd
  have hvv := hX1.vals
  have HRD := Aside0.mk (readDelta32_calls A N c X B P S (intsL ns).length (fstI (intsL ns)) bs mid w hC hX1.eq hc hN hX1.hB hX1.hB1 hX1.hS hX1.hP hPB (by have := hX1.hB9; omega) (by have := HIL.out; omega) (by omega) (by omega) hX1.ok)
  rw [hvv, hR] at HRD
  have HSM := Aside0.mk (sumLen_le ls)
  obtain ⟨i8, h8⟩ := h8
  rw [HKL.out]
  clear hC hX1 hX2 hk hR hb hvv hs hk9 hF
  go_enter Tryd.func28, Tryd.ntmps28
  go_wp2_with (first
    | (go_at_call 57; go_loud (with_reducible refine HRD.out.mono ?_); rintro e w2 ⟨v2, A2, c2, rfl, ho, hc2, hr, hb⟩; obtain ⟨A1, c1, rfl, hc1, hr1⟩ := ho.read; rw [HIL.out] at hc1 hr1; rw [HIL.out]; have HR1 := Aside0.mk hr1; have HR2 := Aside0.mk (hr w2 hb); have HB2 := Aside0.mk hb; clear ho hr hb hr1)
    | (go_at_call 58; go_loud (with_reducible refine (readLengthsV_calls A2 R c2 mid (tailsL ls ns) B P S w2 HR2.out HX2.out hPB hc2 (by omega) (by rw [HTL.out]; exact hk99) HSL.out).mono ?_); rintro e w3 ⟨v3, rfl, hv, hb⟩; obtain ⟨A3, c3, rfl, hc3, hr3⟩ := hv 5; rw [HTL.out] at hc3 hr3; rw [HTL.out]; have HR3 := Aside0.mk hr3; have HR13 := Aside0.mk (Kd.C_below HR1.out hb); have HB3 := Aside0.mk (HB2.out.trans (hb.mono HB2.out.size)); clear hv hb hr3))
  have HO0 : Aside0 (OwnE encS w3 w3.heap.size 29 (.slice none 0 0) []) := ⟨OwnE.nil _ _ _ _⟩
  have HL0 : Aside0 (Own w3 w3.heap.size 5 .u8 (.slice none 0 0) (prevL ls 0)) := ⟨Own.nil _ _ _ _⟩
  have HV0 : Aside0 (OViews w3 w3.heap.size (ls.take 0) []) := ⟨⟨by simp, fun j l h => by simp at h⟩⟩
  have HB0 : Aside0 (Below w3.heap.size w3 w3) := ⟨Below.refl _ _⟩
  go_loopg [9, 10, 11, 12, 39] k (fun kq v9 v10 v11 v12 v39 w' => ∃ (j ll : Nat) (Al : Option Addr) (cl : Nat) (zs : List (Option Addr × Nat × Nat)), j ≤ k ∧ v39 = .int .i64 j ∧ v10 = .slice Al ll cl ∧ Aside0 ((prevL ls j).length = ll) ∧ Aside0 (Own w' w3.heap.size 5 .u8 (.slice Al ll cl) (prevL ls j)) ∧ Aside0 (OwnE encS w' w3.heap.size 29 v9 zs) ∧ Aside0 (OViews w' w3.heap.size (ls.take j) zs) ∧ Aside0 (Below w3.heap.size w3 w') ∧ Aside0 (k - j ≤ kq))
  case atStart => exact ⟨0, 0, none, 0, [], by omega, rfl, rfl, ⟨rfl⟩, HL0, HO0, HV0, HB0, ⟨by omega⟩⟩
  case round =>
    clear HO0 HL0 HV0 HB0
    obtain ⟨j, ll, Al, cl, zs, hj, rfl, rfl, HPL, HL, HO, HV, HB, HK⟩ := hrel
    by_cases cj : j < k
    · have cjb : decide ((j : Int) < (k : Int)) = true := decide_eq_true (by omega)
      have cjn : decide (j < k) = true := decide_eq_true cj
      have hfa := HF.out.at' j (by rw [HKL.out]; exact cj)
      obtain ⟨ad, ead, x0⟩ := Kd.at_int (Kd.C_below HR13.out HB.out) (j : Int) (by omega) (by omega)
      rw [Int.toNat_natCast, rd_intsL ns j (by rw [HNL.out]; exact cj)] at x0
      obtain ⟨bd, Aj, cj', ebd, ycell, hle, hCj⟩ := at_list HR3.out j cj
      have hyb := World.block_lt_of_cell? w3 _ ycell
      have htg := tailsL_getD ls ns j (by rw [HNL.out]; exact cj)
      obtain ⟨p, hp⟩ : ∃ p, ns.getD j 0 = p := ⟨_, rfl⟩
      rw [hp] at x0 hfa htg
      obtain ⟨l, hl⟩ : ∃ l, (tailsL ls ns).getD j [] = l := ⟨_, rfl⟩
      rw [hl] at ycell hle hCj htg
      obtain ⟨d, hd⟩ : ∃ d, l.length = d := ⟨_, rfl⟩
      rw [hd] at ycell hle hCj
      have hpl : p ≤ ll := by rw [← HPL.out]; exact hfa.le1
      have hjoin := hfa.join
      rw [← htg] at hjoin
      have HJ := Aside0.mk hjoin
      obtain ⟨Al', cl2, el, hcl, hrl⟩ := HL.out.read
      rw [HPL.out] at el hcl hrl
      injection el with el1 el2 el3
      subst el1 el3
      obtain ⟨cutP, hCP⟩ := cutHi (P := Tryd.prog) 29 5 Tryd.underlying29 h8.1 Al ll cl .i64 (p : Int) p rfl hpl hcl
      have HLP := Aside0.mk (hCP (Kd.int .u8) wr _ hrl)
      have HPT : Aside0 (((prevL ls j).take p).length = p) := ⟨by rw [List.length_take, HPL.out]; omega⟩
      have hmj : (ls.getD j []).length = p + d := by
        have h1 := congrArg List.length hjoin
        rw [List.length_append, HPT.out, hd] at h1; omega
      have HMJ := Aside0.mk hmj
      have hm9 : p + d ≤ 100000 := by
        have h1 := sumLen_take ls j (by rw [HKL.out]; exact cj)
        have h2 := HSM.out (j + 1)
        have := HS.out; omega
      have HTK : Aside0 (ls.take (j + 1) = ls.take j ++ [ls.getD j []]) := ⟨by rw [List.take_succ_eq_append_getElem (by rw [HKL.out]; exact cj)]; simp [List.getD_eq_getElem?_getD, (show j < ls.length by rw [HKL.out]; exact cj)]⟩
      have HYY : Aside0 (∀ W1, Below w3.heap.size w3 W1 → W1.cell? (bd.add j) = some (.slice Aj d cj')) := ⟨fun W1 h => (h.cell hyb).trans ycell⟩
      have HCJ : Aside0 (∀ W1, Below w3.heap.size w3 W1 → (Kd.int .u8).C W1 Aj d l) := ⟨fun W1 h => Kd.C_below hCj h⟩
      have HLD := Aside0.mk hd
      have HZL : Aside0 (zs.length = j) := ⟨by rw [HV.out.len, List.length_take, HKL.out]; omega⟩
      have ywr := HYY.out wr HB.out
      have qd : decide ((p : Int) < 0) = false := decide_eq_false (by omega)
      have qd2 : decide ((ll : Int) < (p : Int)) = false := decide_eq_false (by omega)
      have qd3 : ¬ ll < p := by omega
      have b0 := World.block_lt_of_cell? wr _ x0
      have b1 := World.block_lt_of_cell? wr _ ywr
      have qi1 : (j : Int) < (k : Int) := by omega
      have qi0 : (0 : Int) ≤ (j : Int) := by omega
      have qj1 : ((j : Int) < (k : Int)) = True := eq_true (by omega)
      have qj2 : (j < k) = True := eq_true cj
      have qj0 : (0 ≤ (j : Int)) = True := eq_true (by omega)
      have HE : Aside0 (Own (wr.alloc (.cells #[] 5)) wr.heap.size 5 .u8 (.slice (some ⟨wr.heap.size, 0, none⟩) 0 0) []) := ⟨Own.empty wr wr.heap.size 5 .u8 (Nat.le_refl _)⟩
      have HEB : Aside0 (Below wr.heap.size wr (wr.alloc (.cells #[] 5))) := ⟨(Below.refl _ _).alloc (Nat.le_refl _) _⟩
      have HWW : Aside0 (∀ W1, Below wr.heap.size wr W1 → Below w3.heap.size w3 W1) := ⟨fun W1 h => HB.out.trans (h.mono HB.out.size)⟩
      clear htg hp hl hd hfa hjoin hCP hrl hmj ycell hCj hpl
      subst ead ebd
      go_wp2_with (fail)
      go_region_held3 (fun (w9 : World) => w9.cell? (bd.add j) = some (.slice Aj d cj'))
        (first
          | exact HYY.out _ (HWW.out _ HB5.out)
          | exact HYY.out _ (HWW.out _ HB4.out)
          | exact HYY.out _ (HWW.out _ (HEB.out.trans ((drewN_below _ 1).mono HEB.out.size)))
          | exact HYY.out _ (HB.out.drew))
        ((first
          | (refine appendReadStep (w0 := wr) wr.heap.size (by rfl) (.tmp 52) (.tmp 55) 29 5 .u8 1 (by rfl) Tryd.underlying29 infoU8 (by decide) (.slice (some ⟨wr.heap.size, 0, none⟩) 0 0) [] Al p cl ((prevL ls j).take p) (by rfl) (by rfl) ?ho ?hb ?hs ?hC ?hl ?_; (case ho => exact HE.out.drewN 1); (case hb => exact HEB.out.trans ((drewN_below _ 1).mono HEB.out.size)); (case hs => exact HEB.out.size); (case hC => exact Kd.C_below HLP.out (HEB.out.trans ((drewN_below _ 1).mono HEB.out.size))); (case hl => simp; omega); intro v4 w4 ho hb hg; rw [List.nil_append] at ho; have HO4 := Aside0.mk ho; have HB4 := Aside0.mk hb; clear ho hb hg)
          | (refine appendReadStep (w0 := wr) wr.heap.size (by rfl) (.tmp 56) (.tmp 60) 29 5 .u8 1 (by rfl) Tryd.underlying29 infoU8 (by decide) v4 ((prevL ls j).take p) Aj d cj' l (by rfl) (by rfl) HO4.out HB4.out HB4.out.size (HCJ.out _ (HWW.out _ HB4.out)) ?hl ?_; (case hl => rw [HPT.out]; omega); intro v5 w5 ho hb hg; rw [HJ.out] at ho; obtain ⟨A5, c5, e5, hc5, _⟩ := ho.read; rw [HMJ.out] at e5 hc5; subst e5; have HO5 := Aside0.mk ho; have HB5 := Aside0.mk hb; clear ho hb hg)
          | fail "no arm"))
      have HOL : Aside0 (Own w5 w3.heap.size 5 .u8 (.slice A5 (p + d) c5) (ls.getD j [])) := ⟨Own.lower HO5.out HB.out.size⟩
      have HT5 := Aside0.mk (HO.out.below HB5.out)
      have HV5 := Aside0.mk (HV.out.below HB5.out)
      have HBW5 := Aside0.mk (HWW.out _ HB5.out)
      clear HO HV HL ywr
      go_wp2_with (first
        | (at_builtin; go_loud (refine appendOneE (w0 := w3) encS w3.heap.size rfl (.tmp 62) (.tmp 64) 35 29 (.slice none 0 0) 24 rfl Tryd.underlying35 infoSl2 rfl (by decide) u9 zs (A5, p + d, c5) rfl rfl rfl HT5.out HBW5.out ?hb ?hl ?_); (case hb => exact HBW5.out.size); (case hl => rw [HZL.out]; omega); intro v6 w6 ho hb hg; have HV6 := Aside0.mk (HV5.out.grown HT5.out hg); have HL6 := Aside0.mk (HOL.out.grown hg (own_type_ne HOL.out.out HT5.out.out tneS)); have HO6 := Aside0.mk ho; have HB6 := Aside0.mk hb; clear ho hb hg))
      go_roundg (gk - 1)
      case measure => have := HK.out; omega
      case rel =>
        refine ⟨j + 1, p + d, A5, c5, zs ++ [(A5, p + d, c5)], by omega, by go_num, rfl, ⟨HMJ.out⟩, ⟨HL6.out⟩, HO6, ⟨?_⟩, HB6, ⟨by have := HK.out; omega⟩⟩
        rw [HTK.out]
        have h := HV6.out.snoc (l := ls.getD j []) (A := A5) (c := c5) (by rw [HMJ.out]; exact HL6.out)
        rw [HMJ.out] at h
        exact h
    · obtain rfl : j = k := by omega
      have cjb : decide ((j : Int) < (j : Int)) = false := decide_eq_false (by omega)
      have HTA : Aside0 (ls.take j = ls) := ⟨by rw [← HKL.out, List.take_length]⟩
      rw [HTA.out] at HV
      go_wp2_with (fail)
      go_ret2
      refine ⟨u9, rfl, fun t' => ?_, HB3.out.trans (HB.out.mono HB3.out.size)⟩
      have h := views_C HO.out HV.out.views t'
      rw [HKL.out] at h
      exact h
end Go.Proofs.YtigmcdpjlkgocaaDoor.Dfs
