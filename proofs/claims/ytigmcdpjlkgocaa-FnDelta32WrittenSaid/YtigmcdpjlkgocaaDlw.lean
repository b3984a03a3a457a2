import Derived.Test.YtigmcdpjlkgocaaDew
import Derived.Test.YtigmcdpjlkgocaaDre
/-! Differences, written: the laws. -/
namespace Go.Proofs.Ytigmcdpjlkgocaa.Dlw
open Go.Proofs.Ytigmcdpjlkgocaa.Dew Go.Proofs.Ytigmcdpjlkgocaa.Dre Go.Proofs.Ytigmcdpjlkgocaa.Dun Go.Proofs.Ytigmcdpjlkgocaa.Duv Go.Proofs.Ytigmcdpjlkgocaa.Dep Go.Proofs.Ytigmcdpjlkgocaa.Dsr Go.Proofs.Ytigmcdpjlkgocaa.Dst Go.Proofs.Ytigmcdpjlkgocaa.Deo Go.Proofs.Ytigmcdpjlkgocaa.Den Go.Proofs.Ytigmcdpjlkgocaa.Deb Go.Proofs.Ytigmcdpjlkgocaa.Drx Go.Proofs.Ytigmcdpjlkgocaa.Dds Go.Proofs.Ytigmcdpjlkgocaa.Dbw Go.Proofs.Ytigmcdpjlkgocaa.Dbk Go.Proofs.Ytigmcdpjlkgocaa.Dhd Go.Proofs.Ytigmcdpjlkgocaa.Dgr Go.Proofs.Ytigmcdpjlkgocaa.Dpu Go.Proofs.Ytigmcdpjlkgocaa.Pak Go.Proofs.Ytigmcdpjlkgocaa.Buf Go.Proofs.Ytigmcdpjlkgocaa.Fit Go.Proofs.Ytigmcdpjlkgocaa.Bit Go.Proofs.Ytigmcdpjlkgocaa.Wrd Go.Proofs.Ytigmcdpjlkgocaa.Spl Go.Proofs.Ytigmcdpjlkgocaa.Str Go.Proofs.Ytigmcdpjlkgocaa.Flt Go.Proofs.Ytigmcdpjlkgocaa.Owe Go.Proofs.Ytigmcdpjlkgocaa.Num Go.Proofs.Ytigmcdpjlkgocaa.Le Go.Proofs.Ytigmcdpjlkgocaa.Lst Go.Proofs.Ytigmcdpjlkgocaa.Aid Go.RowKit Go.Proofs.YtigmcdpjlkgocaaW.PrintWords Go.Proofs.YtigmcdpjlkgocaaW.PrintLast Go.Proofs.YtigmcdpjlkgocaaW.PrintMore
set_option linter.unusedVariables false
set_option linter.unusedSimpArgs false
set_option maxHeartbeats 4000000 in
theorem dlWide_calls (A : Option Addr) (n c : Nat) (l : List Int) (W : World) (hC : (Kd.int .i32).C W A n l) (hc : n ≤ c) (hn : n ≤ 100000) (hwf : ∀ x ∈ l, (Lit.int .i32 x).wf = true) :
    Calls Try.prog 17 #[.slice A n c] W fun e w' => ∃ v, e = .returned v ∧ Own w' W.heap.size 2 .i64 v l ∧ Below W.heap.size W w' := by
  have HLN : Aside0 (l.length = n) := ⟨hC.1⟩
  have HC := Aside0.mk hC
  have HWF := Aside0.mk hwf
  clear hC hwf
  go_enter Try.func17, Try.ntmps17
  go_wp2_with (fail)
  have HO0 : Aside0 (Own W W.heap.size 2 .i64 (.slice none 0 0) (l.take 0)) := ⟨Own.nil _ _ _ _⟩
  have HB0 : Aside0 (Below W.heap.size W W) := ⟨Below.refl _ _⟩
  go_loopg [3, 5, 8] n (fun kq v3 v5 v8 w' => ∃ j : Nat, j ≤ n ∧ v8 = .int .i64 j ∧ Aside0 (Own w' W.heap.size 2 .i64 v3 (l.take j)) ∧ Aside0 (Below W.heap.size W w') ∧ Aside0 (n - j ≤ kq))
  case atStart => exact ⟨0, by omega, rfl, HO0, HB0, ⟨by omega⟩⟩
  case round =>
    clear HO0 HB0
    obtain ⟨j, hj, rfl, HO, HB, HK⟩ := hrel
    by_cases cj : j < n
    · have cjb : decide ((j : Int) < (n : Int)) = true := decide_eq_true (by omega)
      obtain ⟨ad, ead, hcell⟩ := Kd.at_int (Kd.C_below HC.out HB.out) (j : Int) (by omega) (by omega)
      rw [Int.toNat_natCast] at hcell
      have hx := HWF.out _ (rd_mem (l := l) (i := j) (by rw [HLN.out]; exact cj))
      have HT := Aside0.mk (take_rd l j (by rw [HLN.out]; exact cj))
      obtain ⟨x, hxq⟩ : ∃ x, rd l (j : Nat) = x := ⟨_, rfl⟩
      rw [hxq] at hcell hx HT
      have hxw : IntKind.i64.wrap x = x := by
        simp [Lit.wf, IntKind.min, IntKind.max, IntKind.signed, IntKind.bits] at hx
        exact IntWalk.i64_in _ (by omega)
      have hlt : (l.take j).length ≤ 100000 := by rw [List.length_take]; omega
      subst ead
      clear hx hxq
      go_wp2_with (first
        | (at_builtin; go_loud (refine appendOwn (w0 := W) W.heap.size rfl (.tmp 12) (.tmp 15) 22 2 .i64 8 rfl Try.underlying22 infoI64w (by decide) u3 (l.take j) x rfl rfl HO.out HB.out ?hb ?hl ?_); (case hb => exact HB.out.size); (case hl => omega); intro v1 w1 ho hb hg; have HO1 := Aside0.mk ho; have HB1 := Aside0.mk hb; clear ho hb hg))
      go_roundg (gk - 1)
      case measure => have := HK.out; omega
      case rel => exact ⟨j + 1, by omega, by go_num, ⟨by rw [HT.out]; exact HO1.out⟩, HB1, ⟨by have := HK.out; omega⟩⟩
    · obtain rfl : j = n := by omega
      have cjb : decide ((j : Int) < (j : Int)) = false := decide_eq_false (by omega)
      go_wp2_with (fail)
      go_ret
      have := HO.out
      rw [← HLN.out, List.take_length] at this
      exact ⟨_, rfl, this, HB.out⟩
set_option maxHeartbeats 8000000 in
theorem delta64WrittenLaw (a1 : Option Addr) (len1 cap1 : Nat) (z1 : List Int) (W : World) (w1 : IsRow .i64 W a1 len1 cap1 z1) (y1 : len1 * 8 ≤ 140737488351232) :
    Calls Try.prog 3 #[.slice a1 len1 cap1] W fun e w' => e = .returned (.bool true) ∧ Below W.heap.size W w' := by
  obtain ⟨l, hlen, hc, hC, hwf⟩ := isRow_open w1
  have HLN := Aside0.mk hlen
  have HC := Aside0.mk hC
  have HWF := Aside0.mk hwf
  clear w1 hC hwf hlen
  by_cases h1 : 100000 < len1
  · by_cases h2 : 2147483647 < len1
    · have q1 : decide (2147483647 < (len1 : Int)) = true := decide_eq_true (by omega)
      go_enter Try.func3, Try.ntmps3
      go_wp2
      go_ret
      exact ⟨rfl, Below.refl _ _⟩
    · have q1 : decide (2147483647 < (len1 : Int)) = false := decide_eq_false (by omega)
      have q2 : decide (100000 < (len1 : Int)) = true := decide_eq_true (by omega)
      go_enter Try.func3, Try.ntmps3
      go_wp2
      go_ret
      exact ⟨rfl, Below.refl _ _⟩
  have q1 : decide (2147483647 < (len1 : Int)) = false := decide_eq_false (by omega)
  have q2 : decide (100000 < (len1 : Int)) = false := decide_eq_false (by omega)
  have hn9 : len1 ≤ 100000 := by omega
  have hfb := wf64 HWF.out
  obtain ⟨f, hf⟩ : ∃ f, fstI l = f := ⟨_, rfl⟩
  have HENC : Aside0 (Calls Try.prog 7 #[.string ⟨#[100, 101, 108, 116, 97]⟩, .slice a1 len1 cap1] W fun e w' => ∃ v bs, e = .returned (.tuple #[v, .bool true]) ∧ Own w' W.heap.size 5 .u8 v (hdL len1 f ++ blksB bs) ∧ EncOf .i64 64 l bs ∧ Below W.heap.size W w') := ⟨by rw [← hf]; exact encodeInt64sDelta_calls a1 len1 cap1 l W HC.out hc hn9 HWF.out⟩
  rw [hf] at hfb
  have hh := hdL_le len1 f (by omega) (by omega) (by omega)
  have HFQ := Aside0.mk hf
  clear hf
  go_enter Try.func3, Try.ntmps3
  go_wp2_with (first
    | (go_at_call 7; (with_reducible refine HENC.out.mono ?_); rintro e w3 ⟨v3, bs, rfl, ho, hk, hb⟩; have HK3 := Aside0.mk hk; obtain ⟨X, hX⟩ : ∃ X, hdL len1 f ++ blksB bs = X := ⟨_, rfl⟩; have HX := Aside0.mk hX; have hN9 : X.length ≤ 2000040 := (by rw [← hX, List.length_append]; have := hk.len; omega); rw [hX] at ho; obtain ⟨A3, c3, rfl, hc3, hr3⟩ := ho.read; obtain ⟨N, hN⟩ : ∃ N, X.length = N := ⟨_, rfl⟩; rw [hN] at hc3 hr3 hN9; rw [hN]; have HR3 := Aside0.mk hr3; have HB3 := Aside0.mk hb; clear ho hb hr3 hk hX hN)
    | (go_at_call 8; (with_reducible refine (readDelta64_calls A3 N c3 X 128 4 32 len1 f bs [] w3 HR3.out (by rw [← HX.out, List.append_nil, hdL_eq]) hc3 (by omega) (by omega) (by omega) (by omega) (by omega) (by omega) (by omega) (by omega) (by omega) (by omega) (by have := HK3.out.ok; rw [HLN.out] at this; exact this)).mono ?_); rintro e w4 ⟨v4, A4, c4, rfl, ho, hc4, hr4, hb⟩; rw [show (f :: blksV .i64 f bs).take len1 = l by have := HK3.out.vals; rw [HLN.out, HFQ.out] at this; exact this] at ho; obtain ⟨A5, c5, rfl, hc5, hr5⟩ := ho.read; rw [HLN.out] at hc5 hr5; rw [HLN.out]; have HR5 := Aside0.mk hr5; have HB4 := Aside0.mk (HB3.out.trans (hb.mono HB3.out.size)); have hL0 : ([] : List Int).length = 0 := rfl; clear ho hb hr4 hr5)
    | (go_at_call 9; (with_reducible refine (sameNumbers_int64_calls A5 a1 len1 c5 cap1 l w4 HR5.out (Kd.C_below HC.out HB4.out) (by omega)).mono ?_); rintro e w6 ⟨rfl, ⟨nd, rfl⟩⟩; have HB6 := Aside0.mk (HB4.out.trans ((drewN_below w4 nd).mono HB4.out.size))))
  go_ret
  exact ⟨rfl, HB6.out⟩
set_option maxHeartbeats 8000000 in
theorem delta32WrittenLaw (a1 : Option Addr) (len1 cap1 : Nat) (z1 : List Int) (W : World) (w1 : IsRow .i32 W a1 len1 cap1 z1) (y1 : len1 * 4 ≤ 140737488351232) :
    Calls Try.prog 6 #[.slice a1 len1 cap1] W fun e w' => e = .returned (.bool true) ∧ Below W.heap.size W w' := by
  obtain ⟨l, hlen, hc, hC, hwf⟩ := isRow_open w1
  have HLN := Aside0.mk hlen
  have HC := Aside0.mk hC
  have HWF := Aside0.mk hwf
  clear w1 hC hwf hlen
  by_cases h1 : 100000 < len1
  · by_cases h2 : 2147483647 < len1
    · have q1 : decide (2147483647 < (len1 : Int)) = true := decide_eq_true (by omega)
      go_enter Try.func6, Try.ntmps6
      go_wp2
      go_ret
      exact ⟨rfl, Below.refl _ _⟩
    · have q1 : decide (2147483647 < (len1 : Int)) = false := decide_eq_false (by omega)
      have q2 : decide (100000 < (len1 : Int)) = true := decide_eq_true (by omega)
      go_enter Try.func6, Try.ntmps6
      go_wp2
      go_ret
      exact ⟨rfl, Below.refl _ _⟩
  have q1 : decide (2147483647 < (len1 : Int)) = false := decide_eq_false (by omega)
  have q2 : decide (100000 < (len1 : Int)) = false := decide_eq_false (by omega)
  have hn9 : len1 ≤ 100000 := by omega
  have hfb := wf32 HWF.out
  obtain ⟨f, hf⟩ : ∃ f, fstI l = f := ⟨_, rfl⟩
  have HENC : Aside0 (Calls Try.prog 16 #[.string ⟨#[100, 101, 108, 116, 97]⟩, .int .i64 0, .slice a1 len1 cap1] W fun e w' => ∃ v bs, e = .returned (.tuple #[v, .bool true]) ∧ Own w' W.heap.size 5 .u8 v (hdL len1 f ++ blksB bs) ∧ EncOf .i32 32 l bs ∧ Below W.heap.size W w') := ⟨by rw [← hf]; exact encodeInt32sDelta_calls a1 len1 cap1 l W HC.out hc hn9 HWF.out⟩
  rw [hf] at hfb
  have hh := hdL_le len1 f (by omega) (by omega) (by omega)
  have HFQ := Aside0.mk hf
  clear hf
  go_enter Try.func6, Try.ntmps6
  go_wp2_with (first
    | (go_at_call 16; (with_reducible refine HENC.out.mono ?_); rintro e w3 ⟨v3, bs, rfl, ho, hk, hb⟩; have HK3 := Aside0.mk hk; obtain ⟨X, hX⟩ : ∃ X, hdL len1 f ++ blksB bs = X := ⟨_, rfl⟩; have HX := Aside0.mk hX; have hN9 : X.length ≤ 2000040 := (by rw [← hX, List.length_append]; have := hk.len; omega); rw [hX] at ho; obtain ⟨A3, c3, rfl, hc3, hr3⟩ := ho.read; obtain ⟨N, hN⟩ : ∃ N, X.length = N := ⟨_, rfl⟩; rw [hN] at hc3 hr3 hN9; rw [hN]; have HR3 := Aside0.mk hr3; have HB3 := Aside0.mk hb; clear ho hb hr3 hk hX hN)
    | (go_at_call 8; (with_reducible refine (readDelta32_calls A3 N c3 X 128 4 32 len1 f bs [] w3 HR3.out (by rw [← HX.out, List.append_nil, hdL_eq]) hc3 (by omega) (by omega) (by omega) (by omega) (by omega) (by omega) (by omega) (by omega) (by omega) (by omega) (by have := HK3.out.ok; rw [HLN.out] at this; exact this)).mono ?_); rintro e w4 ⟨v4, A4, c4, rfl, ho, hc4, hr4, hb⟩; rw [show (f :: blksV .i32 f bs).take len1 = l by have := HK3.out.vals; rw [HLN.out, HFQ.out] at this; exact this] at ho; obtain ⟨A5, c5, rfl, hc5, hr5⟩ := ho.read; rw [HLN.out] at hc5 hr5; rw [HLN.out]; have HR5 := Aside0.mk hr5; have HB4 := Aside0.mk (HB3.out.trans (hb.mono HB3.out.size)); have hL0 : ([] : List Int).length = 0 := rfl; clear ho hb hr4 hr5)
    | (go_at_call 17; (with_reducible refine (dlWide_calls a1 len1 cap1 l w4 (Kd.C_below HC.out HB4.out) hc hn9 HWF.out).mono ?_); rintro e w7 ⟨v7, rfl, ho, hb⟩; obtain ⟨A7, c7, rfl, hc7, hr7⟩ := ho.read; rw [HLN.out] at hc7 hr7; rw [HLN.out]; have HR7 := Aside0.mk hr7; have HR57 := Aside0.mk (Kd.C_below HR5.out hb); have HB7 := Aside0.mk (HB4.out.trans (hb.mono HB4.out.size)); clear ho hb hr7)
    | (go_at_call 9; (with_reducible refine (sameNumbers_int64_calls A5 A7 len1 c5 c7 l w7 HR57.out HR7.out (by omega)).mono ?_); rintro e w6 ⟨rfl, ⟨nd, rfl⟩⟩; have HB6 := Aside0.mk (HB7.out.trans ((drewN_below w7 nd).mono HB7.out.size))))
  go_ret
  exact ⟨rfl, HB6.out⟩
end Go.Proofs.Ytigmcdpjlkgocaa.Dlw
