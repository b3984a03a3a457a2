import Derived.Test.YtcboegodjlfmnaaDoorSlMta
import Derived.Test.YtcboegodjlfmnaaDoorSlMtk
namespace Go.Proofs.YtcboegodjlfmnaaDoor.Tvo
open Go.Proofs.YtcboegodjlfmnaaDoor.Dpu Go.Proofs.YtcboegodjlfmnaaDoor.Pak Go.Proofs.YtcboegodjlfmnaaDoor.Buf Go.Proofs.YtcboegodjlfmnaaDoor.Fit Go.Proofs.YtcboegodjlfmnaaDoor.Bit Go.Proofs.YtcboegodjlfmnaaDoor.Wrd Go.Proofs.YtcboegodjlfmnaaDoor.Spl Go.Proofs.YtcboegodjlfmnaaDoor.Str Go.Proofs.YtcboegodjlfmnaaDoor.Flt Go.Proofs.YtcboegodjlfmnaaDoor.Owe Go.Proofs.YtcboegodjlfmnaaDoor.Num Go.Proofs.YtcboegodjlfmnaaDoor.Le Go.Proofs.YtcboegodjlfmnaaDoor.Lst Go.Proofs.YtcboegodjlfmnaaDoor.Aid Go.RowKit Go.Proofs.YtcboegodjlfmnaaDoorW.PrintWords Go.Proofs.YtcboegodjlfmnaaDoorW.PrintLast Go.Proofs.YtcboegodjlfmnaaDoorW.PrintMore
set_option linter.unusedVariables false
set_option linter.unusedSimpArgs false
abbrev buV (b : Nat) : Value := .iface 100 (.pointer (some ⟨b, 0, none⟩))
structure WbO (w : World) (g b o : Nat) (xs : List Int) : Prop where
  mk :: (out : ∃ cs : Array Value, Blk w g cs 166 ∧ cs.size = 20 ∧ cs[9]? = some (buV b) ∧ (∀ j : Nat, 1 ≤ j → j < 9 → ∃ x, cs[j]? = some (.int .u8 x)) ∧ ∀ j : Nat, j < xs.length → cs[o + j]? = some (.int .u8 (rd xs (j : Nat))))
namespace WbO
variable {w : World} {g b o : Nat} {xs : List Int}
theorem cell (h : WbO w g b o xs) (j : Nat) (hj : j < 20) : ∃ v, w.cell? ⟨g, j, none⟩ = some v := by
  obtain ⟨cs, hb, hc, _, _⟩ := h.out
  exact ⟨cs[j], hb.cell (Array.getElem?_eq_getElem (by rw [hc]; exact hj))⟩
theorem dst (h : WbO w g b o xs) : w.cell? ⟨g, 9, none⟩ = some (buV b) := by
  obtain ⟨cs, hb, hc, h9, _⟩ := h.out
  exact hb.cell h9
theorem eight (h : WbO w g b o xs) (j : Nat) (h1 : 1 ≤ j) (h9 : j < 9) : ∃ x, w.cell? ⟨g, j, none⟩ = some (.int .u8 x) := by
  obtain ⟨cs, hb, hc, _, h8, _⟩ := h.out
  obtain ⟨x, hx⟩ := h8 j h1 h9
  exact ⟨x, hb.cell hx⟩
theorem at' (h : WbO w g b o xs) (j : Nat) (hj : j < xs.length) : w.cell? ⟨g, o + j, none⟩ = some (.int .u8 (rd xs (j : Nat))) := by
  obtain ⟨cs, hb, hc, _, _, hx⟩ := h.out
  exact hb.cell (hx j hj)
theorem free (h : WbO w g b o xs) (j : Nat) : w.frozen? ⟨g, j, none⟩ = false := by obtain ⟨cs, hb, _⟩ := h.out; exact hb.free j
theorem lt (h : WbO w g b o xs) : g < w.heap.size := by obtain ⟨cs, hb, _⟩ := h.out; exact hb.lt
theorem clr (h : WbO w g b o xs) (o' : Nat) : WbO w g b o' [] := by
  obtain ⟨cs, hb, hc, h9, h8, _⟩ := h.out
  exact ⟨cs, hb, hc, h9, h8, fun j hj => absurd hj (Nat.not_lt_zero _)⟩
theorem push (h : WbO w g b o xs) (i : Nat) (hi : i = o + xs.length) (h20 : i < 20) (h9 : i ≠ 9) (y : Int) : WbO (w.setCell ⟨g, i, none⟩ (.int .u8 y)) g b o (xs ++ [y]) := by
  subst hi
  obtain ⟨cs, hb, hc, h9', h8, hx⟩ := h.out
  refine ⟨_, hb.set (o + xs.length) (.int .u8 y), by simp [hc], by rw [Array.getElem?_setIfInBounds_ne h9]; exact h9', fun j h1 hj => ?_, fun j hj => ?_⟩
  · rw [Array.getElem?_setIfInBounds]
    by_cases e : o + xs.length = j
    · rw [if_pos e, if_pos (by omega)]; exact ⟨y, rfl⟩
    · rw [if_neg e]; exact h8 j h1 hj
  rw [List.length_append, List.length_singleton] at hj
  rw [Array.getElem?_setIfInBounds]
  by_cases e : xs.length = j
  · subst e
    rw [if_pos rfl, if_pos (by omega)]
    unfold rd
    simp
  · rw [if_neg (by omega), hx j (by omega)]
    unfold rd
    rw [Int.toNat_natCast, List.getD_eq_getElem?_getD, List.getD_eq_getElem?_getD, List.getElem?_append_left (by omega)]
theorem same {w1 : World} (h : WbO w g b o xs) (e : w1.heap[g]? = w.heap[g]?) : WbO w1 g b o xs := by
  obtain ⟨cs, hb, hr⟩ := h.out
  exact ⟨cs, ⟨e.trans hb.out⟩, hr⟩
theorem drew (h : WbO w g b o xs) : WbO w.drew g b o xs := h.same rfl
theorem src (h : WbO w g b o xs) (ho : 0 < o) : ∀ j v, (nums .u8 xs)[j]? = some v → w.cell? ((⟨g, o, none⟩ : Addr).add j) = some v := by
  intro j v hj
  have hl : j < xs.length := by
    have := (List.getElem?_eq_some_iff.1 hj).1
    simpa [nums] using this
  have ea : (⟨g, o, none⟩ : Addr).add j = ⟨g, o + j, none⟩ := by unfold Go.Addr.add; by_cases c : j = 0 <;> simp [c]
  rw [ea, h.at' j hl]
  simp only [nums, List.getElem?_map, List.getElem?_eq_getElem hl, Option.map_some, Option.some.injEq] at hj
  rw [← hj]
  simp [rd, List.getD_eq_getElem?_getD, List.getElem?_eq_getElem hl]
end WbO
theorem _root_.Go.World.grownBy.drew2 {w w1 : World} {r : Option Nat} (h : w.grownBy w1 r) : w.grownBy w1.drew r := ⟨h.os, h.tape, h.output, h.size, h.block⟩
set_option maxHeartbeats 4000000 in
theorem putUvarintW_calls (g b n c x : Nat) (w : World) (hF : WbO w g b 10 []) (hx : x < 18446744073709551616) (hn : (varL x).length ≤ n) :
    Calls Tryd.prog 144 #[.slice (some ⟨g, 10, none⟩) n c, .int .u64 x] w fun e w' => e = .returned (.int .i64 ((varL x).length : Int)) ∧ WbO w' g b 10 (varL x) ∧ w.grownBy w' (some g) := by
  have HF := Aside0.mk hF
  have HL10 := varL_len10 x hx
  clear hF
  go_enter Tryd.func144, Tryd.ntmps144
  go_wp2_with (fail)
  have HB0 : Aside0 (w.grownBy w (some g)) := ⟨grownRefl _ _⟩
  go_loopg [1, 5] 10 (fun kq v1 v5 w' => ∃ (y i : Nat) (pre : List Int), v1 = .int .u64 y ∧ v5 = .int .i64 i ∧ y ≤ x ∧ i ≤ 10 ∧ Aside0 (pre.length = i) ∧ Aside0 (pre ++ varL y = varL x) ∧ Aside0 (WbO w' g b 10 pre) ∧ Aside0 (w.grownBy w' (some g)) ∧ Aside0 (10 - i ≤ kq))
  case atStart => exact ⟨x, 0, [], rfl, rfl, Nat.le_refl _, by omega, ⟨rfl⟩, ⟨rfl⟩, HF, HB0, ⟨by omega⟩⟩
  case round =>
    obtain ⟨y, i, pre, rfl, rfl, hyx, hi5, HP, HV, HR, HG, HK⟩ := hrel
    have hlen : i + (varL y).length = (varL x).length := by rw [← HV.out, List.length_append, HP.out]
    have hpos := varL_pos y
    have hin : i < n := by omega
    have hi10 : i < 10 := by omega
    obtain ⟨z, rc⟩ := HR.out.cell (10 + i) (by omega)
    have rf := HR.out.free (10 + i)
    have qin : ((i : Int) < (n : Int)) = True := eq_true (by omega)
    by_cases c : 128 ≤ y
    · have qc : decide (128 ≤ (y : Int)) = true := decide_eq_true (by omega)
      have qc2 : decide (128 ≤ y) = true := decide_eq_true c
      have e := varL_hi (n := y) (by omega)
      have hl2 : (varL y).length = (varL (y / 128)).length + 1 := by rw [e]; simp
      have hp2 := varL_pos (y / 128)
      have hor : bits BinOp.or IntKind.u8 ((y : Int) % 256) 128 = ((y % 128 + 128 : Nat) : Int) := by
        rw [show ((y : Int) % 256) = ((y % 256 : Nat) : Int) by omega, show (128 : Int) = ((128 : Nat) : Int) from rfl, u8_or_nat (y % 256) 128 (Nat.mod_lt _ (by omega)) (by omega), or128]
      have HE := Aside0.mk e
      clear e
      go_wp2_with (fail)
      go_roundg (gk - 1)
      case measure => have := HK.out; omega
      case rel =>
        exact ⟨y / 128, i + 1, pre ++ [((y % 128 + 128 : Nat) : Int)], by push_cast; rfl, by go_num, by omega, by omega, ⟨by rw [List.length_append, HP.out]; rfl⟩, ⟨by rw [List.append_assoc, List.singleton_append, ← HE.out]; exact HV.out⟩, ⟨HR.out.push (10 + i) (by rw [HP.out]) (by omega) (by omega) _⟩, ⟨grownSet HG.out _ _⟩, ⟨by have := HK.out; omega⟩⟩
    · have qc : decide (128 ≤ (y : Int)) = false := decide_eq_false (by omega)
      have qc2 : decide (128 ≤ y) = false := decide_eq_false c
      have e := varL_lo (n := y) (by omega)
      have hl2 : (varL y).length = 1 := by rw [e]; rfl
      have hi1 : i + 1 = (varL x).length := by omega
      have HE := Aside0.mk e
      have HI := Aside0.mk hi1
      clear e
      go_wp2_with (fail)
      go_ret
      refine ⟨by rw [← HI.out]; push_cast; rfl, ?_, grownSet HG.out _ _⟩
      rw [← HV.out, HE.out]
      exact HR.out.push (10 + i) (by rw [HP.out]) (by omega) (by omega) _
set_option maxHeartbeats 4000000 in
theorem putVarintW_calls (g b n c : Nat) (x : Int) (w : World) (hF : WbO w g b 10 []) (hx0 : -9223372036854775808 ≤ x) (hx1 : x ≤ 9223372036854775807) (hn : (varL (zz x)).length ≤ n) :
    Calls Tryd.prog 143 #[.slice (some ⟨g, 10, none⟩) n c, .int .i64 x] w fun e w' => e = .returned (.int .i64 ((varL (zz x)).length : Int)) ∧ WbO w' g b 10 (varL (zz x)) ∧ w.grownBy w' (some g) := by
  have HPU := Aside0.mk (putUvarintW_calls g b n c (zz x) w hF (zz_lt x hx0 hx1) hn)
  obtain ⟨Z, hZ⟩ : ∃ Z, zz x = Z := ⟨_, rfl⟩
  rw [hZ] at HPU ⊢
  clear hF hn
  by_cases c : x < 0
  · have qc : decide (x < 0) = true := decide_eq_true c
    have hzI : (Z : Int) = -2 * x - 1 := by rw [← hZ]; unfold zz; rw [if_neg (by omega)]; omega
    obtain ⟨u, hu⟩ : ∃ u, IntKind.u64.wrap x = u := ⟨_, rfl⟩
    have hu2 : u = x + 18446744073709551616 := by rw [← hu, IntKind.wrap_u64]; omega
    obtain ⟨s, hs⟩ : ∃ s, IntKind.u64.wrap (u * 2) = s := ⟨_, rfl⟩
    have hs3 : s = 2 * x + 18446744073709551616 := by rw [← hs, IntKind.wrap_u64]; omega
    have hx := not64 s (by omega) (by omega)
    rw [show 18446744073709551615 - s = (Z : Int) by omega] at hx
    clear hu2 hs3 hzI
    clear hZ
    go_enter Tryd.func143, Tryd.ntmps143
    go_wp2_with (first
      | (go_at_call 144; go_loud (with_reducible refine HPU.out.mono ?_); rintro e w2 ⟨rfl, hf, hg⟩))
    go_ret
    exact ⟨rfl, hf, hg⟩
  · have qc : decide (x < 0) = false := decide_eq_false c
    have hzI : x * 2 = (Z : Int) := by rw [← hZ]; unfold zz; rw [if_pos (by omega)]; omega
    have hu : IntKind.u64.wrap x = x := IntWalk.u64_in _ (by omega)
    clear hZ
    go_enter Tryd.func143, Tryd.ntmps143
    go_wp2_with (first
      | (go_at_call 144; go_loud (with_reducible refine HPU.out.mono ?_); rintro e w2 ⟨rfl, hf, hg⟩))
    go_ret
    exact ⟨rfl, hf, hg⟩
end Go.Proofs.YtcboegodjlfmnaaDoor.Tvo
