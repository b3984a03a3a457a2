import Derived.Test.YtcboegodjlfmnaaTzs
import Derived.Test.YtcboegodjlfmnaaTbk
import Derived.Test.YtcboegodjlfmnaaTwb
import Derived.Deep.RegionHeld3
import Derived.Deep.RegionLaw
/-! laws.zzFits5, laws.thIs. -/
namespace Go.Proofs.Ytcboegodjlfmnaa.Twd
open Go.Proofs.Ytcboegodjlfmnaa.Twb Go.Proofs.Ytcboegodjlfmnaa.Tbk Go.Proofs.Ytcboegodjlfmnaa.Twc Go.Proofs.Ytcboegodjlfmnaa.Twb Go.Proofs.Ytcboegodjlfmnaa.Twa Go.Proofs.Ytcboegodjlfmnaa.Tit Go.Proofs.Ytcboegodjlfmnaa.Tsd Go.Proofs.Ytcboegodjlfmnaa.Ton Go.Proofs.Ytcboegodjlfmnaa.Tpw Go.Proofs.Ytcboegodjlfmnaa.Tap Go.Proofs.Ytcboegodjlfmnaa.Tzm Go.Proofs.Ytcboegodjlfmnaa.Tzl Go.Proofs.Ytcboegodjlfmnaa.Trh Go.Proofs.Ytcboegodjlfmnaa.Trn Go.Proofs.Ytcboegodjlfmnaa.Trm Go.Proofs.Ytcboegodjlfmnaa.Tuv Go.Proofs.Ytcboegodjlfmnaa.Tpa Go.Proofs.Ytcboegodjlfmnaa.Duv Go.Proofs.Ytcboegodjlfmnaa.Dpu Go.Proofs.Ytcboegodjlfmnaa.Pak Go.Proofs.Ytcboegodjlfmnaa.Buf Go.Proofs.Ytcboegodjlfmnaa.Fit Go.Proofs.Ytcboegodjlfmnaa.Bit Go.Proofs.Ytcboegodjlfmnaa.Wrd Go.Proofs.Ytcboegodjlfmnaa.Spl Go.Proofs.Ytcboegodjlfmnaa.Str Go.Proofs.Ytcboegodjlfmnaa.Flt Go.Proofs.Ytcboegodjlfmnaa.Owe Go.Proofs.Ytcboegodjlfmnaa.Num Go.Proofs.Ytcboegodjlfmnaa.Le Go.Proofs.Ytcboegodjlfmnaa.Lst Go.Proofs.Ytcboegodjlfmnaa.Aid Go.RowKit Go.Proofs.YtcboegodjlfmnaaW.PrintWords Go.Proofs.YtcboegodjlfmnaaW.PrintLast Go.Proofs.YtcboegodjlfmnaaW.PrintMore Go.Proofs.Ytcboegodjlfmnaa.Tpv
set_option linter.unusedVariables false
set_option linter.unusedSimpArgs false
theorem own_ne {v v1 : Value} {z n : Nat} (hat : v1.ownBlock = v.ownBlock ∨ v1.ownBlock = some n) (h : v.ownBlock ≠ some z) (hn : z < n) : v1.ownBlock = none ∨ v1.ownBlock ≠ some z :=
  .inr (by rcases hat with e | e
           · rw [e]; exact h
           · rw [e]; intro k; injection k with k; omega)
theorem own_new {w : World} {base t : Nat} {k : IntKind} {v : Value} {xs : List Int} (h : Own w base t k v xs) : v.ownBlock = none ∨ v.ownBlock ≠ some w.heap.size :=
  .inr (fun e => by have := (own_lt h.out e).2; omega)
theorem own_ne2 {w : World} {o : Obj} {base t : Nat} {k : IntKind} {v v1 : Value} {xs : List Int} (hat : v1.ownBlock = v.ownBlock ∨ v1.ownBlock = some (w.alloc o).heap.size) (h : Own w base t k v xs) : v1.ownBlock = none ∨ v1.ownBlock ≠ some w.heap.size :=
  .inr (by rcases hat with e | e
           · rw [e]; exact fun e => by have := (own_lt h.out e).2; omega
           · rw [e]; intro k; injection k with k; rw [allocSize] at k; omega)
/-- a value has been read whole -/
structure Got (x : N) (M : Nat) (W wx : World) (v7 v8 v9 : Value) : Prop where
  mk :: (out : ∃ (g k5 kj5 k7 kj7 k8 kj8 : Nat) (E5 E7 E8 : Option Addr), v7 = .pointer (some ⟨g, 0, none⟩) ∧ v8 = .int .i64 M ∧ v9 = .bool true ∧ Below W.heap.size W wx ∧ W.heap.size ≤ g ∧ Blk wx g #[.int .i64 x.d.ty, .bool x.d.bo, .int .i64 x.d.n, .int .u64 (x.d.bits : Int), .slice E5 k5 kj5, .int .i64 x.d.ky, .int .i64 x.d.el, .slice E7 k7 kj7, .slice E8 k8 kj8] 38 ∧ x.In flT wx (fun b => b < wx.heap.size) [.int .i64 x.d.ty, .bool x.d.bo, .int .i64 x.d.n, .int .u64 (x.d.bits : Int), .slice E5 k5 kj5, .int .i64 x.d.ky, .int .i64 x.d.el, .slice E7 k7 kj7, .slice E8 k8 kj8])
theorem got_late {x : N} {M lo : Nat} {W w4 : World} {E5 E7 E8 : Option Addr} {k5 kj5 k7 kj7 k8 kj8 : Nat} (hb : Below W.heap.size W w4) (hi : x.In flT w4 (fun b => lo ≤ b ∧ b < w4.heap.size) [.int .i64 x.d.ty, .bool x.d.bo, .int .i64 x.d.n, .int .u64 (x.d.bits : Int), .slice E5 k5 kj5, .int .i64 x.d.ky, .int .i64 x.d.el, .slice E7 k7 kj7, .slice E8 k8 kj8]) :
    Got x M W (w4.alloc (.cells #[.int .i64 x.d.ty, .bool x.d.bo, .int .i64 x.d.n, .int .u64 (x.d.bits : Int), .slice E5 k5 kj5, .int .i64 x.d.ky, .int .i64 x.d.el, .slice E7 k7 kj7, .slice E8 k8 kj8] 38)) (.pointer (some ⟨w4.heap.size, 0, none⟩)) (.int .i64 M) (.bool true) :=
  ⟨⟨w4.heap.size, k5, kj5, k7, kj7, k8, kj8, E5, E7, E8, rfl, rfl, rfl, hb.alloc hb.size _, hb.size, Blk.new w4 _ _, hi.move (fun b hb => Below.heap_alloc _ _ b hb.2) (fun b hb => by rw [allocSize]; exact Nat.lt_succ_of_lt hb.2)⟩⟩
theorem got_early {x : N} {M lo z : Nat} {W w4 : World} {E5 E7 E8 : Option Addr} {k5 kj5 k7 kj7 k8 kj8 : Nat} {c0 c1 c2 c3 c4 c5 c6 c7 c8 : Value} (hb : Below W.heap.size W w4) (hi : x.In flT w4 (fun b => lo ≤ b ∧ b < w4.heap.size) [.int .i64 x.d.ty, .bool x.d.bo, .int .i64 x.d.n, .int .u64 (x.d.bits : Int), .slice E5 k5 kj5, .int .i64 x.d.ky, .int .i64 x.d.el, .slice E7 k7 kj7, .slice E8 k8 kj8]) (hz : W.heap.size ≤ z) (hl : z < lo) (hZ : Blk w4 z #[c0, c1, c2, c3, c4, c5, c6, c7, c8] 38) :
    Got x M W (((((((((w4.setCell ⟨z, 0, none⟩ (.int .i64 x.d.ty)).setCell ⟨z, 1, none⟩ (.bool x.d.bo)).setCell ⟨z, 2, none⟩ (.int .i64 x.d.n)).setCell ⟨z, 3, none⟩ (.int .u64 (x.d.bits : Int))).setCell ⟨z, 4, none⟩ (.slice E5 k5 kj5)).setCell ⟨z, 5, none⟩ (.int .i64 x.d.ky)).setCell ⟨z, 6, none⟩ (.int .i64 x.d.el)).setCell ⟨z, 7, none⟩ (.slice E7 k7 kj7)).setCell ⟨z, 8, none⟩ (.slice E8 k8 kj8)) (.pointer (some ⟨z, 0, none⟩)) (.int .i64 M) (.bool true) :=
  ⟨⟨z, k5, kj5, k7, kj7, k8, kj8, E5, E7, E8, rfl, rfl, rfl, belowSets hz hb, hz, nineSet hZ (.int .i64 x.d.ty) (.bool x.d.bo) (.int .i64 x.d.n) (.int .u64 (x.d.bits : Int)) (.slice E5 k5 kj5) (.int .i64 x.d.ky) (.int .i64 x.d.el) (.slice E7 k7 kj7) (.slice E8 k8 kj8), hi.move (fun b hb => Tzs.heapNine (by omega) _ _ _ _ _ _ _ _ _) (fun b hb => by rw [Tzs.sizeNine]; exact hb.2)⟩⟩
set_option maxHeartbeats 8000000 in
theorem fits_calls (ty : Int) (bo : Bool) (n : Int) (bits : Nat) (A1 : Option Addr) (n1 c1 : Nat) (ky el : Int) (A2 : Option Addr) (n2 c2 : Nat) (A3 : Option Addr) (n3 c3 : Nat) (w : World) (h1 : n1 ≤ 2147483647) (h2 : n2 ≤ 2147483647) (h3 : n3 ≤ 2147483647) :
    Calls Try.prog 9 #[.agg #[.int .i64 ty, .bool bo, .int .i64 n, .int .u64 (bits : Int), .slice A1 n1 c1, .int .i64 ky, .int .i64 el, .slice A2 n2 c2, .slice A3 n3 c3]] w fun e w' => e = .returned (.bool true) ∧ Below w.heap.size w w' := by
  have HB : Aside0 (Below w.heap.size w (w.alloc (.cells #[.int .i64 ty, .bool bo, .int .i64 n, .int .u64 (bits : Int), .slice A1 n1 c1, .int .i64 ky, .int .i64 el, .slice A2 n2 c2, .slice A3 n3 c3] 38))) := ⟨(Below.refl _ _).alloc (Nat.le_refl _) _⟩
  have HV := Aside0.mk (Blk.new w #[.int .i64 ty, .bool bo, .int .i64 n, .int .u64 (bits : Int), .slice A1 n1 c1, .int .i64 ky, .int .i64 el, .slice A2 n2 c2, .slice A3 n3 c3] 38)
  have k1 : decide (2147483647 < (n1 : Int)) = false := decide_eq_false (by omega)
  have k11 : decide (2147483647 < n1) = false := decide_eq_false (by omega)
  have k2 : decide (2147483647 < (n2 : Int)) = false := decide_eq_false (by omega)
  have k22 : decide (2147483647 < n2) = false := decide_eq_false (by omega)
  have k3 : decide (2147483647 < (n3 : Int)) = false := decide_eq_false (by omega)
  have k33 : decide (2147483647 < n3) = false := decide_eq_false (by omega)
  clear h1 h2 h3
  go_enter Try.func9, Try.ntmps9
  go_upto_region 1 with (fail)
  generalize hW : World.alloc _ _ = W at HB HV ⊢
  clear hW
  obtain ⟨q0, q1, q2, q3, q4, q5, q6, q7, q8, qz⟩ := nine HV.out
  go_wp2_with (fail)
  go_ret
  exact ⟨rfl, HB.out⟩
end Go.Proofs.Ytcboegodjlfmnaa.Twd
