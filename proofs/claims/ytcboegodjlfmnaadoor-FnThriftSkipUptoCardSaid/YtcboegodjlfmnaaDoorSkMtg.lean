import Derived.Test.YtcboegodjlfmnaaDoorSkTzr
import Derived.Test.YtcboegodjlfmnaaDoorSkTzs
import Derived.Test.YtcboegodjlfmnaaDoorSkMtd
namespace Go.Proofs.YtcboegodjlfmnaaDoor.Tzz
open Go.Proofs.YtcboegodjlfmnaaDoor.Tzs Go.Proofs.YtcboegodjlfmnaaDoor.Tzr Go.Proofs.YtcboegodjlfmnaaDoor.Tzq Go.Proofs.YtcboegodjlfmnaaDoor.Tzm Go.Proofs.YtcboegodjlfmnaaDoor.Tzl Go.Proofs.YtcboegodjlfmnaaDoor.Trh Go.Proofs.YtcboegodjlfmnaaDoor.Trn Go.Proofs.YtcboegodjlfmnaaDoor.Trm Go.Proofs.YtcboegodjlfmnaaDoor.Tuv Go.Proofs.YtcboegodjlfmnaaDoor.Tpa Go.Proofs.YtcboegodjlfmnaaDoor.Duv Go.Proofs.YtcboegodjlfmnaaDoor.Dpu Go.Proofs.YtcboegodjlfmnaaDoor.Pak Go.Proofs.YtcboegodjlfmnaaDoor.Buf Go.Proofs.YtcboegodjlfmnaaDoor.Fit Go.Proofs.YtcboegodjlfmnaaDoor.Bit Go.Proofs.YtcboegodjlfmnaaDoor.Wrd Go.Proofs.YtcboegodjlfmnaaDoor.Spl Go.Proofs.YtcboegodjlfmnaaDoor.Str Go.Proofs.YtcboegodjlfmnaaDoor.Flt Go.Proofs.YtcboegodjlfmnaaDoor.Owe Go.Proofs.YtcboegodjlfmnaaDoor.Num Go.Proofs.YtcboegodjlfmnaaDoor.Le Go.Proofs.YtcboegodjlfmnaaDoor.Lst Go.Proofs.YtcboegodjlfmnaaDoor.Aid Go.RowKit Go.Proofs.YtcboegodjlfmnaaDoorW.PrintWords Go.Proofs.YtcboegodjlfmnaaDoorW.PrintLast Go.Proofs.YtcboegodjlfmnaaDoorW.PrintMore
set_option linter.unusedVariables false
set_option linter.unusedSimpArgs false
theorem th_other {k : Nat} {ty : Int} (h : ¬ (3 ≤ ty ∧ ty ≤ 12)) (bs : List Int) : thP (k + 1) ty bs = .opn := by
  unfold thP
  rw [if_neg (by omega), if_neg (by omega), if_neg (by omega), if_neg (by omega), if_neg (by omega), if_neg (by omega), if_neg (by omega), if_neg (by omega), if_neg (by omega)]; rfl
end Go.Proofs.YtcboegodjlfmnaaDoor.Tzz

namespace Go.Proofs.YtcboegodjlfmnaaDoor.Tzv
open Go.Proofs.YtcboegodjlfmnaaDoor.Tzq Go.Proofs.YtcboegodjlfmnaaDoor.Tzm Go.Proofs.YtcboegodjlfmnaaDoor.Tzl Go.Proofs.YtcboegodjlfmnaaDoor.Trh Go.Proofs.YtcboegodjlfmnaaDoor.Trn Go.Proofs.YtcboegodjlfmnaaDoor.Trm Go.Proofs.YtcboegodjlfmnaaDoor.Tuv Go.Proofs.YtcboegodjlfmnaaDoor.Tpa Go.Proofs.YtcboegodjlfmnaaDoor.Duv Go.Proofs.YtcboegodjlfmnaaDoor.Dpu Go.Proofs.YtcboegodjlfmnaaDoor.Pak Go.Proofs.YtcboegodjlfmnaaDoor.Buf Go.Proofs.YtcboegodjlfmnaaDoor.Fit Go.Proofs.YtcboegodjlfmnaaDoor.Bit Go.Proofs.YtcboegodjlfmnaaDoor.Wrd Go.Proofs.YtcboegodjlfmnaaDoor.Spl Go.Proofs.YtcboegodjlfmnaaDoor.Str Go.Proofs.YtcboegodjlfmnaaDoor.Flt Go.Proofs.YtcboegodjlfmnaaDoor.Owe Go.Proofs.YtcboegodjlfmnaaDoor.Num Go.Proofs.YtcboegodjlfmnaaDoor.Le Go.Proofs.YtcboegodjlfmnaaDoor.Lst Go.Proofs.YtcboegodjlfmnaaDoor.Aid Go.RowKit Go.Proofs.YtcboegodjlfmnaaDoorW.PrintWords Go.Proofs.YtcboegodjlfmnaaDoorW.PrintLast Go.Proofs.YtcboegodjlfmnaaDoorW.PrintMore
set_option linter.unusedVariables false
set_option linter.unusedSimpArgs false
structure E0 (w : World) (p1 p2 : Addr) : Prop where
  mk :: (one : w.cell? ⟨1, 0, none⟩ = some (erV p1)) (two : w.cell? ⟨2, 0, none⟩ = some (erV p2)) (ne : p1 ≠ p2) (b1 : ∃ c t, w.heap[p1.block]? = some (.cells c t (0, 0))) (b2 : ∃ c t, w.heap[p2.block]? = some (.cells c t (0, 0)))
theorem E0.below {w w1 : World} {p1 p2 : Addr} (h : E0 w p1 p2) (k : ∀ b, b < w.heap.size → w1.heap[b]? = w.heap[b]?) : E0 w1 p1 p2 := by
  obtain ⟨c1, t1, e1⟩ := h.b1
  obtain ⟨c2, t2, e2⟩ := h.b2
  exact ⟨(World.cell?_of_block (k _ (block_lt_of_cell h.one))).trans h.one, (World.cell?_of_block (k _ (block_lt_of_cell h.two))).trans h.two, h.ne, ⟨c1, t1, (k _ (Array.getElem?_eq_some_iff.1 e1).1).trans e1⟩, ⟨c2, t2, (k _ (Array.getElem?_eq_some_iff.1 e2).1).trans e2⟩⟩
set_option maxHeartbeats 4000000 in
set_option maxRecDepth 100000 in
theorem newReader_calls (pv : Option Addr) (A : Option Addr) (n c : Nat) (w : World) :
    Calls Tryd.prog 34 #[.pointer pv, .slice A n c] w fun e w' => e = .returned (rdV w.heap.size) ∧ w' = w.alloc (.cells #[.pointer pv, .slice A n c, .int .i64 0] 105) := by
  go_enter Tryd.func34, Tryd.ntmps34
  go_wp2_with (fail)
  go_ret
  exact ⟨rfl, rfl⟩
set_option maxHeartbeats 4000000 in
set_option maxRecDepth 100000 in
theorem bytesRead_calls (g : Nat) (p : Value) (A : Option Addr) (n c o : Nat) (w : World) (hR : RdAt w g p A n c o) :
    Calls Tryd.prog 92 #[.pointer (some ⟨g, 0, none⟩)] w fun e w' => e = .returned (.int .i64 (o : Int)) ∧ w = w' := by
  have c2 := hR.blk.cell (j := 2) rfl
  go_enter Tryd.func92, Tryd.ntmps92
  go_wp2_with (fail)
  go_ret
  exact ⟨rfl, rfl⟩
theorem below_grown {w1 w2 : World} {g B : Nat} (h : w1.grownBy w2 (some g)) (hB : B ≤ g) (hs : B ≤ w1.heap.size) : Below B w1 w2 :=
  ⟨h.os, h.tape, h.output, h.size, fun b hb => h.block b (by omega) (fun e => by have := Option.some.inj e; omega)⟩
end Go.Proofs.YtcboegodjlfmnaaDoor.Tzv
