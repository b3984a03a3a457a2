import Derived.Test.YtcboegodjlfmnaaTiv
/-! Nine stores elsewhere. -/
namespace Go.Proofs.Ytcboegodjlfmnaa.Tzs
open Go.Proofs.Ytcboegodjlfmnaa.Aid Go.RowKit
set_option linter.unusedVariables false
theorem heapNine {w : World} {b b0 : Nat} (hne : b ≠ b0) (x0 x1 x2 x3 x4 x5 x6 x7 x8 : Value) : (((((((((w.setCell ⟨b0, 0, none⟩ x0).setCell ⟨b0, 1, none⟩ x1).setCell ⟨b0, 2, none⟩ x2).setCell ⟨b0, 3, none⟩ x3).setCell ⟨b0, 4, none⟩ x4).setCell ⟨b0, 5, none⟩ x5).setCell ⟨b0, 6, none⟩ x6).setCell ⟨b0, 7, none⟩ x7).setCell ⟨b0, 8, none⟩ x8).heap[b]? = w.heap[b]? := by
  rw [Below.heap_setCell _ _ _ b hne, Below.heap_setCell _ _ _ b hne, Below.heap_setCell _ _ _ b hne, Below.heap_setCell _ _ _ b hne, Below.heap_setCell _ _ _ b hne, Below.heap_setCell _ _ _ b hne, Below.heap_setCell _ _ _ b hne, Below.heap_setCell _ _ _ b hne, Below.heap_setCell _ _ _ b hne]
theorem sizeNine (w : World) (b0 : Nat) (x0 x1 x2 x3 x4 x5 x6 x7 x8 : Value) : (((((((((w.setCell ⟨b0, 0, none⟩ x0).setCell ⟨b0, 1, none⟩ x1).setCell ⟨b0, 2, none⟩ x2).setCell ⟨b0, 3, none⟩ x3).setCell ⟨b0, 4, none⟩ x4).setCell ⟨b0, 5, none⟩ x5).setCell ⟨b0, 6, none⟩ x6).setCell ⟨b0, 7, none⟩ x7).setCell ⟨b0, 8, none⟩ x8).heap.size = w.heap.size := by simp [World.setCell]
end Go.Proofs.Ytcboegodjlfmnaa.Tzs
