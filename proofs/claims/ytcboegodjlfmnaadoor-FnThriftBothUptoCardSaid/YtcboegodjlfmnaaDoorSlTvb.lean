import Derived.Test.YtcboegodjlfmnaaDoorSlTvo
import Derived.Test.YtcboegodjlfmnaaDoorSlSbu
namespace Go.Proofs.YtcboegodjlfmnaaDoor.Tvb
open Go.Proofs.YtcboegodjlfmnaaDoor.Tvo Go.Proofs.YtcboegodjlfmnaaDoor.Sbu Go.Proofs.YtcboegodjlfmnaaDoor.Dpu Go.Proofs.YtcboegodjlfmnaaDoor.Pak Go.Proofs.YtcboegodjlfmnaaDoor.Buf Go.Proofs.YtcboegodjlfmnaaDoor.Fit Go.Proofs.YtcboegodjlfmnaaDoor.Bit Go.Proofs.YtcboegodjlfmnaaDoor.Wrd Go.Proofs.YtcboegodjlfmnaaDoor.Spl Go.Proofs.YtcboegodjlfmnaaDoor.Str Go.Proofs.YtcboegodjlfmnaaDoor.Flt Go.Proofs.YtcboegodjlfmnaaDoor.Owe Go.Proofs.YtcboegodjlfmnaaDoor.Num Go.Proofs.YtcboegodjlfmnaaDoor.Le Go.Proofs.YtcboegodjlfmnaaDoor.Lst Go.Proofs.YtcboegodjlfmnaaDoor.Aid Go.RowKit Go.Proofs.YtcboegodjlfmnaaDoorW.PrintWords Go.Proofs.YtcboegodjlfmnaaDoorW.PrintLast Go.Proofs.YtcboegodjlfmnaaDoorW.PrintMore
set_option linter.unusedVariables false
set_option linter.unusedSimpArgs false
theorem m_Write (k : Nat) (v : Value) (W : World) : (Go.method (k + 1) 100 v "Write").run Tryd.prog W = .ok (174, v) W := by kernel_rfl
structure WrB (w : World) (B g b : Nat) (bs : List Int) : Prop where
  mk :: (hg : B ≤ g) (hb : B ≤ b) (ne : g ≠ b) (wb : WbO w g b 1 []) (buf : Lib.IsBuffer 95 5 B b (nums .u8 bs) w)
def Kept (g b : Nat) (w w' : World) : Prop := ∀ k o, w.heap[k]? = some o → k ≠ g → k ≠ b → (∀ c fz, o ≠ .cells c 5 fz) → w'.heap[k]? = some o
theorem Kept.refl (g b : Nat) (w : World) : Kept g b w w := fun _ _ h _ _ _ => h
theorem Kept.trans {g b : Nat} {w1 w2 w3 : World} (h : Kept g b w1 w2) (k : Kept g b w2 w3) : Kept g b w1 w3 := fun i o hi hg hb ho => k i o (h i o hi hg hb ho) hg hb ho
theorem Kept.blk {g b k t : Nat} {w w' : World} {cs : Array Value} (h : Kept g b w w') (hk : Blk w k cs t) (hg : k ≠ g) (hb : k ≠ b) (ht : t ≠ 5) : Blk w' k cs t :=
  ⟨h k _ hk.out hg hb (fun c fz e => by injection e with _ e2 _; exact ht e2)⟩
theorem Kept.of_others {g b : Nat} {w w' : World} (h : Lib.OthersKept 5 (some b) w w') : Kept g b w w' := fun k o hk _ hb ho => h k o hk (fun e => hb (Option.some.inj e)) ho
theorem Kept.of_grown {g b : Nat} {w w' : World} (h : w.grownBy w' (some g)) : Kept g b w w' := fun k o hk hg _ _ => by
  have hlt : k < w.heap.size := (Array.getElem?_eq_some_iff.1 hk).1
  rw [h.block k hlt (fun e => hg (Option.some.inj e))]
  exact hk
structure WrOk (w w' : World) (B g b : Nat) (bs : List Int) (e : Ending) : Prop where
  mk :: (ret : e = .returned .nilIface) (wr : WrB w' B g b bs) (below : Below B w w') (kept : Kept g b w w')
theorem own_ltV {w : World} {base : Nat} {e : TypeId} {size : Nat} {v : Value} {n : Nat} {xs : List Value} (h : w.ownsRow base e size v n xs) {b : Nat} (hb : v.ownBlock = some b) : base ≤ b ∧ b < w.heap.size := by
  obtain ⟨h1, ⟨rfl, rfl⟩ | ⟨g, cap, cur, rfl, h2, h3, _⟩⟩ := h
  · cases hb
  · obtain rfl : g = b := by simpa [Value.ownBlock] using hb
    exact ⟨h2, (Array.getElem?_eq_some_iff.1 h3).1⟩
theorem WrB.grown {w w' : World} {B g b o : Nat} {bs xs : List Int} (h : WrB w B g b bs) (hw : WbO w' g b o xs) (hgr : w.grownBy w' (some g)) : WrB w' B g b bs ∧ Below B w w' ∧ Kept g b w w' := by
  have hgl := h.wb.lt
  have hgB := h.hg
  refine ⟨⟨h.hg, h.hb, h.ne, hw.clr 1, ?_⟩, ⟨hgr.os, hgr.tape, hgr.output, hgr.size, fun k hk => ?_⟩, Kept.of_grown hgr⟩
  · obtain ⟨h1, v, lr, h2, h3, h4⟩ := h.buf
    refine ⟨h1, v, lr, (hgr.block b (Lib.lt_of_heap h2) (fun e => h.ne (Option.some.inj e).symm)).trans h2, ?_, h4⟩
    have hno : v.ownBlock ≠ some g := by
      intro hk
      obtain ⟨h31, ⟨rfl, _⟩ | ⟨g', cap, cur, rfl, _, hg', _⟩⟩ := h3
      · simp [Value.ownBlock] at hk
      · have hk2 : g' = g := by simpa [Value.ownBlock] using hk
        subst hk2
        obtain ⟨cs, hb, _⟩ := h.wb.out
        have := hb.out
        rw [hg'] at this
        have h5 := Option.some.inj this
        injection h5 with _ h6 _
        exact absurd h6 (by decide)
    exact own_move h3 fun k hk => hgr.block k (own_ltV h3 hk).2 (fun e => hno (by rw [hk, e]))
  · exact hgr.block k (by omega) (fun e => by have e2 := Option.some.inj e; omega)
end Go.Proofs.YtcboegodjlfmnaaDoor.Tvb
