import Derived.Test.YtigmcdpjlkgocaaDfl
/-! Texts with shared fronts: what both encoders want. -/
namespace Go.Proofs.Ytigmcdpjlkgocaa.Dfe0
open Go.Proofs.Ytigmcdpjlkgocaa.Dfl Go.Proofs.Ytigmcdpjlkgocaa.Dhd Go.Proofs.Ytigmcdpjlkgocaa.Dgr Go.Proofs.Ytigmcdpjlkgocaa.Dml Go.Proofs.Ytigmcdpjlkgocaa.Dby Go.Proofs.Ytigmcdpjlkgocaa.Dfp Go.Proofs.Ytigmcdpjlkgocaa.Dls Go.Proofs.Ytigmcdpjlkgocaa.Dlp Go.Proofs.Ytigmcdpjlkgocaa.Dre Go.Proofs.Ytigmcdpjlkgocaa.Dle Go.Proofs.Ytigmcdpjlkgocaa.Dib Go.Proofs.Ytigmcdpjlkgocaa.Dew Go.Proofs.Ytigmcdpjlkgocaa.Dtx Go.Proofs.Ytigmcdpjlkgocaa.Dct Go.Proofs.Ytigmcdpjlkgocaa.Dst Go.Proofs.Ytigmcdpjlkgocaa.Deo Go.Proofs.Ytigmcdpjlkgocaa.Den Go.Proofs.Ytigmcdpjlkgocaa.Deb Go.Proofs.Ytigmcdpjlkgocaa.Dds Go.Proofs.Ytigmcdpjlkgocaa.Dpu Go.Proofs.Ytigmcdpjlkgocaa.Pak Go.Proofs.Ytigmcdpjlkgocaa.Buf Go.Proofs.Ytigmcdpjlkgocaa.Fit Go.Proofs.Ytigmcdpjlkgocaa.Bit Go.Proofs.Ytigmcdpjlkgocaa.Wrd Go.Proofs.Ytigmcdpjlkgocaa.Spl Go.Proofs.Ytigmcdpjlkgocaa.Str Go.Proofs.Ytigmcdpjlkgocaa.Flt Go.Proofs.Ytigmcdpjlkgocaa.Owe Go.Proofs.Ytigmcdpjlkgocaa.Num Go.Proofs.Ytigmcdpjlkgocaa.Le Go.Proofs.Ytigmcdpjlkgocaa.Lst Go.Proofs.Ytigmcdpjlkgocaa.Aid Go.RowKit Go.Proofs.YtigmcdpjlkgocaaW.PrintWords Go.Proofs.YtigmcdpjlkgocaaW.PrintLast Go.Proofs.YtigmcdpjlkgocaaW.PrintMore
set_option linter.unusedVariables false
set_option linter.unusedSimpArgs false
theorem own_ne_blk {w : World} {b t : Nat} {k : IntKind} {v : Value} {xs : List Int} {p T : Nat} {cs : Array Value} (h : Own w b t k v xs) (hp : Blk w p cs T) (hne : t ≠ T) : v.ownBlock ≠ some p := by
  rcases h.out.2 with ⟨rfl, _⟩ | ⟨g, c, cur, rfl, _, hb, _⟩
  · intro e; cases e
  · intro e
    have e2 : g = p := by injection e
    subst e2
    have h2 := hp.out
    rw [hb] at h2
    injection h2 with h2
    injection h2 with h3 h4 h5
    exact hne h4
theorem setSize (w : World) (p : Addr) (v : Value) : (w.setCell p v).heap.size = w.heap.size := by simp
theorem tneB : (21 : Nat) ≠ 90 := by decide
/-- two buffers with rows of their own -/
structure Two (w : World) (base p1 p2 : Nat) (v1 v2 : Value) (xs ys : List Int) : Prop where
  b1 : Blk w p1 #[v1] 90
  b2 : Blk w p2 #[v2] 90
  o1 : Own w base 21 .i32 v1 xs
  o2 : Own w base 21 .i32 v2 ys
  ne : p1 ≠ p2
  apt : Apt v1 v2
  bp1 : base ≤ p1
  bp2 : base ≤ p2
namespace Two
variable {w w1 : World} {base p1 p2 : Nat} {v1 v2 : Value} {xs ys : List Int}
theorem symm (h : Two w base p1 p2 v1 v2 xs ys) : Two w base p2 p1 v2 v1 ys xs := ⟨h.b2, h.b1, h.o2, h.o1, Ne.symm h.ne, apt_sym h.apt, h.bp2, h.bp1⟩
theorem below (h : Two w base p1 p2 v1 v2 xs ys) (hb : Below w.heap.size w w1) : Two w1 base p1 p2 v1 v2 xs ys :=
  ⟨h.b1.below hb h.b1.lt, h.b2.below hb h.b2.lt, h.o1.below hb, h.o2.below hb, h.ne, h.apt, h.bp1, h.bp2⟩
theorem grown1 (h : Two w base p1 p2 v1 v2 xs ys) (hg : w.grownBy w1 v1.ownBlock) : Blk w1 p1 #[v1] 90 ∧ Blk w1 p2 #[v2] 90 :=
  ⟨⟨(hg.block p1 h.b1.lt (fun e => own_ne_blk h.o1 h.b1 tneB e.symm)).trans h.b1.out⟩, ⟨(hg.block p2 h.b2.lt (fun e => own_ne_blk h.o1 h.b2 tneB e.symm)).trans h.b2.out⟩⟩
theorem put1 (h : Two w base p1 p2 v1 v2 xs ys) {u : Value} {zs : List Int} (ho : Own w1 base 21 .i32 u zs) (hg : w.grownBy w1 v1.ownBlock) (hat : u.ownBlock = v1.ownBlock ∨ ∃ b, u.ownBlock = some b ∧ w.heap.size ≤ b) :
    Two (w1.setCell ⟨p1, 0, none⟩ u) base p1 p2 u v2 zs ys := by
  obtain ⟨c1, c2⟩ := h.grown1 hg
  have hs : w1.grownBy (w1.setCell ⟨p1, 0, none⟩ u) (some p1) := grownSet (grownRefl w1 _) 0 u
  have o2 : Own w1 base 21 .i32 v2 ys := h.o2.grown hg (apt_sym h.apt).out
  exact ⟨c1.set 0 u, c2.far (fun e => h.ne e.symm) u, ho.grown hs (.inr (own_ne_blk ho c1 tneB)), o2.grown hs (.inr (own_ne_blk o2 c1 tneB)), h.ne, apt_sym (apt_step (apt_sym h.apt) h.o2 hat), h.bp1, h.bp2⟩
end Two
theorem newTwo {w1 w2 : World} {base p1 a1 p2 a2 : Nat} (h1 : NewBuf w1 base p1 a1) (h2 : NewBuf w2 w1.heap.size p2 a2) (hb : Below w1.heap.size w1 w2) (hbs : base ≤ w1.heap.size) :
    Two w2 base p1 p2 (.slice (some ⟨a1, 0, none⟩) 0 1024) (.slice (some ⟨a2, 0, none⟩) 0 1024) [] [] := by
  have l1 := h1.cell.lt
  have l2 := h1.row.lt
  have b1 := h2.bp
  have b2 := h2.ba
  refine ⟨h1.cell.below hb l1, h2.cell, ?_, ?_, by omega, ⟨.inr fun e => by have e' : a1 = a2 := (by injection e); omega⟩, h1.bp, by omega⟩
  · have := (h1.row.below hb l2).toOwn (base := base) (n := 0) h1.ba (Nat.zero_le _) (by rw [List.length_replicate]; omega)
    rw [List.length_replicate, List.take_zero] at this
    exact this
  · have := h2.row.toOwn (base := base) (n := 0) (by omega) (Nat.zero_le _) (by rw [List.length_replicate]; omega)
    rw [List.length_replicate, List.take_zero] at this
    exact this
set_option maxHeartbeats 4000000 in
set_option maxRecDepth 100000 in
/-- made longer by t, which may be nothing -/
theorem resizeA_calls (base : Nat) (v : Value) (xs : List Int) (L t size : Nat) (w : World) (hO : Own w base 5 .u8 v xs) (hb : base ≤ w.heap.size) (hL : xs.length = L) (hL0 : 0 < L) (hs : size = L + t) (hs9 : size ≤ 1073741824) :
    Calls Try.prog 48 #[v, .int .i64 size] w fun e w' => ∃ g M, e = .returned (.slice (some ⟨g, 0, none⟩) size M) ∧ Front w' g M 5 .u8 (xs ++ List.replicate t 0) ∧ size ≤ M ∧ M ≤ 9223372036854775807 ∧ base ≤ g ∧ w.grownBy w' (some g) := by
  by_cases ht : 0 < t
  · refine (resizeZ_calls base v xs size w hO hb (by omega) hs9).mono ?_
    rintro e w' ⟨g, M, e1, hf, h1, h2, h3, _, hg⟩
    rw [show size - xs.length = t by omega] at hf
    exact ⟨g, M, e1, hf, h1, h2, h3, hg⟩
  · obtain rfl : t = 0 := by omega
    obtain rfl : size = L := by omega
    rcases own_front hO with ⟨rfl, rfl⟩ | ⟨g, C, rfl, hbg, hC9, hF⟩
    · simp at hL; omega
    · have hle := hF.le
      rw [hL] at hle ⊢
      have qc : decide ((C : Int) < (size : Int)) = false := decide_eq_false (by omega)
      have qc2 : decide (C < size) = false := decide_eq_false (by omega)
      have qc3 : decide ((size : Int) < (size : Int)) = false := decide_eq_false (by omega)
      obtain ⟨i8, h8⟩ := h8
      have cut1 := cutAtMid0 (P := Try.prog) 23 5 Try.underlying23 h8.1 h8.2 g size C size (by omega)
      have HF := Aside0.mk hF
      clear hO hF hL hs
      go_enter Try.func48, Try.ntmps48
      go_wp2_with (fail)
      go_ret
      exact ⟨g, C, rfl, by rw [List.replicate_zero, List.append_nil]; exact HF.out, hle, hC9, hbg, grownRefl _ _⟩
section
variable {P : Program} {ops : Array Oper} {o : Oper} {a : Act} {Q : Exit → Act → World → Prop} {K : Act → World → Prop} {E : Prop} {w : World}
/-- a copy of nothing, as a step of a region that draws its order -/
theorem copyNoneStep (hgd : o.guard = none) (d s : Operand) (dT sT : TypeId)
    (ho : o.op = .call { callee := .builtin .copy, args := #[d, s], argTypes := #[dT, sT] }) (elem : TypeId) (hu : P.underlying dT = some (.slice elem)) (hsz : (P.info? elem).map (·.size) = some 1)
    (dA sA : Option Addr) (dL dC sL sC : Nat) (hd : a.eval d = .slice dA dL dC) (hs : a.eval s = .slice sA sL sC) (hn : Nat.min sL dL = 0) (h : K (a.put o.dst (goInt 0)) w) :
    if Region.wanted o (yielded ops a.tmps) = true then Oper.wp P o a w K Q else E := by
  have hw : Region.wanted o (yielded ops a.tmps) = true := by simp [Region.wanted, hgd]
  rw [if_pos hw]
  have hrun := run_copy_none (P := P) w dT sT o.type elem dA sA dL dC sL sC hu hsz hn
  unfold Oper.wp
  simp [execOp, ho, resolve, invoke, builtin, hd, hs, hrun, Result.andThen]
  exact h
end
theorem join_snoc_cut (ls : List (List Int)) (j p : Nat) (hj : j < ls.length) (hp : p ≤ (ls.getD j []).length) : ((joinL ls).take (sumLen (ls.take (j + 1)))).drop (sumLen (ls.take j) + p) = (ls.getD j []).drop p := by
  rw [← List.drop_drop, join_cut ls j hj]
theorem zeros_drop (a b : Nat) : (List.replicate a (0 : Int)).drop b = List.replicate (a - b) 0 := List.drop_replicate
end Go.Proofs.Ytigmcdpjlkgocaa.Dfe0
