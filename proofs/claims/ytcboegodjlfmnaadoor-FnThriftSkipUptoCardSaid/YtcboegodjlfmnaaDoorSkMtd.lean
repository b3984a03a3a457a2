import Derived.Test.YtcboegodjlfmnaaDoorSkMtc
import Derived.Test.YtcboegodjlfmnaaDoorSkMtb
import Derived.Deep.RegionHeld3
import Derived.Deep.RegionLaw
namespace Go.Proofs.YtcboegodjlfmnaaDoor.Tzl
open Go.Proofs.YtcboegodjlfmnaaDoor.Trh Go.Proofs.YtcboegodjlfmnaaDoor.Trn Go.Proofs.YtcboegodjlfmnaaDoor.Trm Go.Proofs.YtcboegodjlfmnaaDoor.Tuv Go.Proofs.YtcboegodjlfmnaaDoor.Tpa Go.Proofs.YtcboegodjlfmnaaDoor.Duv Go.Proofs.YtcboegodjlfmnaaDoor.Dpu Go.Proofs.YtcboegodjlfmnaaDoor.Pak Go.Proofs.YtcboegodjlfmnaaDoor.Buf Go.Proofs.YtcboegodjlfmnaaDoor.Fit Go.Proofs.YtcboegodjlfmnaaDoor.Bit Go.Proofs.YtcboegodjlfmnaaDoor.Wrd Go.Proofs.YtcboegodjlfmnaaDoor.Spl Go.Proofs.YtcboegodjlfmnaaDoor.Str Go.Proofs.YtcboegodjlfmnaaDoor.Flt Go.Proofs.YtcboegodjlfmnaaDoor.Owe Go.Proofs.YtcboegodjlfmnaaDoor.Num Go.Proofs.YtcboegodjlfmnaaDoor.Le Go.Proofs.YtcboegodjlfmnaaDoor.Lst Go.Proofs.YtcboegodjlfmnaaDoor.Aid Go.RowKit Go.Proofs.YtcboegodjlfmnaaDoorW.PrintWords Go.Proofs.YtcboegodjlfmnaaDoorW.PrintLast Go.Proofs.YtcboegodjlfmnaaDoorW.PrintMore
set_option linter.unusedVariables false
set_option linter.unusedSimpArgs false
theorem m_ReadInt8 (k : Nat) (v : Value) (W : World) : (Go.method (k + 1) 103 v "ReadInt8").run Tryd.prog W = .ok (102, v) W := by kernel_rfl
theorem m_ReadInt16 (k : Nat) (v : Value) (W : World) : (Go.method (k + 1) 103 v "ReadInt16").run Tryd.prog W = .ok (99, v) W := by kernel_rfl
theorem m_ReadInt32 (k : Nat) (v : Value) (W : World) : (Go.method (k + 1) 103 v "ReadInt32").run Tryd.prog W = .ok (100, v) W := by kernel_rfl
theorem m_ReadInt64 (k : Nat) (v : Value) (W : World) : (Go.method (k + 1) 103 v "ReadInt64").run Tryd.prog W = .ok (101, v) W := by kernel_rfl
theorem m_ReadFloat64 (k : Nat) (v : Value) (W : World) : (Go.method (k + 1) 103 v "ReadFloat64").run Tryd.prog W = .ok (98, v) W := by kernel_rfl
theorem m_ReadList (k : Nat) (v : Value) (W : World) : (Go.method (k + 1) 103 v "ReadList").run Tryd.prog W = .ok (104, v) W := by kernel_rfl
theorem m_ReadMap (k : Nat) (v : Value) (W : World) : (Go.method (k + 1) 103 v "ReadMap").run Tryd.prog W = .ok (105, v) W := by kernel_rfl
theorem m_ReadField (k : Nat) (v : Value) (W : World) : (Go.method (k + 1) 103 v "ReadField").run Tryd.prog W = .ok (97, v) W := by kernel_rfl
theorem m_BytesRead (k : Nat) (v : Value) (W : World) : (Go.method (k + 1) 103 v "BytesRead").run Tryd.prog W = .ok (92, v) W := by kernel_rfl
def flV : Fl := ⟨.i8, .i16, fun b => .float .f64 b⟩
def Pn (B0 g base hi : Nat) (b : Nat) : Prop := (b < B0 ∧ b ≠ g) ∨ (base ≤ b ∧ b < hi)
abbrev rdV (g : Nat) : Value := .iface 103 (.pointer (some ⟨g, 0, none⟩))
structure ZOk (w w' : World) (g : Nat) (p : Value) (A : Option Addr) (n c B0 : Nat) (x : N) (o' : Nat) (e : Ending) : Prop where
  mk :: (out : ∃ cs, e = .returned (.tuple #[.agg cs.toArray, .nilIface]) ∧ x.In flV w' (Pn B0 g w.heap.size w'.heap.size) cs) (went : Went w w' g p A n c o')
def Sh9 (cs : Array Value) : Prop := ∃ (a : Int) (b : Bool) (m : Int) (d : Nat) (A1 : Option Addr) (n1 c1 : Nat) (k e : Int) (A2 : Option Addr) (n2 c2 : Nat) (A3 : Option Addr) (n3 c3 : Nat), cs = #[.int .i8 a, .bool b, .int .i64 m, .float .f64 d, .slice A1 n1 c1, .int .i8 k, .int .i8 e, .slice A2 n2 c2, .slice A3 n3 c3]
structure ZCut (w w' : World) (g : Nat) (p1 p2 : Addr) (e : Ending) : Prop where
  mk :: (out : ∃ (cs : Array Value) (q : Addr), Sh9 cs ∧ (q = p1 ∨ q = p2) ∧ e = .returned (.tuple #[.agg cs, erV q])) (grown : w.grownBy w' (some g)) (rds : RdS w w' g)
theorem nine {w : World} {g t : Nat} {a0 a1 a2 a3 a4 a5 a6 a7 a8 : Value} (h : Blk w g #[a0, a1, a2, a3, a4, a5, a6, a7, a8] t) :
    w.cell? ⟨g, 0, none⟩ = some a0 ∧ w.cell? ⟨g, 1, none⟩ = some a1 ∧ w.cell? ⟨g, 2, none⟩ = some a2 ∧ w.cell? ⟨g, 3, none⟩ = some a3 ∧ w.cell? ⟨g, 4, none⟩ = some a4 ∧ w.cell? ⟨g, 5, none⟩ = some a5 ∧ w.cell? ⟨g, 6, none⟩ = some a6 ∧ w.cell? ⟨g, 7, none⟩ = some a7 ∧ w.cell? ⟨g, 8, none⟩ = some a8 ∧ ∀ j, w.frozen? ⟨g, j, none⟩ = false :=
  ⟨h.cell (j := 0) rfl, h.cell (j := 1) rfl, h.cell (j := 2) rfl, h.cell (j := 3) rfl, h.cell (j := 4) rfl, h.cell (j := 5) rfl, h.cell (j := 6) rfl, h.cell (j := 7) rfl, h.cell (j := 8) rfl, h.free⟩
end Go.Proofs.YtcboegodjlfmnaaDoor.Tzl

namespace Go.Proofs.YtcboegodjlfmnaaDoor.Tzm
open Go.Proofs.YtcboegodjlfmnaaDoor.Tzl Go.Proofs.YtcboegodjlfmnaaDoor.Trh Go.Proofs.YtcboegodjlfmnaaDoor.Trn Go.Proofs.YtcboegodjlfmnaaDoor.Trm Go.Proofs.YtcboegodjlfmnaaDoor.Tuv Go.Proofs.YtcboegodjlfmnaaDoor.Tpa Go.Proofs.YtcboegodjlfmnaaDoor.Duv Go.Proofs.YtcboegodjlfmnaaDoor.Dpu Go.Proofs.YtcboegodjlfmnaaDoor.Pak Go.Proofs.YtcboegodjlfmnaaDoor.Buf Go.Proofs.YtcboegodjlfmnaaDoor.Fit Go.Proofs.YtcboegodjlfmnaaDoor.Bit Go.Proofs.YtcboegodjlfmnaaDoor.Wrd Go.Proofs.YtcboegodjlfmnaaDoor.Spl Go.Proofs.YtcboegodjlfmnaaDoor.Str Go.Proofs.YtcboegodjlfmnaaDoor.Flt Go.Proofs.YtcboegodjlfmnaaDoor.Owe Go.Proofs.YtcboegodjlfmnaaDoor.Num Go.Proofs.YtcboegodjlfmnaaDoor.Le Go.Proofs.YtcboegodjlfmnaaDoor.Lst Go.Proofs.YtcboegodjlfmnaaDoor.Aid Go.RowKit Go.Proofs.YtcboegodjlfmnaaDoorW.PrintWords Go.Proofs.YtcboegodjlfmnaaDoorW.PrintLast Go.Proofs.YtcboegodjlfmnaaDoorW.PrintMore
set_option linter.unusedVariables false
set_option linter.unusedSimpArgs false
structure ZRes (w w' : World) (g : Nat) (p : Value) (A : Option Addr) (n c B0 : Nat) (p1 p2 : Addr) (bs : List Int) (R : Res N) (e : Ending) : Prop where
  mk :: (ok : ∀ x r, R = .ok x r → ∃ o', r = bs.drop o' ∧ o' ≤ n ∧ ZOk w w' g p A n c B0 x o' e) (cut : R = .cut → ZCut w w' g p1 p2 e)
structure ZH (g : Nat) (p : Value) (A : Option Addr) (n c B0 : Nat) (p1 p2 : Addr) (bs : List Int) (k : Nat) : Prop where
  mk :: (out : ∀ (ty di : Int) (o : Nat) (w : World), RdAt w g p A n c o → (Kd.int .u8).C w A n bs → Eofs w g p1 p2 → B0 ≤ w.heap.size → o ≤ n → 0 ≤ di → di + k ≤ 65 → thP k ty (bs.drop o) ≠ .opn →
    Calls Tryd.prog 35 #[rdV g, .int .i8 ty, .int .i64 di] w fun e w' => ZRes w w' g p A n c B0 p1 p2 bs (thP k ty (bs.drop o)) e)
theorem ZH.ok {g : Nat} {p : Value} {A : Option Addr} {n c B0 : Nat} {p1 p2 : Addr} {bs : List Int} {k : Nat} (h : ZH g p A n c B0 p1 p2 bs k) (ty di : Int) (o o' : Nat) (x : N) (r : List Int) (w : World) (hR : RdAt w g p A n c o) (hC : (Kd.int .u8).C w A n bs) (hE : Eofs w g p1 p2) (hB : B0 ≤ w.heap.size) (ho : o ≤ n) (hd0 : 0 ≤ di) (hd : di + k ≤ 65)
    (ht : thP k ty (bs.drop o) = .ok x r) (hr : r = bs.drop o') (ho' : o' ≤ n) : Calls Tryd.prog 35 #[rdV g, .int .i8 ty, .int .i64 di] w fun e w' => ZOk w w' g p A n c B0 x o' e := by
  have hln : bs.length = n := hC.1
  refine (h.out ty di o w hR hC hE hB ho hd0 hd (by rw [ht]; intro h; cases h)).mono ?_
  intro e w' hz
  obtain ⟨o2, h1, h2, h3⟩ := hz.ok x r ht
  obtain rfl := off_uniq h1 hr (by omega) (by omega)
  exact h3
theorem ZH.cut {g : Nat} {p : Value} {A : Option Addr} {n c B0 : Nat} {p1 p2 : Addr} {bs : List Int} {k : Nat} (h : ZH g p A n c B0 p1 p2 bs k) (ty di : Int) (o : Nat) (w : World) (hR : RdAt w g p A n c o) (hC : (Kd.int .u8).C w A n bs) (hE : Eofs w g p1 p2) (hB : B0 ≤ w.heap.size) (ho : o ≤ n) (hd0 : 0 ≤ di) (hd : di + k ≤ 65)
    (ht : thP k ty (bs.drop o) = .cut) : Calls Tryd.prog 35 #[rdV g, .int .i8 ty, .int .i64 di] w fun e w' => ZCut w w' g p1 p2 e := by
  refine (h.out ty di o w hR hC hE hB ho hd0 hd (by rw [ht]; intro h; cases h)).mono ?_
  intro e w' hz
  exact hz.cut ht
def PL (B0 : Nat) (gO : Option Nat) (base hi : Nat) (v : Value) (b : Nat) : Prop := (b < B0 ∧ gO ≠ some b) ∨ (base ≤ b ∧ b < hi ∧ v.ownBlock ≠ some b)
structure LRow (w w' : World) (gO : Option Nat) (rc : Array Value) (rt : TypeId) (B0 : Nat) (σ : Fl) (fld : Bool) (te : TypeId) (base : Nat) (v : Value) (D : F) (cs : List Value) : Prop where
  mk :: (grown : w.grownBy w' gO) (rb : ∀ g, gO = some g → Blk w' g rc rt) (row : w'.ownsRow base te (if fld then 10 else 9) v D.len cs) (els : D.In σ w' (PL B0 gO base w'.heap.size v) fld cs) (sz : base ≤ w'.heap.size)
theorem own_lt {w : World} {base : Nat} {e : TypeId} {size : Nat} {v : Value} {n : Nat} {xs : List Value} (h : w.ownsRow base e size v n xs) {b : Nat} (hb : v.ownBlock = some b) : base ≤ b ∧ b < w.heap.size := by
  obtain ⟨h1, ⟨rfl, rfl⟩ | ⟨g, cap, cur, rfl, h2, h3, _⟩⟩ := h
  · cases hb
  · obtain rfl : g = b := by simpa [Value.ownBlock] using hb
    exact ⟨h2, (Array.getElem?_eq_some_iff.1 h3).1⟩
theorem LRow.set {w w1 : World} {gO : Option Nat} {rc : Array Value} {rt : TypeId} {B0 : Nat} {σ : Fl} {fld : Bool} {te : TypeId} {base : Nat} {v : Value} {D : F} {cs : List Value}
    (h : LRow w w1 gO rc rt B0 σ fld te base v D cs) (hB9 : B0 ≤ w.heap.size) (hgl : ∀ g, gO = some g → g < w.heap.size) {b0 : Nat} (h1 : w.heap.size ≤ b0) (h2 : b0 < base) (j : Nat) (u : Value) : LRow w (w1.setCell ⟨b0, j, none⟩ u) gO rc rt B0 σ fld te base v D cs := by
  have s3 : (w1.setCell ⟨b0, j, none⟩ u).heap.size = w1.heap.size := by simp [World.setCell]
  have keepS : ∀ b, b ≠ b0 → (w1.setCell ⟨b0, j, none⟩ u).heap[b]? = w1.heap[b]? := fun b hb => Below.heap_setCell w1 _ _ b hb
  refine ⟨grownSetNew h.grown h1 u, fun g hg => ⟨?_⟩, own_move h.row fun b hb => keepS b (by have := own_lt h.row hb; omega), ?_, by rw [s3]; exact h.sz⟩
  · rw [keepS g (by have := hgl g hg; omega)]; exact (h.rb g hg).out
  · rw [s3]
    refine F.In.move ?_ (fun b hb => hb) h.els
    rintro b (⟨h5, h6⟩ | ⟨h5, h6, h7⟩)
    · exact keepS b (by omega)
    · exact keepS b (by omega)
theorem LRow.alloc {w w1 : World} {gO : Option Nat} {rc : Array Value} {rt : TypeId} {B0 : Nat} {σ : Fl} {fld : Bool} {te : TypeId} {base : Nat} {v : Value} {D : F} {cs : List Value}
    (h : LRow w w1 gO rc rt B0 σ fld te base v D cs) (hB9 : B0 ≤ w.heap.size) (o : Obj) : LRow w (w1.alloc o) gO rc rt B0 σ fld te base v D cs := by
  have hs := h.grown.size
  have hsz := allocSize w1 o
  refine ⟨h.grown.trans ⟨rfl, rfl, rfl, by omega, fun k hk _ => Below.heap_alloc w1 o k hk⟩, fun g hg => (h.rb g hg).alloc o, h.row.alloc o, ?_, by have := h.sz; omega⟩
  refine F.In.move ?_ ?_ h.els
  · rintro b (⟨h5, h6⟩ | ⟨h5, h6, h7⟩)
    · exact Below.heap_alloc w1 o b (by omega)
    · exact Below.heap_alloc w1 o b h6
  · rintro b (h5 | ⟨h5, h6, h7⟩)
    · exact .inl h5
    · exact .inr ⟨h5, by omega, h7⟩
theorem openNode {σ : Fl} {w : World} {x : N} {Pb : Nat → Prop} {cs : List Value} (h : x.In σ w Pb cs) :
    ∃ (A1 : Option Addr) (n1 c1 : Nat) (A2 : Option Addr) (n2 c2 : Nat) (A3 : Option Addr) (n3 c3 : Nat), cs = [.int σ.kt x.d.ty, .bool x.d.bo, .int .i64 x.d.n, σ.bv x.d.bits, .slice A1 n1 c1, .int σ.kt x.d.ky, .int σ.kt x.d.el, .slice A2 n2 c2, .slice A3 n3 c3] := by
  obtain ⟨bsv, lsv, fsv, lcs, fcs, h1, h2, h3, _, h5, _⟩ := h.out
  obtain ⟨A1, c1, rfl, _⟩ := h2.out
  obtain ⟨A2, c2, rfl, _⟩ := h3.out
  obtain ⟨A3, c3, rfl, _⟩ := h5.out
  exact ⟨_, _, _, _, _, _, _, _, _, h1⟩
end Go.Proofs.YtcboegodjlfmnaaDoor.Tzm

namespace Go.Proofs.YtcboegodjlfmnaaDoor.Tzq
open Go.Proofs.YtcboegodjlfmnaaDoor.Tzm Go.Proofs.YtcboegodjlfmnaaDoor.Tzl Go.Proofs.YtcboegodjlfmnaaDoor.Trh Go.Proofs.YtcboegodjlfmnaaDoor.Trn Go.Proofs.YtcboegodjlfmnaaDoor.Trm Go.Proofs.YtcboegodjlfmnaaDoor.Tuv Go.Proofs.YtcboegodjlfmnaaDoor.Tpa Go.Proofs.YtcboegodjlfmnaaDoor.Duv Go.Proofs.YtcboegodjlfmnaaDoor.Dpu Go.Proofs.YtcboegodjlfmnaaDoor.Pak Go.Proofs.YtcboegodjlfmnaaDoor.Buf Go.Proofs.YtcboegodjlfmnaaDoor.Fit Go.Proofs.YtcboegodjlfmnaaDoor.Bit Go.Proofs.YtcboegodjlfmnaaDoor.Wrd Go.Proofs.YtcboegodjlfmnaaDoor.Spl Go.Proofs.YtcboegodjlfmnaaDoor.Str Go.Proofs.YtcboegodjlfmnaaDoor.Flt Go.Proofs.YtcboegodjlfmnaaDoor.Owe Go.Proofs.YtcboegodjlfmnaaDoor.Num Go.Proofs.YtcboegodjlfmnaaDoor.Le Go.Proofs.YtcboegodjlfmnaaDoor.Lst Go.Proofs.YtcboegodjlfmnaaDoor.Aid Go.RowKit Go.Proofs.YtcboegodjlfmnaaDoorW.PrintWords Go.Proofs.YtcboegodjlfmnaaDoorW.PrintLast Go.Proofs.YtcboegodjlfmnaaDoorW.PrintMore
set_option linter.unusedVariables false
set_option linter.unusedSimpArgs false
end Go.Proofs.YtcboegodjlfmnaaDoor.Tzq

namespace Go.Proofs.YtcboegodjlfmnaaDoor.Tap
open Go.Proofs.YtcboegodjlfmnaaDoor.Tpa Go.Proofs.YtcboegodjlfmnaaDoor.Trh Go.Proofs.YtcboegodjlfmnaaDoor.Dpu Go.Proofs.YtcboegodjlfmnaaDoor.Pak Go.Proofs.YtcboegodjlfmnaaDoor.Buf Go.Proofs.YtcboegodjlfmnaaDoor.Fit Go.Proofs.YtcboegodjlfmnaaDoor.Bit Go.Proofs.YtcboegodjlfmnaaDoor.Le Go.Proofs.YtcboegodjlfmnaaDoor.Num Go.Proofs.YtcboegodjlfmnaaDoor.Lst Go.Proofs.YtcboegodjlfmnaaDoor.Aid Go.RowKit Go.Proofs.YtcboegodjlfmnaaDoorW.PrintWords Go.Proofs.YtcboegodjlfmnaaDoorW.PrintLast Go.Proofs.YtcboegodjlfmnaaDoorW.PrintMore
set_option linter.unusedVariables false
set_option linter.unusedSimpArgs false
section
variable {P : Program} {ops : Array Oper} {o : Oper} {a : Act} {Q : Exit → Act → World → Prop} {K : Act → World → Prop} {E : Prop}
theorem appendReadStepAt {w0 W : World} (base : Nat) (hgd : o.guard = none) (s x : Operand) (t e : TypeId) (k : IntKind) (bytes : Nat)
    (ho : o.op = .call { callee := .builtin .append, args := #[s, x], argTypes := #[t, t] })
    (ht : P.underlying t = some (.slice e)) (hinfo : (P.info? e).map (fun i => (i.zero, i.size, i.bytes)) = some (some (.int k 0), 1, bytes)) (hb0 : 0 < bytes)
    (v : Value) (xs : List Int) (A : Option Addr) (m c : Nat) (ys : List Int) (hs : a.eval s = v) (hx : a.eval x = .slice A m c)
    (HO : Own W base e k v xs) (HB : Below base w0 W) (hbase : base ≤ W.heap.size) (hC : (Kd.int k).C W A m ys) (hl : (xs.length + m) * bytes ≤ 140737488355328)
    (h : ∀ v1 w1, Own w1 base e k v1 (xs ++ ys) → Below base w0 w1 → W.grownBy w1 v.ownBlock → (v1.ownBlock = v.ownBlock ∨ v1.ownBlock = some W.heap.size) → K (a.put o.dst v1) w1) :
    if Region.wanted o (yielded ops a.tmps) = true then Oper.wp P o a W K Q else E := by
  have hw : Region.wanted o (yielded ops a.tmps) = true := by simp [Region.wanted, hgd]
  rw [if_pos hw]
  obtain ⟨i0, hi, hzz⟩ := Option.map_eq_some_iff.1 hinfo
  simp only [Prod.mk.injEq] at hzz
  obtain ⟨hz0, hz1, hz2⟩ := hzz
  have hm : ys.length = m := hC.1
  have hlen : xs.length + m ≤ 140737488355328 := Nat.le_trans (Nat.le_mul_of_pos_right _ hb0) hl
  have key : ∀ v1 w1, w1.ownsRow base e 1 v1 (xs.length + m) (nums k xs ++ nums k ys) → W.grownBy w1 v.ownBlock → (v1.ownBlock = v.ownBlock ∨ v1.ownBlock = some W.heap.size) → K (a.put o.dst v1) w1 := by
    intro v1 w1 h1 hg hat
    refine h v1 w1 ⟨?_⟩ (HB.grown hg hbase (own_base HO.out)) hg hat
    rw [List.length_append, hm, nums_append]; exact h1
  rcases A with _ | ad
  · have h0 : m = 0 := by
      rcases Nat.eq_zero_or_pos m with h0 | h0
      · exact h0
      · obtain ⟨ad, h', _⟩ := hC.2.2 h0
        cases h'
    subst h0
    obtain rfl : ys = [] := List.eq_nil_of_length_eq_zero hm
    have hk := key v W (by simpa [nums] using HO.out) (grownRefl W _) (.inl rfl)
    have hrun : (Builtin.append_ #[t, t] o.type #[v, .slice none 0 c]).run P W = .ok v W := by
      rcases HO.out.2 with ⟨rfl, _⟩ | ⟨g, cap, cur, rfl, _, _, hnc, _⟩
      · simp [Builtin.append_, run_underlying ht, sizeOf, typeInfo, hi, Builtin.lenOf, Builtin.firstCells]
      · simp [Builtin.append_, run_underlying ht, sizeOf, typeInfo, hi, Builtin.lenOf, Builtin.firstCells, hnc, storeCells]
    unfold Oper.wp
    simp [execOp, ho, resolve, invoke, builtin, hs, hx, hrun, Result.andThen]
    exact hk
  · obtain ⟨v', w', hr, h2, h3, _, h5⟩ := run_append_own_at (P := P) W base t o.type e i0 (.int k 0) 1 bytes ht hi hz0 hz1 hz2 rfl (by omega) v xs.length (nums k xs) HO.out ad m c (nums k ys) (by simp [nums, hm]) (C_cells hC) (by intro u hu; simp [nums] at hu; obtain ⟨q, _, rfl⟩ := hu; rfl) (by simp only [maxLen]; omega) hl hbase
    unfold Oper.wp execOp
    simp only [ho, resolve, invoke, builtin, Sem.run_bind, Sem.run_pure, Result.andThen_ok, List.map_toArray, List.map_cons, List.map_nil, hs, hx, hr]
    exact key v' w' h2 h3 h5
end
end Go.Proofs.YtcboegodjlfmnaaDoor.Tap
