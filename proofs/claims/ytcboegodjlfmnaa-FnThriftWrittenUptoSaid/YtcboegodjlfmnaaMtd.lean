import Derived.Test.YtcboegodjlfmnaaMtc
import Derived.Test.YtcboegodjlfmnaaMtb
import Derived.Deep.RegionHeld3
import Derived.Deep.RegionLaw
/-! zzRead: values without elements or fields. -/
namespace Go.Proofs.Ytcboegodjlfmnaa.Tzl
open Go.Proofs.Ytcboegodjlfmnaa.Trh Go.Proofs.Ytcboegodjlfmnaa.Trn Go.Proofs.Ytcboegodjlfmnaa.Trm Go.Proofs.Ytcboegodjlfmnaa.Tuv Go.Proofs.Ytcboegodjlfmnaa.Tpa Go.Proofs.Ytcboegodjlfmnaa.Duv Go.Proofs.Ytcboegodjlfmnaa.Dpu Go.Proofs.Ytcboegodjlfmnaa.Pak Go.Proofs.Ytcboegodjlfmnaa.Buf Go.Proofs.Ytcboegodjlfmnaa.Fit Go.Proofs.Ytcboegodjlfmnaa.Bit Go.Proofs.Ytcboegodjlfmnaa.Wrd Go.Proofs.Ytcboegodjlfmnaa.Spl Go.Proofs.Ytcboegodjlfmnaa.Str Go.Proofs.Ytcboegodjlfmnaa.Flt Go.Proofs.Ytcboegodjlfmnaa.Owe Go.Proofs.Ytcboegodjlfmnaa.Num Go.Proofs.Ytcboegodjlfmnaa.Le Go.Proofs.Ytcboegodjlfmnaa.Lst Go.Proofs.Ytcboegodjlfmnaa.Aid Go.RowKit Go.Proofs.YtcboegodjlfmnaaW.PrintWords Go.Proofs.YtcboegodjlfmnaaW.PrintLast Go.Proofs.YtcboegodjlfmnaaW.PrintMore
set_option linter.unusedVariables false
set_option linter.unusedSimpArgs false
theorem m_ReadBool (k : Nat) (v : Value) (W : World) : (Go.method (k + 1) 132 v "ReadBool").run Try.prog W = .ok (65, v) W := by kernel_rfl
theorem m_ReadInt8 (k : Nat) (v : Value) (W : World) : (Go.method (k + 1) 132 v "ReadInt8").run Try.prog W = .ok (72, v) W := by kernel_rfl
theorem m_ReadInt16 (k : Nat) (v : Value) (W : World) : (Go.method (k + 1) 132 v "ReadInt16").run Try.prog W = .ok (69, v) W := by kernel_rfl
theorem m_ReadInt32 (k : Nat) (v : Value) (W : World) : (Go.method (k + 1) 132 v "ReadInt32").run Try.prog W = .ok (70, v) W := by kernel_rfl
theorem m_ReadInt64 (k : Nat) (v : Value) (W : World) : (Go.method (k + 1) 132 v "ReadInt64").run Try.prog W = .ok (71, v) W := by kernel_rfl
theorem m_ReadFloat64 (k : Nat) (v : Value) (W : World) : (Go.method (k + 1) 132 v "ReadFloat64").run Try.prog W = .ok (68, v) W := by kernel_rfl
theorem m_ReadBytes (k : Nat) (v : Value) (W : World) : (Go.method (k + 1) 132 v "ReadBytes").run Try.prog W = .ok (66, v) W := by kernel_rfl
theorem m_ReadList (k : Nat) (v : Value) (W : World) : (Go.method (k + 1) 132 v "ReadList").run Try.prog W = .ok (74, v) W := by kernel_rfl
theorem m_ReadMap (k : Nat) (v : Value) (W : World) : (Go.method (k + 1) 132 v "ReadMap").run Try.prog W = .ok (75, v) W := by kernel_rfl
theorem m_ReadField (k : Nat) (v : Value) (W : World) : (Go.method (k + 1) 132 v "ReadField").run Try.prog W = .ok (67, v) W := by kernel_rfl
theorem m_BytesRead (k : Nat) (v : Value) (W : World) : (Go.method (k + 1) 132 v "BytesRead").run Try.prog W = .ok (63, v) W := by kernel_rfl
/-- how thrift.Value is spelled -/
def flV : Fl := ⟨.i8, .i16, fun b => .float .f64 b⟩
/-- the blocks of what has been read: old ones below B0 but the reader's, and ones from base on -/
def Pn (B0 g base hi : Nat) (b : Nat) : Prop := (b < B0 ∧ b ≠ g) ∨ (base ≤ b ∧ b < hi)
abbrev rdV (g : Nat) : Value := .iface 132 (.pointer (some ⟨g, 0, none⟩))
/-- a value has been read -/
structure ZOk (w w' : World) (g : Nat) (p : Value) (A : Option Addr) (n c B0 : Nat) (x : N) (o' : Nat) (e : Ending) : Prop where
  mk :: (out : ∃ cs, e = .returned (.tuple #[.agg cs.toArray, .nilIface]) ∧ x.In flV w' (Pn B0 g w.heap.size w'.heap.size) cs) (went : Went w w' g p A n c o')
/-- nine cells of a value -/
def Sh9 (cs : Array Value) : Prop := ∃ (a : Int) (b : Bool) (m : Int) (d : Nat) (A1 : Option Addr) (n1 c1 : Nat) (k e : Int) (A2 : Option Addr) (n2 c2 : Nat) (A3 : Option Addr) (n3 c3 : Nat), cs = #[.int .i8 a, .bool b, .int .i64 m, .float .f64 d, .slice A1 n1 c1, .int .i8 k, .int .i8 e, .slice A2 n2 c2, .slice A3 n3 c3]
/-- bytes have broken off -/
structure ZCut (w w' : World) (g : Nat) (p1 p2 : Addr) (e : Ending) : Prop where
  mk :: (out : ∃ (cs : Array Value) (q : Addr), Sh9 cs ∧ (q = p1 ∨ q = p2) ∧ e = .returned (.tuple #[.agg cs, erV q])) (grown : w.grownBy w' (some g)) (rds : RdS w w' g)
/-- what is known of a block of nine cells -/
theorem nine {w : World} {g t : Nat} {a0 a1 a2 a3 a4 a5 a6 a7 a8 : Value} (h : Blk w g #[a0, a1, a2, a3, a4, a5, a6, a7, a8] t) :
    w.cell? ⟨g, 0, none⟩ = some a0 ∧ w.cell? ⟨g, 1, none⟩ = some a1 ∧ w.cell? ⟨g, 2, none⟩ = some a2 ∧ w.cell? ⟨g, 3, none⟩ = some a3 ∧ w.cell? ⟨g, 4, none⟩ = some a4 ∧ w.cell? ⟨g, 5, none⟩ = some a5 ∧ w.cell? ⟨g, 6, none⟩ = some a6 ∧ w.cell? ⟨g, 7, none⟩ = some a7 ∧ w.cell? ⟨g, 8, none⟩ = some a8 ∧ ∀ j, w.frozen? ⟨g, j, none⟩ = false :=
  ⟨h.cell (j := 0) rfl, h.cell (j := 1) rfl, h.cell (j := 2) rfl, h.cell (j := 3) rfl, h.cell (j := 4) rfl, h.cell (j := 5) rfl, h.cell (j := 6) rfl, h.cell (j := 7) rfl, h.cell (j := 8) rfl, h.free⟩
theorem nineSet {w : World} {g t : Nat} {a0 a1 a2 a3 a4 a5 a6 a7 a8 : Value} (h : Blk w g #[a0, a1, a2, a3, a4, a5, a6, a7, a8] t) (x0 x1 x2 x3 x4 x5 x6 x7 x8 : Value) : Blk (((((((((w.setCell ⟨g, 0, none⟩ x0).setCell ⟨g, 1, none⟩ x1).setCell ⟨g, 2, none⟩ x2).setCell ⟨g, 3, none⟩ x3).setCell ⟨g, 4, none⟩ x4).setCell ⟨g, 5, none⟩ x5).setCell ⟨g, 6, none⟩ x6).setCell ⟨g, 7, none⟩ x7).setCell ⟨g, 8, none⟩ x8) g #[x0, x1, x2, x3, x4, x5, x6, x7, x8] t := by
  have := (((((((((h.set 0 x0).set 1 x1).set 2 x2).set 3 x3).set 4 x4).set 5 x5).set 6 x6).set 7 x7).set 8 x8)
  simpa using this
theorem grownNine {w w1 : World} {row : Option Nat} {g : Nat} (h : w.grownBy w1 row) (hb : w.heap.size ≤ g) (x0 x1 x2 x3 x4 x5 x6 x7 x8 : Value) : w.grownBy (((((((((w1.setCell ⟨g, 0, none⟩ x0).setCell ⟨g, 1, none⟩ x1).setCell ⟨g, 2, none⟩ x2).setCell ⟨g, 3, none⟩ x3).setCell ⟨g, 4, none⟩ x4).setCell ⟨g, 5, none⟩ x5).setCell ⟨g, 6, none⟩ x6).setCell ⟨g, 7, none⟩ x7).setCell ⟨g, 8, none⟩ x8) row :=
  grownSetNew (grownSetNew (grownSetNew (grownSetNew (grownSetNew (grownSetNew (grownSetNew (grownSetNew (grownSetNew h hb _) hb _) hb _) hb _) hb _) hb _) hb _) hb _) hb _
theorem wentNine {w w1 : World} {r : Nat} {p : Value} {A : Option Addr} {n c o g : Nat} (h : Went w w1 r p A n c o) (hb : w.heap.size ≤ g) (hr : r ≠ g) (x0 x1 x2 x3 x4 x5 x6 x7 x8 : Value) : Went w (((((((((w1.setCell ⟨g, 0, none⟩ x0).setCell ⟨g, 1, none⟩ x1).setCell ⟨g, 2, none⟩ x2).setCell ⟨g, 3, none⟩ x3).setCell ⟨g, 4, none⟩ x4).setCell ⟨g, 5, none⟩ x5).setCell ⟨g, 6, none⟩ x6).setCell ⟨g, 7, none⟩ x7).setCell ⟨g, 8, none⟩ x8) r p A n c o :=
  ((((((((h.setNew hb hr _).setNew hb hr _).setNew hb hr _).setNew hb hr _).setNew hb hr _).setNew hb hr _).setNew hb hr _).setNew hb hr _).setNew hb hr _
theorem rdsNine {w w1 : World} {g b0 : Nat} (h : RdS w w1 g) (hne : g ≠ b0) (x0 x1 x2 x3 x4 x5 x6 x7 x8 : Value) : RdS w (((((((((w1.setCell ⟨b0, 0, none⟩ x0).setCell ⟨b0, 1, none⟩ x1).setCell ⟨b0, 2, none⟩ x2).setCell ⟨b0, 3, none⟩ x3).setCell ⟨b0, 4, none⟩ x4).setCell ⟨b0, 5, none⟩ x5).setCell ⟨b0, 6, none⟩ x6).setCell ⟨b0, 7, none⟩ x7).setCell ⟨b0, 8, none⟩ x8) g :=
  rdsSet (rdsSet (rdsSet (rdsSet (rdsSet (rdsSet (rdsSet (rdsSet (rdsSet (h) hne _ _) hne _ _) hne _ _) hne _ _) hne _ _) hne _ _) hne _ _) hne _ _) hne _ _
theorem s8_bd (b : Int) (h0 : 0 ≤ b) (h1 : b < 256) : -128 ≤ s8 b ∧ s8 b < 128 := by
  unfold s8; by_cases c : b < 128
  · rw [if_pos c]; omega
  · rw [if_neg c]; omega
end Go.Proofs.Ytcboegodjlfmnaa.Tzl

/-! zzRead: what a loop over elements keeps. -/
namespace Go.Proofs.Ytcboegodjlfmnaa.Tzm
open Go.Proofs.Ytcboegodjlfmnaa.Tzl Go.Proofs.Ytcboegodjlfmnaa.Trh Go.Proofs.Ytcboegodjlfmnaa.Trn Go.Proofs.Ytcboegodjlfmnaa.Trm Go.Proofs.Ytcboegodjlfmnaa.Tuv Go.Proofs.Ytcboegodjlfmnaa.Tpa Go.Proofs.Ytcboegodjlfmnaa.Duv Go.Proofs.Ytcboegodjlfmnaa.Dpu Go.Proofs.Ytcboegodjlfmnaa.Pak Go.Proofs.Ytcboegodjlfmnaa.Buf Go.Proofs.Ytcboegodjlfmnaa.Fit Go.Proofs.Ytcboegodjlfmnaa.Bit Go.Proofs.Ytcboegodjlfmnaa.Wrd Go.Proofs.Ytcboegodjlfmnaa.Spl Go.Proofs.Ytcboegodjlfmnaa.Str Go.Proofs.Ytcboegodjlfmnaa.Flt Go.Proofs.Ytcboegodjlfmnaa.Owe Go.Proofs.Ytcboegodjlfmnaa.Num Go.Proofs.Ytcboegodjlfmnaa.Le Go.Proofs.Ytcboegodjlfmnaa.Lst Go.Proofs.Ytcboegodjlfmnaa.Aid Go.RowKit Go.Proofs.YtcboegodjlfmnaaW.PrintWords Go.Proofs.YtcboegodjlfmnaaW.PrintLast Go.Proofs.YtcboegodjlfmnaaW.PrintMore
set_option linter.unusedVariables false
set_option linter.unusedSimpArgs false
/-- a value has been read, or bytes have broken off, as the parser says -/
structure ZRes (w w' : World) (g : Nat) (p : Value) (A : Option Addr) (n c B0 : Nat) (p1 p2 : Addr) (bs : List Int) (R : Res N) (e : Ending) : Prop where
  mk :: (ok : ∀ x r, R = .ok x r → ∃ o', r = bs.drop o' ∧ o' ≤ n ∧ ZOk w w' g p A n c B0 x o' e) (cut : R = .cut → ZCut w w' g p1 p2 e)
/-- the blocks of what has been read, where a block gO may have been written -/
def PnO (B0 : Nat) (gO : Option Nat) (base hi : Nat) (b : Nat) : Prop := (b < B0 ∧ gO ≠ some b) ∨ (base ≤ b ∧ b < hi)
theorem pn_iff (B0 g base hi b : Nat) : Pn B0 g base hi b ↔ PnO B0 (some g) base hi b := by
  unfold Pn PnO
  constructor
  · rintro (⟨h1, h2⟩ | h)
    · exact .inl ⟨h1, fun e => h2 (Option.some.inj e).symm⟩
    · exact .inr h
  · rintro (⟨h1, h2⟩ | h)
    · exact .inl ⟨h1, fun e => h2 (by rw [e])⟩
    · exact .inr h
/-- the blocks of elements: not the one of the row that grows -/
def PL (B0 : Nat) (gO : Option Nat) (base hi : Nat) (v : Value) (b : Nat) : Prop := (b < B0 ∧ gO ≠ some b) ∨ (base ≤ b ∧ b < hi ∧ v.ownBlock ≠ some b)
/-- what a loop over elements keeps: a row of the call's own, from base on, and a block gO with the cells rc -/
structure LRow (w w' : World) (gO : Option Nat) (rc : Array Value) (rt : TypeId) (B0 : Nat) (σ : Fl) (fld : Bool) (te : TypeId) (base : Nat) (v : Value) (D : F) (cs : List Value) : Prop where
  mk :: (grown : w.grownBy w' gO) (rb : ∀ g, gO = some g → Blk w' g rc rt) (row : w'.ownsRow base te (if fld then 10 else 9) v D.len cs) (els : D.In σ w' (PL B0 gO base w'.heap.size v) fld cs) (sz : base ≤ w'.heap.size)
theorem inAlloc {σ : Fl} {w : World} {B0 : Nat} {gO : Option Nat} {lo : Nat} {x : N} {cs : List Value} (h : x.In σ w (PnO B0 gO lo w.heap.size) cs) (hB : B0 ≤ w.heap.size) (o : Obj) : x.In σ (w.alloc o) (PnO B0 gO lo (w.alloc o).heap.size) cs := by
  refine h.move ?_ ?_
  · rintro b (⟨h1, h2⟩ | ⟨h1, h2⟩)
    · exact Below.heap_alloc w o b (by omega)
    · exact Below.heap_alloc w o b h2
  · rintro b (h1 | ⟨h1, h2⟩)
    · exact .inl h1
    · exact .inr ⟨h1, by rw [allocSize]; omega⟩
theorem inSet {σ : Fl} {w : World} {B0 : Nat} {gO : Option Nat} {lo : Nat} {x : N} {cs : List Value} (h : x.In σ w (PnO B0 gO lo w.heap.size) cs) {b0 : Nat} (hB : B0 ≤ b0) (hl : b0 < lo) (j : Nat) (u : Value) : x.In σ (w.setCell ⟨b0, j, none⟩ u) (PnO B0 gO lo (w.setCell ⟨b0, j, none⟩ u).heap.size) cs := by
  have s3 : (w.setCell ⟨b0, j, none⟩ u).heap.size = w.heap.size := by simp [World.setCell]
  rw [s3]
  refine h.move ?_ (fun b hb => hb)
  rintro b (⟨h1, h2⟩ | ⟨h1, h2⟩)
  · exact Below.heap_setCell w _ _ b (by show b ≠ b0; omega)
  · exact Below.heap_setCell w _ _ b (by show b ≠ b0; omega)
theorem own_lt {w : World} {base : Nat} {e : TypeId} {size : Nat} {v : Value} {n : Nat} {xs : List Value} (h : w.ownsRow base e size v n xs) {b : Nat} (hb : v.ownBlock = some b) : base ≤ b ∧ b < w.heap.size := by
  obtain ⟨h1, ⟨rfl, rfl⟩ | ⟨g, cap, cur, rfl, h2, h3, _⟩⟩ := h
  · cases hb
  · obtain rfl : g = b := by simpa [Value.ownBlock] using hb
    exact ⟨h2, (Array.getElem?_eq_some_iff.1 h3).1⟩
theorem grownSetO {w w1 : World} {row : Option Nat} {b j : Nat} (h : w.grownBy w1 row) (hb : w.heap.size ≤ b) (u : Value) : w.grownBy (w1.setCell ⟨b, j, none⟩ u) row := grownSetNew h hb u
/-- one element more -/
theorem LRow.step {w w1 w2 w4 : World} {gO : Option Nat} {rc rc2 : Array Value} {rt : TypeId} {B0 : Nat} {σ : Fl} {fld : Bool} {te : TypeId} {base : Nat} {v v1 : Value} {D : F} {cs : List Value}
    (h : LRow w w1 gO rc rt B0 σ fld te base v D cs) (hbase : w.heap.size ≤ base) (hB9 : B0 ≤ w.heap.size) (hgl : ∀ g, gO = some g → g < w.heap.size) {x : N} {xcs : List Value} {id : Int} {lo : Nat} (hlo : w1.heap.size ≤ lo) (hx : x.In σ w2 (PnO B0 gO lo w2.heap.size) xcs) (hw : w1.grownBy w2 gO) (hrb : ∀ g, gO = some g → Blk w2 g rc2 rt)
    {O2 : Obj} (hg : (w2.alloc O2).grownBy w4 v.ownBlock) (ho : w4.ownsRow base te (if fld then 10 else 9) v1 (D.len + 1) (cs ++ ((if fld then [.int σ.kid id] else []) ++ xcs))) (hor : v1.ownBlock = v.ownBlock ∨ v1.ownBlock = some (w2.heap.size + 1)) :
    LRow w w4 gO rc2 rt B0 σ fld te base v1 (D.snoc x.d id x.ls x.fs) (cs ++ ((if fld then [.int σ.kid id] else []) ++ xcs)) := by
  have s1 : (w2.alloc O2).heap.size = w2.heap.size + 1 := allocSize _ _
  have s2 : w2.heap.size + 1 ≤ w4.heap.size := by have := hg.size; omega
  have l1 := h.sz
  have l2 : w1.heap.size ≤ w2.heap.size := hw.size
  have hnv : ∀ b, v.ownBlock = some b → base ≤ b ∧ b < w1.heap.size := fun b hb => own_lt h.row hb
  -- a block of old, or of the value that has been read
  have keep : ∀ b, b < w2.heap.size → v.ownBlock ≠ some b → w4.heap[b]? = w2.heap[b]? := fun b hb hne => by
    rw [hg.block b (by rw [s1]; omega) (fun e => hne e.symm), Below.heap_alloc _ _ b hb]
  have keep1 : ∀ b, b < w1.heap.size → gO ≠ some b → v.ownBlock ≠ some b → w4.heap[b]? = w1.heap[b]? := fun b hb hne hv => by
    rw [keep b (by omega) hv]
    exact hw.block b hb (fun e => hne e.symm)
  have hv1 : ∀ b, v1.ownBlock = some b → v.ownBlock = some b ∨ b = w2.heap.size + 1 := fun b hb => by
    rcases hor with e | e
    · exact .inl (e ▸ hb)
    · rw [e] at hb; injection hb with hb; exact .inr hb.symm
  refine ⟨?_, ?_, ?_, ?_, by omega⟩
  · refine ⟨hg.os.trans (hw.os.trans h.grown.os), hg.tape.trans (hw.tape.trans h.grown.tape), hg.output.trans (hw.output.trans h.grown.output), by have := h.grown.size; omega, fun b hb hne => ?_⟩
    have := h.grown.size
    rw [keep1 b (by omega) (fun e => hne e.symm) (fun e => by have := hnv b e; omega)]
    exact h.grown.block b hb hne
  · intro g hgg
    have := h.grown.size
    have := hgl g hgg
    refine ⟨?_⟩
    rw [keep g (by omega) (fun e => by have := hnv g e; omega)]
    exact (hrb g hgg).out
  · rw [F.len_snoc]
    exact ho
  · have hD : D.In σ w4 (PL B0 gO base w4.heap.size v1) fld cs := by
      refine F.In.move ?_ ?_ h.els
      · rintro b (⟨h5, h6⟩ | ⟨h5, h6, h7⟩)
        · exact keep1 b (by omega) h6 (fun e => by have := hnv b e; omega)
        · exact keep1 b h6 (fun e => by have := hgl b e; omega) h7
      · rintro b (⟨h5, h6⟩ | ⟨h5, h6, h7⟩)
        · exact .inl ⟨h5, h6⟩
        · refine .inr ⟨h5, by omega, fun e => ?_⟩
          rcases hv1 b e with h8 | h8
          · exact h7 h8
          · omega
    have hX : x.In σ w4 (PL B0 gO base w4.heap.size v1) xcs := by
      refine hx.move ?_ ?_
      · rintro b (⟨h5, h6⟩ | ⟨h5, h6⟩)
        · exact keep b (by omega) (fun e => by have := hnv b e; omega)
        · exact keep b h6 (fun e => by have := hnv b e; omega)
      · rintro b (⟨h5, h6⟩ | ⟨h5, h6⟩)
        · exact .inl ⟨h5, h6⟩
        · refine .inr ⟨by omega, by omega, fun e => ?_⟩
          rcases hv1 b e with h8 | h8
          · have := hnv b h8; omega
          · omega
    exact F.In.snoc (id := id) (by obtain ⟨d, ls, fs⟩ := x; exact hX) hD
/-- a block of the loop's own, ahead of the row's -/
theorem LRow.keeps {w w1 w2 w4 : World} {gO : Option Nat} {rc : Array Value} {rt : TypeId} {B0 : Nat} {σ : Fl} {fld : Bool} {te : TypeId} {base : Nat} {v : Value} {D : F} {cs : List Value}
    (h : LRow w w1 gO rc rt B0 σ fld te base v D cs) (hgl : ∀ g, gO = some g → g < w.heap.size) (hw : w1.grownBy w2 gO) {O2 : Obj} (hg : (w2.alloc O2).grownBy w4 v.ownBlock) {b : Nat} (h1 : w.heap.size ≤ b) (h2 : b < base) :
    w4.heap[b]? = w1.heap[b]? := by
  have s1 : (w2.alloc O2).heap.size = w2.heap.size + 1 := allocSize _ _
  have l2 : w1.heap.size ≤ w2.heap.size := hw.size
  have l3 := h.sz
  rw [hg.block b (by rw [s1]; omega) (fun e => by have := own_lt h.row e.symm; omega), Below.heap_alloc _ _ b (by omega)]
  exact hw.block b (by omega) (fun e => by have := hgl b e.symm; omega)
/-- a store into such a block -/
theorem LRow.set {w w1 : World} {gO : Option Nat} {rc : Array Value} {rt : TypeId} {B0 : Nat} {σ : Fl} {fld : Bool} {te : TypeId} {base : Nat} {v : Value} {D : F} {cs : List Value}
    (h : LRow w w1 gO rc rt B0 σ fld te base v D cs) (hB9 : B0 ≤ w.heap.size) (hgl : ∀ g, gO = some g → g < w.heap.size) {b0 : Nat} (h1 : w.heap.size ≤ b0) (h2 : b0 < base) (j : Nat) (u : Value) : LRow w (w1.setCell ⟨b0, j, none⟩ u) gO rc rt B0 σ fld te base v D cs := by
  have s3 : (w1.setCell ⟨b0, j, none⟩ u).heap.size = w1.heap.size := by simp [World.setCell]
  have keepS : ∀ b, b ≠ b0 → (w1.setCell ⟨b0, j, none⟩ u).heap[b]? = w1.heap[b]? := fun b hb => Below.heap_setCell w1 _ _ b hb
  refine ⟨grownSetNew h.grown h1 u, fun g hg => ⟨?_⟩, own_move h.row fun b hb => keepS b (by have := own_lt h.row hb; omega), ?_, by rw [s3]; exact h.sz⟩
  · rw [keepS g (by have := hgl g hg; omega)]; exact (h.rb g hg).out
  · rw [s3]
    refine F.In.move ?_ (fun b hb => hb) h.els
    rintro b (⟨h5, h6⟩ | ⟨h5, h6, h7⟩)
    · exact keepS b (by omega)
    · exact keepS b (by omega)
/-- the row that has grown, as the elements of a value -/
theorem LRow.lies {w w1 : World} {gO : Option Nat} {rc : Array Value} {rt : TypeId} {B0 : Nat} {σ : Fl} {fld : Bool} {te : TypeId} {base : Nat} {v : Value} {D : F} {cs : List Value}
    (h : LRow w w1 gO rc rt B0 σ fld te base v D cs) (hbase : w.heap.size ≤ base) : Lies w1 (PnO B0 gO w.heap.size w1.heap.size) v D.len cs ∧ D.In σ w1 (PnO B0 gO w.heap.size w1.heap.size) fld cs := by
  refine ⟨(lies_own h.row).move (fun _ _ => rfl) (fun b hb => .inr ?_), F.In.move (fun _ _ => rfl) ?_ h.els⟩
  · have := own_lt h.row hb; exact ⟨by omega, this.2⟩
  · rintro b (h5 | ⟨h5, h6, _⟩)
    · exact .inl h5
    · exact .inr ⟨by omega, h6⟩
/-- one element more, that has been read and laid into a block -/
theorem LRow.next {w w1 w2 w4 : World} {g : Nat} {rc rc2 : Array Value} {rt : TypeId} {B0 : Nat} {σ : Fl} {fld : Bool} {te : TypeId} {base : Nat} {v v1 : Value} {D : F} {cs : List Value}
    (h : LRow w w1 (some g) rc rt B0 σ fld te base v D cs) (hbase : w.heap.size ≤ base) (hB9 : B0 ≤ w.heap.size) (hgl : g < w.heap.size) {x : N} {xcs : List Value} (id : Int) (hw : w1.grownBy w2 (some g)) (hrb : Blk w2 g rc2 rt) (hx : x.In σ w2 (PnO B0 (some g) w1.heap.size w2.heap.size) xcs)
    {O1 O2 : Obj} (hg : ((w2.alloc O1).alloc O2).grownBy w4 v.ownBlock) (ho : w4.ownsRow base te (if fld then 10 else 9) v1 (D.len + 1) (cs ++ ((if fld then [.int σ.kid id] else []) ++ xcs))) (hor : v1.ownBlock = v.ownBlock ∨ v1.ownBlock = some ((w2.alloc O1).heap.size + 1)) :
    LRow w w4 (some g) rc2 rt B0 σ fld te base v1 (D.snoc x.d id x.ls x.fs) (cs ++ ((if fld then [.int σ.kid id] else []) ++ xcs)) ∧ ∀ b, w.heap.size ≤ b → b < base → w4.heap[b]? = w1.heap[b]? := by
  have hgl' : ∀ g', some g = some g' → g' < w.heap.size := fun g' e => Option.some.inj e ▸ hgl
  have hw' : w1.grownBy (w2.alloc O1) (some g) := hw.trans (grownAlloc0 _ _ _)
  have hB : B0 ≤ w2.heap.size := by have := hw.size; have := h.grown.size; omega
  refine ⟨h.step hbase hB9 hgl' (Nat.le_refl _) (inAlloc hx hB O1) hw' (fun g' e => ?_) hg ho hor, fun b h1 h2 => h.keeps hgl' hw' hg h1 h2⟩
  obtain rfl := Option.some.inj e
  exact hrb.alloc _
theorem LRow.alloc {w w1 : World} {gO : Option Nat} {rc : Array Value} {rt : TypeId} {B0 : Nat} {σ : Fl} {fld : Bool} {te : TypeId} {base : Nat} {v : Value} {D : F} {cs : List Value}
    (h : LRow w w1 gO rc rt B0 σ fld te base v D cs) (hB9 : B0 ≤ w.heap.size) (o : Obj) : LRow w (w1.alloc o) gO rc rt B0 σ fld te base v D cs := by
  have hs := h.grown.size
  have hsz := allocSize w1 o
  refine ⟨h.grown.trans ⟨rfl, rfl, rfl, by omega, fun k hk _ => Below.heap_alloc w1 o k hk⟩, fun g hg => (h.rb g hg).alloc o, h.row.alloc o, ?_, by have := h.sz; omega⟩
  refine F.In.move ?_ ?_ h.els
  · rintro b (⟨h5, h6⟩ | ⟨h5, h6, h7⟩)
    · exact Below.heap_alloc w1 o b (by omega)
    · exact Below.heap_alloc w1 o b h6
  · rintro b (h5 | ⟨h5, h6, h7⟩)
    · exact .inl h5
    · exact .inr ⟨h5, by omega, h7⟩
/-- a block made in the loop, that is not the row's -/
theorem LRow.keeps2 {w w1 w2 w4 : World} {g : Nat} {rc : Array Value} {rt : TypeId} {B0 : Nat} {σ : Fl} {fld : Bool} {te : TypeId} {base : Nat} {v : Value} {D : F} {cs : List Value}
    (h : LRow w w1 (some g) rc rt B0 σ fld te base v D cs) (hgl : g < w.heap.size) (hw : w1.grownBy w2 (some g)) {O1 O2 : Obj} (hg : ((w2.alloc O1).alloc O2).grownBy w4 v.ownBlock) {b : Nat} (h1 : w.heap.size ≤ b) (h2 : b < w1.heap.size) (h3 : v.ownBlock ≠ some b) :
    w4.heap[b]? = w1.heap[b]? := by
  have s1 : (w2.alloc O1).heap.size = w2.heap.size + 1 := allocSize _ _
  have s2 : ((w2.alloc O1).alloc O2).heap.size = (w2.alloc O1).heap.size + 1 := allocSize _ _
  have l2 : w1.heap.size ≤ w2.heap.size := hw.size
  rw [hg.block b (by omega) (fun e => h3 e.symm), Below.heap_alloc _ _ b (by omega), Below.heap_alloc _ _ b (by omega)]
  exact hw.block b (by omega) (fun e => by have := Option.some.inj e; omega)
theorem twoBlk2 (w w2 : World) (g t1 t2 : Nat) (cs ds : Array Value) (h : ((w.alloc (.cells cs t1)).alloc (.cells ds t2)).grownBy w2 (some g)) (hg : g < w.heap.size) : Blk w2 w.heap.size cs t1 ∧ Blk w2 (w.heap.size + 1) ds t2 := by
  refine ⟨keepBlk ((Blk.new w cs t1).alloc _) h (by omega), keepBlk ?_ h (by omega)⟩
  have := Blk.new (w.alloc (.cells cs t1)) ds t2
  rwa [allocSize] at this
/-- what has been read, cell by cell -/
theorem openNode {σ : Fl} {w : World} {x : N} {Pb : Nat → Prop} {cs : List Value} (h : x.In σ w Pb cs) :
    ∃ (A1 : Option Addr) (n1 c1 : Nat) (A2 : Option Addr) (n2 c2 : Nat) (A3 : Option Addr) (n3 c3 : Nat), cs = [.int σ.kt x.d.ty, .bool x.d.bo, .int .i64 x.d.n, σ.bv x.d.bits, .slice A1 n1 c1, .int σ.kt x.d.ky, .int σ.kt x.d.el, .slice A2 n2 c2, .slice A3 n3 c3] := by
  obtain ⟨bsv, lsv, fsv, lcs, fcs, h1, h2, h3, _, h5, _⟩ := h.out
  obtain ⟨A1, c1, rfl, _⟩ := h2.out
  obtain ⟨A2, c2, rfl, _⟩ := h3.out
  obtain ⟨A3, c3, rfl, _⟩ := h5.out
  exact ⟨_, _, _, _, _, _, _, _, _, h1⟩
theorem openV {w : World} {x : N} {Pb : Nat → Prop} {cs : List Value} (h : x.In flV w Pb cs) :
    ∃ (A1 : Option Addr) (n1 c1 : Nat) (A2 : Option Addr) (n2 c2 : Nat) (A3 : Option Addr) (n3 c3 : Nat), cs = [.int .i8 x.d.ty, .bool x.d.bo, .int .i64 x.d.n, .float .f64 x.d.bits, .slice A1 n1 c1, .int .i8 x.d.ky, .int .i8 x.d.el, .slice A2 n2 c2, .slice A3 n3 c3] := openNode h
theorem ownNil (w : World) (base e size : Nat) : w.ownsRow base e size (.slice none 0 0) 0 [] := ⟨by simp, .inl ⟨rfl, rfl⟩⟩
theorem ownSlice {w : World} {base e size : Nat} {v : Value} {n : Nat} {xs : List Value} (h : w.ownsRow base e size v n xs) : ∃ Al cl, v = .slice Al n cl := by
  obtain ⟨h1, ⟨rfl, rfl⟩ | ⟨g, cap, cur, rfl, _⟩⟩ := h
  · exact ⟨_, _, rfl⟩
  · exact ⟨_, _, rfl⟩
/-- what is known of a block of nine cells, behind another that has been made -/
theorem nineA {w : World} {g t : Nat} {a0 a1 a2 a3 a4 a5 a6 a7 a8 : Value} (h : Blk w g #[a0, a1, a2, a3, a4, a5, a6, a7, a8] t) :
    (∀ o, (w.alloc o).cell? ⟨g, 0, none⟩ = some a0) ∧ (∀ o, (w.alloc o).cell? ⟨g, 1, none⟩ = some a1) ∧ (∀ o, (w.alloc o).cell? ⟨g, 2, none⟩ = some a2) ∧ (∀ o, (w.alloc o).cell? ⟨g, 3, none⟩ = some a3) ∧ (∀ o, (w.alloc o).cell? ⟨g, 4, none⟩ = some a4) ∧ (∀ o, (w.alloc o).cell? ⟨g, 5, none⟩ = some a5) ∧ (∀ o, (w.alloc o).cell? ⟨g, 6, none⟩ = some a6) ∧ (∀ o, (w.alloc o).cell? ⟨g, 7, none⟩ = some a7) ∧ (∀ o, (w.alloc o).cell? ⟨g, 8, none⟩ = some a8) ∧ ∀ o j, (w.alloc o).frozen? ⟨g, j, none⟩ = false :=
  ⟨fun o => (h.alloc o).cell (j := 0) rfl, fun o => (h.alloc o).cell (j := 1) rfl, fun o => (h.alloc o).cell (j := 2) rfl, fun o => (h.alloc o).cell (j := 3) rfl, fun o => (h.alloc o).cell (j := 4) rfl, fun o => (h.alloc o).cell (j := 5) rfl, fun o => (h.alloc o).cell (j := 6) rfl, fun o => (h.alloc o).cell (j := 7) rfl, fun o => (h.alloc o).cell (j := 8) rfl, fun o => (h.alloc o).free⟩
/-- nine stores of what stands there -/
theorem nineKeep {w : World} {g t : Nat} {a0 a1 a2 a3 a4 a5 a6 a7 a8 : Value} (h : Blk w g #[a0, a1, a2, a3, a4, a5, a6, a7, a8] t) : (((((((((w.setCell ⟨g, 0, none⟩ a0).setCell ⟨g, 1, none⟩ a1).setCell ⟨g, 2, none⟩ a2).setCell ⟨g, 3, none⟩ a3).setCell ⟨g, 4, none⟩ a4).setCell ⟨g, 5, none⟩ a5).setCell ⟨g, 6, none⟩ a6).setCell ⟨g, 7, none⟩ a7).setCell ⟨g, 8, none⟩ a8).heap.size = w.heap.size ∧ ∀ b : Nat, (((((((((w.setCell ⟨g, 0, none⟩ a0).setCell ⟨g, 1, none⟩ a1).setCell ⟨g, 2, none⟩ a2).setCell ⟨g, 3, none⟩ a3).setCell ⟨g, 4, none⟩ a4).setCell ⟨g, 5, none⟩ a5).setCell ⟨g, 6, none⟩ a6).setCell ⟨g, 7, none⟩ a7).setCell ⟨g, 8, none⟩ a8).heap[b]? = w.heap[b]? := by
  refine ⟨by simp [World.setCell], fun b => ?_⟩
  by_cases hb : b = g
  · subst hb; rw [(nineSet h _ _ _ _ _ _ _ _ _).out, h.out]
  · rw [Below.heap_setCell _ _ _ b hb, Below.heap_setCell _ _ _ b hb, Below.heap_setCell _ _ _ b hb, Below.heap_setCell _ _ _ b hb, Below.heap_setCell _ _ _ b hb, Below.heap_setCell _ _ _ b hb, Below.heap_setCell _ _ _ b hb, Below.heap_setCell _ _ _ b hb, Below.heap_setCell _ _ _ b hb]
theorem grownNewBlk {w w1 : World} {g b t : Nat} {cs : Array Value} (h : Blk w b cs t) (k : w.grownBy w1 (some g)) (hne : b ≠ g) : Blk w1 b cs t := keepBlk h k hne
end Go.Proofs.Ytcboegodjlfmnaa.Tzm

/-! zzRead: lists and sets. -/
namespace Go.Proofs.Ytcboegodjlfmnaa.Tzq
open Go.Proofs.Ytcboegodjlfmnaa.Tzm Go.Proofs.Ytcboegodjlfmnaa.Tzl Go.Proofs.Ytcboegodjlfmnaa.Trh Go.Proofs.Ytcboegodjlfmnaa.Trn Go.Proofs.Ytcboegodjlfmnaa.Trm Go.Proofs.Ytcboegodjlfmnaa.Tuv Go.Proofs.Ytcboegodjlfmnaa.Tpa Go.Proofs.Ytcboegodjlfmnaa.Duv Go.Proofs.Ytcboegodjlfmnaa.Dpu Go.Proofs.Ytcboegodjlfmnaa.Pak Go.Proofs.Ytcboegodjlfmnaa.Buf Go.Proofs.Ytcboegodjlfmnaa.Fit Go.Proofs.Ytcboegodjlfmnaa.Bit Go.Proofs.Ytcboegodjlfmnaa.Wrd Go.Proofs.Ytcboegodjlfmnaa.Spl Go.Proofs.Ytcboegodjlfmnaa.Str Go.Proofs.Ytcboegodjlfmnaa.Flt Go.Proofs.Ytcboegodjlfmnaa.Owe Go.Proofs.Ytcboegodjlfmnaa.Num Go.Proofs.Ytcboegodjlfmnaa.Le Go.Proofs.Ytcboegodjlfmnaa.Lst Go.Proofs.Ytcboegodjlfmnaa.Aid Go.RowKit Go.Proofs.YtcboegodjlfmnaaW.PrintWords Go.Proofs.YtcboegodjlfmnaaW.PrintLast Go.Proofs.YtcboegodjlfmnaaW.PrintMore
set_option linter.unusedVariables false
set_option linter.unusedSimpArgs false
theorem infoVal : (Try.prog.info? 69).map (fun i => (i.size, i.bytes, i.zero.map (·.cells.size))) = some (9, 104, some 9) := by kernel_rfl
end Go.Proofs.Ytcboegodjlfmnaa.Tzq

/-! Appends in regions that draw their order. -/
namespace Go.Proofs.Ytcboegodjlfmnaa.Tap
open Go.Proofs.Ytcboegodjlfmnaa.Tpa Go.Proofs.Ytcboegodjlfmnaa.Trh Go.Proofs.Ytcboegodjlfmnaa.Dpu Go.Proofs.Ytcboegodjlfmnaa.Pak Go.Proofs.Ytcboegodjlfmnaa.Buf Go.Proofs.Ytcboegodjlfmnaa.Fit Go.Proofs.Ytcboegodjlfmnaa.Bit Go.Proofs.Ytcboegodjlfmnaa.Le Go.Proofs.Ytcboegodjlfmnaa.Num Go.Proofs.Ytcboegodjlfmnaa.Lst Go.Proofs.Ytcboegodjlfmnaa.Aid Go.RowKit Go.Proofs.YtcboegodjlfmnaaW.PrintWords Go.Proofs.YtcboegodjlfmnaaW.PrintLast Go.Proofs.YtcboegodjlfmnaaW.PrintMore
set_option linter.unusedVariables false
set_option linter.unusedSimpArgs false
section
variable {P : Program} {ops : Array Oper} {o : Oper} {a : Act} {Q : Exit → Act → World → Prop} {K : Act → World → Prop} {E : Prop}
/-- append(v, ys...) as a step of a region that draws its order, and where the new slice lies -/
theorem appendReadStepAt {w0 W : World} (base : Nat) (hgd : o.guard = none) (s x : Operand) (t e : TypeId) (k : IntKind) (bytes : Nat)
    (ho : o.op = .call { callee := .builtin .append, args := #[s, x], argTypes := #[t, t] })
    (ht : P.underlying t = some (.slice e)) (hinfo : (P.info? e).map (fun i => (i.zero, i.size, i.bytes)) = some (some (.int k 0), 1, bytes)) (hb0 : 0 < bytes)
    (v : Value) (xs : List Int) (A : Option Addr) (m c : Nat) (ys : List Int) (hs : a.eval s = v) (hx : a.eval x = .slice A m c)
    (HO : Own W base e k v xs) (HB : Below base w0 W) (hbase : base ≤ W.heap.size) (hC : (Kd.int k).C W A m ys) (hl : (xs.length + m) * bytes ≤ 140737488355328)
    (h : ∀ v1 w1, Own w1 base e k v1 (xs ++ ys) → Below base w0 w1 → W.grownBy w1 v.ownBlock → (v1.ownBlock = v.ownBlock ∨ v1.ownBlock = some W.heap.size) → K (a.put o.dst v1) w1) :
    if Region.wanted o (yielded ops a.tmps) = true then Oper.wp P o a W K Q else E := by
  have hw : Region.wanted o (yielded ops a.tmps) = true := by simp [Region.wanted, hgd]
  rw [if_pos hw]
  obtain ⟨i0, hi, hzz⟩ := Option.map_eq_some_iff.1 hinfo
  simp only [Prod.mk.injEq] at hzz
  obtain ⟨hz0, hz1, hz2⟩ := hzz
  have hm : ys.length = m := hC.1
  have hlen : xs.length + m ≤ 140737488355328 := Nat.le_trans (Nat.le_mul_of_pos_right _ hb0) hl
  have key : ∀ v1 w1, w1.ownsRow base e 1 v1 (xs.length + m) (nums k xs ++ nums k ys) → W.grownBy w1 v.ownBlock → (v1.ownBlock = v.ownBlock ∨ v1.ownBlock = some W.heap.size) → K (a.put o.dst v1) w1 := by
    intro v1 w1 h1 hg hat
    refine h v1 w1 ⟨?_⟩ (HB.grown hg hbase (own_base HO.out)) hg hat
    rw [List.length_append, hm, nums_append]; exact h1
  rcases A with _ | ad
  · have h0 : m = 0 := by
      rcases Nat.eq_zero_or_pos m with h0 | h0
      · exact h0
      · obtain ⟨ad, h', _⟩ := hC.2.2 h0
        cases h'
    subst h0
    obtain rfl : ys = [] := List.eq_nil_of_length_eq_zero hm
    have hk := key v W (by simpa [nums] using HO.out) (grownRefl W _) (.inl rfl)
    have hrun : (Builtin.append_ #[t, t] o.type #[v, .slice none 0 c]).run P W = .ok v W := by
      rcases HO.out.2 with ⟨rfl, _⟩ | ⟨g, cap, cur, rfl, _, _, hnc, _⟩
      · simp [Builtin.append_, run_underlying ht, sizeOf, typeInfo, hi, Builtin.lenOf, Builtin.firstCells]
      · simp [Builtin.append_, run_underlying ht, sizeOf, typeInfo, hi, Builtin.lenOf, Builtin.firstCells, hnc, storeCells]
    unfold Oper.wp
    simp [execOp, ho, resolve, invoke, builtin, hs, hx, hrun, Result.andThen]
    exact hk
  · obtain ⟨v', w', hr, h2, h3, _, h5⟩ := run_append_own_at (P := P) W base t o.type e i0 (.int k 0) 1 bytes ht hi hz0 hz1 hz2 rfl (by omega) v xs.length (nums k xs) HO.out ad m c (nums k ys) (by simp [nums, hm]) (C_cells hC) (by intro u hu; simp [nums] at hu; obtain ⟨q, _, rfl⟩ := hu; rfl) (by simp only [maxLen]; omega) hl hbase
    unfold Oper.wp execOp
    simp only [ho, resolve, invoke, builtin, Sem.run_bind, Sem.run_pure, Result.andThen_ok, List.map_toArray, List.map_cons, List.map_nil, hs, hx, hr]
    exact key v' w' h2 h3 h5
/-- append of one element of several cells, in a region that draws -/
theorem appendCellsStep {W : World} (base : Nat) (hgd : o.guard = none) (s x : Operand) (t e : TypeId) (size bytes : Nat)
    (ho : o.op = .call { callee := .builtin .append, args := #[s, x], argTypes := #[t, t] })
    (ht : P.underlying t = some (.slice e)) (hinfo : (P.info? e).map (fun i => (i.size, i.bytes, i.zero.map (·.cells.size))) = some (size, bytes, some size)) (hs0 : 0 < size)
    (v : Value) (k : Nat) (cs news : List Value) (gx : Nat) (hs : a.eval s = v) (hx : a.eval x = .slice (some ⟨gx, 0, none⟩) 1 1) (hnl : news.length = size) (hone : ∀ u ∈ news, u.oneCell' = true)
    (HO : W.ownsRow base e size v k cs) (HX : Blk W gx news.toArray e) (hbase : base ≤ W.heap.size) (hl : (k + 1) * bytes ≤ 140737488355328) (hl2 : k + 1 ≤ maxLen)
    (h : ∀ v1 w1, w1.ownsRow base e size v1 (k + 1) (cs ++ news) → W.grownBy w1 v.ownBlock → (v1.ownBlock = v.ownBlock ∨ v1.ownBlock = some W.heap.size) → K (a.put o.dst v1) w1) :
    if Region.wanted o (yielded ops a.tmps) = true then Oper.wp P o a W K Q else E := by
  have hw : Region.wanted o (yielded ops a.tmps) = true := by simp [Region.wanted, hgd]
  rw [if_pos hw]
  obtain ⟨i, hi, he⟩ := Option.map_eq_some_iff.1 hinfo
  injection he with he1 he2
  injection he2 with he2 he3
  obtain ⟨z, hz, hzs⟩ := Option.map_eq_some_iff.1 he3
  obtain ⟨v', w', hr, h2, h3, h4, h5⟩ := run_append_own_at (P := P) W base t o.type e i z size bytes ht hi hz he1 he2 hzs hs0 v k cs HO ⟨gx, 0, none⟩ 1 1 news (by omega) (by
    intro j u hj
    have hb := HX.cell (j := j) (v := u) (by simpa using hj)
    have ea : (⟨gx, 0, none⟩ : Addr).add j = ⟨gx, j, none⟩ := by unfold Go.Addr.add; by_cases c : j = 0 <;> simp [c]
    rw [ea]; exact hb) hone hl2 hl hbase
  unfold Oper.wp execOp
  simp only [ho, resolve, invoke, builtin, Sem.run_bind, Sem.run_pure, Result.andThen_ok, List.map_toArray, List.map_cons, List.map_nil, hs, hx, hr]
  exact h _ _ h2 h3 h5
end
theorem th_other {k : Nat} {ty : Int} (h : ¬ (3 ≤ ty ∧ ty ≤ 12)) (bs : List Int) : thP (k + 1) ty bs = .opn := by
  unfold thP
  rw [if_neg (by omega), if_neg (by omega), if_neg (by omega), if_neg (by omega), if_neg (by omega), if_neg (by omega), if_neg (by omega), if_neg (by omega), if_neg (by omega)]; rfl
end Go.Proofs.Ytcboegodjlfmnaa.Tap
