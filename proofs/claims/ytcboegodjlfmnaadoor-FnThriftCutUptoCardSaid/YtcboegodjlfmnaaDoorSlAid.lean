import Derived.Below
import Derived.Deep.Draws
import Derived.Deep.AppendLies
import Derived.Maps.AppendAt
import Derived.OwnWalk
import Derived.Laws.BytesArg
import Derived.Laws.MakeOwn
import Derived.Laws.OwnMore
import Derived.Deep.OwnRows
import Derived.Tactics
import Derived.Lib.ConvBytes
import Derived.Laws.Slices
import Derived.WalkKit
import Derived.KernelRfl
import Derived.RowKit3
import Derived.Deep.LoopGhost
import Derived.Deep.QuietTactic
import Derived.BigQuiet
import Derived.WideLaws
import Derived.Deep.DeepCutAuto
import Derived.Deep.CutBlock
import Derived.Deep.RegionHeld3
import Derived.Laws.Rows
import Derived.Lib.AppendStr
import Derived.ArgAppend
import Derived.Laws.IdiomCopy
import Derived.OrdersHeld
import Derived.Laws.BitsLemmas
import Derived.RowKit
import Derived.Test.YtcboegodjlfmnaaDoorSlW
import Derived.StillTailTactics
namespace Go.Proofs.YtcboegodjlfmnaaDoor.Aid
open Go.RowKit Go.Proofs.YtcboegodjlfmnaaDoorW.PrintWords Go.Proofs.YtcboegodjlfmnaaDoorW.PrintLast Go.Proofs.YtcboegodjlfmnaaDoorW.PrintMore

section
variable {P : Program}
theorem cutLo (t e : TypeId) {i : TypeInfo} (ht : P.underlying t = some (.slice e)) (hi : P.info? e = some i) (hsz : i.size = 1) (A : Option Addr) (n c : Nat) (kl : IntKind) (lo : Int) (l : Nat) (hlo : lo = l) (h1 : l ≤ n) (hc : n ≤ c) :
    ∃ A', (∀ W : World, (Instr.slice t (.slice A n c) (some (.int kl lo)) none none).run P W = .ok (.slice A' (n - l) (c - l)) W) ∧
      ∀ (k : Kd Int) (w : World) (xs : List Int), k.sz = 1 → k.C w A n xs → k.C w A' (n - l) (xs.drop l) := by
  refine ⟨if c = l then A else A.map (·.add (l * 1)), ?_, ?_⟩
  · intro W
    subst hlo
    have := cut_from t e kl ht hi 1 hsz A n c l (by omega) (by omega) W
    simpa using this
  · intro k w xs hk h
    have hn : xs.length = n := h.1
    subst hn
    have := Kd.C_drop (m := l) (c := c) h h1 hc
    rw [List.length_drop, hk] at this
    exact this
theorem cutHi (t e : TypeId) {i : TypeInfo} (ht : P.underlying t = some (.slice e)) (hi : P.info? e = some i) (A : Option Addr) (n c : Nat) (kh : IntKind) (hi' : Int) (h : Nat) (hhi : hi' = h) (h1 : h ≤ n) (hc : n ≤ c) :
    (∀ W : World, (Instr.slice t (.slice A n c) none (some (.int kh hi')) none).run P W = .ok (.slice A h c) W) ∧
      ∀ (k : Kd Int) (w : World) (xs : List Int), k.C w A n xs → k.C w A h (xs.take h) := by
  refine ⟨?_, ?_⟩
  · intro W
    subst hhi
    have := cut_to t e kh ht hi A n c h (by omega) (by omega) hc W
    simpa using this
  · intro k w xs hC
    have hn : xs.length = n := hC.1
    subst hn
    have := Kd.C_take (m := h) hC h1
    rwa [List.length_take, Nat.min_eq_left h1] at this
end
theorem or_comm' (k : IntKind) (x y : Int) : Go.bits .or k x y = Go.bits .or k y x := by
  simp only [Go.bits, BitVec.or_comm]
theorem wraps_u32' (n : Int) (h₀ : 0 ≤ n) (h₁ : n < 2 ^ 32) : IntKind.u32.wrap n = n := by rw [IntKind.wrap_u32]; omega
theorem wraps_u64' (n : Int) (h₀ : 0 ≤ n) (h₁ : n < 2 ^ 64) : IntKind.u64.wrap n = n := IntWalk.u64_in n (by omega)
theorem or_u32 (i : Nat) (x y : Int) (hx0 : 0 ≤ x) (hx : x < 2^i) (hx1 : x < 2^32) (hy0 : 0 ≤ y) (hy : y % 2^i = 0) (hy1 : y < 2^32) : Go.bits .or .u32 x y = x + y := by
  rw [or_comm', bits_join .u32 32 (by decide) wraps_u32' i y x hy0 hy hy1 hx0 hx hx1]; omega
theorem or_u64 (i : Nat) (x y : Int) (hx0 : 0 ≤ x) (hx : x < 2^i) (hx1 : x < 2^64) (hy0 : 0 ≤ y) (hy : y % 2^i = 0) (hy1 : y < 2^64) : Go.bits .or .u64 x y = x + y := by
  rw [or_comm', bits_join .u64 64 (by decide) wraps_u64' i y x hy0 hy hy1 hx0 hx hx1]; omega
def byt (x : Int) : Prop := 0 ≤ x ∧ x < 256
def le4 (a b c d : Int) : Int := a + b * 256 + c * 65536 + d * 16777216
theorem le4_raw (a b c d : Int) (ha : byt a) (hb : byt b) (hc : byt c) (hd : byt d) :
  (Go.bits BinOp.or IntKind.u32 (Go.bits BinOp.or IntKind.u32 (Go.bits BinOp.or IntKind.u32 (a % 4294967296) (b % 4294967296 * 256 % 4294967296))
                          (c % 4294967296 * 65536 % 4294967296))  (d % 4294967296 * 16777216 % 4294967296)) = le4 a b c d := by
  unfold byt at *
  unfold le4
  rw [Int.emod_eq_of_lt (a := a) (by omega) (by omega), Int.emod_eq_of_lt (a := b) (by omega) (by omega), Int.emod_eq_of_lt (a := c) (by omega) (by omega), Int.emod_eq_of_lt (a := d) (by omega) (by omega)]
  rw [Int.emod_eq_of_lt (a := b * 256) (by omega) (by omega), Int.emod_eq_of_lt (a := c * 65536) (by omega) (by omega), Int.emod_eq_of_lt (a := d * 16777216) (by omega) (by omega)]
  rw [or_u32 8 a (b*256) (by omega) (by omega) (by omega) (by omega) (by omega) (by omega)]
  rw [or_u32 16 (a+b*256) (c*65536) (by omega) (by omega) (by omega) (by omega) (by omega) (by omega)]
  rw [or_u32 24 (a+b*256+c*65536) (d*16777216) (by omega) (by omega) (by omega) (by omega) (by omega) (by omega)]
theorem le4_bd (a b c d : Int) (ha : byt a) (hb : byt b) (hc : byt c) (hd : byt d) : 0 ≤ le4 a b c d ∧ le4 a b c d < 4294967296 := by
  unfold byt at *; unfold le4; omega
theorem drewN_below (w : World) (n : Nat) : Below w.heap.size w (w.drewN n) := (Drawn0.mk ⟨n, rfl⟩).below
section
variable {P : Program} {ops : Array Oper} {md : Region.Mode} {C : World → Prop}
end
structure Blk (w : World) (g : Nat) (cs : Array Value) (t : TypeId) : Prop where
  mk :: (out : w.heap[g]? = some (.cells cs t (0, 0)))
namespace Blk
variable {w : World} {g t : Nat} {cs : Array Value}
theorem cell (h : Blk w g cs t) {j : Nat} {v : Value} (hv : cs[j]? = some v) : w.cell? ⟨g, j, none⟩ = some v := by
  simp [World.cell?, h.out, hv]
theorem free (h : Blk w g cs t) (j : Nat) : w.frozen? ⟨g, j, none⟩ = false := by
  simp [World.frozen?, h.out]
theorem set (h : Blk w g cs t) (j : Nat) (u : Value) : Blk (w.setCell ⟨g, j, none⟩ u) g (cs.setIfInBounds j u) t := by
  refine ⟨?_⟩
  have h1 := h.out
  simp only [World.setCell]
  rw [Array.getElem?_modify]
  simp [h1]
theorem new (w : World) (cs : Array Value) (t : TypeId) : Blk (w.alloc (.cells cs t)) w.heap.size cs t := ⟨heap_alloc_new w _⟩
theorem drewN (h : Blk w g cs t) (n : Nat) : Blk (w.drewN n) g cs t := ⟨h.out⟩
theorem drew (h : Blk w g cs t) : Blk w.drew g cs t := ⟨h.out⟩
theorem below {w1 : World} (h : Blk w g cs t) {B : Nat} (hb : Below B w w1) (hg : g < B) : Blk w1 g cs t := ⟨(hb.block g hg).trans h.out⟩
theorem lt (h : Blk w g cs t) : g < w.heap.size := (Array.getElem?_eq_some_iff.1 h.out).1
theorem far (h : Blk w g cs t) {p : Addr} (hp : g ≠ p.block) (u : Value) : Blk (w.setCell p u) g cs t := ⟨(Below.heap_setCell w p u g hp).trans h.out⟩
theorem alloc (h : Blk w g cs t) (o : Obj) : Blk (w.alloc o) g cs t := by
  exact ⟨(Below.heap_alloc w o g h.lt).trans h.out⟩
end Blk
theorem quietCall {P : Program} {f : FuncId} {args : Array Value} {w : World} {n : Nat} {v : Value}
    (h : Calls P f args (w.drewN n) fun e w' => e = .returned v ∧ Drawn0 (w.drewN n) w') : Calls P f args (w.drewN n) fun e w'' => e = .returned v ∧ ∃ m, w'' = w.drewN m :=
  h.mono fun _ _ ⟨he, ⟨m, hm⟩⟩ => ⟨he, n + m, by rw [hm, World.drewN_drewN]⟩
def bytesB (l : List Int) : Bool := l.all fun x => decide (0 ≤ x ∧ x < 256)
theorem bytesB_mem {l : List Int} (h : bytesB l = true) : ∀ x ∈ l, byt x := by
  intro x hx
  have := List.all_eq_true.1 h x hx
  simpa [byt] using this
theorem bytesB_of {l : List Int} (h : ∀ x ∈ l, byt x) : bytesB l = true := by
  unfold bytesB
  rw [List.all_eq_true]
  intro x hx
  simpa [byt] using h x hx
theorem rd_mem {l : List Int} {i : Nat} (hi : i < l.length) : rd l i ∈ l := by
  have : rd l i = l[i] := by simp [rd, List.getD_eq_getElem?_getD, List.getElem?_eq_getElem hi]
  rw [this]; exact List.getElem_mem _
theorem bytesB_rd {l : List Int} (h : bytesB l = true) {i : Int} {k : Nat} (hk : i = k) (hi : k < l.length) : byt (rd l i) := by
  subst hk; exact bytesB_mem h _ (rd_mem hi)
theorem bytesB_drop {l : List Int} (h : bytesB l = true) (n : Nat) : bytesB (l.drop n) = true := bytesB_of fun x hx => bytesB_mem h x (List.mem_of_mem_drop hx)
theorem bytesB_take {l : List Int} (h : bytesB l = true) (n : Nat) : bytesB (l.take n) = true := bytesB_of fun x hx => bytesB_mem h x (List.mem_of_mem_take hx)
def le4L (l : List Int) : Int := le4 (rd l 0) (rd l 1) (rd l 2) (rd l 3)
def le8L (l : List Int) : Int := le4L l + le4L (l.drop 4) * 4294967296
theorem le4L_bd {l : List Int} (h : bytesB l = true) (hl : 4 ≤ l.length) : 0 ≤ le4L l ∧ le4L l < 4294967296 :=
  le4_bd _ _ _ _ (bytesB_rd h (k := 0) rfl (by omega)) (bytesB_rd h (k := 1) rfl (by omega)) (bytesB_rd h (k := 2) rfl (by omega)) (bytesB_rd h (k := 3) rfl (by omega))
theorem le8_raw (a b : Int) (ha : 0 ≤ a ∧ a < 4294967296) (hb : 0 ≤ b ∧ b < 4294967296) :
    Go.bits .or .u64 (IntKind.u64.wrap a) (IntKind.u64.wrap (IntKind.u64.wrap b * 4294967296)) = a + b * 4294967296 := by
  rw [IntWalk.u64_in a (by omega), IntWalk.u64_in b (by omega), IntWalk.u64_in (b * 4294967296) (by omega)]
  exact or_u64 32 _ _ (by omega) (by omega) (by omega) (by omega) (by omega) (by omega)
theorem drop_cons (l : List Int) (k : Nat) (hk : k < l.length) : l.drop k = rd l k :: l.drop (k + 1) := by
  rw [List.drop_eq_getElem_cons hk]
  simp [rd, List.getD_eq_getElem?_getD, List.getElem?_eq_getElem hk]
structure Row (w : World) (g : Nat) (t : TypeId) (k : IntKind) (xs : List Int) : Prop where
  mk :: (out : Blk w g (nums k xs).toArray t)
namespace Row
variable {w w1 : World} {g t : Nat} {k : IntKind} {xs : List Int}
theorem cell (h : Row w g t k xs) {j : Nat} (hj : j < xs.length) : w.cell? ⟨g, j, none⟩ = some (.int k (rd xs j)) := by
  refine h.out.cell ?_
  simp [nums, rd, List.getD_eq_getElem?_getD, List.getElem?_eq_getElem hj]
theorem free (h : Row w g t k xs) (j : Nat) : w.frozen? ⟨g, j, none⟩ = false := h.out.free j
theorem set (h : Row w g t k xs) (j : Nat) (v : Int) : Row (w.setCell ⟨g, j, none⟩ (.int k v)) g t k (xs.set j v) := by
  refine ⟨?_⟩
  have := h.out.set j (.int k v)
  have e : (nums k (xs.set j v)).toArray = (nums k xs).toArray.setIfInBounds j (.int k v) := by
    simp [nums, List.map_set]
  rw [e]; exact this
theorem drewN (h : Row w g t k xs) (n : Nat) : Row (w.drewN n) g t k xs := ⟨h.out.drewN n⟩
theorem below (h : Row w g t k xs) {B : Nat} (hb : Below B w w1) (hg : g < B) : Row w1 g t k xs := ⟨h.out.below hb hg⟩
theorem lt (h : Row w g t k xs) : g < w.heap.size := h.out.lt
theorem grown (h : Row w g t k xs) {row : Option Nat} (hg : w.grownBy w1 row) (hne : some g ≠ row) : Row w1 g t k xs := ⟨⟨(hg.block g h.lt hne).trans h.out.out⟩⟩
theorem alloc (h : Row w g t k xs) (o : Obj) : Row (w.alloc o) g t k xs := ⟨h.out.alloc o⟩
theorem far (h : Row w g t k xs) {p : Addr} (hp : g ≠ p.block) (u : Value) : Row (w.setCell p u) g t k xs := ⟨h.out.far hp u⟩
end Row
theorem grownRefl (w : World) (row : Option Nat) : w.grownBy w row := ⟨rfl, rfl, rfl, Nat.le_refl _, fun _ _ _ => rfl⟩
theorem grownDrewN {w w1 : World} {row : Option Nat} (h : w.grownBy w1 row) (n : Nat) : w.grownBy (w1.drewN n) row := ⟨h.os, h.tape, h.output, h.size, h.block⟩
theorem grownSet {w w1 : World} {g : Nat} (h : w.grownBy w1 (some g)) (j : Nat) (u : Value) : w.grownBy (w1.setCell ⟨g, j, none⟩ u) (some g) :=
  ⟨h.os, h.tape, h.output, by simpa [World.setCell] using h.size, fun k hk hne => (Below.heap_setCell w1 ⟨g, j, none⟩ u k (by rintro rfl; exact hne rfl)).trans (h.block k hk hne)⟩
def ReadKeep (w : World) (g : Nat) (k : IntKind) (A : Option Addr) (n : Nat) (xs : List Int) : Prop := ∀ W : World, w.grownBy W (some g) → (Kd.int k).C W A n xs
structure Own (w : World) (base : Nat) (t : TypeId) (k : IntKind) (v : Value) (xs : List Int) : Prop where
  mk :: (out : w.ownsRow base t 1 v xs.length (nums k xs))
namespace Own
variable {w w1 : World} {base t : Nat} {k : IntKind} {v : Value} {xs : List Int}
theorem nil (w : World) (base t : Nat) (k : IntKind) : Own w base t k (.slice none 0 0) [] := ⟨own_nil w base t 1⟩
theorem read (h : Own w base t k v xs) : ∃ A c, v = .slice A xs.length c ∧ xs.length ≤ c ∧ (Kd.int k).C w A xs.length xs := by
  obtain ⟨A, c, rfl, hr⟩ := own_reads h.out
  refine ⟨A, c, rfl, own_cap h.out, rfl, hr.2.1, fun hp => ?_⟩
  obtain ⟨ad, e, hc⟩ := hr.2.2 hp
  refine ⟨ad, e, fun j p hj => ⟨[.int k p], rfl, rfl, fun i u hu => ?_⟩⟩
  have hjl : j < xs.length := (List.getElem?_eq_some_iff.1 hj).1
  have hi : i = 0 := by
    have := (List.getElem?_eq_some_iff.1 hu).1
    simp at this; exact this
  subst hi
  have hu' : Value.int k p = u := by simpa using hu
  subst hu'
  have := hc j hjl
  rw [List.getD_eq_getElem?_getD, hj] at this
  show w.cell? (ad.add (j * 1 + 0)) = _
  rw [Nat.mul_one, Nat.add_zero]
  exact this
theorem alloc (h : Own w base t k v xs) (o : Obj) : Own (w.alloc o) base t k v xs := ⟨h.out.alloc o⟩
theorem grown (h : Own w base t k v xs) {row : Option Nat} (hg : w.grownBy w1 row) (hne : v.ownBlock = none ∨ v.ownBlock ≠ row) : Own w1 base t k v xs := ⟨own_other h.out hg hne⟩
theorem below (h : Own w base t k v xs) (hb : Below w.heap.size w w1) : Own w1 base t k v xs := ⟨pw_own_below h.out hb⟩
theorem drewN (h : Own w base t k v xs) (n : Nat) : Own (w.drewN n) base t k v xs := h.below (drewN_below w n)
theorem ne (h : Own w base t k v xs) {g : Nat} (hg : g < base) : v.ownBlock = none ∨ v.ownBlock ≠ some g := by
  cases hv : v.ownBlock with
  | none => exact .inl rfl
  | some b => exact .inr (by rintro hb; injection hb with hb; have := own_base h.out b hv; omega)
theorem keep (h : Own w base t k v xs) {g : Nat} (hg : g < base) : ∃ A c, v = .slice A xs.length c ∧ xs.length ≤ c ∧ ReadKeep w g k A xs.length xs := by
  obtain ⟨A, c, rfl, hc, _⟩ := h.read
  refine ⟨A, c, rfl, hc, fun W hW => ?_⟩
  obtain ⟨A', c', e, _, hC⟩ := (h.grown hW (h.ne hg)).read
  injection e with e1 _ _
  rw [e1]; exact hC
end Own
section
variable {P : Program} {ops : Array Oper} {rest : List Oper} {o : Oper} {a : Act} {Q : Exit → Act → World → Prop}
theorem appendOwn {w0 W : World} (base : Nat) (hgd : o.guard = none) (s x : Operand) (t e : TypeId) (k : IntKind) (bytes : Nat)
    (ho : o.op = .call { callee := .builtin .append, args := #[s, x], argTypes := #[t, t] })
    (ht : P.underlying t = some (.slice e)) (hinfo : (P.info? e).map (fun i => (i.zero, i.size, i.bytes)) = some (some (.int k 0), 1, bytes)) (hb0 : 0 < bytes)
    (v : Value) (xs : List Int) (y : Int) (hs : a.eval s = v) (hx : a.eval x = .slice (some ⟨W.heap.size, 0, none⟩) 1 1)
    (HO : Own W base e k v xs) (HB : Below base w0 W) (hbase : base ≤ W.heap.size) (hl : (xs.length + 1) * bytes ≤ 140737488355328)
    (h : ∀ v1 w1, Own w1 base e k v1 (xs ++ [y]) → Below base w0 w1 → W.grownBy w1 v.ownBlock → wpList P ops Q rest (a.put o.dst v1) w1) :
    wpList P ops Q (o :: rest) a (W.alloc (.cells #[.int k y] e)) :=
  print_append_num base hgd s x t e k bytes ho ht hinfo hb0 v xs y hs hx HO.out HB hbase hl fun v1 w1 ho hb hg _ => h v1 w1 ⟨ho⟩ hb hg
end
section
variable {P : Program} {ops : Array Oper} {rest : List Oper} {o : Oper} {a : Act} {Q : Exit → Act → World → Prop}
theorem C_cells {W : World} {k : IntKind} {ad : Addr} {m : Nat} {ys : List Int} (h : (Kd.int k).C W (some ad) m ys) : ∀ j u, (nums k ys)[j]? = some u → W.cell? (ad.add j) = some u := by
  intro j u hj
  have hjl : j < ys.length := by
    have := (List.getElem?_eq_some_iff.1 hj).1
    simpa [nums] using this
  obtain ⟨ad', e, hc⟩ := Kd.at_int h j (by omega) (by have := h.1; omega)
  injection e with e
  subst e
  rw [Int.toNat_natCast] at hc
  rw [hc]
  have : (nums k ys)[j]? = some (.int k (rd ys j)) := by simp [nums, rd, List.getD_eq_getElem?_getD, List.getElem?_eq_getElem hjl]
  rw [← this]; exact hj
theorem appendRead {w0 W : World} (base : Nat) (hgd : o.guard = none) (s x : Operand) (t e : TypeId) (k : IntKind) (bytes : Nat)
    (ho : o.op = .call { callee := .builtin .append, args := #[s, x], argTypes := #[t, t] })
    (ht : P.underlying t = some (.slice e)) (hinfo : (P.info? e).map (fun i => (i.zero, i.size, i.bytes)) = some (some (.int k 0), 1, bytes)) (hb0 : 0 < bytes)
    (v : Value) (xs : List Int) (A : Option Addr) (m c : Nat) (ys : List Int) (hs : a.eval s = v) (hx : a.eval x = .slice A m c)
    (HO : Own W base e k v xs) (HB : Below base w0 W) (hbase : base ≤ W.heap.size) (hC : (Kd.int k).C W A m ys) (hl : (xs.length + m) * bytes ≤ 140737488355328)
    (h : ∀ v1 w1, Own w1 base e k v1 (xs ++ ys) → Below base w0 w1 → W.grownBy w1 v.ownBlock → wpList P ops Q rest (a.put o.dst v1) w1) :
    wpList P ops Q (o :: rest) a W := by
  obtain ⟨i0, hi, hzz⟩ := Option.map_eq_some_iff.1 hinfo
  simp only [Prod.mk.injEq] at hzz
  obtain ⟨hz0, hz1, hz2⟩ := hzz
  have hm : ys.length = m := hC.1
  have hlen : xs.length + m ≤ 140737488355328 := Nat.le_trans (Nat.le_mul_of_pos_right _ hb0) hl
  have key : ∀ v1 w1, w1.ownsRow base e 1 v1 (xs.length + m) (nums k xs ++ nums k ys) → W.grownBy w1 v.ownBlock → wpList P ops Q rest (a.put o.dst v1) w1 := by
    intro v1 w1 h1 hg
    refine h v1 w1 ⟨?_⟩ (HB.grown hg hbase (own_base HO.out)) hg
    rw [List.length_append, hm, nums_append]; exact h1
  rcases A with _ | ad
  · have h0 : m = 0 := by
      rcases Nat.eq_zero_or_pos m with h0 | h0
      · exact h0
      · obtain ⟨ad, h', _⟩ := hC.2.2 h0
        cases h'
    subst h0
    obtain rfl : ys = [] := List.eq_nil_of_length_eq_zero hm
    have hk := key v W (by simpa [nums] using HO.out) (grownRefl W _)
    refine wpList_plain hgd fun K hK => ?_
    have hrun : (Builtin.append_ #[t, t] o.type #[v, .slice none 0 c]).run P W = .ok v W := by
      rcases HO.out.2 with ⟨rfl, _⟩ | ⟨g, cap, cur, rfl, _, _, hnc, _⟩
      · simp [Builtin.append_, run_underlying ht, sizeOf, typeInfo, hi, Builtin.lenOf, Builtin.firstCells]
      · simp [Builtin.append_, run_underlying ht, sizeOf, typeInfo, hi, Builtin.lenOf, Builtin.firstCells, hnc, storeCells]
    unfold Oper.wp
    simp [execOp, ho, resolve, invoke, builtin, hs, hx, hrun, Result.andThen]
    exact hK _ _ hk
  · exact wpList_append_own W hgd s x t ho base e i0 (.int k 0) 1 bytes ht hi hz0 hz1 hz2 rfl (by omega) v xs.length (nums k xs) hs HO.out ad m c (nums k ys) hx (by simp [nums, hm]) (C_cells hC) (by intro u hu; simp [nums] at hu; obtain ⟨q, _, rfl⟩ := hu; rfl) (by simp only [maxLen]; omega) hl hbase
      (fun v1 w1 h1 hg _ => key v1 w1 h1 hg)
end
theorem Own.empty (w : World) (base t : Nat) (k : IntKind) (hb : base ≤ w.heap.size) : Own (w.alloc (.cells #[] t)) base t k (.slice (some ⟨w.heap.size, 0, none⟩) 0 0) [] :=
  ⟨⟨rfl, .inr ⟨w.heap.size, 0, #[], rfl, hb, heap_alloc_new w _, Nat.le_refl _, by simp [maxLen], rfl, rfl⟩⟩⟩
theorem Row.toOwn {w : World} {g t : Nat} {k : IntKind} {xs : List Int} (h : Row w g t k xs) {base n : Nat} (hb : base ≤ g) (hn : n ≤ xs.length) (hm : xs.length ≤ 9223372036854775807) : Own w base t k (.slice (some ⟨g, 0, none⟩) n xs.length) (xs.take n) := by
  have hl : (xs.take n).length = n := by rw [List.length_take]; omega
  refine ⟨?_⟩
  rw [hl]
  refine ⟨by simp [nums]; omega, .inr ⟨g, xs.length, (nums k xs).toArray, rfl, hb, h.out.out, hn, by simpa [maxLen] using hm, by simp [nums], by simp [nums, List.map_take]⟩⟩
theorem belowGrown {w0 w w1 : World} {g : Nat} (h : Below w0.heap.size w0 w) (hg : w.grownBy w1 (some g)) (hl : w0.heap.size ≤ g) : Below w0.heap.size w0 w1 :=
  h.grown hg h.size (fun k hk => by injection hk with hk; omega)
theorem wf_bd {k : IntKind} {x : Int} (h : (Lit.int k x).wf = true) : k.min ≤ x ∧ x ≤ k.max := by simpa [Lit.wf] using h
theorem byt_of_wf {x : Int} (h : (Lit.int .u8 x).wf = true) : byt x := by
  have := wf_bd h
  have e1 : IntKind.u8.min = 0 := by decide +kernel
  have e2 : IntKind.u8.max = 255 := by decide +kernel
  unfold byt; omega
def put4 (xs : List Int) (o : Nat) (v : Int) : List Int := (((xs.set o (v % 256)).set (o + 1) (v / 256 % 256)).set (o + 2) (v / 65536 % 256)).set (o + 3) (v / 16777216 % 256)
theorem put4_length (xs : List Int) (o : Nat) (v : Int) : (put4 xs o v).length = xs.length := by simp [put4]
end Go.Proofs.YtcboegodjlfmnaaDoor.Aid
