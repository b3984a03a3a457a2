import Derived.Below
import Derived.Deep.Draws
import Derived.Deep.AppendLies
import Derived.Maps.AppendAt
import Derived.OwnWalk
import Derived.Laws.BytesArg
import Derived.Laws.MakeOwn
import Derived.Laws.OwnMore
import Derived.Deep.OwnRows
import Derived.Tactics
import Derived.Lib.ConvBytes
import Derived.Laws.Slices
import Derived.WalkKit
import Derived.KernelRfl
import Derived.RowKit3
import Derived.Deep.LoopGhost
import Derived.Deep.QuietTactic
import Derived.BigQuiet
import Derived.WideLaws
import Derived.Deep.DeepCutAuto
import Derived.Deep.CutBlock
import Derived.Deep.RegionHeld3
import Derived.Laws.Rows
import Derived.Lib.AppendStr
import Derived.ArgAppend
import Derived.Laws.IdiomCopy
import Derived.OrdersHeld
import Derived.Laws.BitsLemmas
import Derived.RowKit
import Derived.Test.YtojoppondgnajaaWWords
import Derived.Test.YtojoppondgnajaaWLast
import Derived.Test.YtojoppondgnajaaWTab
import Derived.Test.YtojoppondgnajaaWFour
import Derived.Test.YtojoppondgnajaaWQPut
import Derived.Test.YtojoppondgnajaaWApart
import Derived.Test.YtojoppondgnajaaWArr
import Derived.Test.YtojoppondgnajaaWZeros
import Derived.Test.YtojoppondgnajaaWFoot
import Derived.Test.YtojoppondgnajaaWKept
import Derived.Test.YtojoppondgnajaaWShare
import Derived.Test.YtojoppondgnajaaWN
import Derived.Test.YtojoppondgnajaaWFootNe
import Derived.Test.YtojoppondgnajaaWAt
import Derived.Test.YtojoppondgnajaaWEqStruct
import Derived.Test.YtojoppondgnajaaWRepsOne
import Derived.Test.YtojoppondgnajaaWInv
import Derived.Test.YtojoppondgnajaaWInvWords
import Derived.Test.YtojoppondgnajaaWGuard
import Derived.Test.YtojoppondgnajaaWNEv
import Derived.Test.YtojoppondgnajaaWMore
import Derived.StillTailTactics
/-! Lemmas of this session's own that several proofs use: cuts of slices, words and bytes, regions, blocks. -/
namespace Go.Proofs.Ytojoppondgnajaa.Aid
open Go.RowKit Go.Proofs.YtojoppondgnajaaW.PrintWords Go.Proofs.YtojoppondgnajaaW.PrintLast Go.Proofs.YtojoppondgnajaaW.PrintMore

/-! ### cuts of a slice that is read (elements of one cell) -/
section
variable {P : Program}
theorem cutLo (t e : TypeId) {i : TypeInfo} (ht : P.underlying t = some (.slice e)) (hi : P.info? e = some i) (hsz : i.size = 1) (A : Option Addr) (n c : Nat) (kl : IntKind) (lo : Int) (l : Nat) (hlo : lo = l) (h1 : l ≤ n) (hc : n ≤ c) :
    ∃ A', (∀ W : World, (Instr.slice t (.slice A n c) (some (.int kl lo)) none none).run P W = .ok (.slice A' (n - l) (c - l)) W) ∧
      ∀ (k : Kd Int) (w : World) (xs : List Int), k.sz = 1 → k.C w A n xs → k.C w A' (n - l) (xs.drop l) := by
  refine ⟨if c = l then A else A.map (·.add (l * 1)), ?_, ?_⟩
  · intro W
    subst hlo
    have := cut_from t e kl ht hi 1 hsz A n c l (by omega) (by omega) W
    simpa using this
  · intro k w xs hk h
    have hn : xs.length = n := h.1
    subst hn
    have := Kd.C_drop (m := l) (c := c) h h1 hc
    rw [List.length_drop, hk] at this
    exact this
theorem cutHi (t e : TypeId) {i : TypeInfo} (ht : P.underlying t = some (.slice e)) (hi : P.info? e = some i) (A : Option Addr) (n c : Nat) (kh : IntKind) (hi' : Int) (h : Nat) (hhi : hi' = h) (h1 : h ≤ n) (hc : n ≤ c) :
    (∀ W : World, (Instr.slice t (.slice A n c) none (some (.int kh hi')) none).run P W = .ok (.slice A h c) W) ∧
      ∀ (k : Kd Int) (w : World) (xs : List Int), k.C w A n xs → k.C w A h (xs.take h) := by
  refine ⟨?_, ?_⟩
  · intro W
    subst hhi
    have := cut_to t e kh ht hi A n c h (by omega) (by omega) hc W
    simpa using this
  · intro k w xs hC
    have hn : xs.length = n := hC.1
    subst hn
    have := Kd.C_take (m := h) hC h1
    rwa [List.length_take, Nat.min_eq_left h1] at this
theorem cutMid (t e : TypeId) {i : TypeInfo} (ht : P.underlying t = some (.slice e)) (hi : P.info? e = some i) (hsz : i.size = 1) (A : Option Addr) (n c : Nat) (kl kh : IntKind) (lo hi' : Int) (l h : Nat) (hlo : lo = l) (hhi : hi' = h) (h0 : l ≤ h) (h1 : h ≤ n) (hc : n ≤ c) :
    ∃ A', (∀ W : World, (Instr.slice t (.slice A n c) (some (.int kl lo)) (some (.int kh hi')) none).run P W = .ok (.slice A' (h - l) (c - l)) W) ∧
      ∀ (k : Kd Int) (w : World) (xs : List Int), k.sz = 1 → k.C w A n xs → k.C w A' (h - l) ((xs.take h).drop l) := by
  refine ⟨if c = l then A else A.map (·.add (l * 1)), ?_, ?_⟩
  · intro W
    subst hlo hhi
    have := cut_mid t e kl kh ht hi 1 hsz A n c l h (by omega) (by omega) (by omega) hc W
    simpa using this
  · intro k w xs hk hC
    have hn : xs.length = n := hC.1
    subst hn
    have := Kd.C_mid (lo := l) (hi := h) (c := c) hC h0 h1 hc
    rw [List.length_drop, List.length_take, Nat.min_eq_left h1, hk] at this
    exact this
theorem cutMid3 (t e : TypeId) {i : TypeInfo} (ht : P.underlying t = some (.slice e)) (hi : P.info? e = some i) (hsz : i.size = 1) (A : Option Addr) (n c : Nat) (kl kh km : IntKind) (lo hi' mx : Int) (l h m : Nat) (hlo : lo = l) (hhi : hi' = h) (hmx : mx = m) (h0 : l ≤ h) (h1 : h ≤ n) (hm : h ≤ m) (hmc : m ≤ c) (hc : n ≤ c) :
    ∃ A', (∀ W : World, (Instr.slice t (.slice A n c) (some (.int kl lo)) (some (.int kh hi')) (some (.int km mx))).run P W = .ok (.slice A' (h - l) (m - l)) W) ∧
      ∀ (k : Kd Int) (w : World) (xs : List Int), k.sz = 1 → k.C w A n xs → k.C w A' (h - l) ((xs.take h).drop l) := by
  refine ⟨if m = l then A else A.map (·.add (l * 1)), ?_, ?_⟩
  · intro W
    subst hlo hhi hmx
    have hel : P.elem t = e := by simp [Program.elem, ht]
    have hu : P.underlying t = some (.slice (P.elem t)) := by rw [hel]; exact ht
    rw [run_slice_lhm W t A n c hu kl kh km l h m (by omega) (by omega) (by omega) (by omega), hel]
    simp [sizeOf, typeInfo, hi, hsz, sliced, Result.andThen]
  · intro k w xs hk hC
    have hn : xs.length = n := hC.1
    subst hn
    have hl : (xs.take h).length = h := by rw [List.length_take]; omega
    have := Kd.C_drop (m := l) (c := m) (Kd.C_take (m := h) hC h1) (by omega) (by omega)
    rw [List.length_drop, hl, hk] at this
    exact this
end
/-! ### arithmetic of unsigned words -/
theorem or_comm' (k : IntKind) (x y : Int) : Go.bits .or k x y = Go.bits .or k y x := by
  simp only [Go.bits, BitVec.or_comm]
theorem wraps_u32' (n : Int) (h₀ : 0 ≤ n) (h₁ : n < 2 ^ 32) : IntKind.u32.wrap n = n := by rw [IntKind.wrap_u32]; omega
theorem wraps_u64' (n : Int) (h₀ : 0 ≤ n) (h₁ : n < 2 ^ 64) : IntKind.u64.wrap n = n := IntWalk.u64_in n (by omega)
/-- x small, y a multiple of 2^i -/
theorem or_u32 (i : Nat) (x y : Int) (hx0 : 0 ≤ x) (hx : x < 2^i) (hx1 : x < 2^32) (hy0 : 0 ≤ y) (hy : y % 2^i = 0) (hy1 : y < 2^32) : Go.bits .or .u32 x y = x + y := by
  rw [or_comm', bits_join .u32 32 (by decide) wraps_u32' i y x hy0 hy hy1 hx0 hx hx1]; omega
theorem or_u64 (i : Nat) (x y : Int) (hx0 : 0 ≤ x) (hx : x < 2^i) (hx1 : x < 2^64) (hy0 : 0 ≤ y) (hy : y % 2^i = 0) (hy1 : y < 2^64) : Go.bits .or .u64 x y = x + y := by
  rw [or_comm', bits_join .u64 64 (by decide) wraps_u64' i y x hy0 hy hy1 hx0 hx hx1]; omega
def byt (x : Int) : Prop := 0 ≤ x ∧ x < 256
def le4 (a b c d : Int) : Int := a + b * 256 + c * 65536 + d * 16777216
theorem le4_raw (a b c d : Int) (ha : byt a) (hb : byt b) (hc : byt c) (hd : byt d) :
  (Go.bits BinOp.or IntKind.u32 (Go.bits BinOp.or IntKind.u32 (Go.bits BinOp.or IntKind.u32 (a % 4294967296) (b % 4294967296 * 256 % 4294967296))
                          (c % 4294967296 * 65536 % 4294967296))  (d % 4294967296 * 16777216 % 4294967296)) = le4 a b c d := by
  unfold byt at *
  unfold le4
  rw [Int.emod_eq_of_lt (a := a) (by omega) (by omega), Int.emod_eq_of_lt (a := b) (by omega) (by omega), Int.emod_eq_of_lt (a := c) (by omega) (by omega), Int.emod_eq_of_lt (a := d) (by omega) (by omega)]
  rw [Int.emod_eq_of_lt (a := b * 256) (by omega) (by omega), Int.emod_eq_of_lt (a := c * 65536) (by omega) (by omega), Int.emod_eq_of_lt (a := d * 16777216) (by omega) (by omega)]
  rw [or_u32 8 a (b*256) (by omega) (by omega) (by omega) (by omega) (by omega) (by omega)]
  rw [or_u32 16 (a+b*256) (c*65536) (by omega) (by omega) (by omega) (by omega) (by omega) (by omega)]
  rw [or_u32 24 (a+b*256+c*65536) (d*16777216) (by omega) (by omega) (by omega) (by omega) (by omega) (by omega)]
theorem le4_bd (a b c d : Int) (ha : byt a) (hb : byt b) (hc : byt c) (hd : byt d) : 0 ≤ le4 a b c d ∧ le4 a b c d < 4294967296 := by
  unfold byt at *; unfold le4; omega
theorem drewN_below (w : World) (n : Nat) : Below w.heap.size w (w.drewN n) := (Drawn0.mk ⟨n, rfl⟩).below
/-! ### a region that draws its order: a head of quiet operations (in a class of worlds), then a tail in one forced order -/
section
variable {P : Program} {ops : Array Oper} {md : Region.Mode} {C : World → Prop}
def wpHead (P : Program) (md : Region.Mode) (ops : Array Oper) (C : World → Prop) (n : Nat) (L : Array Bool → Act → Prop) : Nat → Array Bool → Act → Prop
  | 0, listed, a => L listed a
  | f + 1, listed, a =>
    Region.ready md ops listed ≠ [] ∧ ∀ i ∈ Region.ready md ops listed, i < n ∧ qOp P ops C i (wpHead P md ops C n L f (listed.setIfInBounds i true)) a
theorem wpAny_of_wpHead {n g : Nat} {L : Array Bool → Act → Prop} {Q' : Exit → Act → World → Prop} (hL : ∀ listed a w, C w → L listed a → wpAny P md ops Q' g listed a w) :
    ∀ (f : Nat) (listed : Array Bool) (a : Act) (w : World), C w → wpHead P md ops C n L f listed a → wpAny P md ops Q' (f + g) listed a w
  | 0, listed, a, w, hw, h => by rw [Nat.zero_add]; exact hL _ _ _ hw h
  | f + 1, listed, a, w, hw, h => by
    rw [show f + 1 + g = (f + g) + 1 by omega]
    exact ⟨fun h0 => absurd h0 h.1, fun i hi => wpOp_of_qOp hw (fun a' w' hw' h' => wpAny_of_wpHead hL f _ a' w' hw' h') (h.2 i hi).2⟩
theorem wpHead_first {n i : Nat} {oi : Oper} {v : Value} {L : Array Bool → Act → Prop} (hi : ops[i]? = some oi) (hsel : ∀ (j : Nat) (o : Oper) cs b, ops[j]? = some o → o.op ≠ .select cs b)
    (hs : Region.sinkB md ops n = true) (hc : Region.chainB md ops n = true) (hn : n < ops.size) (hin : i < n)
    (hdone : ∀ listed a, L listed a → ∀ j ∈ Region.ready md ops listed, n ≤ j) :
    ∀ (f : Nat) (listed : Array Bool) (a : Act), HeadInv md ops n listed →
      (∀ j oj, ops[j]? = some oj → j ≠ i → listed.getD j true = false → (∀ e ∈ oj.after, Region.binds md e = true → e.on ≠ i) → oi.apart ops oj = true) →
      i ∈ Region.ready md ops listed → YieldsIn P ops C oi v a →
      wpHead P md ops C n L f (listed.setIfInBounds i true) (a.put oi.dst v) → wpHead P md ops C n L (f + 1) listed a := by
  intro f
  induction f with
  | zero =>
    intro listed a inv _ hr hy H
    have hun := (mem_ready.1 hr).1
    refine ⟨fun h => (by rw [h] at hr; cases hr), fun j hj => ?_⟩
    have hjn : j < n := by
      rcases Nat.lt_or_ge j n with h | h
      · exact h
      · exact absurd hj (tail_waits hs hc hn inv _ i rfl hin hun j h)
    refine ⟨hjn, ?_⟩
    by_cases hji : j = i
    · subst hji; exact hy.qOp hi H
    · have := hdone _ _ H j (ready_mono hj hji)
      omega
  | succ f ih =>
    intro listed a inv hfree hr hy H
    have hun := (mem_ready.1 hr).1
    refine ⟨fun h => (by rw [h] at hr; cases hr), fun j hj => ?_⟩
    have hjn : j < n := by
      rcases Nat.lt_or_ge j n with h | h
      · exact h
      · exact absurd hj (tail_waits hs hc hn inv _ i rfl hin hun j h)
    refine ⟨hjn, ?_⟩
    by_cases hji : j = i
    · subst hji; exact hy.qOp hi H
    · have h1 := (H.2 j (ready_mono hj hji)).2
      obtain ⟨hjun, oj, hoj, hall⟩ := mem_ready.1 hj
      have hnot : ∀ e ∈ oj.after, Region.binds md e = true → e.on ≠ i := fun e he hb heq => by
        have h1 := hall e he hb
        rw [heq, getD_both hun] at h1
        cases h1
      have h2 := qOp_put hoj (hfree j oj hoj hji hjun hnot) (fun cs b => hsel i oi cs b hi) (fun cs b => hsel j oj cs b hoj) hy h1
      have hfree' : ∀ k ok, ops[k]? = some ok → k ≠ i → (listed.setIfInBounds j true).getD k true = false →
          (∀ e ∈ ok.after, Region.binds md e = true → e.on ≠ i) → oi.apart ops ok = true := fun k ok hk hki hun hno => by
        refine hfree k ok hk hki ?_ hno
        by_cases hjk : j = k
        · subst hjk; exact hjun
        · rw [getD_set_ne true hjk] at hun; exact hun
      refine qOp_mono (fun a' h3 => ih (listed.setIfInBounds j true) a' (inv.set hj hjn) hfree' (ready_mono hr (Ne.symm hji)) h3.1 ?_) h2
      rw [Array.setIfInBounds_comm _ _ hji]
      exact h3.2
theorem wpHead_lex {n g : Nat} {Lq : Act → Prop} (hsel : Region.noSelect ops = true) (hs : Region.sinkB md ops n = true) (hc : Region.chainB md ops n = true) (hn : n < ops.size) :
    ∀ (l : List Oper) (k : Nat) (listed : Array Bool) (a : Act), (∀ j, j < l.length → l[j]? = ops[k + j]?) → k + l.length = n → HeadInv md ops n listed →
    Region.lexHead md ops g l.length k listed = true → wpQuiet P ops C Lq l a →
    wpHead P md ops C n (fun listed' a' => Region.seqB md ops g n listed' = true ∧ Lq a') l.length listed a
  | [], k, listed, a, _, hk, _, hB, h => by
    have : k = n := by simpa using hk
    subst this
    exact ⟨by simpa [Region.lexHead] using hB, h⟩
  | o :: l, k, listed, a, hl, hk, inv, hB, h => by
    have h0 : ops[k]? = some o := by simpa using (hl 0 (by simp)).symm
    simp only [List.length_cons, Region.lexHead, Bool.and_eq_true] at hB
    obtain ⟨⟨hr, hf⟩, hB'⟩ := hB
    have hkn : k < n := by simp only [List.length_cons] at hk; omega
    have hr' : k ∈ Region.ready md ops listed := by simpa using hr
    have hst : qOp P ops C k (wpQuiet P ops C Lq l) a := by unfold qOp; simp only [h0]; exact h
    obtain ⟨v, hy, hK⟩ := yieldsIn_of_qOp h0 hst
    exact wpHead_first h0 (Region.noSelect_spec hsel) hs hc hn hkn (fun listed' a' hL => seqB_ready hL.1) l.length listed a inv (Region.free_spec h0 hf) hr' hy
      (wpHead_lex hsel hs hc hn l (k + 1) _ _ (fun j hj => by have := hl (j + 1) (by simp; omega); simpa [Nat.add_assoc, Nat.add_comm 1 j] using this) (by simp only [List.length_cons] at hk; omega) (inv.set hr' hkn) hB' hK)
theorem region_tail_class {id : Nat} {Q : Exit → Act → World → Prop} {a : Act} {w : World} {l : List Oper} (n : Nat) (hm : P.follows .mixedOrders = true) (hB : Region.lexTailB .any l.toArray n = true) (hC : C { w with drawn := w.drawn + 1 })
    (h : wpQuiet P l.toArray C (fun a' => ∀ w', C w' → wpList P l.toArray Q (l.drop n) a' w') (l.take n) a) : (Code.region id l.toArray true).wp P Q a w := by
  simp only [Region.lexTailB, Bool.and_eq_true, decide_eq_true_eq] at hB
  obtain ⟨⟨⟨⟨hsel, hn⟩, hs⟩, hc⟩, hlex⟩ := hB
  have hn' : n < l.length := by simpa using hn
  have htl : (l.take n).length = n := by simp; omega
  have hdl : (l.drop n).length = l.toArray.size - n := by simp
  have inv0 : HeadInv .any l.toArray n (Array.replicate l.toArray.size false) :=
    ⟨by simp, fun j oj _ hl => (by rw [getD_replicate_false] at hl; cases hl), fun t _ ht => getD_in (by simpa using ht) (getD_replicate_false _ _)⟩
  have H := wpHead_lex (md := .any) (C := C) (g := l.toArray.size - n) hsel hs hc hn (l.take n) 0 _ a (fun j hj => by
    have hj' : j < n := by rw [htl] at hj; exact hj
    simp [hj']) (by simpa using htl) inv0 (by rw [htl]; exact hlex) h
  refine wp_region_any hm ?_
  have := wpAny_of_wpHead (Q' := Q) (g := l.toArray.size - n) (fun listed a' w' hw' hL => by
    have := wpAny_of_seq (md := .any) (Q' := Q) (l.drop n) n listed a' w' (fun j => by simp [List.getElem?_drop]) (by rw [hdl]; exact hL.1) (hL.2 w' hw')
    rwa [hdl] at this) _ _ _ _ hC H
  rw [htl, show n + (l.toArray.size - n) = l.toArray.size by omega] at this
  exact this
/-- The class: the world behind some draws. -/
theorem region_tail {id : Nat} {Q : Exit → Act → World → Prop} {a : Act} {w : World} {l : List Oper} (n : Nat) (hm : P.follows .mixedOrders = true) (hB : Region.lexTailB .any l.toArray n = true)
    (h : wpQuiet P l.toArray (fun w' => ∃ n, w' = w.drewN n) (fun a' => ∀ w', (∃ n, w' = w.drewN n) → wpList P l.toArray Q (l.drop n) a' w') (l.take n) a) : (Code.region id l.toArray true).wp P Q a w :=
  region_tail_class n hm hB ⟨1, rfl⟩ h
end
/-! ### a block known whole -/
structure Blk (w : World) (g : Nat) (cs : Array Value) (t : TypeId) : Prop where
  mk :: (out : w.heap[g]? = some (.cells cs t (0, 0)))
namespace Blk
variable {w : World} {g t : Nat} {cs : Array Value}
theorem cell (h : Blk w g cs t) {j : Nat} {v : Value} (hv : cs[j]? = some v) : w.cell? ⟨g, j, none⟩ = some v := by
  simp [World.cell?, h.out, hv]
theorem free (h : Blk w g cs t) (j : Nat) : w.frozen? ⟨g, j, none⟩ = false := by
  simp [World.frozen?, h.out]
theorem set (h : Blk w g cs t) (j : Nat) (u : Value) : Blk (w.setCell ⟨g, j, none⟩ u) g (cs.setIfInBounds j u) t := by
  refine ⟨?_⟩
  have h1 := h.out
  simp only [World.setCell]
  rw [Array.getElem?_modify]
  simp [h1]
theorem new (w : World) (cs : Array Value) (t : TypeId) : Blk (w.alloc (.cells cs t)) w.heap.size cs t := ⟨heap_alloc_new w _⟩
theorem drewN (h : Blk w g cs t) (n : Nat) : Blk (w.drewN n) g cs t := ⟨h.out⟩
theorem drew (h : Blk w g cs t) : Blk w.drew g cs t := ⟨h.out⟩
theorem below {w1 : World} (h : Blk w g cs t) {B : Nat} (hb : Below B w w1) (hg : g < B) : Blk w1 g cs t := ⟨(hb.block g hg).trans h.out⟩
theorem lt (h : Blk w g cs t) : g < w.heap.size := (Array.getElem?_eq_some_iff.1 h.out).1
theorem far (h : Blk w g cs t) {p : Addr} (hp : g ≠ p.block) (u : Value) : Blk (w.setCell p u) g cs t := ⟨(Below.heap_setCell w p u g hp).trans h.out⟩
theorem alloc (h : Blk w g cs t) (o : Obj) : Blk (w.alloc o) g cs t := by
  exact ⟨(Below.heap_alloc w o g h.lt).trans h.out⟩
end Blk
/-- A contract that ends in draws, inside a quiet region. -/
theorem quietCall {P : Program} {f : FuncId} {args : Array Value} {w : World} {n : Nat} {v : Value}
    (h : Calls P f args (w.drewN n) fun e w' => e = .returned v ∧ Drawn0 (w.drewN n) w') : Calls P f args (w.drewN n) fun e w'' => e = .returned v ∧ ∃ m, w'' = w.drewN m :=
  h.mono fun _ _ ⟨he, ⟨m, hm⟩⟩ => ⟨he, n + m, by rw [hm, World.drewN_drewN]⟩
/-! ### bytes -/
def bytesB (l : List Int) : Bool := l.all fun x => decide (0 ≤ x ∧ x < 256)
theorem bytesB_mem {l : List Int} (h : bytesB l = true) : ∀ x ∈ l, byt x := by
  intro x hx
  have := List.all_eq_true.1 h x hx
  simpa [byt] using this
theorem bytesB_of {l : List Int} (h : ∀ x ∈ l, byt x) : bytesB l = true := by
  unfold bytesB
  rw [List.all_eq_true]
  intro x hx
  simpa [byt] using h x hx
theorem rd_mem {l : List Int} {i : Nat} (hi : i < l.length) : rd l i ∈ l := by
  have : rd l i = l[i] := by simp [rd, List.getD_eq_getElem?_getD, List.getElem?_eq_getElem hi]
  rw [this]; exact List.getElem_mem _
theorem bytesB_rd {l : List Int} (h : bytesB l = true) {i : Int} {k : Nat} (hk : i = k) (hi : k < l.length) : byt (rd l i) := by
  subst hk; exact bytesB_mem h _ (rd_mem hi)
theorem bytesB_drop {l : List Int} (h : bytesB l = true) (n : Nat) : bytesB (l.drop n) = true := bytesB_of fun x hx => bytesB_mem h x (List.mem_of_mem_drop hx)
theorem bytesB_take {l : List Int} (h : bytesB l = true) (n : Nat) : bytesB (l.take n) = true := bytesB_of fun x hx => bytesB_mem h x (List.mem_of_mem_take hx)
def le4L (l : List Int) : Int := le4 (rd l 0) (rd l 1) (rd l 2) (rd l 3)
def le8L (l : List Int) : Int := le4L l + le4L (l.drop 4) * 4294967296
theorem le4L_bd {l : List Int} (h : bytesB l = true) (hl : 4 ≤ l.length) : 0 ≤ le4L l ∧ le4L l < 4294967296 :=
  le4_bd _ _ _ _ (bytesB_rd h (k := 0) rfl (by omega)) (bytesB_rd h (k := 1) rfl (by omega)) (bytesB_rd h (k := 2) rfl (by omega)) (bytesB_rd h (k := 3) rfl (by omega))
theorem le8_raw (a b : Int) (ha : 0 ≤ a ∧ a < 4294967296) (hb : 0 ≤ b ∧ b < 4294967296) :
    Go.bits .or .u64 (IntKind.u64.wrap a) (IntKind.u64.wrap (IntKind.u64.wrap b * 4294967296)) = a + b * 4294967296 := by
  rw [IntWalk.u64_in a (by omega), IntWalk.u64_in b (by omega), IntWalk.u64_in (b * 4294967296) (by omega)]
  exact or_u64 32 _ _ (by omega) (by omega) (by omega) (by omega) (by omega) (by omega)
theorem drop_cons (l : List Int) (k : Nat) (hk : k < l.length) : l.drop k = rd l k :: l.drop (k + 1) := by
  rw [List.drop_eq_getElem_cons hk]
  simp [rd, List.getD_eq_getElem?_getD, List.getElem?_eq_getElem hk]
/-- a slice of bytes that is read, whatever its address -/
structure SlB (w : World) (v : Value) (xs : List Int) : Prop where
  mk :: (out : ∃ A n c, v = .slice A n c ∧ xs.length = n ∧ n ≤ c ∧ n ≤ 9223372036854775807 ∧ (Kd.int IntKind.u8).C w A n xs)
end Go.Proofs.Ytojoppondgnajaa.Aid
