import Derived.Test.YtcboegodjlfmnaaDoorSlTzr
import Derived.Test.YtcboegodjlfmnaaDoorSlTzs
import Derived.Test.YtcboegodjlfmnaaDoorSlMtd
namespace Go.Proofs.YtcboegodjlfmnaaDoor.Tzz
open Go.Proofs.YtcboegodjlfmnaaDoor.Tzs Go.Proofs.YtcboegodjlfmnaaDoor.Tzr Go.Proofs.YtcboegodjlfmnaaDoor.Tzq Go.Proofs.YtcboegodjlfmnaaDoor.Tzm Go.Proofs.YtcboegodjlfmnaaDoor.Tzl Go.Proofs.YtcboegodjlfmnaaDoor.Trh Go.Proofs.YtcboegodjlfmnaaDoor.Trn Go.Proofs.YtcboegodjlfmnaaDoor.Trm Go.Proofs.YtcboegodjlfmnaaDoor.Tuv Go.Proofs.YtcboegodjlfmnaaDoor.Tpa Go.Proofs.YtcboegodjlfmnaaDoor.Duv Go.Proofs.YtcboegodjlfmnaaDoor.Dpu Go.Proofs.YtcboegodjlfmnaaDoor.Pak Go.Proofs.YtcboegodjlfmnaaDoor.Buf Go.Proofs.YtcboegodjlfmnaaDoor.Fit Go.Proofs.YtcboegodjlfmnaaDoor.Bit Go.Proofs.YtcboegodjlfmnaaDoor.Wrd Go.Proofs.YtcboegodjlfmnaaDoor.Spl Go.Proofs.YtcboegodjlfmnaaDoor.Str Go.Proofs.YtcboegodjlfmnaaDoor.Flt Go.Proofs.YtcboegodjlfmnaaDoor.Owe Go.Proofs.YtcboegodjlfmnaaDoor.Num Go.Proofs.YtcboegodjlfmnaaDoor.Le Go.Proofs.YtcboegodjlfmnaaDoor.Lst Go.Proofs.YtcboegodjlfmnaaDoor.Aid Go.RowKit Go.Proofs.YtcboegodjlfmnaaDoorW.PrintWords Go.Proofs.YtcboegodjlfmnaaDoorW.PrintLast Go.Proofs.YtcboegodjlfmnaaDoorW.PrintMore
set_option linter.unusedVariables false
set_option linter.unusedSimpArgs false
theorem zleaf {w : World} {g : Nat} {p : Value} {A : Option Addr} {n c B0 : Nat} {p1 p2 : Addr} {bs : List Int} {R : Res N} {args : Array Value} (hno : R ≠ .opn)
    (hok : ∀ x r, R = .ok x r → ∃ (o' o : Nat), o ≤ o' ∧ o' ≤ n ∧ r = bs.drop o' ∧ Calls Tryd.prog 35 args w fun e w' => ZOk w w' g p A n c B0 x o' e)
    (hcut : R = .cut → Calls Tryd.prog 35 args w fun e w' => ZCut w w' g p1 p2 e) : Calls Tryd.prog 35 args w fun e w' => ZRes w w' g p A n c B0 p1 p2 bs R e := by
  cases R with
  | opn => exact absurd rfl hno
  | cut => exact (hcut rfl).mono fun e w' h => ⟨(fun x r h => nomatch h), fun _ => h⟩
  | ok x r =>
    obtain ⟨o', o, h1, h2, h3, h4⟩ := hok x r rfl
    refine h4.mono fun e w' h => ⟨fun x' r' hx => ?_, fun h => nomatch h⟩
    obtain ⟨rfl, rfl⟩ := Res.ok.inj hx
    exact ⟨o', h3, h2, h⟩
theorem zcut {w : World} {g : Nat} {p : Value} {A : Option Addr} {n c B0 : Nat} {p1 p2 : Addr} {bs : List Int} {R : Res N} {args : Array Value} (hR : R = .cut)
    (hcut : Calls Tryd.prog 35 args w fun e w' => ZCut w w' g p1 p2 e) : Calls Tryd.prog 35 args w fun e w' => ZRes w w' g p A n c B0 p1 p2 bs R e := by
  subst hR
  exact hcut.mono fun e w' h => ⟨(fun x r h => nomatch h), fun _ => h⟩
theorem th_other {k : Nat} {ty : Int} (h : ¬ (3 ≤ ty ∧ ty ≤ 12)) (bs : List Int) : thP (k + 1) ty bs = .opn := by
  unfold thP
  rw [if_neg (by omega), if_neg (by omega), if_neg (by omega), if_neg (by omega), if_neg (by omega), if_neg (by omega), if_neg (by omega), if_neg (by omega), if_neg (by omega)]; rfl
theorem zh (g : Nat) (p : Value) (A : Option Addr) (n c B0 : Nat) (p1 p2 : Addr) (bs : List Int) (hc : n ≤ c) (hn : n ≤ 2147483647) (hb : bytesB bs = true) (hB0 : ∀ a, A = some a → a.block < B0) : ∀ k, ZH g p A n c B0 p1 p2 bs k
  | 0 => ⟨fun ty di o w hR hC hE hB ho hd0 hd h => absurd rfl h⟩
  | k + 1 => by
    have ih := zh g p A n c B0 p1 p2 bs hc hn hb hB0 k
    refine ⟨fun ty di o w hR hC hE hB ho hd0 hd hno => ?_⟩
    obtain ⟨dd, rfl⟩ : ∃ dd : Nat, di = dd := ⟨di.toNat, by omega⟩
    have hd9 : dd ≤ 64 := by omega
    by_cases h3 : ty = 3
    · subst h3; exact zleaf hno (fun x r h => by obtain ⟨o', h⟩ := zz3_ok g p A n c o B0 bs dd k x r w hR hC hc hn ho hb hd9 hB0 hB h; exact ⟨o', o, h⟩) (fun h => zz3_cut g p A n c o B0 bs dd k p1 p2 w hR hC hc hn ho hb hd9 hE h)
    by_cases h4 : ty = 4
    · subst h4; exact zleaf hno (fun x r h => by obtain ⟨o', h⟩ := zz4_ok g p A n c o B0 bs dd k x r w hR hC hc hn ho hb hd9 hB0 hB h; exact ⟨o', o, h⟩) (fun h => zz4_cut g p A n c o B0 bs dd k p1 p2 w hR hC hc hn ho hb hd9 hE h)
    by_cases h5 : ty = 5
    · subst h5; exact zleaf hno (fun x r h => by obtain ⟨o', h⟩ := zz5_ok g p A n c o B0 bs dd k x r w hR hC hc hn ho hb hd9 hB0 hB h; exact ⟨o', o, h⟩) (fun h => zz5_cut g p A n c o B0 bs dd k p1 p2 w hR hC hc hn ho hb hd9 hE h)
    by_cases h6 : ty = 6
    · subst h6; exact zleaf hno (fun x r h => by obtain ⟨o', h⟩ := zz6_ok g p A n c o B0 bs dd k x r w hR hC hc hn ho hb hd9 hB0 hB h; exact ⟨o', o, h⟩) (fun h => zz6_cut g p A n c o B0 bs dd k p1 p2 w hR hC hc hn ho hb hd9 hE h)
    by_cases h7 : ty = 7
    · subst h7; exact zleaf hno (fun x r h => by obtain ⟨o', h⟩ := zz7_ok g p A n c o B0 bs dd k x r w hR hC hc hn ho hb hd9 hB0 hB h; exact ⟨o', o, h⟩) (fun h => zz7_cut g p A n c o B0 bs dd k p1 p2 w hR hC hc hn ho hb hd9 hE h)
    by_cases h8 : ty = 8
    · subst h8; exact zleaf hno (fun x r h => by obtain ⟨o', h⟩ := zz8_ok g p A n c o B0 bs dd k x r w hR hC hc hn ho hb hd9 hB0 hB h; exact ⟨o', o, h⟩) (fun h => zz8_cut g p A n c o B0 bs dd k p1 p2 w hR hC hc hn ho hb hd9 hE h)
    by_cases h9 : ty = 9
    · subst h9
      rcases list_top (.inl rfl) hno with ⟨h1, h2⟩ | ⟨m, el, r, h1, h2, h3⟩
      · exact zcut h2 (zz9_hcut g p A n c o bs dd p1 p2 w hR hC hc hn ho hb hd9 hE h1)
      · rw [h3]; exact zz9_ok g p A n c o B0 bs r dd k p1 p2 w hR hC hc hn ho hb (by omega) hE hB ih m el h1 h2
    by_cases h10 : ty = 10
    · subst h10
      rcases list_top (.inr rfl) hno with ⟨h1, h2⟩ | ⟨m, el, r, h1, h2, h3⟩
      · exact zcut h2 (zz10_hcut g p A n c o bs dd p1 p2 w hR hC hc hn ho hb hd9 hE h1)
      · rw [h3]; exact zz10_ok g p A n c o B0 bs r dd k p1 p2 w hR hC hc hn ho hb (by omega) hE hB ih m el h1 h2
    by_cases h11 : ty = 11
    · subst h11
      rcases map_top hno with ⟨h1, h2⟩ | ⟨m, ky, el, r, h1, h2, h3⟩
      · exact zcut h2 (zz11_hcut g p A n c o bs dd p1 p2 w hR hC hc hn ho hb hd9 hE h1)
      · rw [h3]; exact zz11_ok g p A n c o B0 bs r dd k p1 p2 w hR hC hc hn ho hb (by omega) hE hB ih m ky el h1 h2
    by_cases h12 : ty = 12
    · subst h12
      obtain ⟨h1, h2⟩ := struct_top hno
      rw [h2]; exact zz12_any g p A n c o B0 bs dd k p1 p2 w hR hC hc hn ho hb (by omega) hE hB ih h1
    · exact absurd (th_other (by omega) _) hno
end Go.Proofs.YtcboegodjlfmnaaDoor.Tzz

namespace Go.Proofs.YtcboegodjlfmnaaDoor.Tzv
open Go.Proofs.YtcboegodjlfmnaaDoor.Tzq Go.Proofs.YtcboegodjlfmnaaDoor.Tzm Go.Proofs.YtcboegodjlfmnaaDoor.Tzl Go.Proofs.YtcboegodjlfmnaaDoor.Trh Go.Proofs.YtcboegodjlfmnaaDoor.Trn Go.Proofs.YtcboegodjlfmnaaDoor.Trm Go.Proofs.YtcboegodjlfmnaaDoor.Tuv Go.Proofs.YtcboegodjlfmnaaDoor.Tpa Go.Proofs.YtcboegodjlfmnaaDoor.Duv Go.Proofs.YtcboegodjlfmnaaDoor.Dpu Go.Proofs.YtcboegodjlfmnaaDoor.Pak Go.Proofs.YtcboegodjlfmnaaDoor.Buf Go.Proofs.YtcboegodjlfmnaaDoor.Fit Go.Proofs.YtcboegodjlfmnaaDoor.Bit Go.Proofs.YtcboegodjlfmnaaDoor.Wrd Go.Proofs.YtcboegodjlfmnaaDoor.Spl Go.Proofs.YtcboegodjlfmnaaDoor.Str Go.Proofs.YtcboegodjlfmnaaDoor.Flt Go.Proofs.YtcboegodjlfmnaaDoor.Owe Go.Proofs.YtcboegodjlfmnaaDoor.Num Go.Proofs.YtcboegodjlfmnaaDoor.Le Go.Proofs.YtcboegodjlfmnaaDoor.Lst Go.Proofs.YtcboegodjlfmnaaDoor.Aid Go.RowKit Go.Proofs.YtcboegodjlfmnaaDoorW.PrintWords Go.Proofs.YtcboegodjlfmnaaDoorW.PrintLast Go.Proofs.YtcboegodjlfmnaaDoorW.PrintMore
set_option linter.unusedVariables false
set_option linter.unusedSimpArgs false
structure E0 (w : World) (p1 p2 : Addr) : Prop where
  mk :: (one : w.cell? ⟨1, 0, none⟩ = some (erV p1)) (two : w.cell? ⟨2, 0, none⟩ = some (erV p2)) (ne : p1 ≠ p2) (b1 : ∃ c t, w.heap[p1.block]? = some (.cells c t (0, 0))) (b2 : ∃ c t, w.heap[p2.block]? = some (.cells c t (0, 0)))
theorem E0.below {w w1 : World} {p1 p2 : Addr} (h : E0 w p1 p2) (k : ∀ b, b < w.heap.size → w1.heap[b]? = w.heap[b]?) : E0 w1 p1 p2 := by
  obtain ⟨c1, t1, e1⟩ := h.b1
  obtain ⟨c2, t2, e2⟩ := h.b2
  exact ⟨(World.cell?_of_block (k _ (block_lt_of_cell h.one))).trans h.one, (World.cell?_of_block (k _ (block_lt_of_cell h.two))).trans h.two, h.ne, ⟨c1, t1, (k _ (Array.getElem?_eq_some_iff.1 e1).1).trans e1⟩, ⟨c2, t2, (k _ (Array.getElem?_eq_some_iff.1 e2).1).trans e2⟩⟩
theorem E0.eofs {w w1 : World} {p1 p2 : Addr} (h : E0 w p1 p2) (k : ∀ b, b < w.heap.size → w1.heap[b]? = w.heap[b]?) {g : Nat} (hg : w.heap.size ≤ g) : Eofs w1 g p1 p2 := by
  have h1 := h.below k
  obtain ⟨c1, t1, e1⟩ := h.b1
  obtain ⟨c2, t2, e2⟩ := h.b2
  have l1 := (Array.getElem?_eq_some_iff.1 e1).1
  have l2 := (Array.getElem?_eq_some_iff.1 e2).1
  have l3 := block_lt_of_cell h.one
  have l4 := block_lt_of_cell h.two
  exact ⟨h1.one, h1.two, h1.ne, h1.b1, h1.b2, fun e => by have : 1 < w.heap.size := l3; omega, fun e => by have : 2 < w.heap.size := l4; omega, by omega, by omega⟩
set_option maxHeartbeats 4000000 in
set_option maxRecDepth 100000 in
theorem newReader_calls (pv : Option Addr) (A : Option Addr) (n c : Nat) (w : World) :
    Calls Tryd.prog 34 #[.pointer pv, .slice A n c] w fun e w' => e = .returned (rdV w.heap.size) ∧ w' = w.alloc (.cells #[.pointer pv, .slice A n c, .int .i64 0] 105) := by
  go_enter Tryd.func34, Tryd.ntmps34
  go_wp2_with (fail)
  go_ret
  exact ⟨rfl, rfl⟩
set_option maxHeartbeats 4000000 in
set_option maxRecDepth 100000 in
theorem bytesRead_calls (g : Nat) (p : Value) (A : Option Addr) (n c o : Nat) (w : World) (hR : RdAt w g p A n c o) :
    Calls Tryd.prog 92 #[.pointer (some ⟨g, 0, none⟩)] w fun e w' => e = .returned (.int .i64 (o : Int)) ∧ w = w' := by
  have c2 := hR.blk.cell (j := 2) rfl
  go_enter Tryd.func92, Tryd.ntmps92
  go_wp2_with (fail)
  go_ret
  exact ⟨rfl, rfl⟩
theorem far9 {w : World} {b t b0 : Nat} {cs : Array Value} (h : Blk w b cs t) (hne : b ≠ b0) (x0 x1 x2 x3 x4 x5 x6 x7 x8 : Value) : Blk (((((((((w.setCell ⟨b0, 0, none⟩ x0).setCell ⟨b0, 1, none⟩ x1).setCell ⟨b0, 2, none⟩ x2).setCell ⟨b0, 3, none⟩ x3).setCell ⟨b0, 4, none⟩ x4).setCell ⟨b0, 5, none⟩ x5).setCell ⟨b0, 6, none⟩ x6).setCell ⟨b0, 7, none⟩ x7).setCell ⟨b0, 8, none⟩ x8) b cs t :=
  ((((((((h.far (p := ⟨b0, 0, none⟩) hne x0).far (p := ⟨b0, 1, none⟩) hne x1).far (p := ⟨b0, 2, none⟩) hne x2).far (p := ⟨b0, 3, none⟩) hne x3).far (p := ⟨b0, 4, none⟩) hne x4).far (p := ⟨b0, 5, none⟩) hne x5).far (p := ⟨b0, 6, none⟩) hne x6).far (p := ⟨b0, 7, none⟩) hne x7).far (p := ⟨b0, 8, none⟩) hne x8
theorem below9 {w w1 : World} (h : Below w.heap.size w w1) {x0 x1 x2 x3 x4 x5 x6 x7 x8 : Value} : Below w.heap.size w (((((((((w1.setCell ⟨w.heap.size, 0, none⟩ x0).setCell ⟨w.heap.size, 1, none⟩ x1).setCell ⟨w.heap.size, 2, none⟩ x2).setCell ⟨w.heap.size, 3, none⟩ x3).setCell ⟨w.heap.size, 4, none⟩ x4).setCell ⟨w.heap.size, 5, none⟩ x5).setCell ⟨w.heap.size, 6, none⟩ x6).setCell ⟨w.heap.size, 7, none⟩ x7).setCell ⟨w.heap.size, 8, none⟩ x8) := by
  exact ((((((((h.setCell (Nat.le_refl _) _).setCell (Nat.le_refl _) _).setCell (Nat.le_refl _) _).setCell (Nat.le_refl _) _).setCell (Nat.le_refl _) _).setCell (Nat.le_refl _) _).setCell (Nat.le_refl _) _).setCell (Nat.le_refl _) _).setCell (Nat.le_refl _) _
theorem below_grown {w1 w2 : World} {g B : Nat} (h : w1.grownBy w2 (some g)) (hB : B ≤ g) (hs : B ≤ w1.heap.size) : Below B w1 w2 :=
  ⟨h.os, h.tape, h.output, h.size, fun b hb => h.block b (by omega) (fun e => by have := Option.some.inj e; omega)⟩
theorem belowDrew {B : Nat} {w w1 : World} (h : Below B w w1) : Below B w w1.drew := ⟨h.os, h.tape, h.output, h.size, h.block⟩
theorem ret_cell_tmp2 {P : Program} {fn : Func} {p u v : Tmp} {ty : TypeId} (h : fn.results = #[.cell p ty, .tmp u, .tmp v]) (tmps : Array Value) (w : World) (g : Nat) (t : TypeId) (cs : Array Value) (fr : Nat × Nat) (d : TypeDesc)
    (hp : tmps.getD p undef = .pointer (some ⟨g, 0, none⟩)) (hg : w.heap[g]? = some (.cells cs t fr))
    (hu : P.underlying ty = some d) (hd : (match d with | .struct _ | .array _ _ => true | _ => false) = true) (hi : (P.info? ty).map (·.size) = some cs.size) :
    (results fn tmps).run P w = .ok (.tuple #[.agg cs, tmps.getD u undef, tmps.getD v undef]) w := by
  have hp' : tmps[p]?.getD undef = .pointer (some ⟨g, 0, none⟩) := by simpa using hp
  simp [results, h, hp', asAddr, run_loadVar_row w g t ty cs fr d hg hu hd hi]
theorem inKeep {w4 w9 : World} {B g lo : Nat} {x : N} {cs : List Value} (hin : x.In flV w4 (Pn B g lo w4.heap.size) cs) (hk : ∀ b, b ≠ B → w9.heap[b]? = w4.heap[b]?) (hs : w9.heap.size = w4.heap.size) (hlo : B < lo) (hB : B ≤ w4.heap.size) : x.In flV w9 (fun b => b < w9.heap.size) cs := by
  refine hin.move (fun b hb => hk b ?_) (fun b hb => ?_)
  · rcases hb with ⟨h1, _⟩ | ⟨h1, _⟩ <;> omega
  · show b < w9.heap.size
    rw [hs]
    rcases hb with ⟨h1, _⟩ | ⟨h1, h2⟩ <;> omega
theorem drewKeep {w6 w5 : World} (h : w6.heap.size = w5.heap.size ∧ ∀ b : Nat, w6.heap[b]? = w5.heap[b]?) : w6.drew.heap.size = w5.heap.size ∧ ∀ b : Nat, w6.drew.heap[b]? = w5.heap[b]? := h
structure ZTop (w w' : World) (bs : List Int) (n : Nat) (R : Res N) (e : Ending) : Prop where
  mk :: (ok : ∀ x r, R = .ok x r → ∃ o' cs, r = bs.drop o' ∧ o' ≤ n ∧ e = .returned (.tuple #[.agg (List.toArray cs), .int .i64 (o' : Nat), .nilIface]) ∧ x.In flV w' (fun b => b < w'.heap.size) cs) (cut : R = .cut → ∃ cs q m, Sh9 cs ∧ e = .returned (.tuple #[.agg cs, .int .i64 m, erV q])) (below : Below w.heap.size w w')
set_option maxHeartbeats 4000000 in
set_option maxRecDepth 100000 in
theorem zzTop_calls (A : Option Addr) (n c : Nat) (bs : List Int) (ty : Int) (p1 p2 : Addr) (w : World) (hC : (Kd.int .u8).C w A n bs) (hA : ∀ a, A = some a → a.block < w.heap.size) (hE : E0 w p1 p2)
    (hzh : ∀ (g : Nat) (p : Value) (B0 : Nat), (∀ a, A = some a → a.block < B0) → ZH g p A n c B0 p1 p2 bs 7) (hno : thP 7 ty bs ≠ .opn) :
    Calls Tryd.prog 26 #[.slice A n c, .int .i8 ty] w fun e w' => ZTop w w' bs n (thP 7 ty bs) e := by
  have HC := Aside0.mk hC
  have HA := Aside0.mk hA
  have HE := Aside0.mk hE
  have HZ := Aside0.mk hzh
  have HN := Aside0.mk hno
  have HZ3 : Aside0 (Calls Tryd.prog 35 #[rdV (w.heap.size + 1 + 1), .int .i8 ty, .int .i64 0] (((w.alloc (.cells #[.int .i8 0, .bool false, .int .i64 0, .float .f64 0, .slice none 0 0, .int .i8 0, .int .i8 0, .slice none 0 0, .slice none 0 0] 60)).alloc (.cells #[] 79)).alloc (.cells #[.pointer (some ⟨w.heap.size + 1, 0, none⟩), .slice A n c, .int .i64 0] 105)) fun e w' => ZRes (((w.alloc (.cells #[.int .i8 0, .bool false, .int .i64 0, .float .f64 0, .slice none 0 0, .int .i8 0, .int .i8 0, .slice none 0 0, .slice none 0 0] 60)).alloc (.cells #[] 79)).alloc (.cells #[.pointer (some ⟨w.heap.size + 1, 0, none⟩), .slice A n c, .int .i64 0] 105)) w' (w.heap.size + 1 + 1) (.pointer (some ⟨w.heap.size + 1, 0, none⟩)) A n c w.heap.size p1 p2 bs (thP 7 ty (bs.drop 0)) e) := by
    have hs : (((w.alloc (.cells #[.int .i8 0, .bool false, .int .i64 0, .float .f64 0, .slice none 0 0, .int .i8 0, .int .i8 0, .slice none 0 0, .slice none 0 0] 60)).alloc (.cells #[] 79)).alloc (.cells #[.pointer (some ⟨w.heap.size + 1, 0, none⟩), .slice A n c, .int .i64 0] 105)).heap.size = w.heap.size + 3 := by rw [allocSize, allocSize, allocSize]
    have hb := Blk.new ((w.alloc (.cells #[.int .i8 0, .bool false, .int .i64 0, .float .f64 0, .slice none 0 0, .int .i8 0, .int .i8 0, .slice none 0 0, .slice none 0 0] 60)).alloc (.cells #[] 79)) #[.pointer (some ⟨w.heap.size + 1, 0, none⟩), .slice A n c, .int .i64 0] 105
    rw [allocSize, allocSize] at hb
    refine ⟨(hzh _ _ _ hA).out ty 0 0 (((w.alloc (.cells #[.int .i8 0, .bool false, .int .i64 0, .float .f64 0, .slice none 0 0, .int .i8 0, .int .i8 0, .slice none 0 0, .slice none 0 0] 60)).alloc (.cells #[] 79)).alloc (.cells #[.pointer (some ⟨w.heap.size + 1, 0, none⟩), .slice A n c, .int .i64 0] 105)) ⟨hb, fun a ha => by have := hA a ha; omega⟩ (Kd.C_alloc (Kd.C_alloc (Kd.C_alloc hC _) _) _) (hE.eofs (fun b hb => ?_) (by omega)) (by rw [hs]; omega) (by omega) (by omega) (by omega) hno⟩
    rw [Below.heap_alloc _ _ b (by rw [allocSize, allocSize]; omega), Below.heap_alloc _ _ b (by rw [allocSize]; omega), Below.heap_alloc _ _ b hb]
  have hV3 : Blk (((w.alloc (.cells #[.int .i8 0, .bool false, .int .i64 0, .float .f64 0, .slice none 0 0, .int .i8 0, .int .i8 0, .slice none 0 0, .slice none 0 0] 60)).alloc (.cells #[] 79)).alloc (.cells #[.pointer (some ⟨w.heap.size + 1, 0, none⟩), .slice A n c, .int .i64 0] 105)) w.heap.size #[.int .i8 0, .bool false, .int .i64 0, .float .f64 0, .slice none 0 0, .int .i8 0, .int .i8 0, .slice none 0 0, .slice none 0 0] 60 := ((Blk.new w #[.int .i8 0, .bool false, .int .i64 0, .float .f64 0, .slice none 0 0, .int .i8 0, .int .i8 0, .slice none 0 0, .slice none 0 0] 60).alloc _).alloc _
  have HV3 := Aside0.mk hV3
  have HB3 : Aside0 (Below w.heap.size w (((w.alloc (.cells #[.int .i8 0, .bool false, .int .i64 0, .float .f64 0, .slice none 0 0, .int .i8 0, .int .i8 0, .slice none 0 0, .slice none 0 0] 60)).alloc (.cells #[] 79)).alloc (.cells #[.pointer (some ⟨w.heap.size + 1, 0, none⟩), .slice A n c, .int .i64 0] 105))) := ⟨by
    have s1 := allocSize w (.cells #[.int .i8 0, .bool false, .int .i64 0, .float .f64 0, .slice none 0 0, .int .i8 0, .int .i8 0, .slice none 0 0, .slice none 0 0] 60)
    have s2 := allocSize (w.alloc (.cells #[.int .i8 0, .bool false, .int .i64 0, .float .f64 0, .slice none 0 0, .int .i8 0, .int .i8 0, .slice none 0 0, .slice none 0 0] 60)) (.cells #[] 79)
    exact ⟨rfl, rfl, rfl, by rw [allocSize]; omega, fun b hb => by rw [Below.heap_alloc _ _ b (by omega), Below.heap_alloc _ _ b (by omega), Below.heap_alloc _ _ b hb]⟩⟩
  obtain ⟨W, hW⟩ : ∃ W, (((w.alloc (.cells #[.int .i8 0, .bool false, .int .i64 0, .float .f64 0, .slice none 0 0, .int .i8 0, .int .i8 0, .slice none 0 0, .slice none 0 0] 60)).alloc (.cells #[] 79)).alloc (.cells #[.pointer (some ⟨w.heap.size + 1, 0, none⟩), .slice A n c, .int .i64 0] 105)) = W := ⟨_, rfl⟩
  rw [hW] at HZ3 HV3 HB3
  have HW := Aside0.mk hW
  have HWS : Aside0 (W.heap.size = w.heap.size + 3) := ⟨by rw [← hW, allocSize, allocSize, allocSize]⟩
  have HR3 : Aside0 (RdAt W (w.heap.size + 1 + 1) (.pointer (some ⟨w.heap.size + 1, 0, none⟩)) A n c 0) := ⟨hW ▸ ⟨by have hb := Blk.new ((w.alloc (.cells #[.int .i8 0, .bool false, .int .i64 0, .float .f64 0, .slice none 0 0, .int .i8 0, .int .i8 0, .slice none 0 0, .slice none 0 0] 60)).alloc (.cells #[] 79)) #[.pointer (some ⟨w.heap.size + 1, 0, none⟩), .slice A n c, .int .i64 0] 105; rw [allocSize, allocSize] at hb; exact hb, fun a ha => by have := hA a ha; omega⟩⟩
  have hbs : thP 7 ty (bs.drop 0) = thP 7 ty bs := rfl
  rw [hbs] at HZ3
  obtain ⟨R, hR⟩ : ∃ R, thP 7 ty bs = R := ⟨_, rfl⟩
  have HN : Aside0 (R ≠ .opn) := ⟨hR ▸ hno⟩
  rw [hR] at HZ3 ⊢
  clear hC hA hE hzh hno hR hV3 hbs hW HC HA HE HZ
  have hst := fun (f : Nat) (a : Addr) (W : World) m => run_store Tryd.prog W a (.float .f64 f) m rfl
  have hm := m_BytesRead
  go_enter Tryd.func26, Tryd.ntmps26
  cases R with
  | opn => exact absurd rfl HN.out
  | cut =>
    go_wp2_with (first
      | (go_at_call 34; (with_reducible refine (newReader_calls _ A n c _).mono ?_); rintro e w3 ⟨rfl, rfl⟩; rw [HW.out])
      | (go_at_call 35; (with_reducible refine HZ3.out.mono ?_); rintro e w4 HZR; obtain ⟨⟨cs2, q, ⟨a0, a1, a2, a3, A4, n4, k4, a5, a6, A7, n7, k7, A8, n8, k8, rfl⟩, hq, rfl⟩, hgr, hrs⟩ := HZR.cut rfl; have HRS := Aside0.mk hrs; clear hrs; have HG := Aside0.mk hgr; have hV4 := keepBlk HV3.out hgr (by omega); have HV4 := Aside0.mk hV4; obtain ⟨c0, c1, c2, c3, c4, c5, c6, c7, c8, hfz⟩ := nine hV4; clear hV4 hgr))
    obtain ⟨w5, hw5⟩ : ∃ W5, (((((((((w4.setCell ⟨w.heap.size, 0, none⟩ (.int .i8 a0)).setCell ⟨w.heap.size, 1, none⟩ (.bool a1)).setCell ⟨w.heap.size, 2, none⟩ (.int .i64 a2)).setCell ⟨w.heap.size, 3, none⟩ (.float .f64 a3)).setCell ⟨w.heap.size, 4, none⟩ (.slice A4 n4 k4)).setCell ⟨w.heap.size, 5, none⟩ (.int .i8 a5)).setCell ⟨w.heap.size, 6, none⟩ (.int .i8 a6)).setCell ⟨w.heap.size, 7, none⟩ (.slice A7 n7 k7)).setCell ⟨w.heap.size, 8, none⟩ (.slice A8 n8 k8)) = W5 := ⟨_, rfl⟩
    have HB5 : Aside0 (Blk w5 w.heap.size #[.int .i8 a0, .bool a1, .int .i64 a2, .float .f64 a3, .slice A4 n4 k4, .int .i8 a5, .int .i8 a6, .slice A7 n7 k7, .slice A8 n8 k8] 60) := ⟨by rw [← hw5]; exact nineSet HV4.out _ _ _ _ _ _ _ _ _⟩
    have HBW : Aside0 (Below w.heap.size w w5) := ⟨by rw [← hw5]; exact below9 (HB3.out.trans (below_grown HG.out (by omega) HB3.out.size))⟩
    obtain ⟨o5, hr5⟩ := rdsNine HRS.out (show w.heap.size + 1 + 1 ≠ w.heap.size by omega) (.int .i8 a0) (.bool a1) (.int .i64 a2) (.float .f64 a3) (.slice A4 n4 k4) (.int .i8 a5) (.int .i8 a6) (.slice A7 n7 k7) (.slice A8 n8 k8) _ A n c 0 HR3.out
    have HR5 : Aside0 (RdAt w5 (w.heap.size + 1 + 1) (.pointer (some ⟨w.heap.size + 1, 0, none⟩)) A n c o5) := ⟨by rw [← hw5]; exact hr5⟩
    clear hr5
    rw [hw5]
    clear hw5 c0 c1 c2 c3 c4 c5 c6 c7 c8 hfz
    obtain ⟨s0, s1, s2, s3, s4, s5, s6, s7, s8, sz⟩ := nine HB5.out
    have HRD : Aside0 (RdAt w5.drew (w.heap.size + 1 + 1) (.pointer (some ⟨w.heap.size + 1, 0, none⟩)) A n c o5) := ⟨⟨HR5.out.blk.drew, HR5.out.apart⟩⟩
    obtain ⟨w6, hw6⟩ : ∃ W6, (((((((((w5.setCell ⟨w.heap.size, 0, none⟩ (.int .i8 a0)).setCell ⟨w.heap.size, 1, none⟩ (.bool a1)).setCell ⟨w.heap.size, 2, none⟩ (.int .i64 a2)).setCell ⟨w.heap.size, 3, none⟩ (.float .f64 a3)).setCell ⟨w.heap.size, 4, none⟩ (.slice A4 n4 k4)).setCell ⟨w.heap.size, 5, none⟩ (.int .i8 a5)).setCell ⟨w.heap.size, 6, none⟩ (.int .i8 a6)).setCell ⟨w.heap.size, 7, none⟩ (.slice A7 n7 k7)).setCell ⟨w.heap.size, 8, none⟩ (.slice A8 n8 k8)) = W6 := ⟨_, rfl⟩
    have HN6 : Aside0 (w6.drew.heap.size = w5.heap.size ∧ ∀ b : Nat, w6.drew.heap[b]? = w5.heap[b]?) := ⟨by rw [← hw6]; exact drewKeep (nineKeep HB5.out)⟩
    have HW6 : Aside0 (Below w.heap.size w w6.drew) := ⟨by rw [← hw6]; exact belowDrew (below9 HBW.out)⟩
    have HFIN : Aside0 (ZTop w w6.drew bs n .cut (.returned (.tuple #[.agg #[.int .i8 a0, .bool a1, .int .i64 a2, .float .f64 a3, .slice A4 n4 k4, .int .i8 a5, .int .i8 a6, .slice A7 n7 k7, .slice A8 n8 k8], .int .i64 (o5 : Int), erV q]))) := ⟨⟨(fun y r h => nomatch h), fun _ => ⟨_, q, (o5 : Int), ⟨_, _, _, _, _, _, _, _, _, _, _, _, _, _, _, rfl⟩, rfl⟩, HW6.out⟩⟩
    rw [← hw6] at HFIN
    clear hw6 HN6 HW6
    go_region_with ((first
        | (go_at_call 92; (with_reducible refine (bytesRead_calls _ _ A n c o5 _ HRD.out).mono ?_); rintro e w6 ⟨rfl, rfl⟩)
        | fail "no arm"))
    all_goals go_wp2_with (fail)
    all_goals
      refine bodyPost_ret (ret_cell_tmp2 rfl _ _ w.heap.size 60 #[_, _, _, _, _, _, _, _, _] (0, 0) _ rfl ((nineSet HB5.out _ _ _ _ _ _ _ _ _).drew).out Tryd.underlying60 rfl (by kernel_rfl)) rfl ?_
      exact HFIN.out
  | ok x r =>
    go_wp2_with (first
      | (go_at_call 34; (with_reducible refine (newReader_calls _ A n c _).mono ?_); rintro e w3 ⟨rfl, rfl⟩; rw [HW.out])
      | (go_at_call 35; (with_reducible refine HZ3.out.mono ?_); rintro e w4 HZR; obtain ⟨o5, hr, ho5, hz⟩ := HZR.ok x r rfl; obtain ⟨xcs, rfl, hxin⟩ := hz.out; have HXI := Aside0.mk hxin; obtain ⟨A4, n4, k4, A7, n7, k7, A8, n8, k8, hxe⟩ := openV hxin; have HXE := Aside0.mk hxe; rw [hxe]; clear hxe hxin; have HG := Aside0.mk hz.went; have hV4 := keepBlk HV3.out hz.went.grown (by omega); have HV4 := Aside0.mk hV4; have HRR := Aside0.mk hr; obtain ⟨c0, c1, c2, c3, c4, c5, c6, c7, c8, hfz⟩ := nine hV4; clear hV4 hz hr))
    obtain ⟨w5, hw5⟩ : ∃ W5, (((((((((w4.setCell ⟨w.heap.size, 0, none⟩ (.int .i8 x.d.ty)).setCell ⟨w.heap.size, 1, none⟩ (.bool x.d.bo)).setCell ⟨w.heap.size, 2, none⟩ (.int .i64 x.d.n)).setCell ⟨w.heap.size, 3, none⟩ (.float .f64 x.d.bits)).setCell ⟨w.heap.size, 4, none⟩ (.slice A4 n4 k4)).setCell ⟨w.heap.size, 5, none⟩ (.int .i8 x.d.ky)).setCell ⟨w.heap.size, 6, none⟩ (.int .i8 x.d.el)).setCell ⟨w.heap.size, 7, none⟩ (.slice A7 n7 k7)).setCell ⟨w.heap.size, 8, none⟩ (.slice A8 n8 k8)) = W5 := ⟨_, rfl⟩
    have HB5 : Aside0 (Blk w5 w.heap.size #[.int .i8 x.d.ty, .bool x.d.bo, .int .i64 x.d.n, .float .f64 x.d.bits, .slice A4 n4 k4, .int .i8 x.d.ky, .int .i8 x.d.el, .slice A7 n7 k7, .slice A8 n8 k8] 60) := ⟨by rw [← hw5]; exact nineSet HV4.out _ _ _ _ _ _ _ _ _⟩
    have HBW : Aside0 (Below w.heap.size w w5) := ⟨by rw [← hw5]; exact below9 (HB3.out.trans (below_grown HG.out.grown (by omega) HB3.out.size))⟩
    have HK5 : Aside0 (∀ b, b ≠ w.heap.size → w5.heap[b]? = w4.heap[b]?) := ⟨fun b hne => by rw [← hw5, Below.heap_setCell _ _ _ b hne, Below.heap_setCell _ _ _ b hne, Below.heap_setCell _ _ _ b hne, Below.heap_setCell _ _ _ b hne, Below.heap_setCell _ _ _ b hne, Below.heap_setCell _ _ _ b hne, Below.heap_setCell _ _ _ b hne, Below.heap_setCell _ _ _ b hne, Below.heap_setCell _ _ _ b hne]⟩
    have HS5 : Aside0 (w5.heap.size = w4.heap.size) := ⟨by rw [← hw5]; simp [World.setCell]⟩
    have HR5 : Aside0 (RdAt w5 (w.heap.size + 1 + 1) (.pointer (some ⟨w.heap.size + 1, 0, none⟩)) A n c o5) := ⟨by rw [← hw5]; exact ⟨far9 HG.out.rd.blk (by omega) _ _ _ _ _ _ _ _ _, HG.out.rd.apart⟩⟩
    rw [hw5]
    clear hw5 c0 c1 c2 c3 c4 c5 c6 c7 c8 hfz
    obtain ⟨s0, s1, s2, s3, s4, s5, s6, s7, s8, sz⟩ := nine HB5.out
    have HRD : Aside0 (RdAt w5.drew (w.heap.size + 1 + 1) (.pointer (some ⟨w.heap.size + 1, 0, none⟩)) A n c o5) := ⟨⟨HR5.out.blk.drew, HR5.out.apart⟩⟩
    obtain ⟨w6, hw6⟩ : ∃ W6, (((((((((w5.setCell ⟨w.heap.size, 0, none⟩ (.int .i8 x.d.ty)).setCell ⟨w.heap.size, 1, none⟩ (.bool x.d.bo)).setCell ⟨w.heap.size, 2, none⟩ (.int .i64 x.d.n)).setCell ⟨w.heap.size, 3, none⟩ (.float .f64 x.d.bits)).setCell ⟨w.heap.size, 4, none⟩ (.slice A4 n4 k4)).setCell ⟨w.heap.size, 5, none⟩ (.int .i8 x.d.ky)).setCell ⟨w.heap.size, 6, none⟩ (.int .i8 x.d.el)).setCell ⟨w.heap.size, 7, none⟩ (.slice A7 n7 k7)).setCell ⟨w.heap.size, 8, none⟩ (.slice A8 n8 k8)) = W6 := ⟨_, rfl⟩
    have HN6 : Aside0 (w6.drew.heap.size = w5.heap.size ∧ ∀ b : Nat, w6.drew.heap[b]? = w5.heap[b]?) := ⟨by rw [← hw6]; exact drewKeep (nineKeep HB5.out)⟩
    have HW6 : Aside0 (Below w.heap.size w w6.drew) := ⟨by rw [← hw6]; exact belowDrew (below9 HBW.out)⟩
    have HFIN : Aside0 (ZTop w w6.drew bs n (.ok x r) (.returned (.tuple #[.agg #[.int .i8 x.d.ty, .bool x.d.bo, .int .i64 x.d.n, .float .f64 x.d.bits, .slice A4 n4 k4, .int .i8 x.d.ky, .int .i8 x.d.el, .slice A7 n7 k7, .slice A8 n8 k8], .int .i64 (o5 : Nat), .nilIface]))) := ⟨⟨fun y r' h => by
      obtain ⟨rfl, rfl⟩ := Res.ok.inj h
      have hin := HXI.out
      rw [HXE.out] at hin
      refine ⟨o5, [.int .i8 x.d.ty, .bool x.d.bo, .int .i64 x.d.n, .float .f64 x.d.bits, .slice A4 n4 k4, .int .i8 x.d.ky, .int .i8 x.d.el, .slice A7 n7 k7, .slice A8 n8 k8], HRR.out, ho5, rfl, inKeep hin (fun b hb => (HN6.out.2 b).trans (HK5.out b hb)) (HN6.out.1.trans HS5.out) (by have := HWS.out; omega) ?_⟩
      have := HG.out.grown.size
      have := HWS.out
      omega, (fun h => nomatch h), HW6.out⟩⟩
    rw [← hw6] at HFIN
    clear hw6 HN6 HW6
    go_region_with ((first
        | (go_at_call 92; (with_reducible refine (bytesRead_calls _ _ A n c o5 _ HRD.out).mono ?_); rintro e w6 ⟨rfl, rfl⟩)
        | fail "no arm"))
    all_goals go_wp2_with (fail)
    all_goals
      refine bodyPost_ret (ret_cell_tmp2 rfl _ _ w.heap.size 60 #[_, _, _, _, _, _, _, _, _] (0, 0) _ rfl ((nineSet HB5.out _ _ _ _ _ _ _ _ _).drew).out Tryd.underlying60 rfl (by kernel_rfl)) rfl ?_
      exact HFIN.out
end Go.Proofs.YtcboegodjlfmnaaDoor.Tzv
