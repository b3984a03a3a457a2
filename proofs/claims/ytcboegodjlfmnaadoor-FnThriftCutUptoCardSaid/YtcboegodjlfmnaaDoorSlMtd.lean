import Derived.Test.YtcboegodjlfmnaaDoorSlMtc
import Derived.Test.YtcboegodjlfmnaaDoorSlMtb
import Derived.Deep.RegionHeld3
import Derived.Deep.RegionLaw
namespace Go.Proofs.YtcboegodjlfmnaaDoor.Tzl
open Go.Proofs.YtcboegodjlfmnaaDoor.Trh Go.Proofs.YtcboegodjlfmnaaDoor.Trn Go.Proofs.YtcboegodjlfmnaaDoor.Trm Go.Proofs.YtcboegodjlfmnaaDoor.Tuv Go.Proofs.YtcboegodjlfmnaaDoor.Tpa Go.Proofs.YtcboegodjlfmnaaDoor.Duv Go.Proofs.YtcboegodjlfmnaaDoor.Dpu Go.Proofs.YtcboegodjlfmnaaDoor.Pak Go.Proofs.YtcboegodjlfmnaaDoor.Buf Go.Proofs.YtcboegodjlfmnaaDoor.Fit Go.Proofs.YtcboegodjlfmnaaDoor.Bit Go.Proofs.YtcboegodjlfmnaaDoor.Wrd Go.Proofs.YtcboegodjlfmnaaDoor.Spl Go.Proofs.YtcboegodjlfmnaaDoor.Str Go.Proofs.YtcboegodjlfmnaaDoor.Flt Go.Proofs.YtcboegodjlfmnaaDoor.Owe Go.Proofs.YtcboegodjlfmnaaDoor.Num Go.Proofs.YtcboegodjlfmnaaDoor.Le Go.Proofs.YtcboegodjlfmnaaDoor.Lst Go.Proofs.YtcboegodjlfmnaaDoor.Aid Go.RowKit Go.Proofs.YtcboegodjlfmnaaDoorW.PrintWords Go.Proofs.YtcboegodjlfmnaaDoorW.PrintLast Go.Proofs.YtcboegodjlfmnaaDoorW.PrintMore
set_option linter.unusedVariables false
set_option linter.unusedSimpArgs false
theorem m_ReadInt8 (k : Nat) (v : Value) (W : World) : (Go.method (k + 1) 103 v "ReadInt8").run Tryd.prog W = .ok (102, v) W := by kernel_rfl
theorem m_ReadInt16 (k : Nat) (v : Value) (W : World) : (Go.method (k + 1) 103 v "ReadInt16").run Tryd.prog W = .ok (99, v) W := by kernel_rfl
theorem m_ReadInt32 (k : Nat) (v : Value) (W : World) : (Go.method (k + 1) 103 v "ReadInt32").run Tryd.prog W = .ok (100, v) W := by kernel_rfl
theorem m_ReadInt64 (k : Nat) (v : Value) (W : World) : (Go.method (k + 1) 103 v "ReadInt64").run Tryd.prog W = .ok (101, v) W := by kernel_rfl
theorem m_ReadFloat64 (k : Nat) (v : Value) (W : World) : (Go.method (k + 1) 103 v "ReadFloat64").run Tryd.prog W = .ok (98, v) W := by kernel_rfl
theorem m_ReadBytes (k : Nat) (v : Value) (W : World) : (Go.method (k + 1) 103 v "ReadBytes").run Tryd.prog W = .ok (96, v) W := by kernel_rfl
theorem m_ReadList (k : Nat) (v : Value) (W : World) : (Go.method (k + 1) 103 v "ReadList").run Tryd.prog W = .ok (104, v) W := by kernel_rfl
theorem m_ReadMap (k : Nat) (v : Value) (W : World) : (Go.method (k + 1) 103 v "ReadMap").run Tryd.prog W = .ok (105, v) W := by kernel_rfl
theorem m_ReadField (k : Nat) (v : Value) (W : World) : (Go.method (k + 1) 103 v "ReadField").run Tryd.prog W = .ok (97, v) W := by kernel_rfl
theorem m_BytesRead (k : Nat) (v : Value) (W : World) : (Go.method (k + 1) 103 v "BytesRead").run Tryd.prog W = .ok (92, v) W := by kernel_rfl
def flV : Fl := ⟨.i8, .i16, fun b => .float .f64 b⟩
def Pn (B0 g base hi : Nat) (b : Nat) : Prop := (b < B0 ∧ b ≠ g) ∨ (base ≤ b ∧ b < hi)
abbrev rdV (g : Nat) : Value := .iface 103 (.pointer (some ⟨g, 0, none⟩))
structure ZOk (w w' : World) (g : Nat) (p : Value) (A : Option Addr) (n c B0 : Nat) (x : N) (o' : Nat) (e : Ending) : Prop where
  mk :: (out : ∃ cs, e = .returned (.tuple #[.agg cs.toArray, .nilIface]) ∧ x.In flV w' (Pn B0 g w.heap.size w'.heap.size) cs) (went : Went w w' g p A n c o')
def Sh9 (cs : Array Value) : Prop := ∃ (a : Int) (b : Bool) (m : Int) (d : Nat) (A1 : Option Addr) (n1 c1 : Nat) (k e : Int) (A2 : Option Addr) (n2 c2 : Nat) (A3 : Option Addr) (n3 c3 : Nat), cs = #[.int .i8 a, .bool b, .int .i64 m, .float .f64 d, .slice A1 n1 c1, .int .i8 k, .int .i8 e, .slice A2 n2 c2, .slice A3 n3 c3]
structure ZCut (w w' : World) (g : Nat) (p1 p2 : Addr) (e : Ending) : Prop where
  mk :: (out : ∃ (cs : Array Value) (q : Addr), Sh9 cs ∧ (q = p1 ∨ q = p2) ∧ e = .returned (.tuple #[.agg cs, erV q])) (grown : w.grownBy w' (some g)) (rds : RdS w w' g)
theorem nine {w : World} {g t : Nat} {a0 a1 a2 a3 a4 a5 a6 a7 a8 : Value} (h : Blk w g #[a0, a1, a2, a3, a4, a5, a6, a7, a8] t) :
    w.cell? ⟨g, 0, none⟩ = some a0 ∧ w.cell? ⟨g, 1, none⟩ = some a1 ∧ w.cell? ⟨g, 2, none⟩ = some a2 ∧ w.cell? ⟨g, 3, none⟩ = some a3 ∧ w.cell? ⟨g, 4, none⟩ = some a4 ∧ w.cell? ⟨g, 5, none⟩ = some a5 ∧ w.cell? ⟨g, 6, none⟩ = some a6 ∧ w.cell? ⟨g, 7, none⟩ = some a7 ∧ w.cell? ⟨g, 8, none⟩ = some a8 ∧ ∀ j, w.frozen? ⟨g, j, none⟩ = false :=
  ⟨h.cell (j := 0) rfl, h.cell (j := 1) rfl, h.cell (j := 2) rfl, h.cell (j := 3) rfl, h.cell (j := 4) rfl, h.cell (j := 5) rfl, h.cell (j := 6) rfl, h.cell (j := 7) rfl, h.cell (j := 8) rfl, h.free⟩
theorem nineSet {w : World} {g t : Nat} {a0 a1 a2 a3 a4 a5 a6 a7 a8 : Value} (h : Blk w g #[a0, a1, a2, a3, a4, a5, a6, a7, a8] t) (x0 x1 x2 x3 x4 x5 x6 x7 x8 : Value) : Blk (((((((((w.setCell ⟨g, 0, none⟩ x0).setCell ⟨g, 1, none⟩ x1).setCell ⟨g, 2, none⟩ x2).setCell ⟨g, 3, none⟩ x3).setCell ⟨g, 4, none⟩ x4).setCell ⟨g, 5, none⟩ x5).setCell ⟨g, 6, none⟩ x6).setCell ⟨g, 7, none⟩ x7).setCell ⟨g, 8, none⟩ x8) g #[x0, x1, x2, x3, x4, x5, x6, x7, x8] t := by
  have := (((((((((h.set 0 x0).set 1 x1).set 2 x2).set 3 x3).set 4 x4).set 5 x5).set 6 x6).set 7 x7).set 8 x8)
  simpa using this
theorem grownNine {w w1 : World} {row : Option Nat} {g : Nat} (h : w.grownBy w1 row) (hb : w.heap.size ≤ g) (x0 x1 x2 x3 x4 x5 x6 x7 x8 : Value) : w.grownBy (((((((((w1.setCell ⟨g, 0, none⟩ x0).setCell ⟨g, 1, none⟩ x1).setCell ⟨g, 2, none⟩ x2).setCell ⟨g, 3, none⟩ x3).setCell ⟨g, 4, none⟩ x4).setCell ⟨g, 5, none⟩ x5).setCell ⟨g, 6, none⟩ x6).setCell ⟨g, 7, none⟩ x7).setCell ⟨g, 8, none⟩ x8) row :=
  grownSetNew (grownSetNew (grownSetNew (grownSetNew (grownSetNew (grownSetNew (grownSetNew (grownSetNew (grownSetNew h hb _) hb _) hb _) hb _) hb _) hb _) hb _) hb _) hb _
theorem wentNine {w w1 : World} {r : Nat} {p : Value} {A : Option Addr} {n c o g : Nat} (h : Went w w1 r p A n c o) (hb : w.heap.size ≤ g) (hr : r ≠ g) (x0 x1 x2 x3 x4 x5 x6 x7 x8 : Value) : Went w (((((((((w1.setCell ⟨g, 0, none⟩ x0).setCell ⟨g, 1, none⟩ x1).setCell ⟨g, 2, none⟩ x2).setCell ⟨g, 3, none⟩ x3).setCell ⟨g, 4, none⟩ x4).setCell ⟨g, 5, none⟩ x5).setCell ⟨g, 6, none⟩ x6).setCell ⟨g, 7, none⟩ x7).setCell ⟨g, 8, none⟩ x8) r p A n c o :=
  ((((((((h.setNew hb hr _).setNew hb hr _).setNew hb hr _).setNew hb hr _).setNew hb hr _).setNew hb hr _).setNew hb hr _).setNew hb hr _).setNew hb hr _
theorem rdsNine {w w1 : World} {g b0 : Nat} (h : RdS w w1 g) (hne : g ≠ b0) (x0 x1 x2 x3 x4 x5 x6 x7 x8 : Value) : RdS w (((((((((w1.setCell ⟨b0, 0, none⟩ x0).setCell ⟨b0, 1, none⟩ x1).setCell ⟨b0, 2, none⟩ x2).setCell ⟨b0, 3, none⟩ x3).setCell ⟨b0, 4, none⟩ x4).setCell ⟨b0, 5, none⟩ x5).setCell ⟨b0, 6, none⟩ x6).setCell ⟨b0, 7, none⟩ x7).setCell ⟨b0, 8, none⟩ x8) g :=
  rdsSet (rdsSet (rdsSet (rdsSet (rdsSet (rdsSet (rdsSet (rdsSet (rdsSet (h) hne _ _) hne _ _) hne _ _) hne _ _) hne _ _) hne _ _) hne _ _) hne _ _) hne _ _
theorem s8_bd (b : Int) (h0 : 0 ≤ b) (h1 : b < 256) : -128 ≤ s8 b ∧ s8 b < 128 := by
  unfold s8; by_cases c : b < 128
  · rw [if_pos c]; omega
  · rw [if_neg c]; omega
set_option maxHeartbeats 8000000 in
set_option maxRecDepth 100000 in
theorem zz3_ok (g : Nat) (p : Value) (A : Option Addr) (n c o B0 : Nat) (bs : List Int) (dd k : Nat) (x : N) (r : List Int) (w : World) (hR : RdAt w g p A n c o) (hC : (Kd.int .u8).C w A n bs) (hc : n ≤ c) (hn : n ≤ 2147483647) (ho : o ≤ n) (hb : bytesB bs = true) (hd : dd ≤ 64) (hB0 : ∀ a, A = some a → a.block < B0) (hB9 : B0 ≤ w.heap.size)
    (h : thP (k + 1) 3 (bs.drop o) = .ok x r) :
    ∃ o', o ≤ o' ∧ o' ≤ n ∧ r = bs.drop o' ∧ Calls Tryd.prog 35 #[rdV g, .int .i8 3, .int .i64 dd] w fun e w' => ZOk w w' g p A n c B0 x o' e := by
  unfold thP at h
  rw [if_pos rfl] at h
  obtain ⟨b, r1, h1, h2⟩ := bind_ok h
  injection h2 with h3 h4
  subst h3 h4
  have HR := Aside0.mk hR
  have HC := Aside0.mk hC
  have hgl := hR.lt
  have hln : bs.length = n := hC.1
  have qd : decide (64 < (dd : Int)) = false := decide_eq_false (by omega)
  have qd2 : decide (64 < dd) = false := decide_eq_false (by omega)
  obtain ⟨k1, k2, k3⟩ := byte_ok h1
  subst k2
  refine ⟨o + 1, by omega, by omega, k3, ?_⟩
  have hby := bytesB_rd hb (i := (o : Int)) (k := o) rfl k1
  unfold byt at hby
  have HM := Aside0.mk fun (W : World) (hW : RdAt W g p A n c o) (hCW : (Kd.int .u8).C W A n bs) => readInt8_ok g p A n c o bs W hW hCW hb hn (by omega)
  obtain ⟨b, hbb⟩ : ∃ b, rd bs (o : Nat) = b := ⟨_, rfl⟩
  rw [hbb] at HM hby ⊢
  have hs := s8_bd b hby.1 hby.2
  obtain ⟨y, hy⟩ : ∃ y, s8 b = y := ⟨_, rfl⟩
  rw [hy] at HM hs ⊢
  clear hR hC hb h h1 k3 hbb hy hby k1
  have hm := m_ReadInt8
  have hst := fun (f : Nat) (a : Addr) (W : World) m => run_store Tryd.prog W a (.float .f64 f) m rfl
  go_enter Tryd.func35, Tryd.ntmps35
  go_wp2_with (first
    | (go_at_call 102; go_loud (with_reducible refine (HM.out _ (HR.out.alloc _) (Kd.C_alloc HC.out _)).mono ?_); rintro e w1 ⟨rfl, HW⟩; have hB := keepBlk (Blk.new w #[.int .i8 3, .bool false, .int .i64 0, .float .f64 0, .slice none 0 0, .int .i8 0, .int .i8 0, .slice none 0 0, .slice none 0 0] 60) HW.grown (by omega); have HB := Aside0.mk hB; obtain ⟨c0, c1, c2, c3, c4, c5, c6, c7, c8, hfz⟩ := nine hB; clear hB))
  have HB3 : Blk (w1.setCell ⟨w.heap.size, 2, none⟩ (.int .i64 y)) w.heap.size _ _ := HB.out.set 2 (.int .i64 y)
  refine bodyPost_ret (ret_cell_tmp rfl _ _ w.heap.size 60 #[_, _, _, _, _, _, _, _, _] (0, 0) _ rfl (nineSet HB3 _ _ _ _ _ _ _ _ _).out Tryd.underlying60 rfl (by kernel_rfl)) rfl ?_
  refine ⟨⟨_, rfl, ⟨.slice none 0 0, .slice none 0 0, .slice none 0 0, [], [], rfl, bytesAt_nil _ _, lies_nil _ _, rfl, lies_nil _ _, rfl⟩⟩, ?_⟩
  exact wentNine (HW.ofAlloc.setNew (Nat.le_refl _) (by omega) _) (Nat.le_refl _) (by omega) _ _ _ _ _ _ _ _ _
set_option maxHeartbeats 8000000 in
set_option maxRecDepth 100000 in
theorem zz3_cut (g : Nat) (p : Value) (A : Option Addr) (n c o B0 : Nat) (bs : List Int) (dd k : Nat) (p1 p2 : Addr) (w : World) (hR : RdAt w g p A n c o) (hC : (Kd.int .u8).C w A n bs) (hc : n ≤ c) (hn : n ≤ 2147483647) (ho : o ≤ n) (hb : bytesB bs = true) (hd : dd ≤ 64) (hE : Eofs w g p1 p2)
    (h : thP (k + 1) 3 (bs.drop o) = .cut) :
    Calls Tryd.prog 35 #[rdV g, .int .i8 3, .int .i64 dd] w fun e w' => ZCut w w' g p1 p2 e := by
  unfold thP at h
  rw [if_pos rfl] at h
  have HR := Aside0.mk hR
  have HC := Aside0.mk hC
  have hgl := hR.lt
  have hln : bs.length = n := hC.1
  have qd : decide (64 < (dd : Int)) = false := decide_eq_false (by omega)
  have qd2 : decide (64 < dd) = false := decide_eq_false (by omega)
  have h1 : byteP (bs.drop o) = .cut := by
    rcases bind_cut h with h1 | ⟨b, r1, h1, h2⟩
    · exact h1
    · cases h2
  have hob := byte_cut h1
  have HE := Aside0.mk hE
  have HM := Aside0.mk fun (W : World) (hW : RdAt W g p A n c o) (hEW : Eofs W g p1 p2) => readInt8_eof g p A n c o p1 p2 W hW hEW hn (by omega)
  clear hR hC hb h h1 hob hE
  have hm := m_ReadInt8
  have hst := fun (f : Nat) (a : Addr) (W : World) m => run_store Tryd.prog W a (.float .f64 f) m rfl
  go_enter Tryd.func35, Tryd.ntmps35
  go_wp2_with (first
    | (go_at_call 102; go_loud (with_reducible refine (HM.out _ (HR.out.alloc _) (HE.out.alloc _)).mono ?_); rintro e w1 ⟨rfl, HW⟩; have hB := keepBlk (Blk.new w #[.int .i8 3, .bool false, .int .i64 0, .float .f64 0, .slice none 0 0, .int .i8 0, .int .i8 0, .slice none 0 0, .slice none 0 0] 60) (drawn_grown HW g) (by omega); have HB := Aside0.mk hB; obtain ⟨c0, c1, c2, c3, c4, c5, c6, c7, c8, hfz⟩ := nine hB; clear hB))
  have HB3 : Blk (w1.setCell ⟨w.heap.size, 2, none⟩ (.int .i64 0)) w.heap.size _ _ := HB.out.set 2 (.int .i64 0)
  refine bodyPost_ret (ret_cell_tmp rfl _ _ w.heap.size 60 #[_, _, _, _, _, _, _, _, _] (0, 0) _ rfl (nineSet HB3 _ _ _ _ _ _ _ _ _).out Tryd.underlying60 rfl (by kernel_rfl)) rfl ?_
  exact ⟨⟨_, p1, ⟨_, _, _, _, _, _, _, _, _, _, _, _, _, _, _, rfl⟩, .inl rfl, rfl⟩, grownNine (grownSetNew (grown_ofAlloc (drawn_grown HW g)) (Nat.le_refl _) _) (Nat.le_refl _) _ _ _ _ _ _ _ _ _, rdsNine (rdsSet (rdsOfAlloc (rdsDrawn HW g)) (by omega) _ _) (by omega) _ _ _ _ _ _ _ _ _⟩
set_option maxHeartbeats 8000000 in
set_option maxRecDepth 100000 in
theorem zz4_ok (g : Nat) (p : Value) (A : Option Addr) (n c o B0 : Nat) (bs : List Int) (dd k : Nat) (x : N) (r : List Int) (w : World) (hR : RdAt w g p A n c o) (hC : (Kd.int .u8).C w A n bs) (hc : n ≤ c) (hn : n ≤ 2147483647) (ho : o ≤ n) (hb : bytesB bs = true) (hd : dd ≤ 64) (hB0 : ∀ a, A = some a → a.block < B0) (hB9 : B0 ≤ w.heap.size)
    (h : thP (k + 1) 4 (bs.drop o) = .ok x r) :
    ∃ o', o ≤ o' ∧ o' ≤ n ∧ r = bs.drop o' ∧ Calls Tryd.prog 35 #[rdV g, .int .i8 4, .int .i64 dd] w fun e w' => ZOk w w' g p A n c B0 x o' e := by
  unfold thP at h
  rw [if_neg (by omega)] at h; rw [if_pos rfl] at h
  obtain ⟨y, r1, h1, h2⟩ := bind_ok h
  injection h2 with h3 h4
  subst h3 h4
  have HR := Aside0.mk hR
  have HC := Aside0.mk hC
  have hgl := hR.lt
  have hln : bs.length = n := hC.1
  have qd : decide (64 < (dd : Int)) = false := decide_eq_false (by omega)
  have qd2 : decide (64 < dd) = false := decide_eq_false (by omega)
  obtain ⟨oo, e1, e2, e3⟩ := good_off (good_zig _) h1 (by omega)
  refine ⟨oo, e1, by omega, e3, ?_⟩
  have HM := Aside0.mk fun (W : World) (hW : RdAt W g p A n c o) (hCW : (Kd.int .u8).C W A n bs) => by
    obtain ⟨o', d1, d2, d3, d4⟩ := readInt16_ok g p A n c o bs r1 y W hW hCW hc hn ho hb h1
    obtain rfl := off_uniq d3 e3 (by omega) (by omega)
    exact d4
  obtain ⟨z, _, _, hm1, hm2⟩ := zig_ok h1
  clear hR hC hb h h1 e3
  have hm := m_ReadInt16
  have hst := fun (f : Nat) (a : Addr) (W : World) m => run_store Tryd.prog W a (.float .f64 f) m rfl
  go_enter Tryd.func35, Tryd.ntmps35
  go_wp2_with (first
    | (go_at_call 99; go_loud (with_reducible refine (HM.out _ (HR.out.alloc _) (Kd.C_alloc HC.out _)).mono ?_); rintro e w1 ⟨rfl, HW⟩; have hB := keepBlk (Blk.new w #[.int .i8 4, .bool false, .int .i64 0, .float .f64 0, .slice none 0 0, .int .i8 0, .int .i8 0, .slice none 0 0, .slice none 0 0] 60) HW.grown (by omega); have HB := Aside0.mk hB; obtain ⟨c0, c1, c2, c3, c4, c5, c6, c7, c8, hfz⟩ := nine hB; clear hB))
  have HB3 : Blk (w1.setCell ⟨w.heap.size, 2, none⟩ (.int .i64 y)) w.heap.size _ _ := HB.out.set 2 (.int .i64 y)
  refine bodyPost_ret (ret_cell_tmp rfl _ _ w.heap.size 60 #[_, _, _, _, _, _, _, _, _] (0, 0) _ rfl (nineSet HB3 _ _ _ _ _ _ _ _ _).out Tryd.underlying60 rfl (by kernel_rfl)) rfl ?_
  refine ⟨⟨_, rfl, ⟨.slice none 0 0, .slice none 0 0, .slice none 0 0, [], [], rfl, bytesAt_nil _ _, lies_nil _ _, rfl, lies_nil _ _, rfl⟩⟩, ?_⟩
  exact wentNine (HW.ofAlloc.setNew (Nat.le_refl _) (by omega) _) (Nat.le_refl _) (by omega) _ _ _ _ _ _ _ _ _
set_option maxHeartbeats 8000000 in
set_option maxRecDepth 100000 in
theorem zz4_cut (g : Nat) (p : Value) (A : Option Addr) (n c o B0 : Nat) (bs : List Int) (dd k : Nat) (p1 p2 : Addr) (w : World) (hR : RdAt w g p A n c o) (hC : (Kd.int .u8).C w A n bs) (hc : n ≤ c) (hn : n ≤ 2147483647) (ho : o ≤ n) (hb : bytesB bs = true) (hd : dd ≤ 64) (hE : Eofs w g p1 p2)
    (h : thP (k + 1) 4 (bs.drop o) = .cut) :
    Calls Tryd.prog 35 #[rdV g, .int .i8 4, .int .i64 dd] w fun e w' => ZCut w w' g p1 p2 e := by
  unfold thP at h
  rw [if_neg (by omega)] at h; rw [if_pos rfl] at h
  have HR := Aside0.mk hR
  have HC := Aside0.mk hC
  have hgl := hR.lt
  have hln : bs.length = n := hC.1
  have qd : decide (64 < (dd : Int)) = false := decide_eq_false (by omega)
  have qd2 : decide (64 < dd) = false := decide_eq_false (by omega)
  have h1 : zigP 32768 (bs.drop o) = .cut := by
    rcases bind_cut h with h1 | ⟨b, r1, h1, h2⟩
    · exact h1
    · cases h2
  have HE := Aside0.mk hE
  have HM := Aside0.mk fun (W : World) (hW : RdAt W g p A n c o) (hEW : Eofs W g p1 p2) (hCW : (Kd.int .u8).C W A n bs) => readInt16_cut g p A n c o bs p1 p2 W hW hEW hCW hc hn ho hb h1
  clear hR hC hb h h1 hE
  have hm := m_ReadInt16
  have hst := fun (f : Nat) (a : Addr) (W : World) m => run_store Tryd.prog W a (.float .f64 f) m rfl
  go_enter Tryd.func35, Tryd.ntmps35
  go_wp2_with (first
    | (go_at_call 99; go_loud (with_reducible refine (HM.out _ (HR.out.alloc _) (HE.out.alloc _) (Kd.C_alloc HC.out _)).mono ?_); rintro e w1 ⟨rfl, HW⟩; have hB := keepBlk (Blk.new w #[.int .i8 4, .bool false, .int .i64 0, .float .f64 0, .slice none 0 0, .int .i8 0, .int .i8 0, .slice none 0 0, .slice none 0 0] 60) (drawn_grown HW g) (by omega); have HB := Aside0.mk hB; obtain ⟨c0, c1, c2, c3, c4, c5, c6, c7, c8, hfz⟩ := nine hB; clear hB))
  have HB3 : Blk (w1.setCell ⟨w.heap.size, 2, none⟩ (.int .i64 0)) w.heap.size _ _ := HB.out.set 2 (.int .i64 0)
  refine bodyPost_ret (ret_cell_tmp rfl _ _ w.heap.size 60 #[_, _, _, _, _, _, _, _, _] (0, 0) _ rfl (nineSet HB3 _ _ _ _ _ _ _ _ _).out Tryd.underlying60 rfl (by kernel_rfl)) rfl ?_
  exact ⟨⟨_, p2, ⟨_, _, _, _, _, _, _, _, _, _, _, _, _, _, _, rfl⟩, .inr rfl, rfl⟩, grownNine (grownSetNew (grown_ofAlloc (drawn_grown HW g)) (Nat.le_refl _) _) (Nat.le_refl _) _ _ _ _ _ _ _ _ _, rdsNine (rdsSet (rdsOfAlloc (rdsDrawn HW g)) (by omega) _ _) (by omega) _ _ _ _ _ _ _ _ _⟩
set_option maxHeartbeats 8000000 in
set_option maxRecDepth 100000 in
theorem zz5_ok (g : Nat) (p : Value) (A : Option Addr) (n c o B0 : Nat) (bs : List Int) (dd k : Nat) (x : N) (r : List Int) (w : World) (hR : RdAt w g p A n c o) (hC : (Kd.int .u8).C w A n bs) (hc : n ≤ c) (hn : n ≤ 2147483647) (ho : o ≤ n) (hb : bytesB bs = true) (hd : dd ≤ 64) (hB0 : ∀ a, A = some a → a.block < B0) (hB9 : B0 ≤ w.heap.size)
    (h : thP (k + 1) 5 (bs.drop o) = .ok x r) :
    ∃ o', o ≤ o' ∧ o' ≤ n ∧ r = bs.drop o' ∧ Calls Tryd.prog 35 #[rdV g, .int .i8 5, .int .i64 dd] w fun e w' => ZOk w w' g p A n c B0 x o' e := by
  unfold thP at h
  rw [if_neg (by omega)] at h; rw [if_neg (by omega)] at h; rw [if_pos rfl] at h
  obtain ⟨y, r1, h1, h2⟩ := bind_ok h
  injection h2 with h3 h4
  subst h3 h4
  have HR := Aside0.mk hR
  have HC := Aside0.mk hC
  have hgl := hR.lt
  have hln : bs.length = n := hC.1
  have qd : decide (64 < (dd : Int)) = false := decide_eq_false (by omega)
  have qd2 : decide (64 < dd) = false := decide_eq_false (by omega)
  obtain ⟨oo, e1, e2, e3⟩ := good_off (good_zig _) h1 (by omega)
  refine ⟨oo, e1, by omega, e3, ?_⟩
  have HM := Aside0.mk fun (W : World) (hW : RdAt W g p A n c o) (hCW : (Kd.int .u8).C W A n bs) => by
    obtain ⟨o', d1, d2, d3, d4⟩ := readInt32_ok g p A n c o bs r1 y W hW hCW hc hn ho hb h1
    obtain rfl := off_uniq d3 e3 (by omega) (by omega)
    exact d4
  obtain ⟨z, _, _, hm1, hm2⟩ := zig_ok h1
  clear hR hC hb h h1 e3
  have hm := m_ReadInt32
  have hst := fun (f : Nat) (a : Addr) (W : World) m => run_store Tryd.prog W a (.float .f64 f) m rfl
  go_enter Tryd.func35, Tryd.ntmps35
  go_wp2_with (first
    | (go_at_call 100; go_loud (with_reducible refine (HM.out _ (HR.out.alloc _) (Kd.C_alloc HC.out _)).mono ?_); rintro e w1 ⟨rfl, HW⟩; have hB := keepBlk (Blk.new w #[.int .i8 5, .bool false, .int .i64 0, .float .f64 0, .slice none 0 0, .int .i8 0, .int .i8 0, .slice none 0 0, .slice none 0 0] 60) HW.grown (by omega); have HB := Aside0.mk hB; obtain ⟨c0, c1, c2, c3, c4, c5, c6, c7, c8, hfz⟩ := nine hB; clear hB))
  have HB3 : Blk (w1.setCell ⟨w.heap.size, 2, none⟩ (.int .i64 y)) w.heap.size _ _ := HB.out.set 2 (.int .i64 y)
  refine bodyPost_ret (ret_cell_tmp rfl _ _ w.heap.size 60 #[_, _, _, _, _, _, _, _, _] (0, 0) _ rfl (nineSet HB3 _ _ _ _ _ _ _ _ _).out Tryd.underlying60 rfl (by kernel_rfl)) rfl ?_
  refine ⟨⟨_, rfl, ⟨.slice none 0 0, .slice none 0 0, .slice none 0 0, [], [], rfl, bytesAt_nil _ _, lies_nil _ _, rfl, lies_nil _ _, rfl⟩⟩, ?_⟩
  exact wentNine (HW.ofAlloc.setNew (Nat.le_refl _) (by omega) _) (Nat.le_refl _) (by omega) _ _ _ _ _ _ _ _ _
set_option maxHeartbeats 8000000 in
set_option maxRecDepth 100000 in
theorem zz5_cut (g : Nat) (p : Value) (A : Option Addr) (n c o B0 : Nat) (bs : List Int) (dd k : Nat) (p1 p2 : Addr) (w : World) (hR : RdAt w g p A n c o) (hC : (Kd.int .u8).C w A n bs) (hc : n ≤ c) (hn : n ≤ 2147483647) (ho : o ≤ n) (hb : bytesB bs = true) (hd : dd ≤ 64) (hE : Eofs w g p1 p2)
    (h : thP (k + 1) 5 (bs.drop o) = .cut) :
    Calls Tryd.prog 35 #[rdV g, .int .i8 5, .int .i64 dd] w fun e w' => ZCut w w' g p1 p2 e := by
  unfold thP at h
  rw [if_neg (by omega)] at h; rw [if_neg (by omega)] at h; rw [if_pos rfl] at h
  have HR := Aside0.mk hR
  have HC := Aside0.mk hC
  have hgl := hR.lt
  have hln : bs.length = n := hC.1
  have qd : decide (64 < (dd : Int)) = false := decide_eq_false (by omega)
  have qd2 : decide (64 < dd) = false := decide_eq_false (by omega)
  have h1 : zigP 2147483648 (bs.drop o) = .cut := by
    rcases bind_cut h with h1 | ⟨b, r1, h1, h2⟩
    · exact h1
    · cases h2
  have HE := Aside0.mk hE
  have HM := Aside0.mk fun (W : World) (hW : RdAt W g p A n c o) (hEW : Eofs W g p1 p2) (hCW : (Kd.int .u8).C W A n bs) => readInt32_cut g p A n c o bs p1 p2 W hW hEW hCW hc hn ho hb h1
  clear hR hC hb h h1 hE
  have hm := m_ReadInt32
  have hst := fun (f : Nat) (a : Addr) (W : World) m => run_store Tryd.prog W a (.float .f64 f) m rfl
  go_enter Tryd.func35, Tryd.ntmps35
  go_wp2_with (first
    | (go_at_call 100; go_loud (with_reducible refine (HM.out _ (HR.out.alloc _) (HE.out.alloc _) (Kd.C_alloc HC.out _)).mono ?_); rintro e w1 ⟨rfl, HW⟩; have hB := keepBlk (Blk.new w #[.int .i8 5, .bool false, .int .i64 0, .float .f64 0, .slice none 0 0, .int .i8 0, .int .i8 0, .slice none 0 0, .slice none 0 0] 60) (drawn_grown HW g) (by omega); have HB := Aside0.mk hB; obtain ⟨c0, c1, c2, c3, c4, c5, c6, c7, c8, hfz⟩ := nine hB; clear hB))
  have HB3 : Blk (w1.setCell ⟨w.heap.size, 2, none⟩ (.int .i64 0)) w.heap.size _ _ := HB.out.set 2 (.int .i64 0)
  refine bodyPost_ret (ret_cell_tmp rfl _ _ w.heap.size 60 #[_, _, _, _, _, _, _, _, _] (0, 0) _ rfl (nineSet HB3 _ _ _ _ _ _ _ _ _).out Tryd.underlying60 rfl (by kernel_rfl)) rfl ?_
  exact ⟨⟨_, p2, ⟨_, _, _, _, _, _, _, _, _, _, _, _, _, _, _, rfl⟩, .inr rfl, rfl⟩, grownNine (grownSetNew (grown_ofAlloc (drawn_grown HW g)) (Nat.le_refl _) _) (Nat.le_refl _) _ _ _ _ _ _ _ _ _, rdsNine (rdsSet (rdsOfAlloc (rdsDrawn HW g)) (by omega) _ _) (by omega) _ _ _ _ _ _ _ _ _⟩
set_option maxHeartbeats 8000000 in
set_option maxRecDepth 100000 in
theorem zz6_ok (g : Nat) (p : Value) (A : Option Addr) (n c o B0 : Nat) (bs : List Int) (dd k : Nat) (x : N) (r : List Int) (w : World) (hR : RdAt w g p A n c o) (hC : (Kd.int .u8).C w A n bs) (hc : n ≤ c) (hn : n ≤ 2147483647) (ho : o ≤ n) (hb : bytesB bs = true) (hd : dd ≤ 64) (hB0 : ∀ a, A = some a → a.block < B0) (hB9 : B0 ≤ w.heap.size)
    (h : thP (k + 1) 6 (bs.drop o) = .ok x r) :
    ∃ o', o ≤ o' ∧ o' ≤ n ∧ r = bs.drop o' ∧ Calls Tryd.prog 35 #[rdV g, .int .i8 6, .int .i64 dd] w fun e w' => ZOk w w' g p A n c B0 x o' e := by
  unfold thP at h
  rw [if_neg (by omega)] at h; rw [if_neg (by omega)] at h; rw [if_neg (by omega)] at h; rw [if_pos rfl] at h
  obtain ⟨y, r1, h1, h2⟩ := bind_ok h
  injection h2 with h3 h4
  subst h3 h4
  have HR := Aside0.mk hR
  have HC := Aside0.mk hC
  have hgl := hR.lt
  have hln : bs.length = n := hC.1
  have qd : decide (64 < (dd : Int)) = false := decide_eq_false (by omega)
  have qd2 : decide (64 < dd) = false := decide_eq_false (by omega)
  obtain ⟨oo, e1, e2, e3⟩ := good_off (good_zig _) h1 (by omega)
  refine ⟨oo, e1, by omega, e3, ?_⟩
  have HM := Aside0.mk fun (W : World) (hW : RdAt W g p A n c o) (hCW : (Kd.int .u8).C W A n bs) => by
    obtain ⟨o', d1, d2, d3, d4⟩ := readInt64_ok g p A n c o bs r1 y W hW hCW hc hn ho hb h1
    obtain rfl := off_uniq d3 e3 (by omega) (by omega)
    exact d4
  obtain ⟨z, _, _, hm1, hm2⟩ := zig_ok h1
  clear hR hC hb h h1 e3
  have hm := m_ReadInt64
  have hst := fun (f : Nat) (a : Addr) (W : World) m => run_store Tryd.prog W a (.float .f64 f) m rfl
  go_enter Tryd.func35, Tryd.ntmps35
  go_wp2_with (first
    | (go_at_call 101; go_loud (with_reducible refine (HM.out _ (HR.out.alloc _) (Kd.C_alloc HC.out _)).mono ?_); rintro e w1 ⟨rfl, HW⟩; have hB := keepBlk (Blk.new w #[.int .i8 6, .bool false, .int .i64 0, .float .f64 0, .slice none 0 0, .int .i8 0, .int .i8 0, .slice none 0 0, .slice none 0 0] 60) HW.grown (by omega); have HB := Aside0.mk hB; obtain ⟨c0, c1, c2, c3, c4, c5, c6, c7, c8, hfz⟩ := nine hB; clear hB))
  have HB3 : Blk (w1.setCell ⟨w.heap.size, 2, none⟩ (.int .i64 y)) w.heap.size _ _ := HB.out.set 2 (.int .i64 y)
  refine bodyPost_ret (ret_cell_tmp rfl _ _ w.heap.size 60 #[_, _, _, _, _, _, _, _, _] (0, 0) _ rfl (nineSet HB3 _ _ _ _ _ _ _ _ _).out Tryd.underlying60 rfl (by kernel_rfl)) rfl ?_
  refine ⟨⟨_, rfl, ⟨.slice none 0 0, .slice none 0 0, .slice none 0 0, [], [], rfl, bytesAt_nil _ _, lies_nil _ _, rfl, lies_nil _ _, rfl⟩⟩, ?_⟩
  exact wentNine (HW.ofAlloc.setNew (Nat.le_refl _) (by omega) _) (Nat.le_refl _) (by omega) _ _ _ _ _ _ _ _ _
set_option maxHeartbeats 8000000 in
set_option maxRecDepth 100000 in
theorem zz6_cut (g : Nat) (p : Value) (A : Option Addr) (n c o B0 : Nat) (bs : List Int) (dd k : Nat) (p1 p2 : Addr) (w : World) (hR : RdAt w g p A n c o) (hC : (Kd.int .u8).C w A n bs) (hc : n ≤ c) (hn : n ≤ 2147483647) (ho : o ≤ n) (hb : bytesB bs = true) (hd : dd ≤ 64) (hE : Eofs w g p1 p2)
    (h : thP (k + 1) 6 (bs.drop o) = .cut) :
    Calls Tryd.prog 35 #[rdV g, .int .i8 6, .int .i64 dd] w fun e w' => ZCut w w' g p1 p2 e := by
  unfold thP at h
  rw [if_neg (by omega)] at h; rw [if_neg (by omega)] at h; rw [if_neg (by omega)] at h; rw [if_pos rfl] at h
  have HR := Aside0.mk hR
  have HC := Aside0.mk hC
  have hgl := hR.lt
  have hln : bs.length = n := hC.1
  have qd : decide (64 < (dd : Int)) = false := decide_eq_false (by omega)
  have qd2 : decide (64 < dd) = false := decide_eq_false (by omega)
  have h1 : zigP 9223372036854775808 (bs.drop o) = .cut := by
    rcases bind_cut h with h1 | ⟨b, r1, h1, h2⟩
    · exact h1
    · cases h2
  have HE := Aside0.mk hE
  have HM := Aside0.mk fun (W : World) (hW : RdAt W g p A n c o) (hEW : Eofs W g p1 p2) (hCW : (Kd.int .u8).C W A n bs) => readInt64_cut g p A n c o bs p1 p2 W hW hEW hCW hc hn ho hb h1
  clear hR hC hb h h1 hE
  have hm := m_ReadInt64
  have hst := fun (f : Nat) (a : Addr) (W : World) m => run_store Tryd.prog W a (.float .f64 f) m rfl
  go_enter Tryd.func35, Tryd.ntmps35
  go_wp2_with (first
    | (go_at_call 101; go_loud (with_reducible refine (HM.out _ (HR.out.alloc _) (HE.out.alloc _) (Kd.C_alloc HC.out _)).mono ?_); rintro e w1 ⟨rfl, HW⟩; have hB := keepBlk (Blk.new w #[.int .i8 6, .bool false, .int .i64 0, .float .f64 0, .slice none 0 0, .int .i8 0, .int .i8 0, .slice none 0 0, .slice none 0 0] 60) (drawn_grown HW g) (by omega); have HB := Aside0.mk hB; obtain ⟨c0, c1, c2, c3, c4, c5, c6, c7, c8, hfz⟩ := nine hB; clear hB))
  have HB3 : Blk (w1.setCell ⟨w.heap.size, 2, none⟩ (.int .i64 0)) w.heap.size _ _ := HB.out.set 2 (.int .i64 0)
  refine bodyPost_ret (ret_cell_tmp rfl _ _ w.heap.size 60 #[_, _, _, _, _, _, _, _, _] (0, 0) _ rfl (nineSet HB3 _ _ _ _ _ _ _ _ _).out Tryd.underlying60 rfl (by kernel_rfl)) rfl ?_
  exact ⟨⟨_, p2, ⟨_, _, _, _, _, _, _, _, _, _, _, _, _, _, _, rfl⟩, .inr rfl, rfl⟩, grownNine (grownSetNew (grown_ofAlloc (drawn_grown HW g)) (Nat.le_refl _) _) (Nat.le_refl _) _ _ _ _ _ _ _ _ _, rdsNine (rdsSet (rdsOfAlloc (rdsDrawn HW g)) (by omega) _ _) (by omega) _ _ _ _ _ _ _ _ _⟩
set_option maxHeartbeats 8000000 in
set_option maxRecDepth 100000 in
theorem zz7_ok (g : Nat) (p : Value) (A : Option Addr) (n c o B0 : Nat) (bs : List Int) (dd k : Nat) (x : N) (r : List Int) (w : World) (hR : RdAt w g p A n c o) (hC : (Kd.int .u8).C w A n bs) (hc : n ≤ c) (hn : n ≤ 2147483647) (ho : o ≤ n) (hb : bytesB bs = true) (hd : dd ≤ 64) (hB0 : ∀ a, A = some a → a.block < B0) (hB9 : B0 ≤ w.heap.size)
    (h : thP (k + 1) 7 (bs.drop o) = .ok x r) :
    ∃ o', o ≤ o' ∧ o' ≤ n ∧ r = bs.drop o' ∧ Calls Tryd.prog 35 #[rdV g, .int .i8 7, .int .i64 dd] w fun e w' => ZOk w w' g p A n c B0 x o' e := by
  unfold thP at h
  rw [if_neg (by omega)] at h; rw [if_neg (by omega)] at h; rw [if_neg (by omega)] at h; rw [if_neg (by omega)] at h; rw [if_pos rfl] at h
  obtain ⟨l, r1, h1, h2⟩ := bind_ok h
  injection h2 with h3 h4
  subst h3 h4
  have HR := Aside0.mk hR
  have HC := Aside0.mk hC
  have hgl := hR.lt
  have hln : bs.length = n := hC.1
  have qd : decide (64 < (dd : Int)) = false := decide_eq_false (by omega)
  have qd2 : decide (64 < dd) = false := decide_eq_false (by omega)
  obtain ⟨t1, t2, t3⟩ := take_ok h1 (by omega)
  refine ⟨o + 8, by omega, by omega, t3, ?_⟩
  have HM := Aside0.mk fun (W : World) (hW : RdAt W g p A n c o) (hCW : (Kd.int .u8).C W A n bs) => readFloat_ok g p A n c o bs W hW hCW hc hb hn (by omega)
  rw [← t2] at HM
  obtain ⟨y, hy⟩ : ∃ y, eightN l = y := ⟨_, rfl⟩
  rw [hy] at HM ⊢
  clear hR hC hb h h1 t3 t2 hy
  have hm := m_ReadFloat64
  have hst := fun (f : Nat) (a : Addr) (W : World) m => run_store Tryd.prog W a (.float .f64 f) m rfl
  go_enter Tryd.func35, Tryd.ntmps35
  go_wp2_with (first
    | (go_at_call 98; go_loud (with_reducible refine (HM.out _ (HR.out.alloc _) (Kd.C_alloc HC.out _)).mono ?_); rintro e w1 ⟨rfl, HW⟩; have hB := keepBlk (Blk.new w #[.int .i8 7, .bool false, .int .i64 0, .float .f64 0, .slice none 0 0, .int .i8 0, .int .i8 0, .slice none 0 0, .slice none 0 0] 60) HW.grown (by omega); have HB := Aside0.mk hB; obtain ⟨c0, c1, c2, c3, c4, c5, c6, c7, c8, hfz⟩ := nine hB; clear hB))
  have HB3 : Blk (w1.setCell ⟨w.heap.size, 3, none⟩ (.float .f64 y)) w.heap.size _ _ := HB.out.set 3 (.float .f64 y)
  refine bodyPost_ret (ret_cell_tmp rfl _ _ w.heap.size 60 #[_, _, _, _, _, _, _, _, _] (0, 0) _ rfl (nineSet HB3 _ _ _ _ _ _ _ _ _).out Tryd.underlying60 rfl (by kernel_rfl)) rfl ?_
  refine ⟨⟨_, rfl, ⟨.slice none 0 0, .slice none 0 0, .slice none 0 0, [], [], rfl, bytesAt_nil _ _, lies_nil _ _, rfl, lies_nil _ _, rfl⟩⟩, ?_⟩
  exact wentNine (HW.ofAlloc.setNew (Nat.le_refl _) (by omega) _) (Nat.le_refl _) (by omega) _ _ _ _ _ _ _ _ _
set_option maxHeartbeats 8000000 in
set_option maxRecDepth 100000 in
theorem zz7_cut (g : Nat) (p : Value) (A : Option Addr) (n c o B0 : Nat) (bs : List Int) (dd k : Nat) (p1 p2 : Addr) (w : World) (hR : RdAt w g p A n c o) (hC : (Kd.int .u8).C w A n bs) (hc : n ≤ c) (hn : n ≤ 2147483647) (ho : o ≤ n) (hb : bytesB bs = true) (hd : dd ≤ 64) (hE : Eofs w g p1 p2)
    (h : thP (k + 1) 7 (bs.drop o) = .cut) :
    Calls Tryd.prog 35 #[rdV g, .int .i8 7, .int .i64 dd] w fun e w' => ZCut w w' g p1 p2 e := by
  unfold thP at h
  rw [if_neg (by omega)] at h; rw [if_neg (by omega)] at h; rw [if_neg (by omega)] at h; rw [if_neg (by omega)] at h; rw [if_pos rfl] at h
  have HR := Aside0.mk hR
  have HC := Aside0.mk hC
  have hgl := hR.lt
  have hln : bs.length = n := hC.1
  have qd : decide (64 < (dd : Int)) = false := decide_eq_false (by omega)
  have qd2 : decide (64 < dd) = false := decide_eq_false (by omega)
  have h1 : takeP 8 (bs.drop o) = .cut := by
    rcases bind_cut h with h1 | ⟨b, r1, h1, h2⟩
    · exact h1
    · cases h2
  have ht := take_cut h1 (by omega)
  have HE := Aside0.mk hE
  have HM := Aside0.mk fun (W : World) (hW : RdAt W g p A n c o) (hEW : Eofs W g p1 p2) => readFloat_cut g p A n c o p1 p2 W hW hEW hn ho (by omega)
  clear hR hC hb h h1 hE ht
  have hm := m_ReadFloat64
  have hst := fun (f : Nat) (a : Addr) (W : World) m => run_store Tryd.prog W a (.float .f64 f) m rfl
  go_enter Tryd.func35, Tryd.ntmps35
  go_wp2_with (first
    | (go_at_call 98; go_loud (with_reducible refine (HM.out _ (HR.out.alloc _) (HE.out.alloc _)).mono ?_); rintro e w1 ⟨rfl, HW⟩; have hB := keepBlk (Blk.new w #[.int .i8 7, .bool false, .int .i64 0, .float .f64 0, .slice none 0 0, .int .i8 0, .int .i8 0, .slice none 0 0, .slice none 0 0] 60) (drawn_grown HW g) (by omega); have HB := Aside0.mk hB; obtain ⟨c0, c1, c2, c3, c4, c5, c6, c7, c8, hfz⟩ := nine hB; clear hB))
  have HB3 : Blk (w1.setCell ⟨w.heap.size, 3, none⟩ (.float .f64 0)) w.heap.size _ _ := HB.out.set 3 (.float .f64 0)
  refine bodyPost_ret (ret_cell_tmp rfl _ _ w.heap.size 60 #[_, _, _, _, _, _, _, _, _] (0, 0) _ rfl (nineSet HB3 _ _ _ _ _ _ _ _ _).out Tryd.underlying60 rfl (by kernel_rfl)) rfl ?_
  exact ⟨⟨_, p2, ⟨_, _, _, _, _, _, _, _, _, _, _, _, _, _, _, rfl⟩, .inr rfl, rfl⟩, grownNine (grownSetNew (grown_ofAlloc (drawn_grown HW g)) (Nat.le_refl _) _) (Nat.le_refl _) _ _ _ _ _ _ _ _ _, rdsNine (rdsSet (rdsOfAlloc (rdsDrawn HW g)) (by omega) _ _) (by omega) _ _ _ _ _ _ _ _ _⟩
set_option maxHeartbeats 8000000 in
set_option maxRecDepth 100000 in
theorem zz8_ok (g : Nat) (p : Value) (A : Option Addr) (n c o B0 : Nat) (bs : List Int) (dd k : Nat) (x : N) (r : List Int) (w : World) (hR : RdAt w g p A n c o) (hC : (Kd.int .u8).C w A n bs) (hc : n ≤ c) (hn : n ≤ 2147483647) (ho : o ≤ n) (hb : bytesB bs = true) (hd : dd ≤ 64) (hB0 : ∀ a, A = some a → a.block < B0) (hB9 : B0 ≤ w.heap.size)
    (h : thP (k + 1) 8 (bs.drop o) = .ok x r) :
    ∃ o', o ≤ o' ∧ o' ≤ n ∧ r = bs.drop o' ∧ Calls Tryd.prog 35 #[rdV g, .int .i8 8, .int .i64 dd] w fun e w' => ZOk w w' g p A n c B0 x o' e := by
  unfold thP at h
  rw [if_neg (by omega)] at h; rw [if_neg (by omega)] at h; rw [if_neg (by omega)] at h; rw [if_neg (by omega)] at h; rw [if_neg (by omega)] at h; rw [if_pos rfl] at h
  obtain ⟨m, r1, h1, h2⟩ := bind_ok h
  obtain ⟨l, r2, h5, h6⟩ := bind_ok h2
  injection h6 with h3 h4
  subst h3 h4
  have HR := Aside0.mk hR
  have HC := Aside0.mk hC
  have hgl := hR.lt
  have hln : bs.length = n := hC.1
  have qd : decide (64 < (dd : Int)) = false := decide_eq_false (by omega)
  have qd2 : decide (64 < dd) = false := decide_eq_false (by omega)
  obtain ⟨m2, r3, h9, h10⟩ := bind_ok h1
  by_cases c3 : 10000 < m2
  · rw [if_pos c3] at h10; cases h10
  rw [if_neg c3] at h10
  injection h10 with h11 h12
  subst h11 h12
  obtain ⟨oo, A2, cc, e1, e2, e3, e4, e5, e6, e7, _⟩ := readBytes_ok g p A n c o bs r3 m2 w hR hC hc hn ho hb h9 (by omega) l r2 h5
  refine ⟨oo, by omega, e2, e3, ?_⟩
  have hbl : bytesB l = true := by
    obtain ⟨o1, _, f1, f2⟩ := good_off (good_var _ _) h9 (by omega)
    rw [f2] at h5
    obtain ⟨_, t2, _⟩ := take_ok h5 f1
    rw [t2]; exact bytesB_take (bytesB_drop hb _) _
  have HM : Aside0 (∃ A2 cc, m2 ≤ cc ∧ (∀ W, (Kd.int .u8).C W A n bs → (Kd.int .u8).C W A2 m2 l) ∧ (∀ a', A2 = some a' → ∃ a, A = some a ∧ a'.block = a.block) ∧ True) := ⟨A2, cc, e5, e6, e7, trivial⟩
  have HQ : ∀ (W : World), RdAt W g p A n c o → (Kd.int .u8).C W A n bs → Calls Tryd.prog 96 #[.pointer (some ⟨g, 0, none⟩)] W fun e w' => (∃ A2 cc, e = .returned (.tuple #[.slice A2 m2 cc, .nilIface]) ∧ m2 ≤ cc ∧ (∀ W, (Kd.int .u8).C W A n bs → (Kd.int .u8).C W A2 m2 l) ∧ (∀ a', A2 = some a' → ∃ a, A = some a ∧ a'.block = a.block)) ∧ Went W w' g p A n c oo := fun W hW hCW => by
    obtain ⟨o', A3, c3, d1, d2, d3, d4, d5, d6, d7, d8⟩ := readBytes_ok g p A n c o bs r3 m2 W hW hCW hc hn ho hb h9 (by omega) l r2 h5
    obtain rfl := off_uniq d3 e3 (by omega) (by omega)
    exact d8.mono fun e w' ⟨he, hw⟩ => ⟨⟨A3, c3, he, d5, d6, d7⟩, hw⟩
  have HQ := Aside0.mk HQ
  have HL := Aside0.mk (show l.length = m2 from e4)
  have HBL := Aside0.mk hbl
  have HB0 := Aside0.mk hB0
  clear hR hC hb h h1 e3 e4 e5 e6 e7 h5 h9 h2 hbl HM c3 hB0
  have hm := m_ReadBytes
  have hst := fun (f : Nat) (a : Addr) (W : World) m => run_store Tryd.prog W a (.float .f64 f) m rfl
  go_enter Tryd.func35, Tryd.ntmps35
  go_wp2_with (first
    | (go_at_call 96; go_loud (with_reducible refine (HQ.out _ (HR.out.alloc _) (Kd.C_alloc HC.out _)).mono ?_); rintro e w1 ⟨⟨A3, c3, rfl, hc3, hC3, hA3⟩, HW⟩; have HC3 := Aside0.mk hC3; have HA3 := Aside0.mk hA3; clear hC3 hA3; have hB := keepBlk (Blk.new w #[.int .i8 8, .bool false, .int .i64 0, .float .f64 0, .slice none 0 0, .int .i8 0, .int .i8 0, .slice none 0 0, .slice none 0 0] 60) HW.grown (by omega); have HB := Aside0.mk hB; obtain ⟨c0, c1, c2, c3', c4, c5, c6, c7, c8, hfz⟩ := nine hB; clear hB))
  have HB3 : Blk (w1.setCell ⟨w.heap.size, 4, none⟩ (.slice A3 m2 c3)) w.heap.size _ _ := HB.out.set 4 (.slice A3 m2 c3)
  refine bodyPost_ret (ret_cell_tmp rfl _ _ w.heap.size 60 #[_, _, _, _, _, _, _, _, _] (0, 0) _ rfl (nineSet HB3 _ _ _ _ _ _ _ _ _).out Tryd.underlying60 rfl (by kernel_rfl)) rfl ?_
  have hw := wentNine (HW.ofAlloc.setNew (Nat.le_refl _) (by omega) (j := 4) (.slice A3 m2 c3)) (Nat.le_refl _) (by omega) (.int .i8 8) (.bool false) (.int .i64 0) (.float .f64 0) (.slice A3 m2 c3) (.int .i8 0) (.int .i8 0) (.slice none 0 0) (.slice none 0 0)
  refine ⟨?_, hw⟩
  have hml := HL.out
  subst hml
  have hBA : ∀ W, (Kd.int .u8).C W A n bs → BytesAt W (Pn B0 g w.heap.size W.heap.size) (.slice A3 l.length c3) l := fun W hCW => by
    refine ⟨A3, c3, rfl, hc3, HC3.out _ hCW, HBL.out, fun hne => ?_⟩
    have h1 := HC3.out W hCW
    obtain ⟨ad, ha, _⟩ := h1.2.2 (List.length_pos_iff.2 hne)
    subst ha
    obtain ⟨a, hA, hbk⟩ := HA3.out ad rfl
    exact ⟨ad, rfl, .inl ⟨by rw [hbk]; exact HB0.out a hA, by rw [hbk]; exact HR.out.apart a hA⟩⟩
  have hBB := hBA _ (wentC HC.out hw)
  exact ⟨_, rfl, ⟨.slice A3 l.length c3, .slice none 0 0, .slice none 0 0, [], [], rfl, hBB, lies_nil _ _, rfl, lies_nil _ _, rfl⟩⟩
set_option maxHeartbeats 8000000 in
set_option maxRecDepth 100000 in
theorem zz8_cut (g : Nat) (p : Value) (A : Option Addr) (n c o B0 : Nat) (bs : List Int) (dd k : Nat) (p1 p2 : Addr) (w : World) (hR : RdAt w g p A n c o) (hC : (Kd.int .u8).C w A n bs) (hc : n ≤ c) (hn : n ≤ 2147483647) (ho : o ≤ n) (hb : bytesB bs = true) (hd : dd ≤ 64) (hE : Eofs w g p1 p2)
    (h : thP (k + 1) 8 (bs.drop o) = .cut) :
    Calls Tryd.prog 35 #[rdV g, .int .i8 8, .int .i64 dd] w fun e w' => ZCut w w' g p1 p2 e := by
  unfold thP at h
  rw [if_neg (by omega)] at h; rw [if_neg (by omega)] at h; rw [if_neg (by omega)] at h; rw [if_neg (by omega)] at h; rw [if_neg (by omega)] at h; rw [if_pos rfl] at h
  have HR := Aside0.mk hR
  have HC := Aside0.mk hC
  have hgl := hR.lt
  have hln : bs.length = n := hC.1
  have qd : decide (64 < (dd : Int)) = false := decide_eq_false (by omega)
  have qd2 : decide (64 < dd) = false := decide_eq_false (by omega)
  have HE := Aside0.mk hE
  have HM : ∀ (W : World) (hW : RdAt W g p A n c o) (hEW : Eofs W g p1 p2) (hCW : (Kd.int .u8).C W A n bs), Calls Tryd.prog 96 #[.pointer (some ⟨g, 0, none⟩)] W fun e w' => e = .returned (.tuple #[.slice none 0 0, erV p2]) ∧ W.grownBy w' (some g) ∧ RdS W w' g := fun W hW hEW hCW => by
    rcases bind_cut h with h1 | ⟨m, r1, h1, h2⟩
    · have h3 : varP 10 true (bs.drop o) = .cut := by
        rcases bind_cut h1 with h6 | ⟨m2, r3, h6, h7⟩
        · exact h6
        · by_cases c3 : 10000 < m2
          · rw [if_pos c3] at h7; cases h7
          · rw [if_neg c3] at h7; cases h7
      exact readBytes_cut1 g p A n c o bs p1 p2 W hW hEW hCW hc hn ho hb h3
    · obtain ⟨m2, r3, h9, h10⟩ := bind_ok h1
      by_cases c3 : 10000 < m2
      · rw [if_pos c3] at h10; cases h10
      rw [if_neg c3] at h10
      injection h10 with h11 h12
      subst h11 h12
      have h4 : takeP m2 r3 = .cut := by
        rcases bind_cut h2 with h4 | ⟨l, r4, h4, h5⟩
        · exact h4
        · cases h5
      exact readBytes_cut2 g p A n c o bs r3 m2 p1 p2 W hW hEW hCW hc hn ho hb h9 (by omega) h4
  have HM := Aside0.mk HM
  clear hR hC hb h hE
  have hm := m_ReadBytes
  have hst := fun (f : Nat) (a : Addr) (W : World) m => run_store Tryd.prog W a (.float .f64 f) m rfl
  go_enter Tryd.func35, Tryd.ntmps35
  go_wp2_with (first
    | (go_at_call 96; go_loud (with_reducible refine (HM.out _ (HR.out.alloc _) (HE.out.alloc _) (Kd.C_alloc HC.out _)).mono ?_); rintro e w1 ⟨rfl, HW⟩; have hB := keepBlk (Blk.new w #[.int .i8 8, .bool false, .int .i64 0, .float .f64 0, .slice none 0 0, .int .i8 0, .int .i8 0, .slice none 0 0, .slice none 0 0] 60) HW.1 (by omega); have HB := Aside0.mk hB; obtain ⟨c0, c1, c2, c3, c4, c5, c6, c7, c8, hfz⟩ := nine hB; clear hB))
  have HB3 : Blk (w1.setCell ⟨w.heap.size, 4, none⟩ (.slice none 0 0)) w.heap.size _ _ := HB.out.set 4 (.slice none 0 0)
  refine bodyPost_ret (ret_cell_tmp rfl _ _ w.heap.size 60 #[_, _, _, _, _, _, _, _, _] (0, 0) _ rfl (nineSet HB3 _ _ _ _ _ _ _ _ _).out Tryd.underlying60 rfl (by kernel_rfl)) rfl ?_
  exact ⟨⟨_, p2, ⟨_, _, _, _, _, _, _, _, _, _, _, _, _, _, _, rfl⟩, .inr rfl, rfl⟩, grownNine (grownSetNew (grown_ofAlloc HW.1) (Nat.le_refl _) _) (Nat.le_refl _) _ _ _ _ _ _ _ _ _, rdsNine (rdsSet (rdsOfAlloc HW.2) (by omega) _ _) (by omega) _ _ _ _ _ _ _ _ _⟩
end Go.Proofs.YtcboegodjlfmnaaDoor.Tzl

namespace Go.Proofs.YtcboegodjlfmnaaDoor.Tzm
open Go.Proofs.YtcboegodjlfmnaaDoor.Tzl Go.Proofs.YtcboegodjlfmnaaDoor.Trh Go.Proofs.YtcboegodjlfmnaaDoor.Trn Go.Proofs.YtcboegodjlfmnaaDoor.Trm Go.Proofs.YtcboegodjlfmnaaDoor.Tuv Go.Proofs.YtcboegodjlfmnaaDoor.Tpa Go.Proofs.YtcboegodjlfmnaaDoor.Duv Go.Proofs.YtcboegodjlfmnaaDoor.Dpu Go.Proofs.YtcboegodjlfmnaaDoor.Pak Go.Proofs.YtcboegodjlfmnaaDoor.Buf Go.Proofs.YtcboegodjlfmnaaDoor.Fit Go.Proofs.YtcboegodjlfmnaaDoor.Bit Go.Proofs.YtcboegodjlfmnaaDoor.Wrd Go.Proofs.YtcboegodjlfmnaaDoor.Spl Go.Proofs.YtcboegodjlfmnaaDoor.Str Go.Proofs.YtcboegodjlfmnaaDoor.Flt Go.Proofs.YtcboegodjlfmnaaDoor.Owe Go.Proofs.YtcboegodjlfmnaaDoor.Num Go.Proofs.YtcboegodjlfmnaaDoor.Le Go.Proofs.YtcboegodjlfmnaaDoor.Lst Go.Proofs.YtcboegodjlfmnaaDoor.Aid Go.RowKit Go.Proofs.YtcboegodjlfmnaaDoorW.PrintWords Go.Proofs.YtcboegodjlfmnaaDoorW.PrintLast Go.Proofs.YtcboegodjlfmnaaDoorW.PrintMore
set_option linter.unusedVariables false
set_option linter.unusedSimpArgs false
structure ZRes (w w' : World) (g : Nat) (p : Value) (A : Option Addr) (n c B0 : Nat) (p1 p2 : Addr) (bs : List Int) (R : Res N) (e : Ending) : Prop where
  mk :: (ok : ∀ x r, R = .ok x r → ∃ o', r = bs.drop o' ∧ o' ≤ n ∧ ZOk w w' g p A n c B0 x o' e) (cut : R = .cut → ZCut w w' g p1 p2 e)
structure ZH (g : Nat) (p : Value) (A : Option Addr) (n c B0 : Nat) (p1 p2 : Addr) (bs : List Int) (k : Nat) : Prop where
  mk :: (out : ∀ (ty di : Int) (o : Nat) (w : World), RdAt w g p A n c o → (Kd.int .u8).C w A n bs → Eofs w g p1 p2 → B0 ≤ w.heap.size → o ≤ n → 0 ≤ di → di + k ≤ 65 → thP k ty (bs.drop o) ≠ .opn →
    Calls Tryd.prog 35 #[rdV g, .int .i8 ty, .int .i64 di] w fun e w' => ZRes w w' g p A n c B0 p1 p2 bs (thP k ty (bs.drop o)) e)
theorem ZH.ok {g : Nat} {p : Value} {A : Option Addr} {n c B0 : Nat} {p1 p2 : Addr} {bs : List Int} {k : Nat} (h : ZH g p A n c B0 p1 p2 bs k) (ty di : Int) (o o' : Nat) (x : N) (r : List Int) (w : World) (hR : RdAt w g p A n c o) (hC : (Kd.int .u8).C w A n bs) (hE : Eofs w g p1 p2) (hB : B0 ≤ w.heap.size) (ho : o ≤ n) (hd0 : 0 ≤ di) (hd : di + k ≤ 65)
    (ht : thP k ty (bs.drop o) = .ok x r) (hr : r = bs.drop o') (ho' : o' ≤ n) : Calls Tryd.prog 35 #[rdV g, .int .i8 ty, .int .i64 di] w fun e w' => ZOk w w' g p A n c B0 x o' e := by
  have hln : bs.length = n := hC.1
  refine (h.out ty di o w hR hC hE hB ho hd0 hd (by rw [ht]; intro h; cases h)).mono ?_
  intro e w' hz
  obtain ⟨o2, h1, h2, h3⟩ := hz.ok x r ht
  obtain rfl := off_uniq h1 hr (by omega) (by omega)
  exact h3
theorem ZH.cut {g : Nat} {p : Value} {A : Option Addr} {n c B0 : Nat} {p1 p2 : Addr} {bs : List Int} {k : Nat} (h : ZH g p A n c B0 p1 p2 bs k) (ty di : Int) (o : Nat) (w : World) (hR : RdAt w g p A n c o) (hC : (Kd.int .u8).C w A n bs) (hE : Eofs w g p1 p2) (hB : B0 ≤ w.heap.size) (ho : o ≤ n) (hd0 : 0 ≤ di) (hd : di + k ≤ 65)
    (ht : thP k ty (bs.drop o) = .cut) : Calls Tryd.prog 35 #[rdV g, .int .i8 ty, .int .i64 di] w fun e w' => ZCut w w' g p1 p2 e := by
  refine (h.out ty di o w hR hC hE hB ho hd0 hd (by rw [ht]; intro h; cases h)).mono ?_
  intro e w' hz
  exact hz.cut ht
def PnO (B0 : Nat) (gO : Option Nat) (base hi : Nat) (b : Nat) : Prop := (b < B0 ∧ gO ≠ some b) ∨ (base ≤ b ∧ b < hi)
theorem pn_iff (B0 g base hi b : Nat) : Pn B0 g base hi b ↔ PnO B0 (some g) base hi b := by
  unfold Pn PnO
  constructor
  · rintro (⟨h1, h2⟩ | h)
    · exact .inl ⟨h1, fun e => h2 (Option.some.inj e).symm⟩
    · exact .inr h
  · rintro (⟨h1, h2⟩ | h)
    · exact .inl ⟨h1, fun e => h2 (by rw [e])⟩
    · exact .inr h
def PL (B0 : Nat) (gO : Option Nat) (base hi : Nat) (v : Value) (b : Nat) : Prop := (b < B0 ∧ gO ≠ some b) ∨ (base ≤ b ∧ b < hi ∧ v.ownBlock ≠ some b)
structure LRow (w w' : World) (gO : Option Nat) (rc : Array Value) (rt : TypeId) (B0 : Nat) (σ : Fl) (fld : Bool) (te : TypeId) (base : Nat) (v : Value) (D : F) (cs : List Value) : Prop where
  mk :: (grown : w.grownBy w' gO) (rb : ∀ g, gO = some g → Blk w' g rc rt) (row : w'.ownsRow base te (if fld then 10 else 9) v D.len cs) (els : D.In σ w' (PL B0 gO base w'.heap.size v) fld cs) (sz : base ≤ w'.heap.size)
theorem inAlloc {σ : Fl} {w : World} {B0 : Nat} {gO : Option Nat} {lo : Nat} {x : N} {cs : List Value} (h : x.In σ w (PnO B0 gO lo w.heap.size) cs) (hB : B0 ≤ w.heap.size) (o : Obj) : x.In σ (w.alloc o) (PnO B0 gO lo (w.alloc o).heap.size) cs := by
  refine h.move ?_ ?_
  · rintro b (⟨h1, h2⟩ | ⟨h1, h2⟩)
    · exact Below.heap_alloc w o b (by omega)
    · exact Below.heap_alloc w o b h2
  · rintro b (h1 | ⟨h1, h2⟩)
    · exact .inl h1
    · exact .inr ⟨h1, by rw [allocSize]; omega⟩
theorem own_lt {w : World} {base : Nat} {e : TypeId} {size : Nat} {v : Value} {n : Nat} {xs : List Value} (h : w.ownsRow base e size v n xs) {b : Nat} (hb : v.ownBlock = some b) : base ≤ b ∧ b < w.heap.size := by
  obtain ⟨h1, ⟨rfl, rfl⟩ | ⟨g, cap, cur, rfl, h2, h3, _⟩⟩ := h
  · cases hb
  · obtain rfl : g = b := by simpa [Value.ownBlock] using hb
    exact ⟨h2, (Array.getElem?_eq_some_iff.1 h3).1⟩
theorem LRow.step {w w1 w2 w4 : World} {gO : Option Nat} {rc rc2 : Array Value} {rt : TypeId} {B0 : Nat} {σ : Fl} {fld : Bool} {te : TypeId} {base : Nat} {v v1 : Value} {D : F} {cs : List Value}
    (h : LRow w w1 gO rc rt B0 σ fld te base v D cs) (hbase : w.heap.size ≤ base) (hB9 : B0 ≤ w.heap.size) (hgl : ∀ g, gO = some g → g < w.heap.size) {x : N} {xcs : List Value} {id : Int} {lo : Nat} (hlo : w1.heap.size ≤ lo) (hx : x.In σ w2 (PnO B0 gO lo w2.heap.size) xcs) (hw : w1.grownBy w2 gO) (hrb : ∀ g, gO = some g → Blk w2 g rc2 rt)
    {O2 : Obj} (hg : (w2.alloc O2).grownBy w4 v.ownBlock) (ho : w4.ownsRow base te (if fld then 10 else 9) v1 (D.len + 1) (cs ++ ((if fld then [.int σ.kid id] else []) ++ xcs))) (hor : v1.ownBlock = v.ownBlock ∨ v1.ownBlock = some (w2.heap.size + 1)) :
    LRow w w4 gO rc2 rt B0 σ fld te base v1 (D.snoc x.d id x.ls x.fs) (cs ++ ((if fld then [.int σ.kid id] else []) ++ xcs)) := by
  have s1 : (w2.alloc O2).heap.size = w2.heap.size + 1 := allocSize _ _
  have s2 : w2.heap.size + 1 ≤ w4.heap.size := by have := hg.size; omega
  have l1 := h.sz
  have l2 : w1.heap.size ≤ w2.heap.size := hw.size
  have hnv : ∀ b, v.ownBlock = some b → base ≤ b ∧ b < w1.heap.size := fun b hb => own_lt h.row hb
  -- a block of old, or of the value that has been read
  have keep : ∀ b, b < w2.heap.size → v.ownBlock ≠ some b → w4.heap[b]? = w2.heap[b]? := fun b hb hne => by
    rw [hg.block b (by rw [s1]; omega) (fun e => hne e.symm), Below.heap_alloc _ _ b hb]
  have keep1 : ∀ b, b < w1.heap.size → gO ≠ some b → v.ownBlock ≠ some b → w4.heap[b]? = w1.heap[b]? := fun b hb hne hv => by
    rw [keep b (by omega) hv]
    exact hw.block b hb (fun e => hne e.symm)
  have hv1 : ∀ b, v1.ownBlock = some b → v.ownBlock = some b ∨ b = w2.heap.size + 1 := fun b hb => by
    rcases hor with e | e
    · exact .inl (e ▸ hb)
    · rw [e] at hb; injection hb with hb; exact .inr hb.symm
  refine ⟨?_, ?_, ?_, ?_, by omega⟩
  · refine ⟨hg.os.trans (hw.os.trans h.grown.os), hg.tape.trans (hw.tape.trans h.grown.tape), hg.output.trans (hw.output.trans h.grown.output), by have := h.grown.size; omega, fun b hb hne => ?_⟩
    have := h.grown.size
    rw [keep1 b (by omega) (fun e => hne e.symm) (fun e => by have := hnv b e; omega)]
    exact h.grown.block b hb hne
  · intro g hgg
    have := h.grown.size
    have := hgl g hgg
    refine ⟨?_⟩
    rw [keep g (by omega) (fun e => by have := hnv g e; omega)]
    exact (hrb g hgg).out
  · rw [F.len_snoc]
    exact ho
  · have hD : D.In σ w4 (PL B0 gO base w4.heap.size v1) fld cs := by
      refine F.In.move ?_ ?_ h.els
      · rintro b (⟨h5, h6⟩ | ⟨h5, h6, h7⟩)
        · exact keep1 b (by omega) h6 (fun e => by have := hnv b e; omega)
        · exact keep1 b h6 (fun e => by have := hgl b e; omega) h7
      · rintro b (⟨h5, h6⟩ | ⟨h5, h6, h7⟩)
        · exact .inl ⟨h5, h6⟩
        · refine .inr ⟨h5, by omega, fun e => ?_⟩
          rcases hv1 b e with h8 | h8
          · exact h7 h8
          · omega
    have hX : x.In σ w4 (PL B0 gO base w4.heap.size v1) xcs := by
      refine hx.move ?_ ?_
      · rintro b (⟨h5, h6⟩ | ⟨h5, h6⟩)
        · exact keep b (by omega) (fun e => by have := hnv b e; omega)
        · exact keep b h6 (fun e => by have := hnv b e; omega)
      · rintro b (⟨h5, h6⟩ | ⟨h5, h6⟩)
        · exact .inl ⟨h5, h6⟩
        · refine .inr ⟨by omega, by omega, fun e => ?_⟩
          rcases hv1 b e with h8 | h8
          · have := hnv b h8; omega
          · omega
    exact F.In.snoc (id := id) (by obtain ⟨d, ls, fs⟩ := x; exact hX) hD
theorem LRow.keeps {w w1 w2 w4 : World} {gO : Option Nat} {rc : Array Value} {rt : TypeId} {B0 : Nat} {σ : Fl} {fld : Bool} {te : TypeId} {base : Nat} {v : Value} {D : F} {cs : List Value}
    (h : LRow w w1 gO rc rt B0 σ fld te base v D cs) (hgl : ∀ g, gO = some g → g < w.heap.size) (hw : w1.grownBy w2 gO) {O2 : Obj} (hg : (w2.alloc O2).grownBy w4 v.ownBlock) {b : Nat} (h1 : w.heap.size ≤ b) (h2 : b < base) :
    w4.heap[b]? = w1.heap[b]? := by
  have s1 : (w2.alloc O2).heap.size = w2.heap.size + 1 := allocSize _ _
  have l2 : w1.heap.size ≤ w2.heap.size := hw.size
  have l3 := h.sz
  rw [hg.block b (by rw [s1]; omega) (fun e => by have := own_lt h.row e.symm; omega), Below.heap_alloc _ _ b (by omega)]
  exact hw.block b (by omega) (fun e => by have := hgl b e.symm; omega)
theorem LRow.set {w w1 : World} {gO : Option Nat} {rc : Array Value} {rt : TypeId} {B0 : Nat} {σ : Fl} {fld : Bool} {te : TypeId} {base : Nat} {v : Value} {D : F} {cs : List Value}
    (h : LRow w w1 gO rc rt B0 σ fld te base v D cs) (hB9 : B0 ≤ w.heap.size) (hgl : ∀ g, gO = some g → g < w.heap.size) {b0 : Nat} (h1 : w.heap.size ≤ b0) (h2 : b0 < base) (j : Nat) (u : Value) : LRow w (w1.setCell ⟨b0, j, none⟩ u) gO rc rt B0 σ fld te base v D cs := by
  have s3 : (w1.setCell ⟨b0, j, none⟩ u).heap.size = w1.heap.size := by simp [World.setCell]
  have keepS : ∀ b, b ≠ b0 → (w1.setCell ⟨b0, j, none⟩ u).heap[b]? = w1.heap[b]? := fun b hb => Below.heap_setCell w1 _ _ b hb
  refine ⟨grownSetNew h.grown h1 u, fun g hg => ⟨?_⟩, own_move h.row fun b hb => keepS b (by have := own_lt h.row hb; omega), ?_, by rw [s3]; exact h.sz⟩
  · rw [keepS g (by have := hgl g hg; omega)]; exact (h.rb g hg).out
  · rw [s3]
    refine F.In.move ?_ (fun b hb => hb) h.els
    rintro b (⟨h5, h6⟩ | ⟨h5, h6, h7⟩)
    · exact keepS b (by omega)
    · exact keepS b (by omega)
theorem LRow.lies {w w1 : World} {gO : Option Nat} {rc : Array Value} {rt : TypeId} {B0 : Nat} {σ : Fl} {fld : Bool} {te : TypeId} {base : Nat} {v : Value} {D : F} {cs : List Value}
    (h : LRow w w1 gO rc rt B0 σ fld te base v D cs) (hbase : w.heap.size ≤ base) : Lies w1 (PnO B0 gO w.heap.size w1.heap.size) v D.len cs ∧ D.In σ w1 (PnO B0 gO w.heap.size w1.heap.size) fld cs := by
  refine ⟨(lies_own h.row).move (fun _ _ => rfl) (fun b hb => .inr ?_), F.In.move (fun _ _ => rfl) ?_ h.els⟩
  · have := own_lt h.row hb; exact ⟨by omega, this.2⟩
  · rintro b (h5 | ⟨h5, h6, _⟩)
    · exact .inl h5
    · exact .inr ⟨by omega, h6⟩
theorem LRow.next {w w1 w2 w4 : World} {g : Nat} {rc rc2 : Array Value} {rt : TypeId} {B0 : Nat} {σ : Fl} {fld : Bool} {te : TypeId} {base : Nat} {v v1 : Value} {D : F} {cs : List Value}
    (h : LRow w w1 (some g) rc rt B0 σ fld te base v D cs) (hbase : w.heap.size ≤ base) (hB9 : B0 ≤ w.heap.size) (hgl : g < w.heap.size) {x : N} {xcs : List Value} (id : Int) (hw : w1.grownBy w2 (some g)) (hrb : Blk w2 g rc2 rt) (hx : x.In σ w2 (PnO B0 (some g) w1.heap.size w2.heap.size) xcs)
    {O1 O2 : Obj} (hg : ((w2.alloc O1).alloc O2).grownBy w4 v.ownBlock) (ho : w4.ownsRow base te (if fld then 10 else 9) v1 (D.len + 1) (cs ++ ((if fld then [.int σ.kid id] else []) ++ xcs))) (hor : v1.ownBlock = v.ownBlock ∨ v1.ownBlock = some ((w2.alloc O1).heap.size + 1)) :
    LRow w w4 (some g) rc2 rt B0 σ fld te base v1 (D.snoc x.d id x.ls x.fs) (cs ++ ((if fld then [.int σ.kid id] else []) ++ xcs)) ∧ ∀ b, w.heap.size ≤ b → b < base → w4.heap[b]? = w1.heap[b]? := by
  have hgl' : ∀ g', some g = some g' → g' < w.heap.size := fun g' e => Option.some.inj e ▸ hgl
  have hw' : w1.grownBy (w2.alloc O1) (some g) := hw.trans (grownAlloc0 _ _ _)
  have hB : B0 ≤ w2.heap.size := by have := hw.size; have := h.grown.size; omega
  refine ⟨h.step hbase hB9 hgl' (Nat.le_refl _) (inAlloc hx hB O1) hw' (fun g' e => ?_) hg ho hor, fun b h1 h2 => h.keeps hgl' hw' hg h1 h2⟩
  obtain rfl := Option.some.inj e
  exact hrb.alloc _
theorem LRow.alloc {w w1 : World} {gO : Option Nat} {rc : Array Value} {rt : TypeId} {B0 : Nat} {σ : Fl} {fld : Bool} {te : TypeId} {base : Nat} {v : Value} {D : F} {cs : List Value}
    (h : LRow w w1 gO rc rt B0 σ fld te base v D cs) (hB9 : B0 ≤ w.heap.size) (o : Obj) : LRow w (w1.alloc o) gO rc rt B0 σ fld te base v D cs := by
  have hs := h.grown.size
  have hsz := allocSize w1 o
  refine ⟨h.grown.trans ⟨rfl, rfl, rfl, by omega, fun k hk _ => Below.heap_alloc w1 o k hk⟩, fun g hg => (h.rb g hg).alloc o, h.row.alloc o, ?_, by have := h.sz; omega⟩
  refine F.In.move ?_ ?_ h.els
  · rintro b (⟨h5, h6⟩ | ⟨h5, h6, h7⟩)
    · exact Below.heap_alloc w1 o b (by omega)
    · exact Below.heap_alloc w1 o b h6
  · rintro b (h5 | ⟨h5, h6, h7⟩)
    · exact .inl h5
    · exact .inr ⟨h5, by omega, h7⟩
theorem LRow.keeps2 {w w1 w2 w4 : World} {g : Nat} {rc : Array Value} {rt : TypeId} {B0 : Nat} {σ : Fl} {fld : Bool} {te : TypeId} {base : Nat} {v : Value} {D : F} {cs : List Value}
    (h : LRow w w1 (some g) rc rt B0 σ fld te base v D cs) (hgl : g < w.heap.size) (hw : w1.grownBy w2 (some g)) {O1 O2 : Obj} (hg : ((w2.alloc O1).alloc O2).grownBy w4 v.ownBlock) {b : Nat} (h1 : w.heap.size ≤ b) (h2 : b < w1.heap.size) (h3 : v.ownBlock ≠ some b) :
    w4.heap[b]? = w1.heap[b]? := by
  have s1 : (w2.alloc O1).heap.size = w2.heap.size + 1 := allocSize _ _
  have s2 : ((w2.alloc O1).alloc O2).heap.size = (w2.alloc O1).heap.size + 1 := allocSize _ _
  have l2 : w1.heap.size ≤ w2.heap.size := hw.size
  rw [hg.block b (by omega) (fun e => h3 e.symm), Below.heap_alloc _ _ b (by omega), Below.heap_alloc _ _ b (by omega)]
  exact hw.block b (by omega) (fun e => by have := Option.some.inj e; omega)
theorem twoBlk2 (w w2 : World) (g t1 t2 : Nat) (cs ds : Array Value) (h : ((w.alloc (.cells cs t1)).alloc (.cells ds t2)).grownBy w2 (some g)) (hg : g < w.heap.size) : Blk w2 w.heap.size cs t1 ∧ Blk w2 (w.heap.size + 1) ds t2 := by
  refine ⟨keepBlk ((Blk.new w cs t1).alloc _) h (by omega), keepBlk ?_ h (by omega)⟩
  have := Blk.new (w.alloc (.cells cs t1)) ds t2
  rwa [allocSize] at this
theorem openNode {σ : Fl} {w : World} {x : N} {Pb : Nat → Prop} {cs : List Value} (h : x.In σ w Pb cs) :
    ∃ (A1 : Option Addr) (n1 c1 : Nat) (A2 : Option Addr) (n2 c2 : Nat) (A3 : Option Addr) (n3 c3 : Nat), cs = [.int σ.kt x.d.ty, .bool x.d.bo, .int .i64 x.d.n, σ.bv x.d.bits, .slice A1 n1 c1, .int σ.kt x.d.ky, .int σ.kt x.d.el, .slice A2 n2 c2, .slice A3 n3 c3] := by
  obtain ⟨bsv, lsv, fsv, lcs, fcs, h1, h2, h3, _, h5, _⟩ := h.out
  obtain ⟨A1, c1, rfl, _⟩ := h2.out
  obtain ⟨A2, c2, rfl, _⟩ := h3.out
  obtain ⟨A3, c3, rfl, _⟩ := h5.out
  exact ⟨_, _, _, _, _, _, _, _, _, h1⟩
theorem openV {w : World} {x : N} {Pb : Nat → Prop} {cs : List Value} (h : x.In flV w Pb cs) :
    ∃ (A1 : Option Addr) (n1 c1 : Nat) (A2 : Option Addr) (n2 c2 : Nat) (A3 : Option Addr) (n3 c3 : Nat), cs = [.int .i8 x.d.ty, .bool x.d.bo, .int .i64 x.d.n, .float .f64 x.d.bits, .slice A1 n1 c1, .int .i8 x.d.ky, .int .i8 x.d.el, .slice A2 n2 c2, .slice A3 n3 c3] := openNode h
theorem ownNil (w : World) (base e size : Nat) : w.ownsRow base e size (.slice none 0 0) 0 [] := ⟨by simp, .inl ⟨rfl, rfl⟩⟩
theorem ownSlice {w : World} {base e size : Nat} {v : Value} {n : Nat} {xs : List Value} (h : w.ownsRow base e size v n xs) : ∃ Al cl, v = .slice Al n cl := by
  obtain ⟨h1, ⟨rfl, rfl⟩ | ⟨g, cap, cur, rfl, _⟩⟩ := h
  · exact ⟨_, _, rfl⟩
  · exact ⟨_, _, rfl⟩
theorem nineA {w : World} {g t : Nat} {a0 a1 a2 a3 a4 a5 a6 a7 a8 : Value} (h : Blk w g #[a0, a1, a2, a3, a4, a5, a6, a7, a8] t) :
    (∀ o, (w.alloc o).cell? ⟨g, 0, none⟩ = some a0) ∧ (∀ o, (w.alloc o).cell? ⟨g, 1, none⟩ = some a1) ∧ (∀ o, (w.alloc o).cell? ⟨g, 2, none⟩ = some a2) ∧ (∀ o, (w.alloc o).cell? ⟨g, 3, none⟩ = some a3) ∧ (∀ o, (w.alloc o).cell? ⟨g, 4, none⟩ = some a4) ∧ (∀ o, (w.alloc o).cell? ⟨g, 5, none⟩ = some a5) ∧ (∀ o, (w.alloc o).cell? ⟨g, 6, none⟩ = some a6) ∧ (∀ o, (w.alloc o).cell? ⟨g, 7, none⟩ = some a7) ∧ (∀ o, (w.alloc o).cell? ⟨g, 8, none⟩ = some a8) ∧ ∀ o j, (w.alloc o).frozen? ⟨g, j, none⟩ = false :=
  ⟨fun o => (h.alloc o).cell (j := 0) rfl, fun o => (h.alloc o).cell (j := 1) rfl, fun o => (h.alloc o).cell (j := 2) rfl, fun o => (h.alloc o).cell (j := 3) rfl, fun o => (h.alloc o).cell (j := 4) rfl, fun o => (h.alloc o).cell (j := 5) rfl, fun o => (h.alloc o).cell (j := 6) rfl, fun o => (h.alloc o).cell (j := 7) rfl, fun o => (h.alloc o).cell (j := 8) rfl, fun o => (h.alloc o).free⟩
theorem nineKeep {w : World} {g t : Nat} {a0 a1 a2 a3 a4 a5 a6 a7 a8 : Value} (h : Blk w g #[a0, a1, a2, a3, a4, a5, a6, a7, a8] t) : (((((((((w.setCell ⟨g, 0, none⟩ a0).setCell ⟨g, 1, none⟩ a1).setCell ⟨g, 2, none⟩ a2).setCell ⟨g, 3, none⟩ a3).setCell ⟨g, 4, none⟩ a4).setCell ⟨g, 5, none⟩ a5).setCell ⟨g, 6, none⟩ a6).setCell ⟨g, 7, none⟩ a7).setCell ⟨g, 8, none⟩ a8).heap.size = w.heap.size ∧ ∀ b : Nat, (((((((((w.setCell ⟨g, 0, none⟩ a0).setCell ⟨g, 1, none⟩ a1).setCell ⟨g, 2, none⟩ a2).setCell ⟨g, 3, none⟩ a3).setCell ⟨g, 4, none⟩ a4).setCell ⟨g, 5, none⟩ a5).setCell ⟨g, 6, none⟩ a6).setCell ⟨g, 7, none⟩ a7).setCell ⟨g, 8, none⟩ a8).heap[b]? = w.heap[b]? := by
  refine ⟨by simp [World.setCell], fun b => ?_⟩
  by_cases hb : b = g
  · subst hb; rw [(nineSet h _ _ _ _ _ _ _ _ _).out, h.out]
  · rw [Below.heap_setCell _ _ _ b hb, Below.heap_setCell _ _ _ b hb, Below.heap_setCell _ _ _ b hb, Below.heap_setCell _ _ _ b hb, Below.heap_setCell _ _ _ b hb, Below.heap_setCell _ _ _ b hb, Below.heap_setCell _ _ _ b hb, Below.heap_setCell _ _ _ b hb, Below.heap_setCell _ _ _ b hb]
end Go.Proofs.YtcboegodjlfmnaaDoor.Tzm

namespace Go.Proofs.YtcboegodjlfmnaaDoor.Tzq
open Go.Proofs.YtcboegodjlfmnaaDoor.Tzm Go.Proofs.YtcboegodjlfmnaaDoor.Tzl Go.Proofs.YtcboegodjlfmnaaDoor.Trh Go.Proofs.YtcboegodjlfmnaaDoor.Trn Go.Proofs.YtcboegodjlfmnaaDoor.Trm Go.Proofs.YtcboegodjlfmnaaDoor.Tuv Go.Proofs.YtcboegodjlfmnaaDoor.Tpa Go.Proofs.YtcboegodjlfmnaaDoor.Duv Go.Proofs.YtcboegodjlfmnaaDoor.Dpu Go.Proofs.YtcboegodjlfmnaaDoor.Pak Go.Proofs.YtcboegodjlfmnaaDoor.Buf Go.Proofs.YtcboegodjlfmnaaDoor.Fit Go.Proofs.YtcboegodjlfmnaaDoor.Bit Go.Proofs.YtcboegodjlfmnaaDoor.Wrd Go.Proofs.YtcboegodjlfmnaaDoor.Spl Go.Proofs.YtcboegodjlfmnaaDoor.Str Go.Proofs.YtcboegodjlfmnaaDoor.Flt Go.Proofs.YtcboegodjlfmnaaDoor.Owe Go.Proofs.YtcboegodjlfmnaaDoor.Num Go.Proofs.YtcboegodjlfmnaaDoor.Le Go.Proofs.YtcboegodjlfmnaaDoor.Lst Go.Proofs.YtcboegodjlfmnaaDoor.Aid Go.RowKit Go.Proofs.YtcboegodjlfmnaaDoorW.PrintWords Go.Proofs.YtcboegodjlfmnaaDoorW.PrintLast Go.Proofs.YtcboegodjlfmnaaDoorW.PrintMore
set_option linter.unusedVariables false
set_option linter.unusedSimpArgs false
theorem infoVal : (Tryd.prog.info? 60).map (fun i => (i.size, i.bytes, i.zero.map (·.cells.size))) = some (9, 104, some 9) := by kernel_rfl
set_option maxHeartbeats 8000000 in
set_option maxRecDepth 100000 in
theorem zz9_hcut (g : Nat) (p : Value) (A : Option Addr) (n c o : Nat) (bs : List Int) (dd : Nat) (p1 p2 : Addr) (w : World) (hR : RdAt w g p A n c o) (hC : (Kd.int .u8).C w A n bs) (hc : n ≤ c) (hn : n ≤ 2147483647) (ho : o ≤ n) (hb : bytesB bs = true) (hd : dd ≤ 64) (hE : Eofs w g p1 p2)
    (h : lhP (bs.drop o) = .cut) :
    Calls Tryd.prog 35 #[rdV g, .int .i8 9, .int .i64 dd] w fun e w' => ZCut w w' g p1 p2 e := by
  have HR := Aside0.mk hR
  have HC := Aside0.mk hC
  have HE := Aside0.mk hE
  have hgl := hR.lt
  have qd : decide (64 < (dd : Int)) = false := decide_eq_false (by omega)
  have qd2 : decide (64 < dd) = false := decide_eq_false (by omega)
  have HM := Aside0.mk fun (W : World) (hW : RdAt W g p A n c o) (hCW : (Kd.int .u8).C W A n bs) (hEW : Eofs W g p1 p2) => readList_cut g p A n c o bs p1 p2 W hW hCW hc hn ho hb hEW h
  clear hR hC hb h hE
  have hm := m_ReadList
  have hst := fun (f : Nat) (a : Addr) (W : World) m => run_store Tryd.prog W a (.float .f64 f) m rfl
  go_enter Tryd.func35, Tryd.ntmps35
  go_wp2_with (first
    | (go_at_call 104; go_loud (with_reducible refine (HM.out _ ((HR.out.alloc _).alloc _) (Kd.C_alloc (Kd.C_alloc HC.out _) _) ((HE.out.alloc _).alloc _)).mono ?_); rintro e w1 HW; obtain ⟨q, hq, rfl⟩ := HW.out; obtain ⟨hB, hD⟩ := twoBlk2 w w1 g 60 123 #[.int .i8 9, .bool false, .int .i64 0, .float .f64 0, .slice none 0 0, .int .i8 0, .int .i8 0, .slice none 0 0, .slice none 0 0] #[.int .i32 0, .int .i8 0] HW.grown (by omega); have HB := Aside0.mk hB; obtain ⟨c0, c1, c2, c3, c4, c5, c6, c7, c8, hfz⟩ := nine hB; have d0 := hD.cell (j := 0) rfl; have d1 := hD.cell (j := 1) rfl; have e0 := hD.free 0; have e1 := hD.free 1; clear hB hD))
  have HB3 := (HB.out.far (p := ⟨w.heap.size + 1, 0, none⟩) (by show w.heap.size ≠ w.heap.size + 1; omega) (.int .i32 0)).far (p := ⟨w.heap.size + 1, 1, none⟩) (by show w.heap.size ≠ w.heap.size + 1; omega) (.int .i8 0)
  refine bodyPost_ret (ret_cell_tmp rfl _ _ w.heap.size 60 #[_, _, _, _, _, _, _, _, _] (0, 0) _ rfl (nineSet HB3 _ _ _ _ _ _ _ _ _).out Tryd.underlying60 rfl (by kernel_rfl)) rfl ?_
  exact ⟨⟨_, q, ⟨_, _, _, _, _, _, _, _, _, _, _, _, _, _, _, rfl⟩, hq, rfl⟩, grownNine (grownSetNew (grownSetNew (grown_ofAlloc (grown_ofAlloc HW.grown)) (Nat.le_succ _) _) (Nat.le_succ _) _) (Nat.le_refl _) _ _ _ _ _ _ _ _ _, rdsNine (rdsSet (rdsSet (rdsOfAlloc (rdsOfAlloc HW.rds)) (by omega) _ _) (by omega) _ _) (by omega) _ _ _ _ _ _ _ _ _⟩
set_option maxHeartbeats 8000000 in
set_option maxRecDepth 100000 in
theorem zz9_ok (g : Nat) (p : Value) (A : Option Addr) (n c o B0 : Nat) (bs r : List Int) (dd k : Nat) (p1 p2 : Addr) (w : World) (hR : RdAt w g p A n c o) (hC : (Kd.int .u8).C w A n bs) (hc : n ≤ c) (hn : n ≤ 2147483647) (ho : o ≤ n) (hb : bytesB bs = true) (hd : dd + (k + 1) ≤ 65) (hE : Eofs w g p1 p2) (hB9 : B0 ≤ w.heap.size) (H : ZH g p A n c B0 p1 p2 bs k) (m : Nat) (el : Int)
    (h : lhP (bs.drop o) = .ok (m, el) r) (hno : listP (thP k) el el m r ≠ .opn) :
    Calls Tryd.prog 35 #[rdV g, .int .i8 9, .int .i64 dd] w fun e w' => ZRes w w' g p A n c B0 p1 p2 bs ((listP (thP k) el el m r).mapR fun ls => ⟨⟨9, false, 0, 0, [], 0, el⟩, ls, .nil⟩) e := by
  have HR := Aside0.mk hR
  have HC := Aside0.mk hC
  have HE := Aside0.mk hE
  have HH := Aside0.mk H
  have hgl := hR.lt
  have HLN := Aside0.mk (show bs.length = n from hC.1)
  have qd : decide (64 < (dd : Int)) = false := decide_eq_false (by omega)
  have qd2 : decide (64 < dd) = false := decide_eq_false (by omega)
  obtain ⟨o1, e1, e2, e3, e4, e5, e6, _⟩ := readList_ok g p A n c o bs r m el w hR hC hc hn ho hb h
  have HM := Aside0.mk fun (W : World) (hW : RdAt W g p A n c o) (hCW : (Kd.int .u8).C W A n bs) => by
    obtain ⟨o', d1, d2, d3, _, _, _, d4⟩ := readList_ok g p A n c o bs r m el W hW hCW hc hn ho hb h
    obtain rfl := off_uniq d3 e3 (by have := hC.1; omega) (by have := hC.1; omega)
    exact d4
  obtain ⟨RL, hRL⟩ : ∃ RL, listP (thP k) el el m r = RL := ⟨_, rfl⟩
  have HRL : Aside0 (listP (thP k) el el m (bs.drop o1) = RL) := ⟨e3 ▸ hRL⟩
  have HNO := Aside0.mk (hRL ▸ hno)
  rw [hRL]
  clear hR hC hb h hE H hno hRL e3
  have hm := m_ReadList
  have hst := fun (f : Nat) (a : Addr) (W : World) m => run_store Tryd.prog W a (.float .f64 f) m rfl
  go_enter Tryd.func35, Tryd.ntmps35
  go_wp2_with (first
    | (go_at_call 104; go_loud (with_reducible refine (HM.out _ ((HR.out.alloc _).alloc _) (Kd.C_alloc (Kd.C_alloc HC.out _) _)).mono ?_); rintro e w1 ⟨rfl, HW⟩; obtain ⟨hB, hD⟩ := twoBlk2 w w1 g 60 123 #[.int .i8 9, .bool false, .int .i64 0, .float .f64 0, .slice none 0 0, .int .i8 0, .int .i8 0, .slice none 0 0, .slice none 0 0] #[.int .i32 0, .int .i8 0] HW.grown (by omega); have HB := Aside0.mk hB; have HD := Aside0.mk hD; obtain ⟨c0, c1, c2, c3, c4, c5, c6, c7, c8, hfz⟩ := nine hB; have d0 := hD.cell (j := 0) rfl; have d1 := hD.cell (j := 1) rfl; have e0 := hD.free 0; have e1 := hD.free 1; clear hB hD))
  have HB3 := Aside0.mk (((HB.out.far (p := ⟨w.heap.size + 1, 0, none⟩) (by show w.heap.size ≠ w.heap.size + 1; omega) (.int .i32 m)).far (p := ⟨w.heap.size + 1, 1, none⟩) (by show w.heap.size ≠ w.heap.size + 1; omega) (.int .i8 el)).set 6 (.int .i8 el))
  have HD3 := Aside0.mk ((HD.out.two (.int .i32 m) (.int .i8 el)).far (p := ⟨w.heap.size, 6, none⟩) (by show w.heap.size + 1 ≠ w.heap.size; omega) (.int .i8 el))
  have HW3 := Aside0.mk (((HW.ofAlloc.ofAlloc.setNew (b := w.heap.size + 1) (j := 0) (Nat.le_succ _) (by omega) (.int .i32 m)).setNew (b := w.heap.size + 1) (j := 1) (Nat.le_succ _) (by omega) (.int .i8 el)).setNew (b := w.heap.size) (j := 6) (Nat.le_refl _) (by omega) (.int .i8 el))
  have HR0 := Aside0.mk HR.out
  have HAP := Aside0.mk HR.out.apart
  have HSZ : Aside0 (w.heap.size + 2 ≤ w1.heap.size) := ⟨by have := HW.grown.size; rw [allocSize, allocSize] at this; exact this⟩
  clear HB HD HW c0 c1 c2 c3 c4 c5 c6 c7 c8 hfz d0 d1 e0 e1 HM HR
  go_loopg [7, 12, 13, 14] m (fun kq v7 v12 v13 v14 w' => ∃ (i oi cl : Nat) (D : F) (Al : Option Addr) (cs : List Value), i ≤ m ∧ v7 = .nilIface ∧ v12 = .int .i64 i ∧ Aside0 (D.len = i) ∧ oi ≤ n ∧ Aside0 (listP (thP k) el el (m - i) (bs.drop oi) ≠ .opn) ∧ Aside0 (RL = (listP (thP k) el el (m - i) (bs.drop oi)).mapR D.app) ∧ Aside0 (LRow w w' (some g) #[p, .slice A n c, .int .i64 (oi : Int)] 105 B0 flV false 60 (w.heap.size + 2) (.slice Al i cl) D cs) ∧ Aside0 (Blk w' w.heap.size #[.int .i8 9, .bool false, .int .i64 0, .float .f64 0, .slice none 0 0, .int .i8 0, .int .i8 el, .slice Al i cl, .slice none 0 0] 60) ∧ Aside0 (Blk w' (w.heap.size + 1) #[.int .i32 m, .int .i8 el] 123) ∧ Aside0 (m - i ≤ kq))
  case atStart =>
    refine ⟨0, o1, 0, .nil, none, [], by omega, rfl, rfl, ⟨rfl⟩, e2, ⟨by rw [Nat.sub_zero, HRL.out]; exact HNO.out⟩, ⟨by rw [Nat.sub_zero, HRL.out, mapR_nil]⟩, ⟨⟨HW3.out.grown, ?_, ownNil _ _ _ _, rfl, ?_⟩⟩, HB3, HD3, ⟨by omega⟩⟩
    · rintro g0 h0; obtain rfl := Option.some.inj h0; exact HW3.out.rd.blk
    · have := HSZ.out; simp only [World.setCell, Array.size_modify]; omega
  case round =>
    clear HB3 HD3 HW3 HSZ
    obtain ⟨i, oi, cl, D, Al, cs, hi, rfl, rfl, HDl, hoi2, HN2, HRE, HL, HVB, HLB, HK⟩ := hrel
    have HWW : Aside0 (Went w wr g p A n c oi) := ⟨⟨HL.out.grown, ⟨HL.out.rb g rfl, HAP.out⟩⟩⟩
    have HRS := Aside0.mk (rdsWent HR0.out HWW.out)
    have HSW : Aside0 (w.heap.size + 2 ≤ wr.heap.size) := ⟨HL.out.sz⟩
    obtain ⟨c0, c1, c2, c3, c4, c5, c6, c7, c8, hfz⟩ := nine HVB.out
    have d0 := HLB.out.cell (j := 0) rfl
    have d1 := HLB.out.cell (j := 1) rfl
    by_cases ci : i < m
    · obtain ⟨m', hm'⟩ : ∃ m', m - i = m' + 1 := ⟨m - i - 1, by omega⟩
      have hno := HN2.out
      have hre := HRE.out
      rw [hm'] at hno hre
      have ct : decide ((i : Int) < m) = true := decide_eq_true (by omega)
      have qa : ∀ x : Int, x = ((dd + 1 : Nat) : Int) → 0 ≤ x ∧ x + k ≤ 65 := fun x hx => by omega
      rcases list_cases hno with ⟨hc1, hc2⟩ | ⟨x, r2, hx1, hx2, hx3⟩
      · have HRC : Aside0 (RL = .cut) := ⟨by rw [hre, hc2]; rfl⟩
        have HZ := Aside0.mk (HH.out.cut el ((dd : Int) + 1) oi wr HWW.out.rd (wentC HC.out HWW.out) (HE.out.grown HWW.out.grown) (by have := HSW.out; omega) hoi2 (by omega) (by omega) hc1)
        clear hno hre hc1 hc2 hi HDl
        go_wp2_with (first
          | (go_at_call 35; (with_reducible refine HZ.out.mono ?_); rintro e w2 HZ2; obtain ⟨cs2, q, ⟨a0, a1, a2, a3, A4, n4, k4, a5, a6, A7, n7, k7, A8, n8, k8, rfl⟩, hq, rfl⟩ := HZ2.out; have hB2 := keepBlk HVB.out HZ2.grown (by omega); have HB2 := Aside0.mk hB2; obtain ⟨f0, f1, f2, f3, f4, f5, f6, f7, f8, ffz⟩ := nineA hB2; clear hB2))
        have HB3 := HB2.out.alloc (.cells #[.int .i8 a0, .bool a1, .int .i64 a2, .float .f64 a3, .slice A4 n4 k4, .int .i8 a5, .int .i8 a6, .slice A7 n7 k7, .slice A8 n8 k8] 60)
        refine bodyPost_ret (ret_cell_tmp rfl _ _ w.heap.size 60 #[_, _, _, _, _, _, _, _, _] (0, 0) _ rfl (nineSet HB3 _ _ _ _ _ _ _ _ _).out Tryd.underlying60 rfl (by kernel_rfl)) rfl ?_
        rw [HRC.out]
        refine ⟨(fun y r h => nomatch h), fun _ => ⟨⟨_, q, ⟨_, _, _, _, _, _, _, _, _, _, _, _, _, _, _, rfl⟩, hq, rfl⟩, grownNine ((HWW.out.grown.trans HZ2.grown).trans (grownAlloc0 _ _ _)) (Nat.le_refl _) _ _ _ _ _ _ _ _ _, rdsNine ((HRS.out.trans HZ2.rds).trans (rdsAlloc0 _ _ _)) (by omega) _ _ _ _ _ _ _ _ _⟩⟩
      · obtain ⟨o2, f1, f2, f3⟩ := good_off (good_th k el) hx1 (by have := HLN.out; omega)
        have f2' : o2 ≤ n := by have := HLN.out; omega
        have HRC : Aside0 (listP (thP k) el el m' (bs.drop o2) ≠ .opn ∧ RL = (listP (thP k) el el m' (bs.drop o2)).mapR (D.snoc x.d 0 x.ls x.fs).app) := ⟨by rw [← f3]; exact ⟨hx2, by rw [hre]; exact hx3 D⟩⟩
        have HZ := Aside0.mk (HH.out.ok el ((dd : Int) + 1) oi o2 x r2 wr HWW.out.rd (wentC HC.out HWW.out) (HE.out.grown HWW.out.grown) (by have := HSW.out; omega) hoi2 (by omega) (by omega) hx1 f3 f2')
        have HM' : Aside0 (m' = m - (i + 1)) := ⟨by omega⟩
        clear hno hre hx1 hx2 hx3 hi f1 f2 f3
        go_wp2_with (first
          | (go_at_call 35; (with_reducible refine HZ.out.mono ?_); rintro e w2 HZ2; obtain ⟨xcs, rfl, hxin⟩ := HZ2.out; have HXI := Aside0.mk hxin; obtain ⟨A4, n4, k4, A7, n7, k7, A8, n8, k8, hxe⟩ := openV hxin; have HXE := Aside0.mk hxe; rw [hxe]; clear hxe hxin; have hB2 := keepBlk HVB.out HZ2.went.grown (by omega); have HB2 := Aside0.mk hB2; obtain ⟨f0, f1, f2, f3, f4, f5, f6, f7, f8, ffz⟩ := nineA hB2; clear hB2)
          | (at_builtin; refine appendCells (W := w2.alloc (.cells #[.int .i8 x.d.ty, .bool x.d.bo, .int .i64 x.d.n, .float .f64 x.d.bits, .slice A4 n4 k4, .int .i8 x.d.ky, .int .i8 x.d.el, .slice A7 n7 k7, .slice A8 n8 k8] 60)) (w.heap.size + 2) rfl (.tmp 132) (.tmp 134) 57 60 9 104 rfl Tryd.underlying57 infoVal (by decide) (.slice Al i cl) i cs [.int .i8 x.d.ty, .bool x.d.bo, .int .i64 x.d.n, .float .f64 x.d.bits, .slice A4 n4 k4, .int .i8 x.d.ky, .int .i8 x.d.el, .slice A7 n7 k7, .slice A8 n8 k8] rfl (by rw [allocSize]; rfl) rfl (by simp [Value.oneCell']) ?HO ?hb (by omega) (by unfold maxLen; omega) ?_; (case HO => exact (own_move (HDl.out ▸ HL.out.row) (fun b hb => HZ2.went.grown.block b (own_lt HL.out.row hb).2 (fun e => by have := own_lt HL.out.row hb; have := Option.some.inj e; omega))).alloc _); (case hb => rw [allocSize]; have := HZ2.went.grown.size; have := HSW.out; omega); intro v1 w4 ho hgr hor; obtain ⟨Al2, cl2, rfl⟩ := ownSlice ho; have HNX := Aside0.mk (HL.out.next (Nat.le_add_right _ 2) hB9 hgl (x := x) 0 HZ2.went.grown HZ2.went.rd.blk (HXI.out.move (fun _ _ => rfl) (fun b hb => (pn_iff _ _ _ _ b).1 hb)) hgr (by rw [HDl.out, HXE.out]; exact ho) hor); have hV4 : Blk w4 w.heap.size _ _ := ⟨(HNX.out.2 _ (Nat.le_refl _) (by omega)).trans HVB.out.out⟩; have g7 := hV4.cell (j := 7) rfl; have gz := hV4.free 7; have HV4 := Aside0.mk hV4; have HLB4 : Aside0 (Blk w4 (w.heap.size + 1) _ _) := ⟨⟨(HNX.out.2 _ (Nat.le_succ _) (by omega)).trans HLB.out.out⟩⟩; clear ho hgr hor hV4))
        go_roundg (gk - 1)
        case measure => have := HK.out; omega
        case rel =>
          have hsz : w.heap.size + 1 ≠ w.heap.size := by omega
          refine ⟨i + 1, o2, cl2, D.snoc x.d 0 x.ls x.fs, Al2, _, by omega, rfl, by go_num, ⟨by rw [F.len_snoc, HDl.out]⟩, f2', ?_, ?_, ⟨HNX.out.1.set hB9 (fun g' e => Option.some.inj e ▸ hgl) (Nat.le_refl _) (by omega) 7 _⟩, ⟨?_⟩, ⟨?_⟩, ⟨by have := HK.out; omega⟩⟩
          · rw [← HM'.out]; exact ⟨HRC.out.1⟩
          · rw [← HM'.out]; exact ⟨HRC.out.2⟩
          · exact HV4.out.set 7 _
          · exact HLB4.out.far hsz _
    · obtain rfl : i = m := by omega
      have HRC : Aside0 (RL = .ok D (bs.drop oi)) := ⟨by have := HRE.out; rw [Nat.sub_self] at this; rw [this]; show Res.ok (D.app .nil) _ = _; rw [F.app_nil]⟩
      have HLI := Aside0.mk (HL.out.lies (Nat.le_add_right _ 2))
      have ct : decide ((i : Int) < i) = false := decide_eq_false (by omega)
      clear hi
      go_wp2_with (fail)
      refine bodyPost_ret (ret_cell_tmp rfl _ _ w.heap.size 60 #[_, _, _, _, _, _, _, _, _] (0, 0) _ rfl (nineSet HVB.out _ _ _ _ _ _ _ _ _).out Tryd.underlying60 rfl (by kernel_rfl)) rfl ?_
      rw [HRC.out]
      refine ⟨fun y r h => ?_, fun h => nomatch h⟩
      obtain ⟨rfl, rfl⟩ := Res.ok.inj h
      have hNK := nineKeep HVB.out
      refine ⟨oi, rfl, hoi2, ⟨⟨nodeC flV ⟨9, false, 0, 0, [], 0, el⟩ (.slice none 0 0) (.slice Al i cl) (.slice none 0 0), rfl, ?_⟩, ?_⟩⟩
      · rw [hNK.1]
        refine ⟨⟨_, _, _, cs, [], rfl, bytesAt_nil _ _, ?_, ?_, lies_nil _ _, rfl⟩⟩
        · have hl := HLI.out.1; rw [HDl.out] at hl; exact HDl.out.symm ▸ hl.move (fun b _ => hNK.2 b) (fun b hb => (pn_iff _ _ _ _ b).2 hb)
        · exact HLI.out.2.move (fun b _ => hNK.2 b) (fun b hb => (pn_iff _ _ _ _ b).2 hb)
      · exact wentNine HWW.out (Nat.le_refl _) (by omega) _ _ _ _ _ _ _ _ _
set_option maxHeartbeats 8000000 in
set_option maxRecDepth 100000 in
theorem zz10_hcut (g : Nat) (p : Value) (A : Option Addr) (n c o : Nat) (bs : List Int) (dd : Nat) (p1 p2 : Addr) (w : World) (hR : RdAt w g p A n c o) (hC : (Kd.int .u8).C w A n bs) (hc : n ≤ c) (hn : n ≤ 2147483647) (ho : o ≤ n) (hb : bytesB bs = true) (hd : dd ≤ 64) (hE : Eofs w g p1 p2)
    (h : lhP (bs.drop o) = .cut) :
    Calls Tryd.prog 35 #[rdV g, .int .i8 10, .int .i64 dd] w fun e w' => ZCut w w' g p1 p2 e := by
  have HR := Aside0.mk hR
  have HC := Aside0.mk hC
  have HE := Aside0.mk hE
  have hgl := hR.lt
  have qd : decide (64 < (dd : Int)) = false := decide_eq_false (by omega)
  have qd2 : decide (64 < dd) = false := decide_eq_false (by omega)
  have HM := Aside0.mk fun (W : World) (hW : RdAt W g p A n c o) (hCW : (Kd.int .u8).C W A n bs) (hEW : Eofs W g p1 p2) => readList_cut g p A n c o bs p1 p2 W hW hCW hc hn ho hb hEW h
  clear hR hC hb h hE
  have hm := m_ReadList
  have hst := fun (f : Nat) (a : Addr) (W : World) m => run_store Tryd.prog W a (.float .f64 f) m rfl
  go_enter Tryd.func35, Tryd.ntmps35
  go_wp2_with (first
    | (go_at_call 104; go_loud (with_reducible refine (HM.out _ ((HR.out.alloc _).alloc _) (Kd.C_alloc (Kd.C_alloc HC.out _) _) ((HE.out.alloc _).alloc _)).mono ?_); rintro e w1 HW; obtain ⟨q, hq, rfl⟩ := HW.out; obtain ⟨hB, hD⟩ := twoBlk2 w w1 g 60 123 #[.int .i8 10, .bool false, .int .i64 0, .float .f64 0, .slice none 0 0, .int .i8 0, .int .i8 0, .slice none 0 0, .slice none 0 0] #[.int .i32 0, .int .i8 0] HW.grown (by omega); have HB := Aside0.mk hB; obtain ⟨c0, c1, c2, c3, c4, c5, c6, c7, c8, hfz⟩ := nine hB; have d0 := hD.cell (j := 0) rfl; have d1 := hD.cell (j := 1) rfl; have e0 := hD.free 0; have e1 := hD.free 1; clear hB hD))
  have HB3 := (HB.out.far (p := ⟨w.heap.size + 1, 0, none⟩) (by show w.heap.size ≠ w.heap.size + 1; omega) (.int .i32 0)).far (p := ⟨w.heap.size + 1, 1, none⟩) (by show w.heap.size ≠ w.heap.size + 1; omega) (.int .i8 0)
  refine bodyPost_ret (ret_cell_tmp rfl _ _ w.heap.size 60 #[_, _, _, _, _, _, _, _, _] (0, 0) _ rfl (nineSet HB3 _ _ _ _ _ _ _ _ _).out Tryd.underlying60 rfl (by kernel_rfl)) rfl ?_
  exact ⟨⟨_, q, ⟨_, _, _, _, _, _, _, _, _, _, _, _, _, _, _, rfl⟩, hq, rfl⟩, grownNine (grownSetNew (grownSetNew (grown_ofAlloc (grown_ofAlloc HW.grown)) (Nat.le_succ _) _) (Nat.le_succ _) _) (Nat.le_refl _) _ _ _ _ _ _ _ _ _, rdsNine (rdsSet (rdsSet (rdsOfAlloc (rdsOfAlloc HW.rds)) (by omega) _ _) (by omega) _ _) (by omega) _ _ _ _ _ _ _ _ _⟩
set_option maxHeartbeats 8000000 in
set_option maxRecDepth 100000 in
theorem zz10_ok (g : Nat) (p : Value) (A : Option Addr) (n c o B0 : Nat) (bs r : List Int) (dd k : Nat) (p1 p2 : Addr) (w : World) (hR : RdAt w g p A n c o) (hC : (Kd.int .u8).C w A n bs) (hc : n ≤ c) (hn : n ≤ 2147483647) (ho : o ≤ n) (hb : bytesB bs = true) (hd : dd + (k + 1) ≤ 65) (hE : Eofs w g p1 p2) (hB9 : B0 ≤ w.heap.size) (H : ZH g p A n c B0 p1 p2 bs k) (m : Nat) (el : Int)
    (h : lhP (bs.drop o) = .ok (m, el) r) (hno : listP (thP k) el el m r ≠ .opn) :
    Calls Tryd.prog 35 #[rdV g, .int .i8 10, .int .i64 dd] w fun e w' => ZRes w w' g p A n c B0 p1 p2 bs ((listP (thP k) el el m r).mapR fun ls => ⟨⟨10, false, 0, 0, [], 0, el⟩, ls, .nil⟩) e := by
  have HR := Aside0.mk hR
  have HC := Aside0.mk hC
  have HE := Aside0.mk hE
  have HH := Aside0.mk H
  have hgl := hR.lt
  have HLN := Aside0.mk (show bs.length = n from hC.1)
  have qd : decide (64 < (dd : Int)) = false := decide_eq_false (by omega)
  have qd2 : decide (64 < dd) = false := decide_eq_false (by omega)
  obtain ⟨o1, e1, e2, e3, e4, e5, e6, _⟩ := readList_ok g p A n c o bs r m el w hR hC hc hn ho hb h
  have HM := Aside0.mk fun (W : World) (hW : RdAt W g p A n c o) (hCW : (Kd.int .u8).C W A n bs) => by
    obtain ⟨o', d1, d2, d3, _, _, _, d4⟩ := readList_ok g p A n c o bs r m el W hW hCW hc hn ho hb h
    obtain rfl := off_uniq d3 e3 (by have := hC.1; omega) (by have := hC.1; omega)
    exact d4
  obtain ⟨RL, hRL⟩ : ∃ RL, listP (thP k) el el m r = RL := ⟨_, rfl⟩
  have HRL : Aside0 (listP (thP k) el el m (bs.drop o1) = RL) := ⟨e3 ▸ hRL⟩
  have HNO := Aside0.mk (hRL ▸ hno)
  rw [hRL]
  clear hR hC hb h hE H hno hRL e3
  have hm := m_ReadList
  have hst := fun (f : Nat) (a : Addr) (W : World) m => run_store Tryd.prog W a (.float .f64 f) m rfl
  go_enter Tryd.func35, Tryd.ntmps35
  go_wp2_with (first
    | (go_at_call 104; go_loud (with_reducible refine (HM.out _ ((HR.out.alloc _).alloc _) (Kd.C_alloc (Kd.C_alloc HC.out _) _)).mono ?_); rintro e w1 ⟨rfl, HW⟩; obtain ⟨hB, hD⟩ := twoBlk2 w w1 g 60 123 #[.int .i8 10, .bool false, .int .i64 0, .float .f64 0, .slice none 0 0, .int .i8 0, .int .i8 0, .slice none 0 0, .slice none 0 0] #[.int .i32 0, .int .i8 0] HW.grown (by omega); have HB := Aside0.mk hB; have HD := Aside0.mk hD; obtain ⟨c0, c1, c2, c3, c4, c5, c6, c7, c8, hfz⟩ := nine hB; have d0 := hD.cell (j := 0) rfl; have d1 := hD.cell (j := 1) rfl; have e0 := hD.free 0; have e1 := hD.free 1; clear hB hD))
  have HB3 := Aside0.mk (((HB.out.far (p := ⟨w.heap.size + 1, 0, none⟩) (by show w.heap.size ≠ w.heap.size + 1; omega) (.int .i32 m)).far (p := ⟨w.heap.size + 1, 1, none⟩) (by show w.heap.size ≠ w.heap.size + 1; omega) (.int .i8 el)).set 6 (.int .i8 el))
  have HD3 := Aside0.mk ((HD.out.two (.int .i32 m) (.int .i8 el)).far (p := ⟨w.heap.size, 6, none⟩) (by show w.heap.size + 1 ≠ w.heap.size; omega) (.int .i8 el))
  have HW3 := Aside0.mk (((HW.ofAlloc.ofAlloc.setNew (b := w.heap.size + 1) (j := 0) (Nat.le_succ _) (by omega) (.int .i32 m)).setNew (b := w.heap.size + 1) (j := 1) (Nat.le_succ _) (by omega) (.int .i8 el)).setNew (b := w.heap.size) (j := 6) (Nat.le_refl _) (by omega) (.int .i8 el))
  have HR0 := Aside0.mk HR.out
  have HAP := Aside0.mk HR.out.apart
  have HSZ : Aside0 (w.heap.size + 2 ≤ w1.heap.size) := ⟨by have := HW.grown.size; rw [allocSize, allocSize] at this; exact this⟩
  clear HB HD HW c0 c1 c2 c3 c4 c5 c6 c7 c8 hfz d0 d1 e0 e1 HM HR
  go_loopg [7, 12, 13, 14] m (fun kq v7 v12 v13 v14 w' => ∃ (i oi cl : Nat) (D : F) (Al : Option Addr) (cs : List Value), i ≤ m ∧ v7 = .nilIface ∧ v12 = .int .i64 i ∧ Aside0 (D.len = i) ∧ oi ≤ n ∧ Aside0 (listP (thP k) el el (m - i) (bs.drop oi) ≠ .opn) ∧ Aside0 (RL = (listP (thP k) el el (m - i) (bs.drop oi)).mapR D.app) ∧ Aside0 (LRow w w' (some g) #[p, .slice A n c, .int .i64 (oi : Int)] 105 B0 flV false 60 (w.heap.size + 2) (.slice Al i cl) D cs) ∧ Aside0 (Blk w' w.heap.size #[.int .i8 10, .bool false, .int .i64 0, .float .f64 0, .slice none 0 0, .int .i8 0, .int .i8 el, .slice Al i cl, .slice none 0 0] 60) ∧ Aside0 (Blk w' (w.heap.size + 1) #[.int .i32 m, .int .i8 el] 123) ∧ Aside0 (m - i ≤ kq))
  case atStart =>
    refine ⟨0, o1, 0, .nil, none, [], by omega, rfl, rfl, ⟨rfl⟩, e2, ⟨by rw [Nat.sub_zero, HRL.out]; exact HNO.out⟩, ⟨by rw [Nat.sub_zero, HRL.out, mapR_nil]⟩, ⟨⟨HW3.out.grown, ?_, ownNil _ _ _ _, rfl, ?_⟩⟩, HB3, HD3, ⟨by omega⟩⟩
    · rintro g0 h0; obtain rfl := Option.some.inj h0; exact HW3.out.rd.blk
    · have := HSZ.out; simp only [World.setCell, Array.size_modify]; omega
  case round =>
    clear HB3 HD3 HW3 HSZ
    obtain ⟨i, oi, cl, D, Al, cs, hi, rfl, rfl, HDl, hoi2, HN2, HRE, HL, HVB, HLB, HK⟩ := hrel
    have HWW : Aside0 (Went w wr g p A n c oi) := ⟨⟨HL.out.grown, ⟨HL.out.rb g rfl, HAP.out⟩⟩⟩
    have HRS := Aside0.mk (rdsWent HR0.out HWW.out)
    have HSW : Aside0 (w.heap.size + 2 ≤ wr.heap.size) := ⟨HL.out.sz⟩
    obtain ⟨c0, c1, c2, c3, c4, c5, c6, c7, c8, hfz⟩ := nine HVB.out
    have d0 := HLB.out.cell (j := 0) rfl
    have d1 := HLB.out.cell (j := 1) rfl
    by_cases ci : i < m
    · obtain ⟨m', hm'⟩ : ∃ m', m - i = m' + 1 := ⟨m - i - 1, by omega⟩
      have hno := HN2.out
      have hre := HRE.out
      rw [hm'] at hno hre
      have ct : decide ((i : Int) < m) = true := decide_eq_true (by omega)
      have qa : ∀ x : Int, x = ((dd + 1 : Nat) : Int) → 0 ≤ x ∧ x + k ≤ 65 := fun x hx => by omega
      rcases list_cases hno with ⟨hc1, hc2⟩ | ⟨x, r2, hx1, hx2, hx3⟩
      · have HRC : Aside0 (RL = .cut) := ⟨by rw [hre, hc2]; rfl⟩
        have HZ := Aside0.mk (HH.out.cut el ((dd : Int) + 1) oi wr HWW.out.rd (wentC HC.out HWW.out) (HE.out.grown HWW.out.grown) (by have := HSW.out; omega) hoi2 (by omega) (by omega) hc1)
        clear hno hre hc1 hc2 hi HDl
        go_wp2_with (first
          | (go_at_call 35; (with_reducible refine HZ.out.mono ?_); rintro e w2 HZ2; obtain ⟨cs2, q, ⟨a0, a1, a2, a3, A4, n4, k4, a5, a6, A7, n7, k7, A8, n8, k8, rfl⟩, hq, rfl⟩ := HZ2.out; have hB2 := keepBlk HVB.out HZ2.grown (by omega); have HB2 := Aside0.mk hB2; obtain ⟨f0, f1, f2, f3, f4, f5, f6, f7, f8, ffz⟩ := nineA hB2; clear hB2))
        have HB3 := HB2.out.alloc (.cells #[.int .i8 a0, .bool a1, .int .i64 a2, .float .f64 a3, .slice A4 n4 k4, .int .i8 a5, .int .i8 a6, .slice A7 n7 k7, .slice A8 n8 k8] 60)
        refine bodyPost_ret (ret_cell_tmp rfl _ _ w.heap.size 60 #[_, _, _, _, _, _, _, _, _] (0, 0) _ rfl (nineSet HB3 _ _ _ _ _ _ _ _ _).out Tryd.underlying60 rfl (by kernel_rfl)) rfl ?_
        rw [HRC.out]
        refine ⟨(fun y r h => nomatch h), fun _ => ⟨⟨_, q, ⟨_, _, _, _, _, _, _, _, _, _, _, _, _, _, _, rfl⟩, hq, rfl⟩, grownNine ((HWW.out.grown.trans HZ2.grown).trans (grownAlloc0 _ _ _)) (Nat.le_refl _) _ _ _ _ _ _ _ _ _, rdsNine ((HRS.out.trans HZ2.rds).trans (rdsAlloc0 _ _ _)) (by omega) _ _ _ _ _ _ _ _ _⟩⟩
      · obtain ⟨o2, f1, f2, f3⟩ := good_off (good_th k el) hx1 (by have := HLN.out; omega)
        have f2' : o2 ≤ n := by have := HLN.out; omega
        have HRC : Aside0 (listP (thP k) el el m' (bs.drop o2) ≠ .opn ∧ RL = (listP (thP k) el el m' (bs.drop o2)).mapR (D.snoc x.d 0 x.ls x.fs).app) := ⟨by rw [← f3]; exact ⟨hx2, by rw [hre]; exact hx3 D⟩⟩
        have HZ := Aside0.mk (HH.out.ok el ((dd : Int) + 1) oi o2 x r2 wr HWW.out.rd (wentC HC.out HWW.out) (HE.out.grown HWW.out.grown) (by have := HSW.out; omega) hoi2 (by omega) (by omega) hx1 f3 f2')
        have HM' : Aside0 (m' = m - (i + 1)) := ⟨by omega⟩
        clear hno hre hx1 hx2 hx3 hi f1 f2 f3
        go_wp2_with (first
          | (go_at_call 35; (with_reducible refine HZ.out.mono ?_); rintro e w2 HZ2; obtain ⟨xcs, rfl, hxin⟩ := HZ2.out; have HXI := Aside0.mk hxin; obtain ⟨A4, n4, k4, A7, n7, k7, A8, n8, k8, hxe⟩ := openV hxin; have HXE := Aside0.mk hxe; rw [hxe]; clear hxe hxin; have hB2 := keepBlk HVB.out HZ2.went.grown (by omega); have HB2 := Aside0.mk hB2; obtain ⟨f0, f1, f2, f3, f4, f5, f6, f7, f8, ffz⟩ := nineA hB2; clear hB2)
          | (at_builtin; refine appendCells (W := w2.alloc (.cells #[.int .i8 x.d.ty, .bool x.d.bo, .int .i64 x.d.n, .float .f64 x.d.bits, .slice A4 n4 k4, .int .i8 x.d.ky, .int .i8 x.d.el, .slice A7 n7 k7, .slice A8 n8 k8] 60)) (w.heap.size + 2) rfl (.tmp 132) (.tmp 134) 57 60 9 104 rfl Tryd.underlying57 infoVal (by decide) (.slice Al i cl) i cs [.int .i8 x.d.ty, .bool x.d.bo, .int .i64 x.d.n, .float .f64 x.d.bits, .slice A4 n4 k4, .int .i8 x.d.ky, .int .i8 x.d.el, .slice A7 n7 k7, .slice A8 n8 k8] rfl (by rw [allocSize]; rfl) rfl (by simp [Value.oneCell']) ?HO ?hb (by omega) (by unfold maxLen; omega) ?_; (case HO => exact (own_move (HDl.out ▸ HL.out.row) (fun b hb => HZ2.went.grown.block b (own_lt HL.out.row hb).2 (fun e => by have := own_lt HL.out.row hb; have := Option.some.inj e; omega))).alloc _); (case hb => rw [allocSize]; have := HZ2.went.grown.size; have := HSW.out; omega); intro v1 w4 ho hgr hor; obtain ⟨Al2, cl2, rfl⟩ := ownSlice ho; have HNX := Aside0.mk (HL.out.next (Nat.le_add_right _ 2) hB9 hgl (x := x) 0 HZ2.went.grown HZ2.went.rd.blk (HXI.out.move (fun _ _ => rfl) (fun b hb => (pn_iff _ _ _ _ b).1 hb)) hgr (by rw [HDl.out, HXE.out]; exact ho) hor); have hV4 : Blk w4 w.heap.size _ _ := ⟨(HNX.out.2 _ (Nat.le_refl _) (by omega)).trans HVB.out.out⟩; have g7 := hV4.cell (j := 7) rfl; have gz := hV4.free 7; have HV4 := Aside0.mk hV4; have HLB4 : Aside0 (Blk w4 (w.heap.size + 1) _ _) := ⟨⟨(HNX.out.2 _ (Nat.le_succ _) (by omega)).trans HLB.out.out⟩⟩; clear ho hgr hor hV4))
        go_roundg (gk - 1)
        case measure => have := HK.out; omega
        case rel =>
          have hsz : w.heap.size + 1 ≠ w.heap.size := by omega
          refine ⟨i + 1, o2, cl2, D.snoc x.d 0 x.ls x.fs, Al2, _, by omega, rfl, by go_num, ⟨by rw [F.len_snoc, HDl.out]⟩, f2', ?_, ?_, ⟨HNX.out.1.set hB9 (fun g' e => Option.some.inj e ▸ hgl) (Nat.le_refl _) (by omega) 7 _⟩, ⟨?_⟩, ⟨?_⟩, ⟨by have := HK.out; omega⟩⟩
          · rw [← HM'.out]; exact ⟨HRC.out.1⟩
          · rw [← HM'.out]; exact ⟨HRC.out.2⟩
          · exact HV4.out.set 7 _
          · exact HLB4.out.far hsz _
    · obtain rfl : i = m := by omega
      have HRC : Aside0 (RL = .ok D (bs.drop oi)) := ⟨by have := HRE.out; rw [Nat.sub_self] at this; rw [this]; show Res.ok (D.app .nil) _ = _; rw [F.app_nil]⟩
      have HLI := Aside0.mk (HL.out.lies (Nat.le_add_right _ 2))
      have ct : decide ((i : Int) < i) = false := decide_eq_false (by omega)
      clear hi
      go_wp2_with (fail)
      refine bodyPost_ret (ret_cell_tmp rfl _ _ w.heap.size 60 #[_, _, _, _, _, _, _, _, _] (0, 0) _ rfl (nineSet HVB.out _ _ _ _ _ _ _ _ _).out Tryd.underlying60 rfl (by kernel_rfl)) rfl ?_
      rw [HRC.out]
      refine ⟨fun y r h => ?_, fun h => nomatch h⟩
      obtain ⟨rfl, rfl⟩ := Res.ok.inj h
      have hNK := nineKeep HVB.out
      refine ⟨oi, rfl, hoi2, ⟨⟨nodeC flV ⟨10, false, 0, 0, [], 0, el⟩ (.slice none 0 0) (.slice Al i cl) (.slice none 0 0), rfl, ?_⟩, ?_⟩⟩
      · rw [hNK.1]
        refine ⟨⟨_, _, _, cs, [], rfl, bytesAt_nil _ _, ?_, ?_, lies_nil _ _, rfl⟩⟩
        · have hl := HLI.out.1; rw [HDl.out] at hl; exact HDl.out.symm ▸ hl.move (fun b _ => hNK.2 b) (fun b hb => (pn_iff _ _ _ _ b).2 hb)
        · exact HLI.out.2.move (fun b _ => hNK.2 b) (fun b hb => (pn_iff _ _ _ _ b).2 hb)
      · exact wentNine HWW.out (Nat.le_refl _) (by omega) _ _ _ _ _ _ _ _ _
end Go.Proofs.YtcboegodjlfmnaaDoor.Tzq

namespace Go.Proofs.YtcboegodjlfmnaaDoor.Tap
open Go.Proofs.YtcboegodjlfmnaaDoor.Tpa Go.Proofs.YtcboegodjlfmnaaDoor.Trh Go.Proofs.YtcboegodjlfmnaaDoor.Dpu Go.Proofs.YtcboegodjlfmnaaDoor.Pak Go.Proofs.YtcboegodjlfmnaaDoor.Buf Go.Proofs.YtcboegodjlfmnaaDoor.Fit Go.Proofs.YtcboegodjlfmnaaDoor.Bit Go.Proofs.YtcboegodjlfmnaaDoor.Le Go.Proofs.YtcboegodjlfmnaaDoor.Num Go.Proofs.YtcboegodjlfmnaaDoor.Lst Go.Proofs.YtcboegodjlfmnaaDoor.Aid Go.RowKit Go.Proofs.YtcboegodjlfmnaaDoorW.PrintWords Go.Proofs.YtcboegodjlfmnaaDoorW.PrintLast Go.Proofs.YtcboegodjlfmnaaDoorW.PrintMore
set_option linter.unusedVariables false
set_option linter.unusedSimpArgs false
section
variable {P : Program} {ops : Array Oper} {o : Oper} {a : Act} {Q : Exit → Act → World → Prop} {K : Act → World → Prop} {E : Prop}
theorem appendReadStepAt {w0 W : World} (base : Nat) (hgd : o.guard = none) (s x : Operand) (t e : TypeId) (k : IntKind) (bytes : Nat)
    (ho : o.op = .call { callee := .builtin .append, args := #[s, x], argTypes := #[t, t] })
    (ht : P.underlying t = some (.slice e)) (hinfo : (P.info? e).map (fun i => (i.zero, i.size, i.bytes)) = some (some (.int k 0), 1, bytes)) (hb0 : 0 < bytes)
    (v : Value) (xs : List Int) (A : Option Addr) (m c : Nat) (ys : List Int) (hs : a.eval s = v) (hx : a.eval x = .slice A m c)
    (HO : Own W base e k v xs) (HB : Below base w0 W) (hbase : base ≤ W.heap.size) (hC : (Kd.int k).C W A m ys) (hl : (xs.length + m) * bytes ≤ 140737488355328)
    (h : ∀ v1 w1, Own w1 base e k v1 (xs ++ ys) → Below base w0 w1 → W.grownBy w1 v.ownBlock → (v1.ownBlock = v.ownBlock ∨ v1.ownBlock = some W.heap.size) → K (a.put o.dst v1) w1) :
    if Region.wanted o (yielded ops a.tmps) = true then Oper.wp P o a W K Q else E := by
  have hw : Region.wanted o (yielded ops a.tmps) = true := by simp [Region.wanted, hgd]
  rw [if_pos hw]
  obtain ⟨i0, hi, hzz⟩ := Option.map_eq_some_iff.1 hinfo
  simp only [Prod.mk.injEq] at hzz
  obtain ⟨hz0, hz1, hz2⟩ := hzz
  have hm : ys.length = m := hC.1
  have hlen : xs.length + m ≤ 140737488355328 := Nat.le_trans (Nat.le_mul_of_pos_right _ hb0) hl
  have key : ∀ v1 w1, w1.ownsRow base e 1 v1 (xs.length + m) (nums k xs ++ nums k ys) → W.grownBy w1 v.ownBlock → (v1.ownBlock = v.ownBlock ∨ v1.ownBlock = some W.heap.size) → K (a.put o.dst v1) w1 := by
    intro v1 w1 h1 hg hat
    refine h v1 w1 ⟨?_⟩ (HB.grown hg hbase (own_base HO.out)) hg hat
    rw [List.length_append, hm, nums_append]; exact h1
  rcases A with _ | ad
  · have h0 : m = 0 := by
      rcases Nat.eq_zero_or_pos m with h0 | h0
      · exact h0
      · obtain ⟨ad, h', _⟩ := hC.2.2 h0
        cases h'
    subst h0
    obtain rfl : ys = [] := List.eq_nil_of_length_eq_zero hm
    have hk := key v W (by simpa [nums] using HO.out) (grownRefl W _) (.inl rfl)
    have hrun : (Builtin.append_ #[t, t] o.type #[v, .slice none 0 c]).run P W = .ok v W := by
      rcases HO.out.2 with ⟨rfl, _⟩ | ⟨g, cap, cur, rfl, _, _, hnc, _⟩
      · simp [Builtin.append_, run_underlying ht, sizeOf, typeInfo, hi, Builtin.lenOf, Builtin.firstCells]
      · simp [Builtin.append_, run_underlying ht, sizeOf, typeInfo, hi, Builtin.lenOf, Builtin.firstCells, hnc, storeCells]
    unfold Oper.wp
    simp [execOp, ho, resolve, invoke, builtin, hs, hx, hrun, Result.andThen]
    exact hk
  · obtain ⟨v', w', hr, h2, h3, _, h5⟩ := run_append_own_at (P := P) W base t o.type e i0 (.int k 0) 1 bytes ht hi hz0 hz1 hz2 rfl (by omega) v xs.length (nums k xs) HO.out ad m c (nums k ys) (by simp [nums, hm]) (C_cells hC) (by intro u hu; simp [nums] at hu; obtain ⟨q, _, rfl⟩ := hu; rfl) (by simp only [maxLen]; omega) hl hbase
    unfold Oper.wp execOp
    simp only [ho, resolve, invoke, builtin, Sem.run_bind, Sem.run_pure, Result.andThen_ok, List.map_toArray, List.map_cons, List.map_nil, hs, hx, hr]
    exact key v' w' h2 h3 h5
theorem appendCellsStep {W : World} (base : Nat) (hgd : o.guard = none) (s x : Operand) (t e : TypeId) (size bytes : Nat)
    (ho : o.op = .call { callee := .builtin .append, args := #[s, x], argTypes := #[t, t] })
    (ht : P.underlying t = some (.slice e)) (hinfo : (P.info? e).map (fun i => (i.size, i.bytes, i.zero.map (·.cells.size))) = some (size, bytes, some size)) (hs0 : 0 < size)
    (v : Value) (k : Nat) (cs news : List Value) (gx : Nat) (hs : a.eval s = v) (hx : a.eval x = .slice (some ⟨gx, 0, none⟩) 1 1) (hnl : news.length = size) (hone : ∀ u ∈ news, u.oneCell' = true)
    (HO : W.ownsRow base e size v k cs) (HX : Blk W gx news.toArray e) (hbase : base ≤ W.heap.size) (hl : (k + 1) * bytes ≤ 140737488355328) (hl2 : k + 1 ≤ maxLen)
    (h : ∀ v1 w1, w1.ownsRow base e size v1 (k + 1) (cs ++ news) → W.grownBy w1 v.ownBlock → (v1.ownBlock = v.ownBlock ∨ v1.ownBlock = some W.heap.size) → K (a.put o.dst v1) w1) :
    if Region.wanted o (yielded ops a.tmps) = true then Oper.wp P o a W K Q else E := by
  have hw : Region.wanted o (yielded ops a.tmps) = true := by simp [Region.wanted, hgd]
  rw [if_pos hw]
  obtain ⟨i, hi, he⟩ := Option.map_eq_some_iff.1 hinfo
  injection he with he1 he2
  injection he2 with he2 he3
  obtain ⟨z, hz, hzs⟩ := Option.map_eq_some_iff.1 he3
  obtain ⟨v', w', hr, h2, h3, h4, h5⟩ := run_append_own_at (P := P) W base t o.type e i z size bytes ht hi hz he1 he2 hzs hs0 v k cs HO ⟨gx, 0, none⟩ 1 1 news (by omega) (by
    intro j u hj
    have hb := HX.cell (j := j) (v := u) (by simpa using hj)
    have ea : (⟨gx, 0, none⟩ : Addr).add j = ⟨gx, j, none⟩ := by unfold Go.Addr.add; by_cases c : j = 0 <;> simp [c]
    rw [ea]; exact hb) hone hl2 hl hbase
  unfold Oper.wp execOp
  simp only [ho, resolve, invoke, builtin, Sem.run_bind, Sem.run_pure, Result.andThen_ok, List.map_toArray, List.map_cons, List.map_nil, hs, hx, hr]
  exact h _ _ h2 h3 h5
end
end Go.Proofs.YtcboegodjlfmnaaDoor.Tap
