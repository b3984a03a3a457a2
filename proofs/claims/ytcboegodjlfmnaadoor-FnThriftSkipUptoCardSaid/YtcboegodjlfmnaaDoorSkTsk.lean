import Derived.Test.YtcboegodjlfmnaaDoorSkMtg
import Derived.Stop.Asserts
namespace Go.Proofs.YtcboegodjlfmnaaDoor.Tsk
open Go.Proofs.YtcboegodjlfmnaaDoor.Tzz Go.Proofs.YtcboegodjlfmnaaDoor.Tzv Go.Proofs.YtcboegodjlfmnaaDoor.Tzq Go.Proofs.YtcboegodjlfmnaaDoor.Tzm Go.Proofs.YtcboegodjlfmnaaDoor.Tzl Go.Proofs.YtcboegodjlfmnaaDoor.Trh Go.Proofs.YtcboegodjlfmnaaDoor.Trn Go.Proofs.YtcboegodjlfmnaaDoor.Trm Go.Proofs.YtcboegodjlfmnaaDoor.Tuv Go.Proofs.YtcboegodjlfmnaaDoor.Tpa Go.Proofs.YtcboegodjlfmnaaDoor.Duv Go.Proofs.YtcboegodjlfmnaaDoor.Dpu Go.Proofs.YtcboegodjlfmnaaDoor.Pak Go.Proofs.YtcboegodjlfmnaaDoor.Buf Go.Proofs.YtcboegodjlfmnaaDoor.Fit Go.Proofs.YtcboegodjlfmnaaDoor.Bit Go.Proofs.YtcboegodjlfmnaaDoor.Wrd Go.Proofs.YtcboegodjlfmnaaDoor.Spl Go.Proofs.YtcboegodjlfmnaaDoor.Str Go.Proofs.YtcboegodjlfmnaaDoor.Flt Go.Proofs.YtcboegodjlfmnaaDoor.Owe Go.Proofs.YtcboegodjlfmnaaDoor.Num Go.Proofs.YtcboegodjlfmnaaDoor.Le Go.Proofs.YtcboegodjlfmnaaDoor.Lst Go.Proofs.YtcboegodjlfmnaaDoor.Aid Go.RowKit Go.Proofs.YtcboegodjlfmnaaDoorW.PrintWords Go.Proofs.YtcboegodjlfmnaaDoorW.PrintLast Go.Proofs.YtcboegodjlfmnaaDoorW.PrintMore
set_option linter.unusedVariables false
set_option linter.unusedSimpArgs false
structure SkR (w w' : World) (g : Nat) (p : Value) (A : Option Addr) (n c o : Nat) (e : Ending) : Prop where
  mk :: (end_ : e = .returned .nilIface) (went : Went w w' g p A n c o)
structure SkH (g : Nat) (p : Value) (A : Option Addr) (n c : Nat) (bs : List Int) (k : Nat) : Prop where
  mk :: (out : ∀ (ty : Int) (o o' : Nat) (x : N) (r : List Int) (w : World), RdAt w g p A n c o → (Kd.int .u8).C w A n bs → o ≤ n → thP k ty (bs.drop o) = .ok x r → r = bs.drop o' → o' ≤ n → Calls Tryd.prog 37 #[rdV g, .int .i8 ty] w fun e w' => SkR w w' g p A n c o' e)
theorem ok_type {k : Nat} {ty : Int} {bs r : List Int} {x : N} (h : thP k ty bs = .ok x r) : 3 ≤ ty ∧ ty ≤ 12 := by
  cases k with
  | zero => cases h
  | succ k =>
    by_cases c : 3 ≤ ty ∧ ty ≤ 12
    · exact c
    · rw [th_other c] at h; cases h
theorem m_ReadLength (k : Nat) (v : Value) (W : World) : (Go.method (k + 1) 103 v "ReadLength").run Tryd.prog W = .ok (103, v) W := by kernel_rfl
theorem m_ReadSet (k : Nat) (v : Value) (W : World) : (Go.method (k + 1) 103 v "ReadSet").run Tryd.prog W = .ok (107, v) W := by kernel_rfl
theorem m_Discard (k : Nat) (v : Value) (W : World) : (Go.method (k + 1) 103 v "Discard").run Tryd.prog W = .ok (93, v) W := by kernel_rfl
theorem m_Protocol (k : Nat) (v : Value) (W : World) : (Go.method (k + 1) 103 v "Protocol").run Tryd.prog W = .ok (94, v) W := by kernel_rfl
theorem m_Features (k : Nat) (v : Value) (W : World) : (Go.method (k + 1) 77 v "Features").run Tryd.prog W = .ok (85, v) W := by kernel_rfl
set_option maxHeartbeats 4000000 in
theorem skipItem_calls (g : Nat) (ty : Int) (w : World) (R : Ending → World → Prop) (ht : 3 ≤ ty ∧ ty ≤ 12) (h : Calls Tryd.prog 37 #[rdV g, .int .i8 ty] w fun e w' => e = .returned .nilIface ∧ R e w') : Calls Tryd.prog 38 #[rdV g, .int .i8 ty] w R := by
  have H := Aside0.mk h
  have q1 : (ty == 1) = false := by rw [beq_eq_false_iff_ne]; omega
  have q2 : (ty == 2) = false := by rw [beq_eq_false_iff_ne]; omega
  clear h ht
  go_enter Tryd.func38, Tryd.ntmps38
  go_wp2_with (first
    | (go_at_call 37; (with_reducible refine H.out.mono ?_); rintro e w2 ⟨rfl, hr⟩))
  exact hr
set_option maxHeartbeats 4000000 in
set_option maxRecDepth 100000 in
theorem skip_3 (g : Nat) (p : Value) (A : Option Addr) (n c o o' : Nat) (bs : List Int) (k : Nat) (x : N) (r : List Int) (w : World) (hR : RdAt w g p A n c o) (hC : (Kd.int .u8).C w A n bs) (hc : n ≤ c) (hn : n ≤ 2147483647) (ho : o ≤ n) (hb : bytesB bs = true)
    (h : thP (k + 1) 3 (bs.drop o) = .ok x r) (hr : r = bs.drop o') (ho' : o' ≤ n) : Calls Tryd.prog 37 #[rdV g, .int .i8 3] w fun e w' => SkR w w' g p A n c o' e := by
  have hln : bs.length = n := hC.1
  unfold thP at h
  rw [if_pos (by omega)] at h
  obtain ⟨b, r1, h1, h2⟩ := bind_ok h
  injection h2 with h3 h4
  subst h4
  obtain ⟨k1, k2, k3⟩ := byte_ok h1
  obtain rfl := off_uniq k3 hr (by omega) (by omega)
  have HM := Aside0.mk (readInt8_ok g p A n c o bs w hR hC hb hn (by omega))
  clear hR hC hb h
  have hm := m_ReadInt8
  go_enter Tryd.func37, Tryd.ntmps37
  go_wp2_with (first
    | (go_at_call 102; (with_reducible refine HM.out.mono ?_); rintro e w1 ⟨rfl, HW⟩))
  go_ret
  exact ⟨rfl, HW⟩
set_option maxHeartbeats 4000000 in
set_option maxRecDepth 100000 in
theorem skip_4 (g : Nat) (p : Value) (A : Option Addr) (n c o o' : Nat) (bs : List Int) (k : Nat) (x : N) (r : List Int) (w : World) (hR : RdAt w g p A n c o) (hC : (Kd.int .u8).C w A n bs) (hc : n ≤ c) (hn : n ≤ 2147483647) (ho : o ≤ n) (hb : bytesB bs = true)
    (h : thP (k + 1) 4 (bs.drop o) = .ok x r) (hr : r = bs.drop o') (ho' : o' ≤ n) : Calls Tryd.prog 37 #[rdV g, .int .i8 4] w fun e w' => SkR w w' g p A n c o' e := by
  have hln : bs.length = n := hC.1
  unfold thP at h
  rw [if_neg (by omega)] at h
  rw [if_pos (by omega)] at h
  obtain ⟨y, r1, h1, h2⟩ := bind_ok h
  injection h2 with h3 h4
  subst h4
  have HM : Aside0 (Calls Tryd.prog 99 #[.pointer (some ⟨g, 0, none⟩)] w fun e w' => e = .returned (.tuple #[.int .i16 y, .nilIface]) ∧ Went w w' g p A n c o') := ⟨by
    obtain ⟨oo, d1, d2, d3, d4⟩ := readInt16_ok g p A n c o bs r1 y w hR hC hc hn ho hb h1
    obtain rfl := off_uniq d3 hr (by omega) (by omega)
    exact d4⟩
  clear hR hC hb h
  have hm := m_ReadInt16
  go_enter Tryd.func37, Tryd.ntmps37
  go_wp2_with (first
    | (go_at_call 99; (with_reducible refine HM.out.mono ?_); rintro e w1 ⟨rfl, HW⟩))
  go_ret
  exact ⟨rfl, HW⟩
set_option maxHeartbeats 4000000 in
set_option maxRecDepth 100000 in
theorem skip_5 (g : Nat) (p : Value) (A : Option Addr) (n c o o' : Nat) (bs : List Int) (k : Nat) (x : N) (r : List Int) (w : World) (hR : RdAt w g p A n c o) (hC : (Kd.int .u8).C w A n bs) (hc : n ≤ c) (hn : n ≤ 2147483647) (ho : o ≤ n) (hb : bytesB bs = true)
    (h : thP (k + 1) 5 (bs.drop o) = .ok x r) (hr : r = bs.drop o') (ho' : o' ≤ n) : Calls Tryd.prog 37 #[rdV g, .int .i8 5] w fun e w' => SkR w w' g p A n c o' e := by
  have hln : bs.length = n := hC.1
  unfold thP at h
  rw [if_neg (by omega)] at h
  rw [if_neg (by omega)] at h
  rw [if_pos (by omega)] at h
  obtain ⟨y, r1, h1, h2⟩ := bind_ok h
  injection h2 with h3 h4
  subst h4
  have HM : Aside0 (Calls Tryd.prog 100 #[.pointer (some ⟨g, 0, none⟩)] w fun e w' => e = .returned (.tuple #[.int .i32 y, .nilIface]) ∧ Went w w' g p A n c o') := ⟨by
    obtain ⟨oo, d1, d2, d3, d4⟩ := readInt32_ok g p A n c o bs r1 y w hR hC hc hn ho hb h1
    obtain rfl := off_uniq d3 hr (by omega) (by omega)
    exact d4⟩
  clear hR hC hb h
  have hm := m_ReadInt32
  go_enter Tryd.func37, Tryd.ntmps37
  go_wp2_with (first
    | (go_at_call 100; (with_reducible refine HM.out.mono ?_); rintro e w1 ⟨rfl, HW⟩))
  go_ret
  exact ⟨rfl, HW⟩
set_option maxHeartbeats 4000000 in
set_option maxRecDepth 100000 in
theorem skip_6 (g : Nat) (p : Value) (A : Option Addr) (n c o o' : Nat) (bs : List Int) (k : Nat) (x : N) (r : List Int) (w : World) (hR : RdAt w g p A n c o) (hC : (Kd.int .u8).C w A n bs) (hc : n ≤ c) (hn : n ≤ 2147483647) (ho : o ≤ n) (hb : bytesB bs = true)
    (h : thP (k + 1) 6 (bs.drop o) = .ok x r) (hr : r = bs.drop o') (ho' : o' ≤ n) : Calls Tryd.prog 37 #[rdV g, .int .i8 6] w fun e w' => SkR w w' g p A n c o' e := by
  have hln : bs.length = n := hC.1
  unfold thP at h
  rw [if_neg (by omega)] at h
  rw [if_neg (by omega)] at h
  rw [if_neg (by omega)] at h
  rw [if_pos (by omega)] at h
  obtain ⟨y, r1, h1, h2⟩ := bind_ok h
  injection h2 with h3 h4
  subst h4
  have HM : Aside0 (Calls Tryd.prog 101 #[.pointer (some ⟨g, 0, none⟩)] w fun e w' => e = .returned (.tuple #[.int .i64 y, .nilIface]) ∧ Went w w' g p A n c o') := ⟨by
    obtain ⟨oo, d1, d2, d3, d4⟩ := readInt64_ok g p A n c o bs r1 y w hR hC hc hn ho hb h1
    obtain rfl := off_uniq d3 hr (by omega) (by omega)
    exact d4⟩
  clear hR hC hb h
  have hm := m_ReadInt64
  go_enter Tryd.func37, Tryd.ntmps37
  go_wp2_with (first
    | (go_at_call 101; (with_reducible refine HM.out.mono ?_); rintro e w1 ⟨rfl, HW⟩))
  go_ret
  exact ⟨rfl, HW⟩
set_option maxHeartbeats 4000000 in
set_option maxRecDepth 100000 in
theorem skip_7 (g : Nat) (p : Value) (A : Option Addr) (n c o o' : Nat) (bs : List Int) (k : Nat) (x : N) (r : List Int) (w : World) (hR : RdAt w g p A n c o) (hC : (Kd.int .u8).C w A n bs) (hc : n ≤ c) (hn : n ≤ 2147483647) (ho : o ≤ n) (hb : bytesB bs = true)
    (h : thP (k + 1) 7 (bs.drop o) = .ok x r) (hr : r = bs.drop o') (ho' : o' ≤ n) : Calls Tryd.prog 37 #[rdV g, .int .i8 7] w fun e w' => SkR w w' g p A n c o' e := by
  have hln : bs.length = n := hC.1
  unfold thP at h
  rw [if_neg (by omega)] at h
  rw [if_neg (by omega)] at h
  rw [if_neg (by omega)] at h
  rw [if_neg (by omega)] at h
  rw [if_pos (by omega)] at h
  obtain ⟨l, r1, h1, h2⟩ := bind_ok h
  injection h2 with h3 h4
  subst h4
  obtain ⟨k1, k2, k3⟩ := take_ok h1 (by omega)
  obtain rfl := off_uniq k3 hr (by omega) (by omega)
  have HM := Aside0.mk (readFloat_ok g p A n c o bs w hR hC hc hb hn (by omega))
  clear hR hC hb h
  have hm := m_ReadFloat64
  go_enter Tryd.func37, Tryd.ntmps37
  go_wp2_with (first
    | (go_at_call 98; (with_reducible refine HM.out.mono ?_); rintro e w1 ⟨rfl, HW⟩))
  go_ret
  exact ⟨rfl, HW⟩
set_option maxHeartbeats 4000000 in
set_option maxRecDepth 100000 in
theorem discard_calls (g : Nat) (p : Value) (A : Option Addr) (n c o m : Nat) (w : World) (hR : RdAt w g p A n c o) (hn : n ≤ 2147483647) (hm : o + m ≤ n) :
    Calls Tryd.prog 59 #[rdV g, .int .i64 m] w fun e w' => e = .returned (.tuple #[.int .i64 m, .nilIface]) ∧ Went w w' g p A n c (o + m) := by
  have HD : Aside0 (Calls Tryd.prog 93 #[.pointer (some ⟨g, 0, none⟩), .int .i64 m] w fun e w' => e = .returned (.tuple #[.int .i64 m, .nilIface]) ∧ Went w w' g p A n c (o + m)) := ⟨by
    have HR := Aside0.mk hR
    have c1 := hR.blk.cell (j := 1) rfl
    have c2 := hR.blk.cell (j := 2) rfl
    have cz := hR.blk.free 2
    have q1 : decide ((n : Int) - (o : Int) < (m : Int)) = false := decide_eq_false (by omega)
    have qw : IntKind.i64.wrap ((n : Int) - (o : Int)) = (n : Int) - o := IntWalk.i64_in _ (by omega)
    have qw2 : IntKind.i64.wrap ((o : Int) + m) = (o : Int) + m := IntWalk.i64_in _ (by omega)
    clear hR
    go_enter Tryd.func93, Tryd.ntmps93
    go_wp2_with (first
      | (go_quiet (fail)))
    go_ret2
    exact ⟨rfl, HR.out.goes _ (o + m) _ (by push_cast; rfl)⟩⟩
  have hmd := m_Discard
  have hta : ∀ W : World, (Instr.typeAssert (rdV g) 107 184 true).run Tryd.prog W = .ok (.tuple #[rdV g, .bool true]) W := fun W => run_typeAssert_hasB Tryd.underlying184 (by kernel_rfl) _ _ W
  clear hR
  go_enter Tryd.func59, Tryd.ntmps59
  go_wp2_with (first
    | (go_at_call 93; (with_reducible refine HD.out.mono ?_); rintro e w1 ⟨rfl, HW⟩))
  go_ret2
  exact ⟨rfl, HW⟩
set_option maxHeartbeats 4000000 in
theorem dontNil_calls (w : World) : Calls Tryd.prog 45 #[.nilIface] w fun e w' => e = .returned .nilIface ∧ w = w' := by
  go_enter Tryd.func45, Tryd.ntmps45
  go_wp2_with (fail)
  go_ret
  exact ⟨rfl, rfl⟩
set_option maxHeartbeats 4000000 in
set_option maxRecDepth 100000 in
theorem skipBinary_calls (g : Nat) (p : Value) (A : Option Addr) (n c o o1 : Nat) (bs r1 : List Int) (m : Nat) (w : World) (hR : RdAt w g p A n c o) (hC : (Kd.int .u8).C w A n bs) (hc : n ≤ c) (hn : n ≤ 2147483647) (ho : o ≤ n) (hb : bytesB bs = true)
    (h : varP 10 true (bs.drop o) = .ok m r1) (hm : m ≤ 10000) (hr : r1 = bs.drop o1) (ho1 : o1 + m ≤ n) : Calls Tryd.prog 46 #[rdV g] w fun e w' => SkR w w' g p A n c (o1 + m) e := by
  have hln : bs.length = n := hC.1
  have HM : Aside0 (Calls Tryd.prog 103 #[.pointer (some ⟨g, 0, none⟩)] w fun e w' => e = .returned (.tuple #[.int .i64 m, .nilIface]) ∧ Went w w' g p A n c o1) := ⟨by
    obtain ⟨oo, d1, d2, d3, d4⟩ := readLength_ok g p A n c o bs r1 m w hR hC hc hn ho hb h (by omega)
    obtain rfl := off_uniq d3 hr (by omega) (by omega)
    exact d4⟩
  have hmr := m_ReadLength
  have HDN := Aside0.mk dontNil_calls
  clear hR hC hb h hr hln
  go_enter Tryd.func46, Tryd.ntmps46
  by_cases c0 : m = 0
  · subst c0
    go_wp2_with (first
      | (go_at_call 103; (with_reducible refine HM.out.mono ?_); rintro e w1 ⟨rfl, HW⟩))
    go_ret
    exact ⟨rfl, HW⟩
  · have q0 : ((m : Int) == 0) = false := by rw [beq_eq_false_iff_ne]; omega
    have q00 : (m == 0) = false := by rw [beq_eq_false_iff_ne]; omega
    clear c0
    go_wp2_with (first
      | (go_at_call 103; (with_reducible refine HM.out.mono ?_); rintro e w1 ⟨rfl, HW⟩; have HDC := Aside0.mk (discard_calls g p A n c o1 m w1 HW.rd hn ho1))
      | (go_at_call 59; (with_reducible refine HDC.out.mono ?_); rintro e w2 ⟨rfl, HW2⟩)
      | (go_at_call 45; (with_reducible refine (HDN.out _).mono ?_); rintro e w3 ⟨rfl, rfl⟩))
    go_ret
    exact ⟨rfl, HW.trans HW2⟩
set_option maxHeartbeats 4000000 in
set_option maxRecDepth 100000 in
theorem skip_8 (g : Nat) (p : Value) (A : Option Addr) (n c o o' : Nat) (bs : List Int) (k : Nat) (x : N) (r : List Int) (w : World) (hR : RdAt w g p A n c o) (hC : (Kd.int .u8).C w A n bs) (hc : n ≤ c) (hn : n ≤ 2147483647) (ho : o ≤ n) (hb : bytesB bs = true)
    (h : thP (k + 1) 8 (bs.drop o) = .ok x r) (hr : r = bs.drop o') (ho' : o' ≤ n) : Calls Tryd.prog 37 #[rdV g, .int .i8 8] w fun e w' => SkR w w' g p A n c o' e := by
  have hln : bs.length = n := hC.1
  unfold thP at h
  rw [if_neg (by omega)] at h
  rw [if_neg (by omega)] at h
  rw [if_neg (by omega)] at h
  rw [if_neg (by omega)] at h
  rw [if_neg (by omega)] at h
  rw [if_pos (by omega)] at h
  obtain ⟨m, r1, h1, h2⟩ := bind_ok h
  obtain ⟨l, r2, h3, h4⟩ := bind_ok h2
  injection h4 with h5 h6
  subst h6
  obtain ⟨m', r3, h7, h8⟩ := bind_ok h1
  have hmm : m' = m ∧ r3 = r1 ∧ m ≤ 10000 := by
    by_cases c : 10000 < m'
    · rw [if_pos c] at h8; cases h8
    · rw [if_neg c] at h8
      injection h8 with h9 h10
      exact ⟨h9, h10, by omega⟩
  obtain ⟨rfl, rfl, hm9⟩ := hmm
  obtain ⟨o1, e1, e2, e3⟩ := good_off (good_var 10 true) h7 (by omega)
  rw [e3] at h3
  obtain ⟨k1, k2, k3⟩ := take_ok h3 (by omega)
  obtain rfl := off_uniq k3 hr (by omega) (by omega)
  have HS := Aside0.mk (skipBinary_calls g p A n c o o1 bs r3 m' w hR hC hc hn ho hb h7 hm9 e3 (by omega))
  clear hR hC hb h h1 h2 h3 h7 h8
  go_enter Tryd.func37, Tryd.ntmps37
  go_wp2_with (first
    | (go_at_call 46; (with_reducible refine HS.out.mono ?_); rintro e w1 HQ; obtain rfl := HQ.end_; have HW := Aside0.mk HQ.went; clear HQ))
  go_ret
  exact ⟨rfl, HW.out⟩
set_option maxHeartbeats 4000000 in
set_option maxRecDepth 100000 in
/-- a truth that is a field takes no bytes -/
theorem skip_truth (g : Nat) (pv A : Option Addr) (n c o : Nat) (ty : Int) (w : World) (hR : RdAt w g (.pointer pv) A n c o) (ht : ty = 1 ∨ ty = 2) :
    Calls Tryd.prog 37 #[rdV g, .int .i8 ty] w fun e w' => SkR w w' g (.pointer pv) A n c o e := by
  have HP : Aside0 (Calls Tryd.prog 94 #[.pointer (some ⟨g, 0, none⟩)] w fun e w' => e = .returned (.iface 77 (.pointer pv)) ∧ w = w') := ⟨by
    have c0 := hR.blk.cell (j := 0) rfl
    clear hR
    go_enter Tryd.func94, Tryd.ntmps94
    go_wp2_with (fail)
    go_ret
    exact ⟨rfl, rfl⟩⟩
  have HF : Aside0 (Calls Tryd.prog 85 #[.pointer pv] w fun e w' => e = .returned (.int .u64 3) ∧ w = w') := ⟨by
    go_enter Tryd.func85, Tryd.ntmps85
    go_wp2_with (fail)
    go_ret
    exact ⟨rfl, rfl⟩⟩
  have hm1 := m_Protocol
  have hm2 := m_Features
  have HR := Aside0.mk hR
  clear hR
  rcases ht with rfl | rfl
  · go_enter Tryd.func37, Tryd.ntmps37
    go_wp2_with (first
      | (go_at_call 94; (with_reducible refine HP.out.mono ?_); rintro e w1 ⟨rfl, rfl⟩)
      | (go_at_call 85; (with_reducible refine HF.out.mono ?_); rintro e w1 ⟨rfl, rfl⟩))
    go_ret
    exact ⟨rfl, grownRefl _ _, HR.out⟩
  · go_enter Tryd.func37, Tryd.ntmps37
    go_wp2_with (first
      | (go_at_call 94; (with_reducible refine HP.out.mono ?_); rintro e w1 ⟨rfl, rfl⟩)
      | (go_at_call 85; (with_reducible refine HF.out.mono ?_); rintro e w1 ⟨rfl, rfl⟩))
    go_ret
    exact ⟨rfl, grownRefl _ _, HR.out⟩
end Go.Proofs.YtcboegodjlfmnaaDoor.Tsk
