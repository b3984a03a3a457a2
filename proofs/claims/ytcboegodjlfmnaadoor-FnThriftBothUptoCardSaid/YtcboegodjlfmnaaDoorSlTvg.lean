import Derived.Test.YtcboegodjlfmnaaDoorSlTvf
import Derived.Test.YtcboegodjlfmnaaDoorSlTva
namespace Go.Proofs.YtcboegodjlfmnaaDoor.Tvg
open Go.Proofs.YtcboegodjlfmnaaDoor.Tvf Go.Proofs.YtcboegodjlfmnaaDoor.Tva Go.Proofs.YtcboegodjlfmnaaDoor.Tzq Go.Proofs.YtcboegodjlfmnaaDoor.Tpv Go.Proofs.YtcboegodjlfmnaaDoor.Tap Go.Proofs.YtcboegodjlfmnaaDoor.Tzm Go.Proofs.YtcboegodjlfmnaaDoor.Tzl Go.Proofs.YtcboegodjlfmnaaDoor.Duv Go.Proofs.YtcboegodjlfmnaaDoor.Tve Go.Proofs.YtcboegodjlfmnaaDoor.Tvc Go.Proofs.YtcboegodjlfmnaaDoor.Tvd Go.Proofs.YtcboegodjlfmnaaDoor.Tpa Go.Proofs.YtcboegodjlfmnaaDoor.Tvb Go.Proofs.YtcboegodjlfmnaaDoor.Tvo Go.Proofs.YtcboegodjlfmnaaDoor.Sbu Go.Proofs.YtcboegodjlfmnaaDoor.Dpu Go.Proofs.YtcboegodjlfmnaaDoor.Pak Go.Proofs.YtcboegodjlfmnaaDoor.Buf Go.Proofs.YtcboegodjlfmnaaDoor.Fit Go.Proofs.YtcboegodjlfmnaaDoor.Bit Go.Proofs.YtcboegodjlfmnaaDoor.Wrd Go.Proofs.YtcboegodjlfmnaaDoor.Spl Go.Proofs.YtcboegodjlfmnaaDoor.Str Go.Proofs.YtcboegodjlfmnaaDoor.Flt Go.Proofs.YtcboegodjlfmnaaDoor.Owe Go.Proofs.YtcboegodjlfmnaaDoor.Num Go.Proofs.YtcboegodjlfmnaaDoor.Le Go.Proofs.YtcboegodjlfmnaaDoor.Lst Go.Proofs.YtcboegodjlfmnaaDoor.Aid Go.RowKit Go.Proofs.YtcboegodjlfmnaaDoorW.PrintWords Go.Proofs.YtcboegodjlfmnaaDoorW.PrintLast Go.Proofs.YtcboegodjlfmnaaDoorW.PrintMore
set_option linter.unusedVariables false
set_option linter.unusedSimpArgs false
abbrev wrV (g : Nat) : Value := .iface 160 (.pointer (some ⟨g, 0, none⟩))
theorem mw_WriteInt8 (k : Nat) (v : Value) (W : World) : (Go.method (k + 1) 160 v "WriteInt8").run Tryd.prog W = .ok (126, v) W := by kernel_rfl
theorem mw_WriteInt16 (k : Nat) (v : Value) (W : World) : (Go.method (k + 1) 160 v "WriteInt16").run Tryd.prog W = .ok (123, v) W := by kernel_rfl
theorem mw_WriteInt32 (k : Nat) (v : Value) (W : World) : (Go.method (k + 1) 160 v "WriteInt32").run Tryd.prog W = .ok (124, v) W := by kernel_rfl
theorem mw_WriteInt64 (k : Nat) (v : Value) (W : World) : (Go.method (k + 1) 160 v "WriteInt64").run Tryd.prog W = .ok (125, v) W := by kernel_rfl
theorem mw_WriteFloat64 (k : Nat) (v : Value) (W : World) : (Go.method (k + 1) 160 v "WriteFloat64").run Tryd.prog W = .ok (122, v) W := by kernel_rfl
theorem mw_WriteBytes (k : Nat) (v : Value) (W : World) : (Go.method (k + 1) 160 v "WriteBytes").run Tryd.prog W = .ok (120, v) W := by kernel_rfl
theorem mw_WriteList (k : Nat) (v : Value) (W : World) : (Go.method (k + 1) 160 v "WriteList").run Tryd.prog W = .ok (128, v) W := by kernel_rfl
theorem mw_WriteMap (k : Nat) (v : Value) (W : World) : (Go.method (k + 1) 160 v "WriteMap").run Tryd.prog W = .ok (129, v) W := by kernel_rfl
theorem mw_WriteField (k : Nat) (v : Value) (W : World) : (Go.method (k + 1) 160 v "WriteField").run Tryd.prog W = .ok (121, v) W := by kernel_rfl
def Zw (x : N) : Prop := ∀ (dd : Nat) (B g b : Nat) (bs : List Int) (w : World) (cs : List Value), x.ok dd false → x.In flV w (fun k => k < B) cs → WrB w B g b bs → B ≤ w.heap.size → bs.length + (x.byB false).length ≤ 80000000 →
  Calls Tryd.prog 40 #[wrV g, .agg cs.toArray] w fun e w' => WrOk w w' B g b (bs ++ x.byB false) e
theorem openVc {w : World} {x : N} {Pb : Nat → Prop} {cs : List Value} (h : x.In flV w Pb cs) :
    ∃ (A1 : Option Addr) (c1 : Nat) (A2 : Option Addr) (c2 : Nat) (A3 : Option Addr) (c3 : Nat) (lcs fcs : List Value), cs = [.int .i8 x.d.ty, .bool x.d.bo, .int .i64 x.d.n, .float .f64 x.d.bits, .slice A1 x.d.bs.length c1, .int .i8 x.d.ky, .int .i8 x.d.el, .slice A2 x.ls.len c2, .slice A3 x.fs.len c3] ∧ BytesAt w Pb (.slice A1 x.d.bs.length c1) x.d.bs ∧ Lies w Pb (.slice A2 x.ls.len c2) x.ls.len lcs ∧ x.ls.In flV w Pb false lcs ∧ Lies w Pb (.slice A3 x.fs.len c3) x.fs.len fcs ∧ x.fs.In flV w Pb true fcs := by
  obtain ⟨bsv, lsv, fsv, lcs, fcs, e, h1, h2, h3, h4, h5⟩ := h.out
  obtain ⟨A1, c1, rfl, _⟩ := id h1.out
  obtain ⟨A2, c2, rfl, _⟩ := id h2.out
  obtain ⟨A3, c3, rfl, _⟩ := id h4.out
  exact ⟨A1, c1, A2, c2, A3, c3, lcs, fcs, e, h1, h2, h3, h4, h5⟩
set_option maxRecDepth 100000 in
set_option maxHeartbeats 4000000 in
theorem zw_3 (n : Int) (B g b : Nat) (bs : List Int) (A1 : Option Addr) (c1 : Nat) (A2 : Option Addr) (c2 : Nat) (A3 : Option Addr) (c3 : Nat) (w : World) (h : WrB w B g b bs) (hB : B ≤ w.heap.size) (h0 : -128 ≤ n) (h1 : n < 128) (hlim : bs.length ≤ 100000000) :
    Calls Tryd.prog 40 #[wrV g, .agg #[.int .i8 3, .bool false, .int .i64 n, .float .f64 0, .slice A1 0 c1, .int .i8 0, .int .i8 0, .slice A2 0 c2, .slice A3 0 c3]] w fun e w' => WrOk w w' B g b (bs ++ [n % 256]) e := by
  have HW1 := Aside0.mk (h.alloc (.cells #[.int .i8 3, .bool false, .int .i64 n, .float .f64 0, .slice A1 0 c1, .int .i8 0, .int .i8 0, .slice A2 0 c2, .slice A3 0 c3] 60))
  have HB1 : Aside0 (Below w.heap.size w (w.alloc (.cells #[.int .i8 3, .bool false, .int .i64 n, .float .f64 0, .slice A1 0 c1, .int .i8 0, .int .i8 0, .slice A2 0 c2, .slice A3 0 c3] 60))) := ⟨(Below.refl _ _).alloc (Nat.le_refl _) _⟩
  have HV1 := Aside0.mk (Blk.new w #[.int .i8 3, .bool false, .int .i64 n, .float .f64 0, .slice A1 0 c1, .int .i8 0, .int .i8 0, .slice A2 0 c2, .slice A3 0 c3] 60)
  have HBW := Aside0.mk hB
  have hm := mw_WriteInt8
  have hw : IntKind.i8.wrap n = n := by rw [wrap_i8]; omega
  have HM : Aside0 (∀ V, WrB V B g b bs → Below w.heap.size w V → Calls Tryd.prog 126 #[.pointer (some ⟨g, 0, none⟩), .int .i8 n] V fun e w' => WrOk V w' B g b (bs ++ [n % 256]) e) := ⟨fun V h hb => wInt8_calls B g b bs n V h (Nat.le_trans hB hb.size) hlim⟩
  clear h
  go_enter Tryd.func40, Tryd.ntmps40
  go_upto_region 1 with (fail)
  generalize hW1 : World.alloc _ _ = W1 at HW1 HB1 HV1 ⊢
  clear hW1
  obtain ⟨q0, q1, q2, q3, q4, q5, q6, q7, q8, qz⟩ := nine HV1.out
  go_wp2_with (first
    | (go_at_call 126; (with_reducible refine (HM.out _ HW1.out HB1.out).mono ?_); rintro e w2 HQ; obtain rfl := HQ.ret; have HQ := Aside0.mk HQ))
  go_ret
  exact WrOk.behind HQ.out HBW.out HB1.out
set_option maxRecDepth 100000 in
set_option maxHeartbeats 4000000 in
theorem zw_4 (n : Int) (B g b : Nat) (bs : List Int) (A1 : Option Addr) (c1 : Nat) (A2 : Option Addr) (c2 : Nat) (A3 : Option Addr) (c3 : Nat) (w : World) (h : WrB w B g b bs) (hB : B ≤ w.heap.size) (h0 : -32768 ≤ n) (h1 : n < 32768) (hlim : bs.length ≤ 100000000) :
    Calls Tryd.prog 40 #[wrV g, .agg #[.int .i8 4, .bool false, .int .i64 n, .float .f64 0, .slice A1 0 c1, .int .i8 0, .int .i8 0, .slice A2 0 c2, .slice A3 0 c3]] w fun e w' => WrOk w w' B g b (bs ++ varL (zz n)) e := by
  have HW1 := Aside0.mk (h.alloc (.cells #[.int .i8 4, .bool false, .int .i64 n, .float .f64 0, .slice A1 0 c1, .int .i8 0, .int .i8 0, .slice A2 0 c2, .slice A3 0 c3] 60))
  have HB1 : Aside0 (Below w.heap.size w (w.alloc (.cells #[.int .i8 4, .bool false, .int .i64 n, .float .f64 0, .slice A1 0 c1, .int .i8 0, .int .i8 0, .slice A2 0 c2, .slice A3 0 c3] 60))) := ⟨(Below.refl _ _).alloc (Nat.le_refl _) _⟩
  have HV1 := Aside0.mk (Blk.new w #[.int .i8 4, .bool false, .int .i64 n, .float .f64 0, .slice A1 0 c1, .int .i8 0, .int .i8 0, .slice A2 0 c2, .slice A3 0 c3] 60)
  have HBW := Aside0.mk hB
  have hm := mw_WriteInt16
  have hw : IntKind.i16.wrap n = n := by rw [wrap_i16]; omega
  have HM : Aside0 (∀ V, WrB V B g b bs → Below w.heap.size w V → Calls Tryd.prog 123 #[.pointer (some ⟨g, 0, none⟩), .int .i16 n] V fun e w' => WrOk V w' B g b (bs ++ varL (zz n)) e) := ⟨fun V h hb => wInt16_calls B g b bs n V h (Nat.le_trans hB hb.size) h0 h1 hlim⟩
  clear h
  go_enter Tryd.func40, Tryd.ntmps40
  go_upto_region 1 with (fail)
  generalize hW1 : World.alloc _ _ = W1 at HW1 HB1 HV1 ⊢
  clear hW1
  obtain ⟨q0, q1, q2, q3, q4, q5, q6, q7, q8, qz⟩ := nine HV1.out
  go_wp2_with (first
    | (go_at_call 123; (with_reducible refine (HM.out _ HW1.out HB1.out).mono ?_); rintro e w2 HQ; obtain rfl := HQ.ret; have HQ := Aside0.mk HQ))
  go_ret
  exact WrOk.behind HQ.out HBW.out HB1.out
set_option maxRecDepth 100000 in
set_option maxHeartbeats 4000000 in
theorem zw_5 (n : Int) (B g b : Nat) (bs : List Int) (A1 : Option Addr) (c1 : Nat) (A2 : Option Addr) (c2 : Nat) (A3 : Option Addr) (c3 : Nat) (w : World) (h : WrB w B g b bs) (hB : B ≤ w.heap.size) (h0 : -2147483648 ≤ n) (h1 : n < 2147483648) (hlim : bs.length ≤ 100000000) :
    Calls Tryd.prog 40 #[wrV g, .agg #[.int .i8 5, .bool false, .int .i64 n, .float .f64 0, .slice A1 0 c1, .int .i8 0, .int .i8 0, .slice A2 0 c2, .slice A3 0 c3]] w fun e w' => WrOk w w' B g b (bs ++ varL (zz n)) e := by
  have HW1 := Aside0.mk (h.alloc (.cells #[.int .i8 5, .bool false, .int .i64 n, .float .f64 0, .slice A1 0 c1, .int .i8 0, .int .i8 0, .slice A2 0 c2, .slice A3 0 c3] 60))
  have HB1 : Aside0 (Below w.heap.size w (w.alloc (.cells #[.int .i8 5, .bool false, .int .i64 n, .float .f64 0, .slice A1 0 c1, .int .i8 0, .int .i8 0, .slice A2 0 c2, .slice A3 0 c3] 60))) := ⟨(Below.refl _ _).alloc (Nat.le_refl _) _⟩
  have HV1 := Aside0.mk (Blk.new w #[.int .i8 5, .bool false, .int .i64 n, .float .f64 0, .slice A1 0 c1, .int .i8 0, .int .i8 0, .slice A2 0 c2, .slice A3 0 c3] 60)
  have HBW := Aside0.mk hB
  have hm := mw_WriteInt32
  have hw : IntKind.i32.wrap n = n := by rw [IntKind.wrap_i32]; omega
  have HM : Aside0 (∀ V, WrB V B g b bs → Below w.heap.size w V → Calls Tryd.prog 124 #[.pointer (some ⟨g, 0, none⟩), .int .i32 n] V fun e w' => WrOk V w' B g b (bs ++ varL (zz n)) e) := ⟨fun V h hb => wInt32_calls B g b bs n V h (Nat.le_trans hB hb.size) h0 h1 hlim⟩
  clear h
  go_enter Tryd.func40, Tryd.ntmps40
  go_upto_region 1 with (fail)
  generalize hW1 : World.alloc _ _ = W1 at HW1 HB1 HV1 ⊢
  clear hW1
  obtain ⟨q0, q1, q2, q3, q4, q5, q6, q7, q8, qz⟩ := nine HV1.out
  go_wp2_with (first
    | (go_at_call 124; (with_reducible refine (HM.out _ HW1.out HB1.out).mono ?_); rintro e w2 HQ; obtain rfl := HQ.ret; have HQ := Aside0.mk HQ))
  go_ret
  exact WrOk.behind HQ.out HBW.out HB1.out
set_option maxRecDepth 100000 in
set_option maxHeartbeats 4000000 in
theorem zw_6 (n : Int) (B g b : Nat) (bs : List Int) (A1 : Option Addr) (c1 : Nat) (A2 : Option Addr) (c2 : Nat) (A3 : Option Addr) (c3 : Nat) (w : World) (h : WrB w B g b bs) (hB : B ≤ w.heap.size) (h0 : -9223372036854775808 ≤ n) (h1 : n < 9223372036854775808) (hlim : bs.length ≤ 100000000) :
    Calls Tryd.prog 40 #[wrV g, .agg #[.int .i8 6, .bool false, .int .i64 n, .float .f64 0, .slice A1 0 c1, .int .i8 0, .int .i8 0, .slice A2 0 c2, .slice A3 0 c3]] w fun e w' => WrOk w w' B g b (bs ++ varL (zz n)) e := by
  have HW1 := Aside0.mk (h.alloc (.cells #[.int .i8 6, .bool false, .int .i64 n, .float .f64 0, .slice A1 0 c1, .int .i8 0, .int .i8 0, .slice A2 0 c2, .slice A3 0 c3] 60))
  have HB1 : Aside0 (Below w.heap.size w (w.alloc (.cells #[.int .i8 6, .bool false, .int .i64 n, .float .f64 0, .slice A1 0 c1, .int .i8 0, .int .i8 0, .slice A2 0 c2, .slice A3 0 c3] 60))) := ⟨(Below.refl _ _).alloc (Nat.le_refl _) _⟩
  have HV1 := Aside0.mk (Blk.new w #[.int .i8 6, .bool false, .int .i64 n, .float .f64 0, .slice A1 0 c1, .int .i8 0, .int .i8 0, .slice A2 0 c2, .slice A3 0 c3] 60)
  have HBW := Aside0.mk hB
  have hm := mw_WriteInt64
  have HM : Aside0 (∀ V, WrB V B g b bs → Below w.heap.size w V → Calls Tryd.prog 125 #[.pointer (some ⟨g, 0, none⟩), .int .i64 n] V fun e w' => WrOk V w' B g b (bs ++ varL (zz n)) e) := ⟨fun V h hb => wInt64_calls B g b bs n V h (Nat.le_trans hB hb.size) h0 h1 hlim⟩
  clear h
  go_enter Tryd.func40, Tryd.ntmps40
  go_upto_region 1 with (fail)
  generalize hW1 : World.alloc _ _ = W1 at HW1 HB1 HV1 ⊢
  clear hW1
  obtain ⟨q0, q1, q2, q3, q4, q5, q6, q7, q8, qz⟩ := nine HV1.out
  go_wp2_with (first
    | (go_at_call 125; (with_reducible refine (HM.out _ HW1.out HB1.out).mono ?_); rintro e w2 HQ; obtain rfl := HQ.ret; have HQ := Aside0.mk HQ))
  go_ret
  exact WrOk.behind HQ.out HBW.out HB1.out
set_option maxRecDepth 100000 in
set_option maxHeartbeats 4000000 in
theorem zw_7 (x : Nat) (B g b : Nat) (bs : List Int) (A1 : Option Addr) (c1 : Nat) (A2 : Option Addr) (c2 : Nat) (A3 : Option Addr) (c3 : Nat) (w : World) (h : WrB w B g b bs) (hB : B ≤ w.heap.size) (hx : x < 18446744073709551616) (hlim : bs.length ≤ 100000000) :
    Calls Tryd.prog 40 #[wrV g, .agg #[.int .i8 7, .bool false, .int .i64 0, .float .f64 x, .slice A1 0 c1, .int .i8 0, .int .i8 0, .slice A2 0 c2, .slice A3 0 c3]] w fun e w' => WrOk w w' B g b (bs ++ lowL 8 x) e := by
  have HW1 := Aside0.mk (h.alloc (.cells #[.int .i8 7, .bool false, .int .i64 0, .float .f64 x, .slice A1 0 c1, .int .i8 0, .int .i8 0, .slice A2 0 c2, .slice A3 0 c3] 60))
  have HB1 : Aside0 (Below w.heap.size w (w.alloc (.cells #[.int .i8 7, .bool false, .int .i64 0, .float .f64 x, .slice A1 0 c1, .int .i8 0, .int .i8 0, .slice A2 0 c2, .slice A3 0 c3] 60))) := ⟨(Below.refl _ _).alloc (Nat.le_refl _) _⟩
  have HV1 := Aside0.mk (Blk.new w #[.int .i8 7, .bool false, .int .i64 0, .float .f64 x, .slice A1 0 c1, .int .i8 0, .int .i8 0, .slice A2 0 c2, .slice A3 0 c3] 60)
  have HBW := Aside0.mk hB
  have hm := mw_WriteFloat64
  have HM : Aside0 (∀ V, WrB V B g b bs → Below w.heap.size w V → Calls Tryd.prog 122 #[.pointer (some ⟨g, 0, none⟩), .float .f64 x] V fun e w' => WrOk V w' B g b (bs ++ lowL 8 x) e) := ⟨fun V h hb => wFloat_calls B g b bs x V h (Nat.le_trans hB hb.size) hx hlim⟩
  clear h
  go_enter Tryd.func40, Tryd.ntmps40
  go_upto_region 1 with (fail)
  generalize hW1 : World.alloc _ _ = W1 at HW1 HB1 HV1 ⊢
  clear hW1
  obtain ⟨q0, q1, q2, q3, q4, q5, q6, q7, q8, qz⟩ := nine HV1.out
  go_wp2_with (first
    | (go_at_call 122; (with_reducible refine (HM.out _ HW1.out HB1.out).mono ?_); rintro e w2 HQ; obtain rfl := HQ.ret; have HQ := Aside0.mk HQ))
  go_ret
  exact WrOk.behind HQ.out HBW.out HB1.out
set_option maxRecDepth 100000 in
set_option maxHeartbeats 4000000 in
theorem zw_8 (xs : List Int) (n : Nat) (B g b : Nat) (bs : List Int) (A1 : Option Addr) (c1 : Nat) (A2 : Option Addr) (c2 : Nat) (A3 : Option Addr) (c3 : Nat) (w : World) (h : WrB w B g b bs) (hB : B ≤ w.heap.size) (hC : (Kd.int .u8).C w A1 n xs) (hA : xs ≠ [] → ∃ ad, A1 = some ad ∧ ad.block < B) (hn : n ≤ 10000) (hlim : bs.length ≤ 100000000) :
    Calls Tryd.prog 40 #[wrV g, .agg #[.int .i8 8, .bool false, .int .i64 0, .float .f64 0, .slice A1 n c1, .int .i8 0, .int .i8 0, .slice A2 0 c2, .slice A3 0 c3]] w fun e w' => WrOk w w' B g b (bs ++ (varL n ++ xs)) e := by
  have HW1 := Aside0.mk (h.alloc (.cells #[.int .i8 8, .bool false, .int .i64 0, .float .f64 0, .slice A1 n c1, .int .i8 0, .int .i8 0, .slice A2 0 c2, .slice A3 0 c3] 60))
  have HB1 : Aside0 (Below w.heap.size w (w.alloc (.cells #[.int .i8 8, .bool false, .int .i64 0, .float .f64 0, .slice A1 n c1, .int .i8 0, .int .i8 0, .slice A2 0 c2, .slice A3 0 c3] 60))) := ⟨(Below.refl _ _).alloc (Nat.le_refl _) _⟩
  have HV1 := Aside0.mk (Blk.new w #[.int .i8 8, .bool false, .int .i64 0, .float .f64 0, .slice A1 n c1, .int .i8 0, .int .i8 0, .slice A2 0 c2, .slice A3 0 c3] 60)
  have HBW := Aside0.mk hB
  have hm := mw_WriteBytes
  have HM : Aside0 (∀ V, WrB V B g b bs → Below w.heap.size w V → Calls Tryd.prog 120 #[.pointer (some ⟨g, 0, none⟩), .slice A1 n c1] V fun e w' => WrOk V w' B g b (bs ++ (varL n ++ xs)) e) := ⟨fun V h hb => wBytes_calls B g b bs A1 n c1 xs V h (Nat.le_trans hB hb.size) (Kd.C_below hC hb) hA hn hlim⟩
  clear h
  go_enter Tryd.func40, Tryd.ntmps40
  go_upto_region 1 with (fail)
  generalize hW1 : World.alloc _ _ = W1 at HW1 HB1 HV1 ⊢
  clear hW1
  obtain ⟨q0, q1, q2, q3, q4, q5, q6, q7, q8, qz⟩ := nine HV1.out
  go_wp2_with (first
    | (go_at_call 120; (with_reducible refine (HM.out _ HW1.out HB1.out).mono ?_); rintro e w2 HQ; obtain rfl := HQ.ret; have HQ := Aside0.mk HQ))
  go_ret
  exact WrOk.behind HQ.out HBW.out HB1.out
set_option maxRecDepth 100000 in
set_option maxHeartbeats 8000000 in
theorem zw_9 (el : Nat) (ls : F) (gd : Nat) (ev od : Int) (lcs : List Value) (B g b : Nat) (bs : List Int) (A1 : Option Addr) (c1 : Nat) (A2 : Option Addr) (c2 : Nat) (A3 : Option Addr) (c3 : Nat) (w : World) (h : WrB w B g b bs) (hB : B ≤ w.heap.size) (ihl : F.all Zw ls) (hok : ls.ok gd false ev od 0) (hl : Lies w (fun k => k < B) (.slice A2 ls.len c2) ls.len lcs) (hli : ls.In flV w (fun k => k < B) false lcs) (hn : ls.len ≤ 1000) (h3 : 3 ≤ el) (h12 : el ≤ 12) (hlim : bs.length + (headL false ls.len (el : Int) ++ ls.byB false false 0).length ≤ 80000000) :
    Calls Tryd.prog 40 #[wrV g, .agg #[.int .i8 9, .bool false, .int .i64 0, .float .f64 0, .slice A1 0 c1, .int .i8 0, .int .i8 (el : Int), .slice A2 ls.len c2, .slice A3 0 c3]] w fun e w' => WrOk w w' B g b (bs ++ (headL false ls.len (el : Int) ++ ls.byB false false 0)) e := by
  have HW1 := Aside0.mk (h.alloc (.cells #[.int .i8 9, .bool false, .int .i64 0, .float .f64 0, .slice A1 0 c1, .int .i8 0, .int .i8 (el : Int), .slice A2 ls.len c2, .slice A3 0 c3] 60))
  have HB1 : Aside0 (Below w.heap.size w (w.alloc (.cells #[.int .i8 9, .bool false, .int .i64 0, .float .f64 0, .slice A1 0 c1, .int .i8 0, .int .i8 (el : Int), .slice A2 ls.len c2, .slice A3 0 c3] 60))) := ⟨(Below.refl _ _).alloc (Nat.le_refl _) _⟩
  have HV1 := Aside0.mk (Blk.new w #[.int .i8 9, .bool false, .int .i64 0, .float .f64 0, .slice A1 0 c1, .int .i8 0, .int .i8 (el : Int), .slice A2 ls.len c2, .slice A3 0 c3] 60)
  have HLT := Aside0.mk h.lt
  have HBW := Aside0.mk hB
  have HGB : Aside0 (B ≤ g ∧ B ≤ b) := ⟨h.hg, h.hb⟩
  have hm := mw_WriteList
  rw [List.length_append] at hlim
  have hw3 : IntKind.i32.wrap (ls.len : Int) = (ls.len : Int) := by rw [IntKind.wrap_i32]; omega
  have HM : Aside0 (∀ V, WrB V B g b bs → Below w.heap.size w V → Calls Tryd.prog 128 #[.pointer (some ⟨g, 0, none⟩), .agg #[.int .i32 (ls.len : Nat), .int .i8 (el : Int)]] V fun e w' => WrOk V w' B g b (bs ++ headL false ls.len (el : Int)) e) := ⟨fun V h hb => wList_calls B g b bs ls.len el V h (Nat.le_trans hB hb.size) hn h12 (by omega)⟩
  obtain ⟨A0, c0, e0, _, hrw⟩ := hl.out
  obtain ⟨rfl, _, rfl⟩ := Value.slice.inj e0
  have HL := Aside0.mk hrw
  have HLi := Aside0.mk hli
  have HIH := Aside0.mk ihl
  have HOK := Aside0.mk hok
  obtain ⟨HD, hHD⟩ : ∃ HD, headL false ls.len (el : Int) = HD := ⟨_, rfl⟩
  rw [hHD] at HM hlim ⊢
  have HLM := Aside0.mk hlim
  obtain ⟨TOT, hTOT⟩ : ∃ TOT, bs ++ (HD ++ ls.byB false false 0) = TOT := ⟨_, rfl⟩
  rw [hTOT]
  have HTT : Aside0 (bs ++ HD ++ ls.byB false false 0 = TOT) := ⟨by rw [List.append_assoc]; exact hTOT⟩
  have HTL : Aside0 (TOT.length ≤ 80000000) := ⟨by rw [← hTOT, List.length_append, List.length_append]; omega⟩
  clear h hl hli ihl hok hrw e0 hHD hTOT hlim
  have hst := fun (f : Nat) (a : Addr) (W : World) m => run_store Tryd.prog W a (.float .f64 f) m rfl
  go_enter Tryd.func40, Tryd.ntmps40
  go_upto_region 1 with (fail)
  generalize hW1 : World.alloc _ _ = W1 at HW1 HB1 HV1 ⊢
  clear hW1
  obtain ⟨q0, q1, q2, q3, q4, q5, q6, q7, q8, qz⟩ := nine HV1.out
  go_upto_region 20 with (first
    | (go_at_call 128; (with_reducible refine (HM.out _ HW1.out HB1.out).mono ?_); rintro e w2 HQ; obtain rfl := HQ.ret; have HQ1 := Aside0.mk HQ; clear HQ))
  have HV2 := Aside0.mk (keptC HQ1.out.kept HV1.out HLT.out.1 HLT.out.2 (by decide))
  have HQ0 : Aside0 (WrOk w w2 B g b (bs ++ HD) (.returned .nilIface)) := ⟨WrOk.behind HQ1.out HBW.out HB1.out⟩
  clear q0 q1 q2 q3 q4 q5 q6 q7 q8 qz
  obtain ⟨q0, q1, q2, q3, q4, q5, q6, q7, q8, qz⟩ := nine HV2.out
  go_wp2_with (fail)
  go_loopg [8, 87] ls.len (fun kq v8 v87 w' => ∃ (i : Nat) (ev od : Int) (G : F) (gc pr : List Value) (P : List Int), i ≤ ls.len ∧ v87 = .int .i64 i ∧ Aside0 (G.len + i = ls.len) ∧ Aside0 (G.ok gd false ev od 0) ∧ Aside0 (lcs = pr ++ gc) ∧ Aside0 (pr.length = i * 9) ∧ Aside0 (G.In flV w (fun k => k < B) false gc) ∧ Aside0 (F.all Zw G) ∧ Aside0 (WrOk w w' B g b P (.returned .nilIface)) ∧ Aside0 (P ++ G.byB false false 0 = TOT) ∧ Aside0 (ls.len - i ≤ kq))
  case atStart => exact ⟨0, ev, od, ls, lcs, [], bs ++ HD, Nat.zero_le _, rfl, ⟨rfl⟩, HOK, ⟨rfl⟩, ⟨by simp⟩, HLi, HIH, HQ0, HTT, ⟨by omega⟩⟩
  case round =>
    clear q0 q1 q2 q3 q4 q5 q6 q7 q8 qz
    obtain ⟨i, ev2, od2, G, gc, pr, P, hi, rfl, HGl, HGO, HLE, HPR, HGI, HGA, HQ, HTO, HK⟩ := hrel
    by_cases ci : i < ls.len
    · have ct : decide ((i : Int) < (ls.len : Nat)) = true := decide_eq_true (by omega)
      have ctt : decide (i < ls.len) = true := decide_eq_true ci
      cases G with
      | nil => exact absurd HGl.out (by show ¬ (0 + i = _); omega)
      | cons d id ls2 fs2 tl =>
        obtain ⟨bsv, lsv, fsv, l1, f1, t1, g1, g2, g3, g4, g5, g6, g7⟩ := HGI.out
        have hy1 : N.In flV w (fun k => k < B) ⟨d, ls2, fs2⟩ (nodeC flV d bsv lsv fsv) := ⟨⟨bsv, lsv, fsv, l1, f1, rfl, g2, g3, g4, g5, g6⟩⟩
        obtain ⟨X4, Xn4, Xk4, X7, Xn7, Xk7, X8, Xn8, Xk8, hcs⟩ := openV hy1
        rw [hcs] at hy1 g1
        obtain ⟨ad, hA2, hadl, hcell⟩ := HL.out (by rw [HLE.out, g1]; simp)
        subst hA2
        have hrow := rowCell hcell HLE.out HPR.out
        have HBB : Aside0 (Below B w wr) := ⟨HQ.out.below⟩
        obtain ⟨z0, z1, z2, z3, z4, z5, z6, z7, z8⟩ := nineRow (w := wr) (ad := ad) (k := i * 9) (rest := t1) (fun q u hq => (World.cell?_of_block (by rw [add_block]; exact HBB.out.block _ hadl)).trans (hrow q u hq)) g1
        have hto := HTO.out
        rw [show F.byB false (.cons d id ls2 fs2 tl) false 0 = N.byB false ⟨d, ls2, fs2⟩ ++ tl.byB false false id from by show [] ++ _ ++ _ = _; rw [List.nil_append]; rfl, ← List.append_assoc] at hto
        have hid : id = 0 := by have := HGO.out.1; rw [if_neg (by simp)] at this; exact this.2
        subst hid
        have hle : P.length + (N.byB false ⟨d, ls2, fs2⟩).length ≤ 80000000 := by
          have := congrArg List.length hto
          rw [List.length_append, List.length_append] at this
          have := HTL.out
          omega
        have HYP : Aside0 (∀ V, WrB V B g b P → Below B w V → Calls Tryd.prog 40 #[wrV g, .agg #[.int .i8 d.ty, .bool d.bo, .int .i64 d.n, .float .f64 d.bits, .slice X4 Xn4 Xk4, .int .i8 d.ky, .int .i8 d.el, .slice X7 Xn7 Xk7, .slice X8 Xn8 Xk8]] V fun e w' => WrOk V w' B g b (P ++ N.byB false ⟨d, ls2, fs2⟩) e) := ⟨fun V h hb => HGA.out.1 gd B g b P V _ HGO.out.2.1 (hy1.move (fun k hk => hb.block k hk) (fun k hk => hk)) h (Nat.le_trans HBW.out hb.size) hle⟩
        obtain ⟨EB, hEB⟩ : ∃ EB, N.byB false ⟨d, ls2, fs2⟩ = EB := ⟨_, rfl⟩
        rw [hEB] at hto HYP
        have HTO2 := Aside0.mk hto
        have HG7 := Aside0.mk g7
        have HL9 : Aside0 (lcs = pr ++ ([.int .i8 d.ty, .bool d.bo, .int .i64 d.n, .float .f64 d.bits, .slice X4 Xn4 Xk4, .int .i8 d.ky, .int .i8 d.el, .slice X7 Xn7 Xk7, .slice X8 Xn8 Xk8] ++ t1)) := ⟨by rw [HLE.out, g1]; rfl⟩
        have HCI := Aside0.mk ci
        have HWA := Aside0.mk (HQ.out.wr.alloc (.cells #[.int .i8 d.ty, .bool d.bo, .int .i64 d.n, .float .f64 d.bits, .slice X4 Xn4 Xk4, .int .i8 d.ky, .int .i8 d.el, .slice X7 Xn7 Xk7, .slice X8 Xn8 Xk8] 60))
        have HBA : Aside0 (Below wr.heap.size wr (wr.alloc (.cells #[.int .i8 d.ty, .bool d.bo, .int .i64 d.n, .float .f64 d.bits, .slice X4 Xn4 Xk4, .int .i8 d.ky, .int .i8 d.el, .slice X7 Xn7 Xk7, .slice X8 Xn8 Xk8] 60))) := ⟨(Below.refl _ _).alloc (Nat.le_refl _) _⟩
        have HPN := Aside0.mk (Blk.new wr #[.int .i8 d.ty, .bool d.bo, .int .i64 d.n, .float .f64 d.bits, .slice X4 Xn4 Xk4, .int .i8 d.ky, .int .i8 d.el, .slice X7 Xn7 Xk7, .slice X8 Xn8 Xk8] 60)
        have HBR : Aside0 (B ≤ wr.heap.size) := ⟨Nat.le_trans HBW.out HBB.out.size⟩
        clear g1 g2 g3 g4 g5 g6 g7 hy1 hrow hcell hcs hto hle hEB
        go_upto_region 25 with (fail)
        clear z0 z1 z2 z3 z4 z5 z6 z7 z8
        obtain ⟨gb, hgb⟩ : ∃ gb, wr.heap.size = gb := ⟨_, rfl⟩
        rw [hgb] at HPN ⊢
        generalize hw7 : World.alloc _ _ = w7 at HWA HBA HPN ⊢
        clear hw7
        obtain ⟨u0, u1, u2, u3, u4, u5, u6, u7, u8, uz⟩ := nine HPN.out
        go_wp2_with (first
          | (go_at_call 40; (with_reducible refine (HYP.out _ HWA.out (HBB.out.trans (HBA.out.mono HBR.out))).mono ?_); rintro e w5 HR; obtain rfl := HR.ret; have HR5 := Aside0.mk HR; clear HR))
        go_roundg (gk - 1)
        all_goals first
          | (have := HK.out; have := HCI.out; omega)
          | (exact ⟨i + 1, od2, ev2, tl, t1, pr ++ [.int .i8 d.ty, .bool d.bo, .int .i64 d.n, .float .f64 d.bits, .slice X4 Xn4 Xk4, .int .i8 d.ky, .int .i8 d.el, .slice X7 Xn7 Xk7, .slice X8 Xn8 Xk8], P ++ EB, HCI.out, by go_num, ⟨by have := HGl.out; have : (F.cons d 0 ls2 fs2 tl).len = tl.len + 1 := rfl; omega⟩, ⟨HGO.out.2.2⟩, ⟨by rw [HL9.out, List.append_assoc]⟩, ⟨by rw [List.length_append, HPR.out]; show i * 9 + 9 = (i + 1) * 9; omega⟩, HG7, ⟨HGA.out.2⟩, ⟨HQ.out.then (WrOk.behind HR5.out HBR.out HBA.out)⟩, HTO2, ⟨by have := HK.out; omega⟩⟩)
    · have hin : i = ls.len := by omega
      have hP : P = TOT := by
        have hd := HTO.out
        have hg := HGl.out
        cases G with
        | nil => rw [← hd]; exact (List.append_nil _).symm
        | cons d id ls2 fs2 tl => exfalso; have : (F.cons d id ls2 fs2 tl).len = tl.len + 1 := rfl; omega
      have ct : decide ((i : Int) < (ls.len : Nat)) = false := decide_eq_false (by omega)
      have ctt : decide (i < ls.len) = false := decide_eq_false ci
      have HFQ : Aside0 (WrOk w wr B g b TOT (.returned .nilIface)) := ⟨hP ▸ HQ.out⟩
      clear hin hP ci
      go_wp2_with (fail)
      go_ret
      exact HFQ.out
set_option maxRecDepth 100000 in
set_option maxHeartbeats 8000000 in
theorem zw_10 (el : Nat) (ls : F) (gd : Nat) (ev od : Int) (lcs : List Value) (B g b : Nat) (bs : List Int) (A1 : Option Addr) (c1 : Nat) (A2 : Option Addr) (c2 : Nat) (A3 : Option Addr) (c3 : Nat) (w : World) (h : WrB w B g b bs) (hB : B ≤ w.heap.size) (ihl : F.all Zw ls) (hok : ls.ok gd false ev od 0) (hl : Lies w (fun k => k < B) (.slice A2 ls.len c2) ls.len lcs) (hli : ls.In flV w (fun k => k < B) false lcs) (hn : ls.len ≤ 1000) (h3 : 3 ≤ el) (h12 : el ≤ 12) (hlim : bs.length + (headL false ls.len (el : Int) ++ ls.byB false false 0).length ≤ 80000000) :
    Calls Tryd.prog 40 #[wrV g, .agg #[.int .i8 10, .bool false, .int .i64 0, .float .f64 0, .slice A1 0 c1, .int .i8 0, .int .i8 (el : Int), .slice A2 ls.len c2, .slice A3 0 c3]] w fun e w' => WrOk w w' B g b (bs ++ (headL false ls.len (el : Int) ++ ls.byB false false 0)) e := by
  have HW1 := Aside0.mk (h.alloc (.cells #[.int .i8 10, .bool false, .int .i64 0, .float .f64 0, .slice A1 0 c1, .int .i8 0, .int .i8 (el : Int), .slice A2 ls.len c2, .slice A3 0 c3] 60))
  have HB1 : Aside0 (Below w.heap.size w (w.alloc (.cells #[.int .i8 10, .bool false, .int .i64 0, .float .f64 0, .slice A1 0 c1, .int .i8 0, .int .i8 (el : Int), .slice A2 ls.len c2, .slice A3 0 c3] 60))) := ⟨(Below.refl _ _).alloc (Nat.le_refl _) _⟩
  have HV1 := Aside0.mk (Blk.new w #[.int .i8 10, .bool false, .int .i64 0, .float .f64 0, .slice A1 0 c1, .int .i8 0, .int .i8 (el : Int), .slice A2 ls.len c2, .slice A3 0 c3] 60)
  have HLT := Aside0.mk h.lt
  have HBW := Aside0.mk hB
  have HGB : Aside0 (B ≤ g ∧ B ≤ b) := ⟨h.hg, h.hb⟩
  have hm := mw_WriteList
  rw [List.length_append] at hlim
  have hw3 : IntKind.i32.wrap (ls.len : Int) = (ls.len : Int) := by rw [IntKind.wrap_i32]; omega
  have HM : Aside0 (∀ V, WrB V B g b bs → Below w.heap.size w V → Calls Tryd.prog 128 #[.pointer (some ⟨g, 0, none⟩), .agg #[.int .i32 (ls.len : Nat), .int .i8 (el : Int)]] V fun e w' => WrOk V w' B g b (bs ++ headL false ls.len (el : Int)) e) := ⟨fun V h hb => wList_calls B g b bs ls.len el V h (Nat.le_trans hB hb.size) hn h12 (by omega)⟩
  obtain ⟨A0, c0, e0, _, hrw⟩ := hl.out
  obtain ⟨rfl, _, rfl⟩ := Value.slice.inj e0
  have HL := Aside0.mk hrw
  have HLi := Aside0.mk hli
  have HIH := Aside0.mk ihl
  have HOK := Aside0.mk hok
  obtain ⟨HD, hHD⟩ : ∃ HD, headL false ls.len (el : Int) = HD := ⟨_, rfl⟩
  rw [hHD] at HM hlim ⊢
  have HLM := Aside0.mk hlim
  obtain ⟨TOT, hTOT⟩ : ∃ TOT, bs ++ (HD ++ ls.byB false false 0) = TOT := ⟨_, rfl⟩
  rw [hTOT]
  have HTT : Aside0 (bs ++ HD ++ ls.byB false false 0 = TOT) := ⟨by rw [List.append_assoc]; exact hTOT⟩
  have HTL : Aside0 (TOT.length ≤ 80000000) := ⟨by rw [← hTOT, List.length_append, List.length_append]; omega⟩
  clear h hl hli ihl hok hrw e0 hHD hTOT hlim
  have hst := fun (f : Nat) (a : Addr) (W : World) m => run_store Tryd.prog W a (.float .f64 f) m rfl
  go_enter Tryd.func40, Tryd.ntmps40
  go_upto_region 1 with (fail)
  generalize hW1 : World.alloc _ _ = W1 at HW1 HB1 HV1 ⊢
  clear hW1
  obtain ⟨q0, q1, q2, q3, q4, q5, q6, q7, q8, qz⟩ := nine HV1.out
  go_upto_region 20 with (first
    | (go_at_call 128; (with_reducible refine (HM.out _ HW1.out HB1.out).mono ?_); rintro e w2 HQ; obtain rfl := HQ.ret; have HQ1 := Aside0.mk HQ; clear HQ))
  have HV2 := Aside0.mk (keptC HQ1.out.kept HV1.out HLT.out.1 HLT.out.2 (by decide))
  have HQ0 : Aside0 (WrOk w w2 B g b (bs ++ HD) (.returned .nilIface)) := ⟨WrOk.behind HQ1.out HBW.out HB1.out⟩
  clear q0 q1 q2 q3 q4 q5 q6 q7 q8 qz
  obtain ⟨q0, q1, q2, q3, q4, q5, q6, q7, q8, qz⟩ := nine HV2.out
  go_wp2_with (fail)
  go_loopg [8, 87] ls.len (fun kq v8 v87 w' => ∃ (i : Nat) (ev od : Int) (G : F) (gc pr : List Value) (P : List Int), i ≤ ls.len ∧ v87 = .int .i64 i ∧ Aside0 (G.len + i = ls.len) ∧ Aside0 (G.ok gd false ev od 0) ∧ Aside0 (lcs = pr ++ gc) ∧ Aside0 (pr.length = i * 9) ∧ Aside0 (G.In flV w (fun k => k < B) false gc) ∧ Aside0 (F.all Zw G) ∧ Aside0 (WrOk w w' B g b P (.returned .nilIface)) ∧ Aside0 (P ++ G.byB false false 0 = TOT) ∧ Aside0 (ls.len - i ≤ kq))
  case atStart => exact ⟨0, ev, od, ls, lcs, [], bs ++ HD, Nat.zero_le _, rfl, ⟨rfl⟩, HOK, ⟨rfl⟩, ⟨by simp⟩, HLi, HIH, HQ0, HTT, ⟨by omega⟩⟩
  case round =>
    clear q0 q1 q2 q3 q4 q5 q6 q7 q8 qz
    obtain ⟨i, ev2, od2, G, gc, pr, P, hi, rfl, HGl, HGO, HLE, HPR, HGI, HGA, HQ, HTO, HK⟩ := hrel
    by_cases ci : i < ls.len
    · have ct : decide ((i : Int) < (ls.len : Nat)) = true := decide_eq_true (by omega)
      have ctt : decide (i < ls.len) = true := decide_eq_true ci
      cases G with
      | nil => exact absurd HGl.out (by show ¬ (0 + i = _); omega)
      | cons d id ls2 fs2 tl =>
        obtain ⟨bsv, lsv, fsv, l1, f1, t1, g1, g2, g3, g4, g5, g6, g7⟩ := HGI.out
        have hy1 : N.In flV w (fun k => k < B) ⟨d, ls2, fs2⟩ (nodeC flV d bsv lsv fsv) := ⟨⟨bsv, lsv, fsv, l1, f1, rfl, g2, g3, g4, g5, g6⟩⟩
        obtain ⟨X4, Xn4, Xk4, X7, Xn7, Xk7, X8, Xn8, Xk8, hcs⟩ := openV hy1
        rw [hcs] at hy1 g1
        obtain ⟨ad, hA2, hadl, hcell⟩ := HL.out (by rw [HLE.out, g1]; simp)
        subst hA2
        have hrow := rowCell hcell HLE.out HPR.out
        have HBB : Aside0 (Below B w wr) := ⟨HQ.out.below⟩
        obtain ⟨z0, z1, z2, z3, z4, z5, z6, z7, z8⟩ := nineRow (w := wr) (ad := ad) (k := i * 9) (rest := t1) (fun q u hq => (World.cell?_of_block (by rw [add_block]; exact HBB.out.block _ hadl)).trans (hrow q u hq)) g1
        have hto := HTO.out
        rw [show F.byB false (.cons d id ls2 fs2 tl) false 0 = N.byB false ⟨d, ls2, fs2⟩ ++ tl.byB false false id from by show [] ++ _ ++ _ = _; rw [List.nil_append]; rfl, ← List.append_assoc] at hto
        have hid : id = 0 := by have := HGO.out.1; rw [if_neg (by simp)] at this; exact this.2
        subst hid
        have hle : P.length + (N.byB false ⟨d, ls2, fs2⟩).length ≤ 80000000 := by
          have := congrArg List.length hto
          rw [List.length_append, List.length_append] at this
          have := HTL.out
          omega
        have HYP : Aside0 (∀ V, WrB V B g b P → Below B w V → Calls Tryd.prog 40 #[wrV g, .agg #[.int .i8 d.ty, .bool d.bo, .int .i64 d.n, .float .f64 d.bits, .slice X4 Xn4 Xk4, .int .i8 d.ky, .int .i8 d.el, .slice X7 Xn7 Xk7, .slice X8 Xn8 Xk8]] V fun e w' => WrOk V w' B g b (P ++ N.byB false ⟨d, ls2, fs2⟩) e) := ⟨fun V h hb => HGA.out.1 gd B g b P V _ HGO.out.2.1 (hy1.move (fun k hk => hb.block k hk) (fun k hk => hk)) h (Nat.le_trans HBW.out hb.size) hle⟩
        obtain ⟨EB, hEB⟩ : ∃ EB, N.byB false ⟨d, ls2, fs2⟩ = EB := ⟨_, rfl⟩
        rw [hEB] at hto HYP
        have HTO2 := Aside0.mk hto
        have HG7 := Aside0.mk g7
        have HL9 : Aside0 (lcs = pr ++ ([.int .i8 d.ty, .bool d.bo, .int .i64 d.n, .float .f64 d.bits, .slice X4 Xn4 Xk4, .int .i8 d.ky, .int .i8 d.el, .slice X7 Xn7 Xk7, .slice X8 Xn8 Xk8] ++ t1)) := ⟨by rw [HLE.out, g1]; rfl⟩
        have HCI := Aside0.mk ci
        have HWA := Aside0.mk (HQ.out.wr.alloc (.cells #[.int .i8 d.ty, .bool d.bo, .int .i64 d.n, .float .f64 d.bits, .slice X4 Xn4 Xk4, .int .i8 d.ky, .int .i8 d.el, .slice X7 Xn7 Xk7, .slice X8 Xn8 Xk8] 60))
        have HBA : Aside0 (Below wr.heap.size wr (wr.alloc (.cells #[.int .i8 d.ty, .bool d.bo, .int .i64 d.n, .float .f64 d.bits, .slice X4 Xn4 Xk4, .int .i8 d.ky, .int .i8 d.el, .slice X7 Xn7 Xk7, .slice X8 Xn8 Xk8] 60))) := ⟨(Below.refl _ _).alloc (Nat.le_refl _) _⟩
        have HPN := Aside0.mk (Blk.new wr #[.int .i8 d.ty, .bool d.bo, .int .i64 d.n, .float .f64 d.bits, .slice X4 Xn4 Xk4, .int .i8 d.ky, .int .i8 d.el, .slice X7 Xn7 Xk7, .slice X8 Xn8 Xk8] 60)
        have HBR : Aside0 (B ≤ wr.heap.size) := ⟨Nat.le_trans HBW.out HBB.out.size⟩
        clear g1 g2 g3 g4 g5 g6 g7 hy1 hrow hcell hcs hto hle hEB
        go_upto_region 25 with (fail)
        clear z0 z1 z2 z3 z4 z5 z6 z7 z8
        obtain ⟨gb, hgb⟩ : ∃ gb, wr.heap.size = gb := ⟨_, rfl⟩
        rw [hgb] at HPN ⊢
        generalize hw7 : World.alloc _ _ = w7 at HWA HBA HPN ⊢
        clear hw7
        obtain ⟨u0, u1, u2, u3, u4, u5, u6, u7, u8, uz⟩ := nine HPN.out
        go_wp2_with (first
          | (go_at_call 40; (with_reducible refine (HYP.out _ HWA.out (HBB.out.trans (HBA.out.mono HBR.out))).mono ?_); rintro e w5 HR; obtain rfl := HR.ret; have HR5 := Aside0.mk HR; clear HR))
        go_roundg (gk - 1)
        all_goals first
          | (have := HK.out; have := HCI.out; omega)
          | (exact ⟨i + 1, od2, ev2, tl, t1, pr ++ [.int .i8 d.ty, .bool d.bo, .int .i64 d.n, .float .f64 d.bits, .slice X4 Xn4 Xk4, .int .i8 d.ky, .int .i8 d.el, .slice X7 Xn7 Xk7, .slice X8 Xn8 Xk8], P ++ EB, HCI.out, by go_num, ⟨by have := HGl.out; have : (F.cons d 0 ls2 fs2 tl).len = tl.len + 1 := rfl; omega⟩, ⟨HGO.out.2.2⟩, ⟨by rw [HL9.out, List.append_assoc]⟩, ⟨by rw [List.length_append, HPR.out]; show i * 9 + 9 = (i + 1) * 9; omega⟩, HG7, ⟨HGA.out.2⟩, ⟨HQ.out.then (WrOk.behind HR5.out HBR.out HBA.out)⟩, HTO2, ⟨by have := HK.out; omega⟩⟩)
    · have hin : i = ls.len := by omega
      have hP : P = TOT := by
        have hd := HTO.out
        have hg := HGl.out
        cases G with
        | nil => rw [← hd]; exact (List.append_nil _).symm
        | cons d id ls2 fs2 tl => exfalso; have : (F.cons d id ls2 fs2 tl).len = tl.len + 1 := rfl; omega
      have ct : decide ((i : Int) < (ls.len : Nat)) = false := decide_eq_false (by omega)
      have ctt : decide (i < ls.len) = false := decide_eq_false ci
      have HFQ : Aside0 (WrOk w wr B g b TOT (.returned .nilIface)) := ⟨hP ▸ HQ.out⟩
      clear hin hP ci
      go_wp2_with (fail)
      go_ret
      exact HFQ.out
set_option maxRecDepth 100000 in
set_option maxHeartbeats 8000000 in
theorem zw_11 (ky el : Nat) (ls : F) (gd : Nat) (ev od : Int) (lcs : List Value) (B g b : Nat) (bs : List Int) (A1 : Option Addr) (c1 : Nat) (A2 : Option Addr) (c2 : Nat) (A3 : Option Addr) (c3 : Nat) (w : World) (h : WrB w B g b bs) (hB : B ≤ w.heap.size) (ihl : F.all Zw ls) (hok : ls.ok gd false ev od 0) (hl : Lies w (fun k => k < B) (.slice A2 ls.len c2) ls.len lcs) (hli : ls.In flV w (fun k => k < B) false lcs) (hn : ls.len ≤ 1000) (h2 : ls.len % 2 = 0) (h12 : ky ≤ 12) (h13 : el ≤ 12) (hlim : bs.length + ((varL (ls.len / 2) ++ (if ls.len = 0 then [] else [(ky : Int) * 16 + (el : Int)])) ++ ls.byB false false 0).length ≤ 80000000) :
    Calls Tryd.prog 40 #[wrV g, .agg #[.int .i8 11, .bool false, .int .i64 0, .float .f64 0, .slice A1 0 c1, .int .i8 (ky : Int), .int .i8 (el : Int), .slice A2 ls.len c2, .slice A3 0 c3]] w fun e w' => WrOk w w' B g b (bs ++ ((varL (ls.len / 2) ++ (if ls.len = 0 then [] else [(ky : Int) * 16 + (el : Int)])) ++ ls.byB false false 0)) e := by
  have HW1 := Aside0.mk (h.alloc (.cells #[.int .i8 11, .bool false, .int .i64 0, .float .f64 0, .slice A1 0 c1, .int .i8 (ky : Int), .int .i8 (el : Int), .slice A2 ls.len c2, .slice A3 0 c3] 60))
  have HB1 : Aside0 (Below w.heap.size w (w.alloc (.cells #[.int .i8 11, .bool false, .int .i64 0, .float .f64 0, .slice A1 0 c1, .int .i8 (ky : Int), .int .i8 (el : Int), .slice A2 ls.len c2, .slice A3 0 c3] 60))) := ⟨(Below.refl _ _).alloc (Nat.le_refl _) _⟩
  have HV1 := Aside0.mk (Blk.new w #[.int .i8 11, .bool false, .int .i64 0, .float .f64 0, .slice A1 0 c1, .int .i8 (ky : Int), .int .i8 (el : Int), .slice A2 ls.len c2, .slice A3 0 c3] 60)
  have HLT := Aside0.mk h.lt
  have HBW := Aside0.mk hB
  have HGB : Aside0 (B ≤ g ∧ B ≤ b) := ⟨h.hg, h.hb⟩
  have hm := mw_WriteMap
  rw [List.length_append] at hlim
  obtain ⟨hf, hhf⟩ : ∃ hf, ls.len / 2 = hf := ⟨_, rfl⟩
  have hq1 : IntKind.i32.wrap (hf : Int) = (hf : Int) := by rw [IntKind.wrap_i32]; omega
  have hq2 : (ls.len : Int).tdiv 2 = (hf : Int) := by rw [Int.tdiv_eq_ediv_of_nonneg (by omega)]; omega
  have hq3 : (ls.len : Int) / 2 = (hf : Int) := by omega
  have he0 : (if ls.len = 0 then ([] : List Int) else [(ky : Int) * 16 + (el : Int)]) = (if hf = 0 then [] else [(ky : Int) * 16 + (el : Int)]) := by
    by_cases c : ls.len = 0
    · rw [if_pos c, if_pos (by omega)]
    · rw [if_neg c, if_neg (by omega)]
  rw [hhf, he0] at hlim ⊢
  have HHF := Aside0.mk hhf
  clear hhf he0
  have HM : Aside0 (∀ V, WrB V B g b bs → Below w.heap.size w V → Calls Tryd.prog 129 #[.pointer (some ⟨g, 0, none⟩), .agg #[.int .i32 hf, .int .i8 (ky : Int), .int .i8 (el : Int)]] V fun e w' => WrOk V w' B g b (bs ++ (varL hf ++ (if hf = 0 then [] else [(ky : Int) * 16 + (el : Int)]))) e) := ⟨fun V h hb => wMap_calls B g b bs hf ky el V h (Nat.le_trans hB hb.size) (by have := HHF.out; omega) h12 h13 (by omega)⟩
  obtain ⟨A0, c0, e0, _, hrw⟩ := hl.out
  obtain ⟨rfl, _, rfl⟩ := Value.slice.inj e0
  have HL := Aside0.mk hrw
  have HLi := Aside0.mk hli
  have HIH := Aside0.mk ihl
  have HOK := Aside0.mk hok
  obtain ⟨HD, hHD⟩ : ∃ HD, (varL hf ++ (if hf = 0 then [] else [(ky : Int) * 16 + (el : Int)])) = HD := ⟨_, rfl⟩
  rw [hHD] at HM hlim ⊢
  have HLM := Aside0.mk hlim
  obtain ⟨TOT, hTOT⟩ : ∃ TOT, bs ++ (HD ++ ls.byB false false 0) = TOT := ⟨_, rfl⟩
  rw [hTOT]
  have HTT : Aside0 (bs ++ HD ++ ls.byB false false 0 = TOT) := ⟨by rw [List.append_assoc]; exact hTOT⟩
  have HTL : Aside0 (TOT.length ≤ 80000000) := ⟨by rw [← hTOT, List.length_append, List.length_append]; omega⟩
  clear h hl hli ihl hok hrw e0 hHD hTOT hlim
  have hst := fun (f : Nat) (a : Addr) (W : World) m => run_store Tryd.prog W a (.float .f64 f) m rfl
  go_enter Tryd.func40, Tryd.ntmps40
  go_upto_region 1 with (fail)
  generalize hW1 : World.alloc _ _ = W1 at HW1 HB1 HV1 ⊢
  clear hW1
  obtain ⟨q0, q1, q2, q3, q4, q5, q6, q7, q8, qz⟩ := nine HV1.out
  go_upto_region 32 with (first
    | (go_at_call 129; (with_reducible refine (HM.out _ HW1.out HB1.out).mono ?_); rintro e w2 HQ; obtain rfl := HQ.ret; have HQ1 := Aside0.mk HQ; clear HQ))
  have HV2 := Aside0.mk (keptC HQ1.out.kept HV1.out HLT.out.1 HLT.out.2 (by decide))
  have HQ0 : Aside0 (WrOk w w2 B g b (bs ++ HD) (.returned .nilIface)) := ⟨WrOk.behind HQ1.out HBW.out HB1.out⟩
  clear q0 q1 q2 q3 q4 q5 q6 q7 q8 qz
  obtain ⟨q0, q1, q2, q3, q4, q5, q6, q7, q8, qz⟩ := nine HV2.out
  go_wp2_with (fail)
  go_loopg [12, 118] ls.len (fun kq v12 v118 w' => ∃ (i : Nat) (ev od : Int) (G : F) (gc pr : List Value) (P : List Int), i ≤ ls.len ∧ v118 = .int .i64 i ∧ Aside0 (G.len + i = ls.len) ∧ Aside0 (G.ok gd false ev od 0) ∧ Aside0 (lcs = pr ++ gc) ∧ Aside0 (pr.length = i * 9) ∧ Aside0 (G.In flV w (fun k => k < B) false gc) ∧ Aside0 (F.all Zw G) ∧ Aside0 (WrOk w w' B g b P (.returned .nilIface)) ∧ Aside0 (P ++ G.byB false false 0 = TOT) ∧ Aside0 (ls.len - i ≤ kq))
  case atStart => exact ⟨0, ev, od, ls, lcs, [], bs ++ HD, Nat.zero_le _, rfl, ⟨rfl⟩, HOK, ⟨rfl⟩, ⟨by simp⟩, HLi, HIH, HQ0, HTT, ⟨by omega⟩⟩
  case round =>
    clear q0 q1 q2 q3 q4 q5 q6 q7 q8 qz
    obtain ⟨i, ev2, od2, G, gc, pr, P, hi, rfl, HGl, HGO, HLE, HPR, HGI, HGA, HQ, HTO, HK⟩ := hrel
    by_cases ci : i < ls.len
    · have ct : decide ((i : Int) < (ls.len : Nat)) = true := decide_eq_true (by omega)
      have ctt : decide (i < ls.len) = true := decide_eq_true ci
      cases G with
      | nil => exact absurd HGl.out (by show ¬ (0 + i = _); omega)
      | cons d id ls2 fs2 tl =>
        obtain ⟨bsv, lsv, fsv, l1, f1, t1, g1, g2, g3, g4, g5, g6, g7⟩ := HGI.out
        have hy1 : N.In flV w (fun k => k < B) ⟨d, ls2, fs2⟩ (nodeC flV d bsv lsv fsv) := ⟨⟨bsv, lsv, fsv, l1, f1, rfl, g2, g3, g4, g5, g6⟩⟩
        obtain ⟨X4, Xn4, Xk4, X7, Xn7, Xk7, X8, Xn8, Xk8, hcs⟩ := openV hy1
        rw [hcs] at hy1 g1
        obtain ⟨ad, hA2, hadl, hcell⟩ := HL.out (by rw [HLE.out, g1]; simp)
        subst hA2
        have hrow := rowCell hcell HLE.out HPR.out
        have HBB : Aside0 (Below B w wr) := ⟨HQ.out.below⟩
        obtain ⟨z0, z1, z2, z3, z4, z5, z6, z7, z8⟩ := nineRow (w := wr) (ad := ad) (k := i * 9) (rest := t1) (fun q u hq => (World.cell?_of_block (by rw [add_block]; exact HBB.out.block _ hadl)).trans (hrow q u hq)) g1
        have hto := HTO.out
        rw [show F.byB false (.cons d id ls2 fs2 tl) false 0 = N.byB false ⟨d, ls2, fs2⟩ ++ tl.byB false false id from by show [] ++ _ ++ _ = _; rw [List.nil_append]; rfl, ← List.append_assoc] at hto
        have hid : id = 0 := by have := HGO.out.1; rw [if_neg (by simp)] at this; exact this.2
        subst hid
        have hle : P.length + (N.byB false ⟨d, ls2, fs2⟩).length ≤ 80000000 := by
          have := congrArg List.length hto
          rw [List.length_append, List.length_append] at this
          have := HTL.out
          omega
        have HYP : Aside0 (∀ V, WrB V B g b P → Below B w V → Calls Tryd.prog 40 #[wrV g, .agg #[.int .i8 d.ty, .bool d.bo, .int .i64 d.n, .float .f64 d.bits, .slice X4 Xn4 Xk4, .int .i8 d.ky, .int .i8 d.el, .slice X7 Xn7 Xk7, .slice X8 Xn8 Xk8]] V fun e w' => WrOk V w' B g b (P ++ N.byB false ⟨d, ls2, fs2⟩) e) := ⟨fun V h hb => HGA.out.1 gd B g b P V _ HGO.out.2.1 (hy1.move (fun k hk => hb.block k hk) (fun k hk => hk)) h (Nat.le_trans HBW.out hb.size) hle⟩
        obtain ⟨EB, hEB⟩ : ∃ EB, N.byB false ⟨d, ls2, fs2⟩ = EB := ⟨_, rfl⟩
        rw [hEB] at hto HYP
        have HTO2 := Aside0.mk hto
        have HG7 := Aside0.mk g7
        have HL9 : Aside0 (lcs = pr ++ ([.int .i8 d.ty, .bool d.bo, .int .i64 d.n, .float .f64 d.bits, .slice X4 Xn4 Xk4, .int .i8 d.ky, .int .i8 d.el, .slice X7 Xn7 Xk7, .slice X8 Xn8 Xk8] ++ t1)) := ⟨by rw [HLE.out, g1]; rfl⟩
        have HCI := Aside0.mk ci
        have HWA := Aside0.mk (HQ.out.wr.alloc (.cells #[.int .i8 d.ty, .bool d.bo, .int .i64 d.n, .float .f64 d.bits, .slice X4 Xn4 Xk4, .int .i8 d.ky, .int .i8 d.el, .slice X7 Xn7 Xk7, .slice X8 Xn8 Xk8] 60))
        have HBA : Aside0 (Below wr.heap.size wr (wr.alloc (.cells #[.int .i8 d.ty, .bool d.bo, .int .i64 d.n, .float .f64 d.bits, .slice X4 Xn4 Xk4, .int .i8 d.ky, .int .i8 d.el, .slice X7 Xn7 Xk7, .slice X8 Xn8 Xk8] 60))) := ⟨(Below.refl _ _).alloc (Nat.le_refl _) _⟩
        have HPN := Aside0.mk (Blk.new wr #[.int .i8 d.ty, .bool d.bo, .int .i64 d.n, .float .f64 d.bits, .slice X4 Xn4 Xk4, .int .i8 d.ky, .int .i8 d.el, .slice X7 Xn7 Xk7, .slice X8 Xn8 Xk8] 60)
        have HBR : Aside0 (B ≤ wr.heap.size) := ⟨Nat.le_trans HBW.out HBB.out.size⟩
        clear g1 g2 g3 g4 g5 g6 g7 hy1 hrow hcell hcs hto hle hEB
        go_upto_region 37 with (fail)
        clear z0 z1 z2 z3 z4 z5 z6 z7 z8
        obtain ⟨gb, hgb⟩ : ∃ gb, wr.heap.size = gb := ⟨_, rfl⟩
        rw [hgb] at HPN ⊢
        generalize hw7 : World.alloc _ _ = w7 at HWA HBA HPN ⊢
        clear hw7
        obtain ⟨u0, u1, u2, u3, u4, u5, u6, u7, u8, uz⟩ := nine HPN.out
        go_wp2_with (first
          | (go_at_call 40; (with_reducible refine (HYP.out _ HWA.out (HBB.out.trans (HBA.out.mono HBR.out))).mono ?_); rintro e w5 HR; obtain rfl := HR.ret; have HR5 := Aside0.mk HR; clear HR))
        go_roundg (gk - 1)
        all_goals first
          | (have := HK.out; have := HCI.out; omega)
          | (exact ⟨i + 1, od2, ev2, tl, t1, pr ++ [.int .i8 d.ty, .bool d.bo, .int .i64 d.n, .float .f64 d.bits, .slice X4 Xn4 Xk4, .int .i8 d.ky, .int .i8 d.el, .slice X7 Xn7 Xk7, .slice X8 Xn8 Xk8], P ++ EB, HCI.out, by go_num, ⟨by have := HGl.out; have : (F.cons d 0 ls2 fs2 tl).len = tl.len + 1 := rfl; omega⟩, ⟨HGO.out.2.2⟩, ⟨by rw [HL9.out, List.append_assoc]⟩, ⟨by rw [List.length_append, HPR.out]; show i * 9 + 9 = (i + 1) * 9; omega⟩, HG7, ⟨HGA.out.2⟩, ⟨HQ.out.then (WrOk.behind HR5.out HBR.out HBA.out)⟩, HTO2, ⟨by have := HK.out; omega⟩⟩)
    · have hin : i = ls.len := by omega
      have hP : P = TOT := by
        have hd := HTO.out
        have hg := HGl.out
        cases G with
        | nil => rw [← hd]; exact (List.append_nil _).symm
        | cons d id ls2 fs2 tl => exfalso; have : (F.cons d id ls2 fs2 tl).len = tl.len + 1 := rfl; omega
      have ct : decide ((i : Int) < (ls.len : Nat)) = false := decide_eq_false (by omega)
      have ctt : decide (i < ls.len) = false := decide_eq_false ci
      have HFQ : Aside0 (WrOk w wr B g b TOT (.returned .nilIface)) := ⟨hP ▸ HQ.out⟩
      clear hin hP ci
      go_wp2_with (fail)
      go_ret
      exact HFQ.out
end Go.Proofs.YtcboegodjlfmnaaDoor.Tvg
