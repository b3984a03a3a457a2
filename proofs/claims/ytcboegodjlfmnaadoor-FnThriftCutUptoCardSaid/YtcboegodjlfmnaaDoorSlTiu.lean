import Derived.Test.YtcboegodjlfmnaaDoorSlTit
import Derived.Deep.RegionHeld3
namespace Go.Proofs.YtcboegodjlfmnaaDoor.Tiu
open Go.Proofs.YtcboegodjlfmnaaDoor.Tit Go.Proofs.YtcboegodjlfmnaaDoor.Tsd Go.Proofs.YtcboegodjlfmnaaDoor.Ton Go.Proofs.YtcboegodjlfmnaaDoor.Tpw Go.Proofs.YtcboegodjlfmnaaDoor.Tap Go.Proofs.YtcboegodjlfmnaaDoor.Tzm Go.Proofs.YtcboegodjlfmnaaDoor.Tzl Go.Proofs.YtcboegodjlfmnaaDoor.Trh Go.Proofs.YtcboegodjlfmnaaDoor.Trn Go.Proofs.YtcboegodjlfmnaaDoor.Trm Go.Proofs.YtcboegodjlfmnaaDoor.Tuv Go.Proofs.YtcboegodjlfmnaaDoor.Tpa Go.Proofs.YtcboegodjlfmnaaDoor.Duv Go.Proofs.YtcboegodjlfmnaaDoor.Dpu Go.Proofs.YtcboegodjlfmnaaDoor.Pak Go.Proofs.YtcboegodjlfmnaaDoor.Buf Go.Proofs.YtcboegodjlfmnaaDoor.Fit Go.Proofs.YtcboegodjlfmnaaDoor.Bit Go.Proofs.YtcboegodjlfmnaaDoor.Wrd Go.Proofs.YtcboegodjlfmnaaDoor.Spl Go.Proofs.YtcboegodjlfmnaaDoor.Str Go.Proofs.YtcboegodjlfmnaaDoor.Flt Go.Proofs.YtcboegodjlfmnaaDoor.Owe Go.Proofs.YtcboegodjlfmnaaDoor.Num Go.Proofs.YtcboegodjlfmnaaDoor.Le Go.Proofs.YtcboegodjlfmnaaDoor.Lst Go.Proofs.YtcboegodjlfmnaaDoor.Aid Go.RowKit Go.Proofs.YtcboegodjlfmnaaDoorW.PrintWords Go.Proofs.YtcboegodjlfmnaaDoorW.PrintLast Go.Proofs.YtcboegodjlfmnaaDoorW.PrintMore Go.Proofs.YtcboegodjlfmnaaDoor.Tpv Go.Proofs.YtcboegodjlfmnaaDoor.Tzz
set_option linter.unusedVariables false
set_option linter.unusedSimpArgs false
theorem len_nil {X : F} (h : X.len = 0) : X = .nil := by
  cases X with
  | nil => rfl
  | cons d id ls fs tl => exact absurd h (by show ¬ (tl.len + 1 = 0); omega)
theorem empty_var (ty : Int) (bo : Bool) (n : Int) (bits : Nat) (A1 : Option Addr) (n1 c1 : Nat) (ky el : Int) (A2 : Option Addr) (n2 c2 : Nat) (A3 : Option Addr) (n3 c3 : Nat) :
    ∃ R : Bool, (∀ w, Calls Tryd.prog 19 #[.agg #[.int .i64 ty, .bool bo, .int .i64 n, .int .u64 (bits : Int), .slice A1 n1 c1, .int .i64 ky, .int .i64 el, .slice A2 n2 c2, .slice A3 n3 c3]] w fun e w' => e = .returned (.bool R) ∧ Below w.heap.size w w') ∧ (R = true ↔ bo = false ∧ n = 0 ∧ bits = 0 ∧ n1 = 0 ∧ ky = 0 ∧ el = 0 ∧ n2 = 0 ∧ n3 = 0) :=
  ⟨_, fun w => empty_calls ty bo n bits A1 n1 c1 ky el A2 n2 c2 A3 n3 c3 w, fun h => of_decide_eq_true h, fun h => decide_eq_true h⟩
theorem inv_1 {bo : Bool} {n : Int} {bits : Nat} {bs : List Int} {ky el : Int} {ls fs : F} {dd : Nat} {fld : Bool} (h : N.ok ⟨⟨1, bo, n, bits, bs, ky, el⟩, ls, fs⟩ dd fld) : fld = true ∧ bo = true ∧ n = 0 ∧ bits = 0 ∧ bs = [] ∧ ky = 0 ∧ el = 0 ∧ ls = .nil ∧ fs = .nil := by
  rcases h with h | h | h | h | h | h | h | h | h | h | h
  · obtain ⟨_, hf, hd, hl, hg⟩ := h; injection hd with _ e1 e2 e3 e4 e5 e6; exact ⟨hf, e1, e2, e3, e4, e5, e6, hl, hg⟩
  · exact absurd h.1 (by dsimp only; decide)
  · exact absurd h.1 (by dsimp only; decide)
  · exact absurd h.1 (by dsimp only; decide)
  · exact absurd h.1 (by dsimp only; decide)
  · exact absurd h.1 (by dsimp only; decide)
  · exact absurd h.1 (by dsimp only; decide)
  · exact absurd h.1 (by dsimp only; decide)
  · exact absurd h.1 (by dsimp only; decide)
  · exact absurd h.1 (by dsimp only; decide)
  · exact absurd h.1 (by dsimp only; decide)
theorem inv_2 {bo : Bool} {n : Int} {bits : Nat} {bs : List Int} {ky el : Int} {ls fs : F} {dd : Nat} {fld : Bool} (h : N.ok ⟨⟨2, bo, n, bits, bs, ky, el⟩, ls, fs⟩ dd fld) : fld = true ∧ bo = false ∧ n = 0 ∧ bits = 0 ∧ bs = [] ∧ ky = 0 ∧ el = 0 ∧ ls = .nil ∧ fs = .nil := by
  rcases h with h | h | h | h | h | h | h | h | h | h | h
  · exact absurd h.1 (by dsimp only; decide)
  · obtain ⟨_, hf, hd, hl, hg⟩ := h; injection hd with _ e1 e2 e3 e4 e5 e6; exact ⟨hf, e1, e2, e3, e4, e5, e6, hl, hg⟩
  · exact absurd h.1 (by dsimp only; decide)
  · exact absurd h.1 (by dsimp only; decide)
  · exact absurd h.1 (by dsimp only; decide)
  · exact absurd h.1 (by dsimp only; decide)
  · exact absurd h.1 (by dsimp only; decide)
  · exact absurd h.1 (by dsimp only; decide)
  · exact absurd h.1 (by dsimp only; decide)
  · exact absurd h.1 (by dsimp only; decide)
  · exact absurd h.1 (by dsimp only; decide)
theorem inv_3 {bo : Bool} {n : Int} {bits : Nat} {bs : List Int} {ky el : Int} {ls fs : F} {dd : Nat} {fld : Bool} (h : N.ok ⟨⟨3, bo, n, bits, bs, ky, el⟩, ls, fs⟩ dd fld) : -128 ≤ n ∧ n < 128 ∧ bo = false ∧ bits = 0 ∧ bs = [] ∧ ky = 0 ∧ el = 0 ∧ ls = .nil ∧ fs = .nil := by
  rcases h with h | h | h | h | h | h | h | h | h | h | h
  · exact absurd h.1 (by dsimp only; decide)
  · exact absurd h.1 (by dsimp only; decide)
  · obtain ⟨_, h0, h1, hd, hl, hg⟩ := h; injection hd with _ e1 e2 e3 e4 e5 e6; exact ⟨h0, h1, e1, e3, e4, e5, e6, hl, hg⟩
  · exact absurd h.1 (by dsimp only; decide)
  · exact absurd h.1 (by dsimp only; decide)
  · exact absurd h.1 (by dsimp only; decide)
  · exact absurd h.1 (by dsimp only; decide)
  · exact absurd h.1 (by dsimp only; decide)
  · exact absurd h.1 (by dsimp only; decide)
  · exact absurd h.1 (by dsimp only; decide)
  · exact absurd h.1 (by dsimp only; decide)
theorem inv_4 {bo : Bool} {n : Int} {bits : Nat} {bs : List Int} {ky el : Int} {ls fs : F} {dd : Nat} {fld : Bool} (h : N.ok ⟨⟨4, bo, n, bits, bs, ky, el⟩, ls, fs⟩ dd fld) : -32768 ≤ n ∧ n < 32768 ∧ bo = false ∧ bits = 0 ∧ bs = [] ∧ ky = 0 ∧ el = 0 ∧ ls = .nil ∧ fs = .nil := by
  rcases h with h | h | h | h | h | h | h | h | h | h | h
  · exact absurd h.1 (by dsimp only; decide)
  · exact absurd h.1 (by dsimp only; decide)
  · exact absurd h.1 (by dsimp only; decide)
  · obtain ⟨_, h0, h1, hd, hl, hg⟩ := h; injection hd with _ e1 e2 e3 e4 e5 e6; exact ⟨h0, h1, e1, e3, e4, e5, e6, hl, hg⟩
  · exact absurd h.1 (by dsimp only; decide)
  · exact absurd h.1 (by dsimp only; decide)
  · exact absurd h.1 (by dsimp only; decide)
  · exact absurd h.1 (by dsimp only; decide)
  · exact absurd h.1 (by dsimp only; decide)
  · exact absurd h.1 (by dsimp only; decide)
  · exact absurd h.1 (by dsimp only; decide)
theorem inv_5 {bo : Bool} {n : Int} {bits : Nat} {bs : List Int} {ky el : Int} {ls fs : F} {dd : Nat} {fld : Bool} (h : N.ok ⟨⟨5, bo, n, bits, bs, ky, el⟩, ls, fs⟩ dd fld) : -2147483648 ≤ n ∧ n < 2147483648 ∧ bo = false ∧ bits = 0 ∧ bs = [] ∧ ky = 0 ∧ el = 0 ∧ ls = .nil ∧ fs = .nil := by
  rcases h with h | h | h | h | h | h | h | h | h | h | h
  · exact absurd h.1 (by dsimp only; decide)
  · exact absurd h.1 (by dsimp only; decide)
  · exact absurd h.1 (by dsimp only; decide)
  · exact absurd h.1 (by dsimp only; decide)
  · obtain ⟨_, h0, h1, hd, hl, hg⟩ := h; injection hd with _ e1 e2 e3 e4 e5 e6; exact ⟨h0, h1, e1, e3, e4, e5, e6, hl, hg⟩
  · exact absurd h.1 (by dsimp only; decide)
  · exact absurd h.1 (by dsimp only; decide)
  · exact absurd h.1 (by dsimp only; decide)
  · exact absurd h.1 (by dsimp only; decide)
  · exact absurd h.1 (by dsimp only; decide)
  · exact absurd h.1 (by dsimp only; decide)
theorem inv_6 {bo : Bool} {n : Int} {bits : Nat} {bs : List Int} {ky el : Int} {ls fs : F} {dd : Nat} {fld : Bool} (h : N.ok ⟨⟨6, bo, n, bits, bs, ky, el⟩, ls, fs⟩ dd fld) : -9223372036854775808 ≤ n ∧ n < 9223372036854775808 ∧ bo = false ∧ bits = 0 ∧ bs = [] ∧ ky = 0 ∧ el = 0 ∧ ls = .nil ∧ fs = .nil := by
  rcases h with h | h | h | h | h | h | h | h | h | h | h
  · exact absurd h.1 (by dsimp only; decide)
  · exact absurd h.1 (by dsimp only; decide)
  · exact absurd h.1 (by dsimp only; decide)
  · exact absurd h.1 (by dsimp only; decide)
  · exact absurd h.1 (by dsimp only; decide)
  · obtain ⟨_, h0, h1, hd, hl, hg⟩ := h; injection hd with _ e1 e2 e3 e4 e5 e6; exact ⟨h0, h1, e1, e3, e4, e5, e6, hl, hg⟩
  · exact absurd h.1 (by dsimp only; decide)
  · exact absurd h.1 (by dsimp only; decide)
  · exact absurd h.1 (by dsimp only; decide)
  · exact absurd h.1 (by dsimp only; decide)
  · exact absurd h.1 (by dsimp only; decide)
theorem inv_7 {bo : Bool} {n : Int} {bits : Nat} {bs : List Int} {ky el : Int} {ls fs : F} {dd : Nat} {fld : Bool} (h : N.ok ⟨⟨7, bo, n, bits, bs, ky, el⟩, ls, fs⟩ dd fld) : bo = false ∧ n = 0 ∧ bs = [] ∧ ky = 0 ∧ el = 0 ∧ ls = .nil ∧ fs = .nil := by
  rcases h with h | h | h | h | h | h | h | h | h | h | h
  · exact absurd h.1 (by dsimp only; decide)
  · exact absurd h.1 (by dsimp only; decide)
  · exact absurd h.1 (by dsimp only; decide)
  · exact absurd h.1 (by dsimp only; decide)
  · exact absurd h.1 (by dsimp only; decide)
  · exact absurd h.1 (by dsimp only; decide)
  · obtain ⟨_, h0, hd, hl, hg⟩ := h; injection hd with _ e1 e2 e3 e4 e5 e6; exact ⟨e1, e2, e4, e5, e6, hl, hg⟩
  · exact absurd h.1 (by dsimp only; decide)
  · exact absurd h.1 (by dsimp only; decide)
  · exact absurd h.1 (by dsimp only; decide)
  · exact absurd h.1 (by dsimp only; decide)
theorem inv_8 {bo : Bool} {n : Int} {bits : Nat} {bs : List Int} {ky el : Int} {ls fs : F} {dd : Nat} {fld : Bool} (h : N.ok ⟨⟨8, bo, n, bits, bs, ky, el⟩, ls, fs⟩ dd fld) : bs.length ≤ 10000 ∧ bo = false ∧ n = 0 ∧ bits = 0 ∧ ky = 0 ∧ el = 0 ∧ ls = .nil ∧ fs = .nil := by
  rcases h with h | h | h | h | h | h | h | h | h | h | h
  · exact absurd h.1 (by dsimp only; decide)
  · exact absurd h.1 (by dsimp only; decide)
  · exact absurd h.1 (by dsimp only; decide)
  · exact absurd h.1 (by dsimp only; decide)
  · exact absurd h.1 (by dsimp only; decide)
  · exact absurd h.1 (by dsimp only; decide)
  · exact absurd h.1 (by dsimp only; decide)
  · obtain ⟨_, h0, _, hd, hl, hg⟩ := h; injection hd with _ e1 e2 e3 e4 e5 e6; exact ⟨h0, e1, e2, e3, e5, e6, hl, hg⟩
  · exact absurd h.1 (by dsimp only; decide)
  · exact absurd h.1 (by dsimp only; decide)
  · exact absurd h.1 (by dsimp only; decide)
theorem inv_9 {bo : Bool} {n : Int} {bits : Nat} {bs : List Int} {ky el : Int} {ls fs : F} {dd : Nat} {fld : Bool} (h : N.ok ⟨⟨9, bo, n, bits, bs, ky, el⟩, ls, fs⟩ dd fld) : bo = false ∧ n = 0 ∧ bits = 0 ∧ bs = [] ∧ ky = 0 ∧ 3 ≤ el ∧ el ≤ 12 ∧ ls.len ≤ 1000 ∧ fs = .nil ∧ ∃ g, dd = g + 1 ∧ ls.ok g false el el 0 := by
  rcases h with h | h | h | h | h | h | h | h | h | h | h
  · exact absurd h.1 (by dsimp only; decide)
  · exact absurd h.1 (by dsimp only; decide)
  · exact absurd h.1 (by dsimp only; decide)
  · exact absurd h.1 (by dsimp only; decide)
  · exact absurd h.1 (by dsimp only; decide)
  · exact absurd h.1 (by dsimp only; decide)
  · exact absurd h.1 (by dsimp only; decide)
  · exact absurd h.1 (by dsimp only; decide)
  · obtain ⟨_, hd, h3, h12, hn, hg, g, e, ho⟩ := h; injection hd with _ e1 e2 e3 e4 e5 e6; exact ⟨e1, e2, e3, e4, e5, h3, h12, hn, hg, g, e, ho⟩
  · exact absurd h.1 (by dsimp only; decide)
  · exact absurd h.1 (by dsimp only; decide)
theorem inv_10 {bo : Bool} {n : Int} {bits : Nat} {bs : List Int} {ky el : Int} {ls fs : F} {dd : Nat} {fld : Bool} (h : N.ok ⟨⟨10, bo, n, bits, bs, ky, el⟩, ls, fs⟩ dd fld) : bo = false ∧ n = 0 ∧ bits = 0 ∧ bs = [] ∧ ky = 0 ∧ 3 ≤ el ∧ el ≤ 12 ∧ ls.len ≤ 1000 ∧ fs = .nil ∧ ∃ g, dd = g + 1 ∧ ls.ok g false el el 0 := by
  rcases h with h | h | h | h | h | h | h | h | h | h | h
  · exact absurd h.1 (by dsimp only; decide)
  · exact absurd h.1 (by dsimp only; decide)
  · exact absurd h.1 (by dsimp only; decide)
  · exact absurd h.1 (by dsimp only; decide)
  · exact absurd h.1 (by dsimp only; decide)
  · exact absurd h.1 (by dsimp only; decide)
  · exact absurd h.1 (by dsimp only; decide)
  · exact absurd h.1 (by dsimp only; decide)
  · obtain ⟨_, hd, h3, h12, hn, hg, g, e, ho⟩ := h; injection hd with _ e1 e2 e3 e4 e5 e6; exact ⟨e1, e2, e3, e4, e5, h3, h12, hn, hg, g, e, ho⟩
  · exact absurd h.1 (by dsimp only; decide)
  · exact absurd h.1 (by dsimp only; decide)
theorem inv_11 {bo : Bool} {n : Int} {bits : Nat} {bs : List Int} {ky el : Int} {ls fs : F} {dd : Nat} {fld : Bool} (h : N.ok ⟨⟨11, bo, n, bits, bs, ky, el⟩, ls, fs⟩ dd fld) : bo = false ∧ n = 0 ∧ bits = 0 ∧ bs = [] ∧ ls.len ≤ 1000 ∧ ls.len % 2 = 0 ∧ fs = .nil ∧ (∃ g, dd = g + 1 ∧ ls.ok g false ky el 0) ∧ (ls.len = 0 → ky = 0 ∧ el = 0) ∧ (ls.len ≠ 0 → 3 ≤ ky ∧ ky ≤ 12 ∧ 3 ≤ el ∧ el ≤ 12) := by
  rcases h with h | h | h | h | h | h | h | h | h | h | h
  · exact absurd h.1 (by dsimp only; decide)
  · exact absurd h.1 (by dsimp only; decide)
  · exact absurd h.1 (by dsimp only; decide)
  · exact absurd h.1 (by dsimp only; decide)
  · exact absurd h.1 (by dsimp only; decide)
  · exact absurd h.1 (by dsimp only; decide)
  · exact absurd h.1 (by dsimp only; decide)
  · exact absurd h.1 (by dsimp only; decide)
  · exact absurd h.1 (by dsimp only; decide)
  · obtain ⟨_, hd, hn, h2, hg, ho, hz, hk⟩ := h; injection hd with _ e1 e2 e3 e4 e5 e6; exact ⟨e1, e2, e3, e4, hn, h2, hg, ho, hz, hk⟩
  · exact absurd h.1 (by dsimp only; decide)
theorem inv_12 {bo : Bool} {n : Int} {bits : Nat} {bs : List Int} {ky el : Int} {ls fs : F} {dd : Nat} {fld : Bool} (h : N.ok ⟨⟨12, bo, n, bits, bs, ky, el⟩, ls, fs⟩ dd fld) : bo = false ∧ n = 0 ∧ bits = 0 ∧ bs = [] ∧ ky = 0 ∧ el = 0 ∧ fs.len ≤ 100 ∧ ls = .nil ∧ ∃ g, dd = g + 1 ∧ fs.ok g true 0 0 0 := by
  rcases h with h | h | h | h | h | h | h | h | h | h | h
  · exact absurd h.1 (by dsimp only; decide)
  · exact absurd h.1 (by dsimp only; decide)
  · exact absurd h.1 (by dsimp only; decide)
  · exact absurd h.1 (by dsimp only; decide)
  · exact absurd h.1 (by dsimp only; decide)
  · exact absurd h.1 (by dsimp only; decide)
  · exact absurd h.1 (by dsimp only; decide)
  · exact absurd h.1 (by dsimp only; decide)
  · exact absurd h.1 (by dsimp only; decide)
  · exact absurd h.1 (by dsimp only; decide)
  · obtain ⟨_, hd, hn, hl, g, e, ho⟩ := h; injection hd with _ e1 e2 e3 e4 e5 e6; exact ⟨e1, e2, e3, e4, e5, e6, hn, hl, g, e, ho⟩
set_option maxHeartbeats 16000000 in
set_option maxRecDepth 100000 in
theorem it_1 (bo : Bool) (n : Int) (bits : Nat) (bs : List Int) (ky el : Int) (ls fs : F) (ihl : F.all It ls) (ihf : F.all It fs) : It ⟨⟨1, bo, n, bits, bs, ky, el⟩, ls, fs⟩ := by
  intro hwf dd fld w cs hdd hin
  obtain ⟨bsv, lsv, fsv, lcs, fcs, e, hb, hl, hli, hf, hfi⟩ := hin.out
  obtain ⟨A1, c1, rfl, hc1, _⟩ := hb.out
  have HL := Aside0.mk hl
  have HF := Aside0.mk hf
  obtain ⟨A2, c2, rfl, hc2, _⟩ := hl.out
  obtain ⟨A3, c3, rfl, hc3, _⟩ := hf.out
  have e2 : cs = [.int .i64 1, .bool bo, .int .i64 n, .int .u64 (bits : Int), .slice A1 bs.length c1, .int .i64 ky, .int .i64 el, .slice A2 ls.len c2, .slice A3 fs.len c3] := e
  subst e2
  have HLi := Aside0.mk hli
  have HFi := Aside0.mk hfi
  have HWF := Aside0.mk hwf
  have HIL := Aside0.mk ihl
  have HIF := Aside0.mk ihf
  have HB : Aside0 (Below w.heap.size w (w.alloc (.cells #[.int .i64 1, .bool bo, .int .i64 n, .int .u64 (bits : Int), .slice A1 bs.length c1, .int .i64 ky, .int .i64 el, .slice A2 ls.len c2, .slice A3 fs.len c3] 27))) := ⟨(Below.refl _ _).alloc (Nat.le_refl _) _⟩
  have HV := Aside0.mk (Blk.new w #[.int .i64 1, .bool bo, .int .i64 n, .int .u64 (bits : Int), .slice A1 bs.length c1, .int .i64 ky, .int .i64 el, .slice A2 ls.len c2, .slice A3 fs.len c3] 27)
  have HNL : Aside0 (ls.len ≤ 9223372036854775807) := ⟨by have := hwf.nl; unfold maxLen at this; exact this⟩
  have HNF : Aside0 (fs.len ≤ 9223372036854775807) := ⟨by have := hwf.nf; unfold maxLen at this; exact this⟩
  have hnl := HNL.out
  have hnf := HNF.out
  clear hin e hb hl hli hf hfi hwf ihl ihf
  go_enter Tryd.func11, Tryd.ntmps11
  go_upto_region 1 with (fail)
  generalize hW : World.alloc _ _ = W at HB HV ⊢
  clear hW
  obtain ⟨q0, q1, q2, q3, q4, q5, q6, q7, q8, qz⟩ := nine HV.out
  obtain ⟨R, hRC, hRR⟩ := empty_var 1 false n bits A1 bs.length c1 ky el A2 ls.len c2 A3 fs.len c3
  skip
  have HRC := Aside0.mk hRC
  have HRR := Aside0.mk hRR
  clear hRC hRR
  have HBA : Aside0 (Below w.heap.size w (W.alloc (.cells #[.int .i64 1, .bool false, .int .i64 n, .int .u64 (bits : Int), .slice A1 bs.length c1, .int .i64 ky, .int .i64 el, .slice A2 ls.len c2, .slice A3 fs.len c3] 27))) := ⟨HB.out.alloc HB.out.size _⟩
  have HX := Aside0.mk (Blk.new W #[.int .i64 1, .bool false, .int .i64 n, .int .u64 (bits : Int), .slice A1 bs.length c1, .int .i64 ky, .int .i64 el, .slice A2 ls.len c2, .slice A3 fs.len c3] 27)
  have HV2 := Aside0.mk (HV.out.alloc (.cells #[.int .i64 1, .bool false, .int .i64 n, .int .u64 (bits : Int), .slice A1 bs.length c1, .int .i64 ky, .int .i64 el, .slice A2 ls.len c2, .slice A3 fs.len c3] 27))
  go_upto_region 6 with (fail)
  generalize hW2 : World.alloc _ _ = W2 at HBA HX HV2 ⊢
  clear hW2 q0 q1 q2 q3 q4 q5 q6 q7 q8 qz
  obtain ⟨r0, r1, r2, r3, r4, r5, r6, r7, r8, rz⟩ := nine HX.out
  obtain ⟨q0, q1, q2, q3, q4, q5, q6, q7, q8, qz⟩ := nine HV2.out
  cases fld with
  | false =>
    go_wp2_with (fail)
    go_ret
    exact ⟨⟨false, rfl, ⟨(fun h => nomatch h), fun hP => absurd (inv_1 hP).1 (by simp)⟩⟩, HBA.out⟩
  | true =>
    cases bo with
    | false =>
      go_wp2_with (fail)
      go_ret
      exact ⟨⟨false, rfl, ⟨(fun h => nomatch h), fun hP => absurd (inv_1 hP).2.1 (by simp)⟩⟩, HBA.out⟩
    | true =>
      go_wp2_with (first
        | (go_at_call 19; (with_reducible refine (HRC.out _).mono ?_); rintro e w2 ⟨rfl, hb2⟩; have HB2 := Aside0.mk hb2; clear hb2))
      go_ret
      refine ⟨⟨R, rfl, ⟨fun h => ?_, fun hP => HRR.out.2 (by obtain ⟨_, _, e2, e3, e4, e5, e6, e7, e8⟩ := inv_1 hP; exact ⟨(by trivial), e2, e3, by rw [e4]; rfl, e5, e6, by rw [e7]; rfl, by rw [e8]; rfl⟩)⟩⟩, HBA.out.trans (HB2.out.mono HBA.out.size)⟩
      obtain ⟨_, rfl, rfl, h4, rfl, rfl, h7, h8⟩ := HRR.out.1 h
      obtain rfl := List.length_eq_zero_iff.1 h4
      obtain rfl := len_nil h7
      obtain rfl := len_nil h8
      exact .inl ⟨rfl, rfl, rfl, rfl, rfl⟩
set_option maxHeartbeats 16000000 in
set_option maxRecDepth 100000 in
theorem it_2 (bo : Bool) (n : Int) (bits : Nat) (bs : List Int) (ky el : Int) (ls fs : F) (ihl : F.all It ls) (ihf : F.all It fs) : It ⟨⟨2, bo, n, bits, bs, ky, el⟩, ls, fs⟩ := by
  intro hwf dd fld w cs hdd hin
  obtain ⟨bsv, lsv, fsv, lcs, fcs, e, hb, hl, hli, hf, hfi⟩ := hin.out
  obtain ⟨A1, c1, rfl, hc1, _⟩ := hb.out
  have HL := Aside0.mk hl
  have HF := Aside0.mk hf
  obtain ⟨A2, c2, rfl, hc2, _⟩ := hl.out
  obtain ⟨A3, c3, rfl, hc3, _⟩ := hf.out
  have e2 : cs = [.int .i64 2, .bool bo, .int .i64 n, .int .u64 (bits : Int), .slice A1 bs.length c1, .int .i64 ky, .int .i64 el, .slice A2 ls.len c2, .slice A3 fs.len c3] := e
  subst e2
  have HLi := Aside0.mk hli
  have HFi := Aside0.mk hfi
  have HWF := Aside0.mk hwf
  have HIL := Aside0.mk ihl
  have HIF := Aside0.mk ihf
  have HB : Aside0 (Below w.heap.size w (w.alloc (.cells #[.int .i64 2, .bool bo, .int .i64 n, .int .u64 (bits : Int), .slice A1 bs.length c1, .int .i64 ky, .int .i64 el, .slice A2 ls.len c2, .slice A3 fs.len c3] 27))) := ⟨(Below.refl _ _).alloc (Nat.le_refl _) _⟩
  have HV := Aside0.mk (Blk.new w #[.int .i64 2, .bool bo, .int .i64 n, .int .u64 (bits : Int), .slice A1 bs.length c1, .int .i64 ky, .int .i64 el, .slice A2 ls.len c2, .slice A3 fs.len c3] 27)
  have HNL : Aside0 (ls.len ≤ 9223372036854775807) := ⟨by have := hwf.nl; unfold maxLen at this; exact this⟩
  have HNF : Aside0 (fs.len ≤ 9223372036854775807) := ⟨by have := hwf.nf; unfold maxLen at this; exact this⟩
  have hnl := HNL.out
  have hnf := HNF.out
  clear hin e hb hl hli hf hfi hwf ihl ihf
  go_enter Tryd.func11, Tryd.ntmps11
  go_upto_region 1 with (fail)
  generalize hW : World.alloc _ _ = W at HB HV ⊢
  clear hW
  obtain ⟨q0, q1, q2, q3, q4, q5, q6, q7, q8, qz⟩ := nine HV.out
  obtain ⟨R, hRC, hRR⟩ := empty_var 2 false n bits A1 bs.length c1 ky el A2 ls.len c2 A3 fs.len c3
  skip
  have HRC := Aside0.mk hRC
  have HRR := Aside0.mk hRR
  clear hRC hRR
  have HBA : Aside0 (Below w.heap.size w (W.alloc (.cells #[.int .i64 2, .bool false, .int .i64 n, .int .u64 (bits : Int), .slice A1 bs.length c1, .int .i64 ky, .int .i64 el, .slice A2 ls.len c2, .slice A3 fs.len c3] 27))) := ⟨HB.out.alloc HB.out.size _⟩
  have HX := Aside0.mk (Blk.new W #[.int .i64 2, .bool false, .int .i64 n, .int .u64 (bits : Int), .slice A1 bs.length c1, .int .i64 ky, .int .i64 el, .slice A2 ls.len c2, .slice A3 fs.len c3] 27)
  have HV2 := Aside0.mk (HV.out.alloc (.cells #[.int .i64 2, .bool false, .int .i64 n, .int .u64 (bits : Int), .slice A1 bs.length c1, .int .i64 ky, .int .i64 el, .slice A2 ls.len c2, .slice A3 fs.len c3] 27))
  go_upto_region 6 with (fail)
  generalize hW2 : World.alloc _ _ = W2 at HBA HX HV2 ⊢
  clear hW2 q0 q1 q2 q3 q4 q5 q6 q7 q8 qz
  obtain ⟨r0, r1, r2, r3, r4, r5, r6, r7, r8, rz⟩ := nine HX.out
  obtain ⟨q0, q1, q2, q3, q4, q5, q6, q7, q8, qz⟩ := nine HV2.out
  cases fld with
  | false =>
    go_wp2_with (fail)
    go_ret
    exact ⟨⟨false, rfl, ⟨(fun h => nomatch h), fun hP => absurd (inv_2 hP).1 (by simp)⟩⟩, HBA.out⟩
  | true =>
    cases bo with
    | true =>
      go_wp2_with (fail)
      go_ret
      exact ⟨⟨false, rfl, ⟨(fun h => nomatch h), fun hP => absurd (inv_2 hP).2.1 (by simp)⟩⟩, HBA.out⟩
    | false =>
      go_wp2_with (first
        | (go_at_call 19; (with_reducible refine (HRC.out _).mono ?_); rintro e w2 ⟨rfl, hb2⟩; have HB2 := Aside0.mk hb2; clear hb2))
      go_ret
      refine ⟨⟨R, rfl, ⟨fun h => ?_, fun hP => HRR.out.2 (by obtain ⟨_, _, e2, e3, e4, e5, e6, e7, e8⟩ := inv_2 hP; exact ⟨(by trivial), e2, e3, by rw [e4]; rfl, e5, e6, by rw [e7]; rfl, by rw [e8]; rfl⟩)⟩⟩, HBA.out.trans (HB2.out.mono HBA.out.size)⟩
      obtain ⟨_, rfl, rfl, h4, rfl, rfl, h7, h8⟩ := HRR.out.1 h
      obtain rfl := List.length_eq_zero_iff.1 h4
      obtain rfl := len_nil h7
      obtain rfl := len_nil h8
      exact .inr (.inl ⟨rfl, rfl, rfl, rfl, rfl⟩)
set_option maxHeartbeats 16000000 in
set_option maxRecDepth 100000 in
theorem it_3 (bo : Bool) (n : Int) (bits : Nat) (bs : List Int) (ky el : Int) (ls fs : F) (ihl : F.all It ls) (ihf : F.all It fs) : It ⟨⟨3, bo, n, bits, bs, ky, el⟩, ls, fs⟩ := by
  intro hwf dd fld w cs hdd hin
  obtain ⟨bsv, lsv, fsv, lcs, fcs, e, hb, hl, hli, hf, hfi⟩ := hin.out
  obtain ⟨A1, c1, rfl, hc1, _⟩ := hb.out
  have HL := Aside0.mk hl
  have HF := Aside0.mk hf
  obtain ⟨A2, c2, rfl, hc2, _⟩ := hl.out
  obtain ⟨A3, c3, rfl, hc3, _⟩ := hf.out
  have e2 : cs = [.int .i64 3, .bool bo, .int .i64 n, .int .u64 (bits : Int), .slice A1 bs.length c1, .int .i64 ky, .int .i64 el, .slice A2 ls.len c2, .slice A3 fs.len c3] := e
  subst e2
  have HLi := Aside0.mk hli
  have HFi := Aside0.mk hfi
  have HWF := Aside0.mk hwf
  have HIL := Aside0.mk ihl
  have HIF := Aside0.mk ihf
  have HB : Aside0 (Below w.heap.size w (w.alloc (.cells #[.int .i64 3, .bool bo, .int .i64 n, .int .u64 (bits : Int), .slice A1 bs.length c1, .int .i64 ky, .int .i64 el, .slice A2 ls.len c2, .slice A3 fs.len c3] 27))) := ⟨(Below.refl _ _).alloc (Nat.le_refl _) _⟩
  have HV := Aside0.mk (Blk.new w #[.int .i64 3, .bool bo, .int .i64 n, .int .u64 (bits : Int), .slice A1 bs.length c1, .int .i64 ky, .int .i64 el, .slice A2 ls.len c2, .slice A3 fs.len c3] 27)
  have HNL : Aside0 (ls.len ≤ 9223372036854775807) := ⟨by have := hwf.nl; unfold maxLen at this; exact this⟩
  have HNF : Aside0 (fs.len ≤ 9223372036854775807) := ⟨by have := hwf.nf; unfold maxLen at this; exact this⟩
  have hnl := HNL.out
  have hnf := HNF.out
  clear hin e hb hl hli hf hfi hwf ihl ihf
  go_enter Tryd.func11, Tryd.ntmps11
  go_upto_region 1 with (fail)
  generalize hW : World.alloc _ _ = W at HB HV ⊢
  clear hW
  obtain ⟨q0, q1, q2, q3, q4, q5, q6, q7, q8, qz⟩ := nine HV.out
  obtain ⟨R, hRC, hRR⟩ := empty_var 3 bo 0 bits A1 bs.length c1 ky el A2 ls.len c2 A3 fs.len c3
  skip
  have HRC := Aside0.mk hRC
  have HRR := Aside0.mk hRR
  clear hRC hRR
  have HBA : Aside0 (Below w.heap.size w (W.alloc (.cells #[.int .i64 3, .bool bo, .int .i64 0, .int .u64 (bits : Int), .slice A1 bs.length c1, .int .i64 ky, .int .i64 el, .slice A2 ls.len c2, .slice A3 fs.len c3] 27))) := ⟨HB.out.alloc HB.out.size _⟩
  have HX := Aside0.mk (Blk.new W #[.int .i64 3, .bool bo, .int .i64 0, .int .u64 (bits : Int), .slice A1 bs.length c1, .int .i64 ky, .int .i64 el, .slice A2 ls.len c2, .slice A3 fs.len c3] 27)
  have HV2 := Aside0.mk (HV.out.alloc (.cells #[.int .i64 3, .bool bo, .int .i64 0, .int .u64 (bits : Int), .slice A1 bs.length c1, .int .i64 ky, .int .i64 el, .slice A2 ls.len c2, .slice A3 fs.len c3] 27))
  go_upto_region 13 with (fail)
  generalize hW2 : World.alloc _ _ = W2 at HBA HX HV2 ⊢
  clear hW2 q0 q1 q2 q3 q4 q5 q6 q7 q8 qz
  obtain ⟨r0, r1, r2, r3, r4, r5, r6, r7, r8, rz⟩ := nine HX.out
  obtain ⟨q0, q1, q2, q3, q4, q5, q6, q7, q8, qz⟩ := nine HV2.out
  obtain ⟨y, hcy, hyy⟩ := cut_of 8 128 (.inl ⟨rfl, rfl⟩) n HWF.out.d.2.1.1 HWF.out.d.2.1.2
  have HCY := Aside0.mk hcy
  have HYY := Aside0.mk hyy
  clear hcy hyy
  have HBB := Aside0.mk (HBA.out.alloc HBA.out.size (.cells #[.int .i64 8, .int .i64 16, .int .i64 32, .int .i64 64] 3))
  have HX3 := Aside0.mk (HX.out.alloc (.cells #[.int .i64 8, .int .i64 16, .int .i64 32, .int .i64 64] 3))
  have HV3 := Aside0.mk (HV2.out.alloc (.cells #[.int .i64 8, .int .i64 16, .int .i64 32, .int .i64 64] 3))
  have a3 := (Blk.new W2 #[.int .i64 8, .int .i64 16, .int .i64 32, .int .i64 64] 3).cell (j := 0) rfl
  have q0a := HV3.out.cell (j := 0) rfl
  go_upto_region 14 with (fail)
  generalize hW3 : World.alloc _ _ = W3 at HBB HX3 HV3 ⊢
  clear hW3 a3 q0a q0 q1 q2 q3 q4 q5 q6 q7 q8 qz r0 r1 r2 r3 r4 r5 r6 r7 r8 rz
  obtain ⟨r0, r1, r2, r3, r4, r5, r6, r7, r8, rz⟩ := nine HX3.out
  have v2 := HV3.out.cell (j := 2) rfl
  clear rz
  have HSX : Aside0 (∀ V : World, Below W3.heap.size W3 V → V.cell? ⟨w.heap.size, 2, none⟩ = some (.int .i64 n) ∧ V.cell? ⟨W.heap.size, 0, none⟩ = some (.int .i64 3) ∧ V.cell? ⟨W.heap.size, 1, none⟩ = some (.bool bo) ∧ V.cell? ⟨W.heap.size, 2, none⟩ = some (.int .i64 0) ∧ V.cell? ⟨W.heap.size, 3, none⟩ = some (.int .u64 (bits : Int)) ∧ V.cell? ⟨W.heap.size, 4, none⟩ = some (.slice A1 bs.length c1) ∧ V.cell? ⟨W.heap.size, 5, none⟩ = some (.int .i64 ky) ∧ V.cell? ⟨W.heap.size, 6, none⟩ = some (.int .i64 el) ∧ V.cell? ⟨W.heap.size, 7, none⟩ = some (.slice A2 ls.len c2) ∧ V.cell? ⟨W.heap.size, 8, none⟩ = some (.slice A3 fs.len c3)) := ⟨fun V hV => by
    have hk : ∀ a v, W3.cell? a = some v → V.cell? a = some v := fun a v h => (hV.cell (block_lt_of_cell h)).trans h
    exact ⟨hk _ _ v2, hk _ _ r0, hk _ _ r1, hk _ _ r2, hk _ _ r3, hk _ _ r4, hk _ _ r5, hk _ _ r6, hk _ _ r7, hk _ _ r8⟩⟩
  have HKD := Aside0.mk (HSX.out W3.drew (Below.refl _ _).drew)
  by_cases cy : y = n
  · have k1 : (y == n) = true := by rw [beq_iff_eq]; exact cy
    have HIN := Aside0.mk (HYY.out.1 cy)
    rw [cy] at HCY
    have k2 : (n == n) = true := by simp
    have k3 : decide (n = n) = true := by simp
    go_region_held3 (fun (V : World) => V.cell? ⟨w.heap.size, 2, none⟩ = some (.int .i64 n) ∧ V.cell? ⟨W.heap.size, 0, none⟩ = some (.int .i64 3) ∧ V.cell? ⟨W.heap.size, 1, none⟩ = some (.bool bo) ∧ V.cell? ⟨W.heap.size, 2, none⟩ = some (.int .i64 0) ∧ V.cell? ⟨W.heap.size, 3, none⟩ = some (.int .u64 (bits : Int)) ∧ V.cell? ⟨W.heap.size, 4, none⟩ = some (.slice A1 bs.length c1) ∧ V.cell? ⟨W.heap.size, 5, none⟩ = some (.int .i64 ky) ∧ V.cell? ⟨W.heap.size, 6, none⟩ = some (.int .i64 el) ∧ V.cell? ⟨W.heap.size, 7, none⟩ = some (.slice A2 ls.len c2) ∧ V.cell? ⟨W.heap.size, 8, none⟩ = some (.slice A3 fs.len c3))
      (first
        | with_reducible exact HK5.out
        | with_reducible exact HKD.out)
      ((first
        | (go_at_call 20; (with_reducible refine (HCY.out _).mono ?_); rintro e w4 ⟨rfl, rfl⟩)
        | (go_at_call 19; (with_reducible refine (HRC.out _).mono ?_); rintro e w5 ⟨rfl, hb5⟩; have HB5 := Aside0.mk hb5; have HK5 := Aside0.mk (HSX.out w5 ((Below.refl _ _).drew.trans hb5)); clear hb5)
        | fail "no arm"))
    all_goals go_wp2_with (fail)
    all_goals
      go_ret
      refine ⟨⟨R, rfl, ⟨fun h => ?_, fun hP => HRR.out.2 (by obtain ⟨_, _, e1, e3, e4, e5, e6, e7, e8⟩ := inv_3 hP; exact ⟨e1, (by trivial), e3, by rw [e4]; rfl, e5, e6, by rw [e7]; rfl, by rw [e8]; rfl⟩)⟩⟩, HBB.out.trans (((Below.refl _ _).drew.trans HB5.out).mono HBB.out.size)⟩
      obtain ⟨h1, _, h3, h4, h5, h6, h7, h8⟩ := HRR.out.1 h
      subst h1 h3 h5 h6
      obtain rfl := List.length_eq_zero_iff.1 h4
      obtain rfl := len_nil h7
      obtain rfl := len_nil h8
      exact .inr (.inr (.inl ⟨rfl, HIN.out.1, HIN.out.2, rfl, rfl, rfl⟩))
  · have k1 : (y == n) = false := by rw [beq_eq_false_iff_ne]; exact cy
    have k2 : decide (y = n) = false := decide_eq_false cy
    go_region_law ((first
      | (go_simp; go_at_call 20; (with_reducible refine (HCY.out _).mono ?_); rintro e w4 ⟨rfl, rfl⟩; dsimp only)
      | fail "no arm"))
    all_goals go_wp2_with (fail)
    all_goals
      go_ret
      exact ⟨⟨false, rfl, ⟨(fun h => nomatch h), fun hP => absurd (HYY.out.2 ⟨(inv_3 hP).1, (inv_3 hP).2.1⟩) cy⟩⟩, HBB.out.trans ((Below.refl _ _).drew.mono HBB.out.size)⟩
set_option maxHeartbeats 16000000 in
set_option maxRecDepth 100000 in
theorem it_4 (bo : Bool) (n : Int) (bits : Nat) (bs : List Int) (ky el : Int) (ls fs : F) (ihl : F.all It ls) (ihf : F.all It fs) : It ⟨⟨4, bo, n, bits, bs, ky, el⟩, ls, fs⟩ := by
  intro hwf dd fld w cs hdd hin
  obtain ⟨bsv, lsv, fsv, lcs, fcs, e, hb, hl, hli, hf, hfi⟩ := hin.out
  obtain ⟨A1, c1, rfl, hc1, _⟩ := hb.out
  have HL := Aside0.mk hl
  have HF := Aside0.mk hf
  obtain ⟨A2, c2, rfl, hc2, _⟩ := hl.out
  obtain ⟨A3, c3, rfl, hc3, _⟩ := hf.out
  have e2 : cs = [.int .i64 4, .bool bo, .int .i64 n, .int .u64 (bits : Int), .slice A1 bs.length c1, .int .i64 ky, .int .i64 el, .slice A2 ls.len c2, .slice A3 fs.len c3] := e
  subst e2
  have HLi := Aside0.mk hli
  have HFi := Aside0.mk hfi
  have HWF := Aside0.mk hwf
  have HIL := Aside0.mk ihl
  have HIF := Aside0.mk ihf
  have HB : Aside0 (Below w.heap.size w (w.alloc (.cells #[.int .i64 4, .bool bo, .int .i64 n, .int .u64 (bits : Int), .slice A1 bs.length c1, .int .i64 ky, .int .i64 el, .slice A2 ls.len c2, .slice A3 fs.len c3] 27))) := ⟨(Below.refl _ _).alloc (Nat.le_refl _) _⟩
  have HV := Aside0.mk (Blk.new w #[.int .i64 4, .bool bo, .int .i64 n, .int .u64 (bits : Int), .slice A1 bs.length c1, .int .i64 ky, .int .i64 el, .slice A2 ls.len c2, .slice A3 fs.len c3] 27)
  have HNL : Aside0 (ls.len ≤ 9223372036854775807) := ⟨by have := hwf.nl; unfold maxLen at this; exact this⟩
  have HNF : Aside0 (fs.len ≤ 9223372036854775807) := ⟨by have := hwf.nf; unfold maxLen at this; exact this⟩
  have hnl := HNL.out
  have hnf := HNF.out
  clear hin e hb hl hli hf hfi hwf ihl ihf
  go_enter Tryd.func11, Tryd.ntmps11
  go_upto_region 1 with (fail)
  generalize hW : World.alloc _ _ = W at HB HV ⊢
  clear hW
  obtain ⟨q0, q1, q2, q3, q4, q5, q6, q7, q8, qz⟩ := nine HV.out
  obtain ⟨R, hRC, hRR⟩ := empty_var 4 bo 0 bits A1 bs.length c1 ky el A2 ls.len c2 A3 fs.len c3
  skip
  have HRC := Aside0.mk hRC
  have HRR := Aside0.mk hRR
  clear hRC hRR
  have HBA : Aside0 (Below w.heap.size w (W.alloc (.cells #[.int .i64 4, .bool bo, .int .i64 0, .int .u64 (bits : Int), .slice A1 bs.length c1, .int .i64 ky, .int .i64 el, .slice A2 ls.len c2, .slice A3 fs.len c3] 27))) := ⟨HB.out.alloc HB.out.size _⟩
  have HX := Aside0.mk (Blk.new W #[.int .i64 4, .bool bo, .int .i64 0, .int .u64 (bits : Int), .slice A1 bs.length c1, .int .i64 ky, .int .i64 el, .slice A2 ls.len c2, .slice A3 fs.len c3] 27)
  have HV2 := Aside0.mk (HV.out.alloc (.cells #[.int .i64 4, .bool bo, .int .i64 0, .int .u64 (bits : Int), .slice A1 bs.length c1, .int .i64 ky, .int .i64 el, .slice A2 ls.len c2, .slice A3 fs.len c3] 27))
  go_upto_region 13 with (fail)
  generalize hW2 : World.alloc _ _ = W2 at HBA HX HV2 ⊢
  clear hW2 q0 q1 q2 q3 q4 q5 q6 q7 q8 qz
  obtain ⟨r0, r1, r2, r3, r4, r5, r6, r7, r8, rz⟩ := nine HX.out
  obtain ⟨q0, q1, q2, q3, q4, q5, q6, q7, q8, qz⟩ := nine HV2.out
  obtain ⟨y, hcy, hyy⟩ := cut_of 16 32768 (.inr (.inl ⟨rfl, rfl⟩)) n HWF.out.d.2.1.1 HWF.out.d.2.1.2
  have HCY := Aside0.mk hcy
  have HYY := Aside0.mk hyy
  clear hcy hyy
  have HBB := Aside0.mk (HBA.out.alloc HBA.out.size (.cells #[.int .i64 8, .int .i64 16, .int .i64 32, .int .i64 64] 3))
  have HX3 := Aside0.mk (HX.out.alloc (.cells #[.int .i64 8, .int .i64 16, .int .i64 32, .int .i64 64] 3))
  have HV3 := Aside0.mk (HV2.out.alloc (.cells #[.int .i64 8, .int .i64 16, .int .i64 32, .int .i64 64] 3))
  have a4 := (Blk.new W2 #[.int .i64 8, .int .i64 16, .int .i64 32, .int .i64 64] 3).cell (j := 1) rfl
  have q0a := HV3.out.cell (j := 0) rfl
  go_upto_region 14 with (fail)
  generalize hW3 : World.alloc _ _ = W3 at HBB HX3 HV3 ⊢
  clear hW3 a4 q0a q0 q1 q2 q3 q4 q5 q6 q7 q8 qz r0 r1 r2 r3 r4 r5 r6 r7 r8 rz
  obtain ⟨r0, r1, r2, r3, r4, r5, r6, r7, r8, rz⟩ := nine HX3.out
  have v2 := HV3.out.cell (j := 2) rfl
  clear rz
  have HSX : Aside0 (∀ V : World, Below W3.heap.size W3 V → V.cell? ⟨w.heap.size, 2, none⟩ = some (.int .i64 n) ∧ V.cell? ⟨W.heap.size, 0, none⟩ = some (.int .i64 4) ∧ V.cell? ⟨W.heap.size, 1, none⟩ = some (.bool bo) ∧ V.cell? ⟨W.heap.size, 2, none⟩ = some (.int .i64 0) ∧ V.cell? ⟨W.heap.size, 3, none⟩ = some (.int .u64 (bits : Int)) ∧ V.cell? ⟨W.heap.size, 4, none⟩ = some (.slice A1 bs.length c1) ∧ V.cell? ⟨W.heap.size, 5, none⟩ = some (.int .i64 ky) ∧ V.cell? ⟨W.heap.size, 6, none⟩ = some (.int .i64 el) ∧ V.cell? ⟨W.heap.size, 7, none⟩ = some (.slice A2 ls.len c2) ∧ V.cell? ⟨W.heap.size, 8, none⟩ = some (.slice A3 fs.len c3)) := ⟨fun V hV => by
    have hk : ∀ a v, W3.cell? a = some v → V.cell? a = some v := fun a v h => (hV.cell (block_lt_of_cell h)).trans h
    exact ⟨hk _ _ v2, hk _ _ r0, hk _ _ r1, hk _ _ r2, hk _ _ r3, hk _ _ r4, hk _ _ r5, hk _ _ r6, hk _ _ r7, hk _ _ r8⟩⟩
  have HKD := Aside0.mk (HSX.out W3.drew (Below.refl _ _).drew)
  by_cases cy : y = n
  · have k1 : (y == n) = true := by rw [beq_iff_eq]; exact cy
    have HIN := Aside0.mk (HYY.out.1 cy)
    rw [cy] at HCY
    have k2 : (n == n) = true := by simp
    have k3 : decide (n = n) = true := by simp
    go_region_held3 (fun (V : World) => V.cell? ⟨w.heap.size, 2, none⟩ = some (.int .i64 n) ∧ V.cell? ⟨W.heap.size, 0, none⟩ = some (.int .i64 4) ∧ V.cell? ⟨W.heap.size, 1, none⟩ = some (.bool bo) ∧ V.cell? ⟨W.heap.size, 2, none⟩ = some (.int .i64 0) ∧ V.cell? ⟨W.heap.size, 3, none⟩ = some (.int .u64 (bits : Int)) ∧ V.cell? ⟨W.heap.size, 4, none⟩ = some (.slice A1 bs.length c1) ∧ V.cell? ⟨W.heap.size, 5, none⟩ = some (.int .i64 ky) ∧ V.cell? ⟨W.heap.size, 6, none⟩ = some (.int .i64 el) ∧ V.cell? ⟨W.heap.size, 7, none⟩ = some (.slice A2 ls.len c2) ∧ V.cell? ⟨W.heap.size, 8, none⟩ = some (.slice A3 fs.len c3))
      (first
        | with_reducible exact HK5.out
        | with_reducible exact HKD.out)
      ((first
        | (go_at_call 20; (with_reducible refine (HCY.out _).mono ?_); rintro e w4 ⟨rfl, rfl⟩)
        | (go_at_call 19; (with_reducible refine (HRC.out _).mono ?_); rintro e w5 ⟨rfl, hb5⟩; have HB5 := Aside0.mk hb5; have HK5 := Aside0.mk (HSX.out w5 ((Below.refl _ _).drew.trans hb5)); clear hb5)
        | fail "no arm"))
    all_goals go_wp2_with (fail)
    all_goals
      go_ret
      refine ⟨⟨R, rfl, ⟨fun h => ?_, fun hP => HRR.out.2 (by obtain ⟨_, _, e1, e3, e4, e5, e6, e7, e8⟩ := inv_4 hP; exact ⟨e1, (by trivial), e3, by rw [e4]; rfl, e5, e6, by rw [e7]; rfl, by rw [e8]; rfl⟩)⟩⟩, HBB.out.trans (((Below.refl _ _).drew.trans HB5.out).mono HBB.out.size)⟩
      obtain ⟨h1, _, h3, h4, h5, h6, h7, h8⟩ := HRR.out.1 h
      subst h1 h3 h5 h6
      obtain rfl := List.length_eq_zero_iff.1 h4
      obtain rfl := len_nil h7
      obtain rfl := len_nil h8
      exact .inr (.inr (.inr (.inl ⟨rfl, HIN.out.1, HIN.out.2, rfl, rfl, rfl⟩)))
  · have k1 : (y == n) = false := by rw [beq_eq_false_iff_ne]; exact cy
    have k2 : decide (y = n) = false := decide_eq_false cy
    go_region_law ((first
      | (go_simp; go_at_call 20; (with_reducible refine (HCY.out _).mono ?_); rintro e w4 ⟨rfl, rfl⟩; dsimp only)
      | fail "no arm"))
    all_goals go_wp2_with (fail)
    all_goals
      go_ret
      exact ⟨⟨false, rfl, ⟨(fun h => nomatch h), fun hP => absurd (HYY.out.2 ⟨(inv_4 hP).1, (inv_4 hP).2.1⟩) cy⟩⟩, HBB.out.trans ((Below.refl _ _).drew.mono HBB.out.size)⟩
set_option maxHeartbeats 16000000 in
set_option maxRecDepth 100000 in
theorem it_5 (bo : Bool) (n : Int) (bits : Nat) (bs : List Int) (ky el : Int) (ls fs : F) (ihl : F.all It ls) (ihf : F.all It fs) : It ⟨⟨5, bo, n, bits, bs, ky, el⟩, ls, fs⟩ := by
  intro hwf dd fld w cs hdd hin
  obtain ⟨bsv, lsv, fsv, lcs, fcs, e, hb, hl, hli, hf, hfi⟩ := hin.out
  obtain ⟨A1, c1, rfl, hc1, _⟩ := hb.out
  have HL := Aside0.mk hl
  have HF := Aside0.mk hf
  obtain ⟨A2, c2, rfl, hc2, _⟩ := hl.out
  obtain ⟨A3, c3, rfl, hc3, _⟩ := hf.out
  have e2 : cs = [.int .i64 5, .bool bo, .int .i64 n, .int .u64 (bits : Int), .slice A1 bs.length c1, .int .i64 ky, .int .i64 el, .slice A2 ls.len c2, .slice A3 fs.len c3] := e
  subst e2
  have HLi := Aside0.mk hli
  have HFi := Aside0.mk hfi
  have HWF := Aside0.mk hwf
  have HIL := Aside0.mk ihl
  have HIF := Aside0.mk ihf
  have HB : Aside0 (Below w.heap.size w (w.alloc (.cells #[.int .i64 5, .bool bo, .int .i64 n, .int .u64 (bits : Int), .slice A1 bs.length c1, .int .i64 ky, .int .i64 el, .slice A2 ls.len c2, .slice A3 fs.len c3] 27))) := ⟨(Below.refl _ _).alloc (Nat.le_refl _) _⟩
  have HV := Aside0.mk (Blk.new w #[.int .i64 5, .bool bo, .int .i64 n, .int .u64 (bits : Int), .slice A1 bs.length c1, .int .i64 ky, .int .i64 el, .slice A2 ls.len c2, .slice A3 fs.len c3] 27)
  have HNL : Aside0 (ls.len ≤ 9223372036854775807) := ⟨by have := hwf.nl; unfold maxLen at this; exact this⟩
  have HNF : Aside0 (fs.len ≤ 9223372036854775807) := ⟨by have := hwf.nf; unfold maxLen at this; exact this⟩
  have hnl := HNL.out
  have hnf := HNF.out
  clear hin e hb hl hli hf hfi hwf ihl ihf
  go_enter Tryd.func11, Tryd.ntmps11
  go_upto_region 1 with (fail)
  generalize hW : World.alloc _ _ = W at HB HV ⊢
  clear hW
  obtain ⟨q0, q1, q2, q3, q4, q5, q6, q7, q8, qz⟩ := nine HV.out
  obtain ⟨R, hRC, hRR⟩ := empty_var 5 bo 0 bits A1 bs.length c1 ky el A2 ls.len c2 A3 fs.len c3
  skip
  have HRC := Aside0.mk hRC
  have HRR := Aside0.mk hRR
  clear hRC hRR
  have HBA : Aside0 (Below w.heap.size w (W.alloc (.cells #[.int .i64 5, .bool bo, .int .i64 0, .int .u64 (bits : Int), .slice A1 bs.length c1, .int .i64 ky, .int .i64 el, .slice A2 ls.len c2, .slice A3 fs.len c3] 27))) := ⟨HB.out.alloc HB.out.size _⟩
  have HX := Aside0.mk (Blk.new W #[.int .i64 5, .bool bo, .int .i64 0, .int .u64 (bits : Int), .slice A1 bs.length c1, .int .i64 ky, .int .i64 el, .slice A2 ls.len c2, .slice A3 fs.len c3] 27)
  have HV2 := Aside0.mk (HV.out.alloc (.cells #[.int .i64 5, .bool bo, .int .i64 0, .int .u64 (bits : Int), .slice A1 bs.length c1, .int .i64 ky, .int .i64 el, .slice A2 ls.len c2, .slice A3 fs.len c3] 27))
  go_upto_region 13 with (fail)
  generalize hW2 : World.alloc _ _ = W2 at HBA HX HV2 ⊢
  clear hW2 q0 q1 q2 q3 q4 q5 q6 q7 q8 qz
  obtain ⟨r0, r1, r2, r3, r4, r5, r6, r7, r8, rz⟩ := nine HX.out
  obtain ⟨q0, q1, q2, q3, q4, q5, q6, q7, q8, qz⟩ := nine HV2.out
  obtain ⟨y, hcy, hyy⟩ := cut_of 32 2147483648 (.inr (.inr (.inl ⟨rfl, rfl⟩))) n HWF.out.d.2.1.1 HWF.out.d.2.1.2
  have HCY := Aside0.mk hcy
  have HYY := Aside0.mk hyy
  clear hcy hyy
  have HBB := Aside0.mk (HBA.out.alloc HBA.out.size (.cells #[.int .i64 8, .int .i64 16, .int .i64 32, .int .i64 64] 3))
  have HX3 := Aside0.mk (HX.out.alloc (.cells #[.int .i64 8, .int .i64 16, .int .i64 32, .int .i64 64] 3))
  have HV3 := Aside0.mk (HV2.out.alloc (.cells #[.int .i64 8, .int .i64 16, .int .i64 32, .int .i64 64] 3))
  have a5 := (Blk.new W2 #[.int .i64 8, .int .i64 16, .int .i64 32, .int .i64 64] 3).cell (j := 2) rfl
  have q0a := HV3.out.cell (j := 0) rfl
  go_upto_region 14 with (fail)
  generalize hW3 : World.alloc _ _ = W3 at HBB HX3 HV3 ⊢
  clear hW3 a5 q0a q0 q1 q2 q3 q4 q5 q6 q7 q8 qz r0 r1 r2 r3 r4 r5 r6 r7 r8 rz
  obtain ⟨r0, r1, r2, r3, r4, r5, r6, r7, r8, rz⟩ := nine HX3.out
  have v2 := HV3.out.cell (j := 2) rfl
  clear rz
  have HSX : Aside0 (∀ V : World, Below W3.heap.size W3 V → V.cell? ⟨w.heap.size, 2, none⟩ = some (.int .i64 n) ∧ V.cell? ⟨W.heap.size, 0, none⟩ = some (.int .i64 5) ∧ V.cell? ⟨W.heap.size, 1, none⟩ = some (.bool bo) ∧ V.cell? ⟨W.heap.size, 2, none⟩ = some (.int .i64 0) ∧ V.cell? ⟨W.heap.size, 3, none⟩ = some (.int .u64 (bits : Int)) ∧ V.cell? ⟨W.heap.size, 4, none⟩ = some (.slice A1 bs.length c1) ∧ V.cell? ⟨W.heap.size, 5, none⟩ = some (.int .i64 ky) ∧ V.cell? ⟨W.heap.size, 6, none⟩ = some (.int .i64 el) ∧ V.cell? ⟨W.heap.size, 7, none⟩ = some (.slice A2 ls.len c2) ∧ V.cell? ⟨W.heap.size, 8, none⟩ = some (.slice A3 fs.len c3)) := ⟨fun V hV => by
    have hk : ∀ a v, W3.cell? a = some v → V.cell? a = some v := fun a v h => (hV.cell (block_lt_of_cell h)).trans h
    exact ⟨hk _ _ v2, hk _ _ r0, hk _ _ r1, hk _ _ r2, hk _ _ r3, hk _ _ r4, hk _ _ r5, hk _ _ r6, hk _ _ r7, hk _ _ r8⟩⟩
  have HKD := Aside0.mk (HSX.out W3.drew (Below.refl _ _).drew)
  by_cases cy : y = n
  · have k1 : (y == n) = true := by rw [beq_iff_eq]; exact cy
    have HIN := Aside0.mk (HYY.out.1 cy)
    rw [cy] at HCY
    have k2 : (n == n) = true := by simp
    have k3 : decide (n = n) = true := by simp
    go_region_held3 (fun (V : World) => V.cell? ⟨w.heap.size, 2, none⟩ = some (.int .i64 n) ∧ V.cell? ⟨W.heap.size, 0, none⟩ = some (.int .i64 5) ∧ V.cell? ⟨W.heap.size, 1, none⟩ = some (.bool bo) ∧ V.cell? ⟨W.heap.size, 2, none⟩ = some (.int .i64 0) ∧ V.cell? ⟨W.heap.size, 3, none⟩ = some (.int .u64 (bits : Int)) ∧ V.cell? ⟨W.heap.size, 4, none⟩ = some (.slice A1 bs.length c1) ∧ V.cell? ⟨W.heap.size, 5, none⟩ = some (.int .i64 ky) ∧ V.cell? ⟨W.heap.size, 6, none⟩ = some (.int .i64 el) ∧ V.cell? ⟨W.heap.size, 7, none⟩ = some (.slice A2 ls.len c2) ∧ V.cell? ⟨W.heap.size, 8, none⟩ = some (.slice A3 fs.len c3))
      (first
        | with_reducible exact HK5.out
        | with_reducible exact HKD.out)
      ((first
        | (go_at_call 20; (with_reducible refine (HCY.out _).mono ?_); rintro e w4 ⟨rfl, rfl⟩)
        | (go_at_call 19; (with_reducible refine (HRC.out _).mono ?_); rintro e w5 ⟨rfl, hb5⟩; have HB5 := Aside0.mk hb5; have HK5 := Aside0.mk (HSX.out w5 ((Below.refl _ _).drew.trans hb5)); clear hb5)
        | fail "no arm"))
    all_goals go_wp2_with (fail)
    all_goals
      go_ret
      refine ⟨⟨R, rfl, ⟨fun h => ?_, fun hP => HRR.out.2 (by obtain ⟨_, _, e1, e3, e4, e5, e6, e7, e8⟩ := inv_5 hP; exact ⟨e1, (by trivial), e3, by rw [e4]; rfl, e5, e6, by rw [e7]; rfl, by rw [e8]; rfl⟩)⟩⟩, HBB.out.trans (((Below.refl _ _).drew.trans HB5.out).mono HBB.out.size)⟩
      obtain ⟨h1, _, h3, h4, h5, h6, h7, h8⟩ := HRR.out.1 h
      subst h1 h3 h5 h6
      obtain rfl := List.length_eq_zero_iff.1 h4
      obtain rfl := len_nil h7
      obtain rfl := len_nil h8
      exact .inr (.inr (.inr (.inr (.inl ⟨rfl, HIN.out.1, HIN.out.2, rfl, rfl, rfl⟩))))
  · have k1 : (y == n) = false := by rw [beq_eq_false_iff_ne]; exact cy
    have k2 : decide (y = n) = false := decide_eq_false cy
    go_region_law ((first
      | (go_simp; go_at_call 20; (with_reducible refine (HCY.out _).mono ?_); rintro e w4 ⟨rfl, rfl⟩; dsimp only)
      | fail "no arm"))
    all_goals go_wp2_with (fail)
    all_goals
      go_ret
      exact ⟨⟨false, rfl, ⟨(fun h => nomatch h), fun hP => absurd (HYY.out.2 ⟨(inv_5 hP).1, (inv_5 hP).2.1⟩) cy⟩⟩, HBB.out.trans ((Below.refl _ _).drew.mono HBB.out.size)⟩
set_option maxHeartbeats 16000000 in
set_option maxRecDepth 100000 in
theorem it_6 (bo : Bool) (n : Int) (bits : Nat) (bs : List Int) (ky el : Int) (ls fs : F) (ihl : F.all It ls) (ihf : F.all It fs) : It ⟨⟨6, bo, n, bits, bs, ky, el⟩, ls, fs⟩ := by
  intro hwf dd fld w cs hdd hin
  obtain ⟨bsv, lsv, fsv, lcs, fcs, e, hb, hl, hli, hf, hfi⟩ := hin.out
  obtain ⟨A1, c1, rfl, hc1, _⟩ := hb.out
  have HL := Aside0.mk hl
  have HF := Aside0.mk hf
  obtain ⟨A2, c2, rfl, hc2, _⟩ := hl.out
  obtain ⟨A3, c3, rfl, hc3, _⟩ := hf.out
  have e2 : cs = [.int .i64 6, .bool bo, .int .i64 n, .int .u64 (bits : Int), .slice A1 bs.length c1, .int .i64 ky, .int .i64 el, .slice A2 ls.len c2, .slice A3 fs.len c3] := e
  subst e2
  have HLi := Aside0.mk hli
  have HFi := Aside0.mk hfi
  have HWF := Aside0.mk hwf
  have HIL := Aside0.mk ihl
  have HIF := Aside0.mk ihf
  have HB : Aside0 (Below w.heap.size w (w.alloc (.cells #[.int .i64 6, .bool bo, .int .i64 n, .int .u64 (bits : Int), .slice A1 bs.length c1, .int .i64 ky, .int .i64 el, .slice A2 ls.len c2, .slice A3 fs.len c3] 27))) := ⟨(Below.refl _ _).alloc (Nat.le_refl _) _⟩
  have HV := Aside0.mk (Blk.new w #[.int .i64 6, .bool bo, .int .i64 n, .int .u64 (bits : Int), .slice A1 bs.length c1, .int .i64 ky, .int .i64 el, .slice A2 ls.len c2, .slice A3 fs.len c3] 27)
  have HNL : Aside0 (ls.len ≤ 9223372036854775807) := ⟨by have := hwf.nl; unfold maxLen at this; exact this⟩
  have HNF : Aside0 (fs.len ≤ 9223372036854775807) := ⟨by have := hwf.nf; unfold maxLen at this; exact this⟩
  have hnl := HNL.out
  have hnf := HNF.out
  clear hin e hb hl hli hf hfi hwf ihl ihf
  go_enter Tryd.func11, Tryd.ntmps11
  go_upto_region 1 with (fail)
  generalize hW : World.alloc _ _ = W at HB HV ⊢
  clear hW
  obtain ⟨q0, q1, q2, q3, q4, q5, q6, q7, q8, qz⟩ := nine HV.out
  obtain ⟨R, hRC, hRR⟩ := empty_var 6 bo 0 bits A1 bs.length c1 ky el A2 ls.len c2 A3 fs.len c3
  skip
  have HRC := Aside0.mk hRC
  have HRR := Aside0.mk hRR
  clear hRC hRR
  have HBA : Aside0 (Below w.heap.size w (W.alloc (.cells #[.int .i64 6, .bool bo, .int .i64 0, .int .u64 (bits : Int), .slice A1 bs.length c1, .int .i64 ky, .int .i64 el, .slice A2 ls.len c2, .slice A3 fs.len c3] 27))) := ⟨HB.out.alloc HB.out.size _⟩
  have HX := Aside0.mk (Blk.new W #[.int .i64 6, .bool bo, .int .i64 0, .int .u64 (bits : Int), .slice A1 bs.length c1, .int .i64 ky, .int .i64 el, .slice A2 ls.len c2, .slice A3 fs.len c3] 27)
  have HV2 := Aside0.mk (HV.out.alloc (.cells #[.int .i64 6, .bool bo, .int .i64 0, .int .u64 (bits : Int), .slice A1 bs.length c1, .int .i64 ky, .int .i64 el, .slice A2 ls.len c2, .slice A3 fs.len c3] 27))
  go_upto_region 13 with (fail)
  generalize hW2 : World.alloc _ _ = W2 at HBA HX HV2 ⊢
  clear hW2 q0 q1 q2 q3 q4 q5 q6 q7 q8 qz
  obtain ⟨r0, r1, r2, r3, r4, r5, r6, r7, r8, rz⟩ := nine HX.out
  obtain ⟨q0, q1, q2, q3, q4, q5, q6, q7, q8, qz⟩ := nine HV2.out
  obtain ⟨y, hcy, hyy⟩ := cut_of 64 9223372036854775808 (.inr (.inr (.inr ⟨rfl, rfl⟩))) n HWF.out.d.2.1.1 HWF.out.d.2.1.2
  have HCY := Aside0.mk hcy
  have HYY := Aside0.mk hyy
  clear hcy hyy
  have HBB := Aside0.mk (HBA.out.alloc HBA.out.size (.cells #[.int .i64 8, .int .i64 16, .int .i64 32, .int .i64 64] 3))
  have HX3 := Aside0.mk (HX.out.alloc (.cells #[.int .i64 8, .int .i64 16, .int .i64 32, .int .i64 64] 3))
  have HV3 := Aside0.mk (HV2.out.alloc (.cells #[.int .i64 8, .int .i64 16, .int .i64 32, .int .i64 64] 3))
  have a6 := (Blk.new W2 #[.int .i64 8, .int .i64 16, .int .i64 32, .int .i64 64] 3).cell (j := 3) rfl
  have q0a := HV3.out.cell (j := 0) rfl
  go_upto_region 14 with (fail)
  generalize hW3 : World.alloc _ _ = W3 at HBB HX3 HV3 ⊢
  clear hW3 a6 q0a q0 q1 q2 q3 q4 q5 q6 q7 q8 qz r0 r1 r2 r3 r4 r5 r6 r7 r8 rz
  obtain ⟨r0, r1, r2, r3, r4, r5, r6, r7, r8, rz⟩ := nine HX3.out
  have v2 := HV3.out.cell (j := 2) rfl
  clear rz
  have HSX : Aside0 (∀ V : World, Below W3.heap.size W3 V → V.cell? ⟨w.heap.size, 2, none⟩ = some (.int .i64 n) ∧ V.cell? ⟨W.heap.size, 0, none⟩ = some (.int .i64 6) ∧ V.cell? ⟨W.heap.size, 1, none⟩ = some (.bool bo) ∧ V.cell? ⟨W.heap.size, 2, none⟩ = some (.int .i64 0) ∧ V.cell? ⟨W.heap.size, 3, none⟩ = some (.int .u64 (bits : Int)) ∧ V.cell? ⟨W.heap.size, 4, none⟩ = some (.slice A1 bs.length c1) ∧ V.cell? ⟨W.heap.size, 5, none⟩ = some (.int .i64 ky) ∧ V.cell? ⟨W.heap.size, 6, none⟩ = some (.int .i64 el) ∧ V.cell? ⟨W.heap.size, 7, none⟩ = some (.slice A2 ls.len c2) ∧ V.cell? ⟨W.heap.size, 8, none⟩ = some (.slice A3 fs.len c3)) := ⟨fun V hV => by
    have hk : ∀ a v, W3.cell? a = some v → V.cell? a = some v := fun a v h => (hV.cell (block_lt_of_cell h)).trans h
    exact ⟨hk _ _ v2, hk _ _ r0, hk _ _ r1, hk _ _ r2, hk _ _ r3, hk _ _ r4, hk _ _ r5, hk _ _ r6, hk _ _ r7, hk _ _ r8⟩⟩
  have HKD := Aside0.mk (HSX.out W3.drew (Below.refl _ _).drew)
  by_cases cy : y = n
  · have k1 : (y == n) = true := by rw [beq_iff_eq]; exact cy
    have HIN := Aside0.mk (HYY.out.1 cy)
    rw [cy] at HCY
    have k2 : (n == n) = true := by simp
    have k3 : decide (n = n) = true := by simp
    go_region_held3 (fun (V : World) => V.cell? ⟨w.heap.size, 2, none⟩ = some (.int .i64 n) ∧ V.cell? ⟨W.heap.size, 0, none⟩ = some (.int .i64 6) ∧ V.cell? ⟨W.heap.size, 1, none⟩ = some (.bool bo) ∧ V.cell? ⟨W.heap.size, 2, none⟩ = some (.int .i64 0) ∧ V.cell? ⟨W.heap.size, 3, none⟩ = some (.int .u64 (bits : Int)) ∧ V.cell? ⟨W.heap.size, 4, none⟩ = some (.slice A1 bs.length c1) ∧ V.cell? ⟨W.heap.size, 5, none⟩ = some (.int .i64 ky) ∧ V.cell? ⟨W.heap.size, 6, none⟩ = some (.int .i64 el) ∧ V.cell? ⟨W.heap.size, 7, none⟩ = some (.slice A2 ls.len c2) ∧ V.cell? ⟨W.heap.size, 8, none⟩ = some (.slice A3 fs.len c3))
      (first
        | with_reducible exact HK5.out
        | with_reducible exact HKD.out)
      ((first
        | (go_at_call 20; (with_reducible refine (HCY.out _).mono ?_); rintro e w4 ⟨rfl, rfl⟩)
        | (go_at_call 19; (with_reducible refine (HRC.out _).mono ?_); rintro e w5 ⟨rfl, hb5⟩; have HB5 := Aside0.mk hb5; have HK5 := Aside0.mk (HSX.out w5 ((Below.refl _ _).drew.trans hb5)); clear hb5)
        | fail "no arm"))
    all_goals go_wp2_with (fail)
    all_goals
      go_ret
      refine ⟨⟨R, rfl, ⟨fun h => ?_, fun hP => HRR.out.2 (by obtain ⟨_, _, e1, e3, e4, e5, e6, e7, e8⟩ := inv_6 hP; exact ⟨e1, (by trivial), e3, by rw [e4]; rfl, e5, e6, by rw [e7]; rfl, by rw [e8]; rfl⟩)⟩⟩, HBB.out.trans (((Below.refl _ _).drew.trans HB5.out).mono HBB.out.size)⟩
      obtain ⟨h1, _, h3, h4, h5, h6, h7, h8⟩ := HRR.out.1 h
      subst h1 h3 h5 h6
      obtain rfl := List.length_eq_zero_iff.1 h4
      obtain rfl := len_nil h7
      obtain rfl := len_nil h8
      exact .inr (.inr (.inr (.inr (.inr (.inl ⟨rfl, HIN.out.1, HIN.out.2, rfl, rfl, rfl⟩)))))
  · have k1 : (y == n) = false := by rw [beq_eq_false_iff_ne]; exact cy
    have k2 : decide (y = n) = false := decide_eq_false cy
    go_region_law ((first
      | (go_simp; go_at_call 20; (with_reducible refine (HCY.out _).mono ?_); rintro e w4 ⟨rfl, rfl⟩; dsimp only)
      | fail "no arm"))
    all_goals go_wp2_with (fail)
    all_goals
      go_ret
      exact ⟨⟨false, rfl, ⟨(fun h => nomatch h), fun hP => absurd (HYY.out.2 ⟨(inv_6 hP).1, (inv_6 hP).2.1⟩) cy⟩⟩, HBB.out.trans ((Below.refl _ _).drew.mono HBB.out.size)⟩
set_option maxHeartbeats 16000000 in
set_option maxRecDepth 100000 in
theorem it_7 (bo : Bool) (n : Int) (bits : Nat) (bs : List Int) (ky el : Int) (ls fs : F) (ihl : F.all It ls) (ihf : F.all It fs) : It ⟨⟨7, bo, n, bits, bs, ky, el⟩, ls, fs⟩ := by
  intro hwf dd fld w cs hdd hin
  obtain ⟨bsv, lsv, fsv, lcs, fcs, e, hb, hl, hli, hf, hfi⟩ := hin.out
  obtain ⟨A1, c1, rfl, hc1, _⟩ := hb.out
  have HL := Aside0.mk hl
  have HF := Aside0.mk hf
  obtain ⟨A2, c2, rfl, hc2, _⟩ := hl.out
  obtain ⟨A3, c3, rfl, hc3, _⟩ := hf.out
  have e2 : cs = [.int .i64 7, .bool bo, .int .i64 n, .int .u64 (bits : Int), .slice A1 bs.length c1, .int .i64 ky, .int .i64 el, .slice A2 ls.len c2, .slice A3 fs.len c3] := e
  subst e2
  have HLi := Aside0.mk hli
  have HFi := Aside0.mk hfi
  have HWF := Aside0.mk hwf
  have HIL := Aside0.mk ihl
  have HIF := Aside0.mk ihf
  have HB : Aside0 (Below w.heap.size w (w.alloc (.cells #[.int .i64 7, .bool bo, .int .i64 n, .int .u64 (bits : Int), .slice A1 bs.length c1, .int .i64 ky, .int .i64 el, .slice A2 ls.len c2, .slice A3 fs.len c3] 27))) := ⟨(Below.refl _ _).alloc (Nat.le_refl _) _⟩
  have HV := Aside0.mk (Blk.new w #[.int .i64 7, .bool bo, .int .i64 n, .int .u64 (bits : Int), .slice A1 bs.length c1, .int .i64 ky, .int .i64 el, .slice A2 ls.len c2, .slice A3 fs.len c3] 27)
  have HNL : Aside0 (ls.len ≤ 9223372036854775807) := ⟨by have := hwf.nl; unfold maxLen at this; exact this⟩
  have HNF : Aside0 (fs.len ≤ 9223372036854775807) := ⟨by have := hwf.nf; unfold maxLen at this; exact this⟩
  have hnl := HNL.out
  have hnf := HNF.out
  clear hin e hb hl hli hf hfi hwf ihl ihf
  go_enter Tryd.func11, Tryd.ntmps11
  go_upto_region 1 with (fail)
  generalize hW : World.alloc _ _ = W at HB HV ⊢
  clear hW
  obtain ⟨q0, q1, q2, q3, q4, q5, q6, q7, q8, qz⟩ := nine HV.out
  obtain ⟨R, hRC, hRR⟩ := empty_var 7 bo n 0 A1 bs.length c1 ky el A2 ls.len c2 A3 fs.len c3
  rw [show ((0 : Nat) : Int) = 0 from rfl] at hRC
  have HRC := Aside0.mk hRC
  have HRR := Aside0.mk hRR
  clear hRC hRR
  have HBA : Aside0 (Below w.heap.size w (W.alloc (.cells #[.int .i64 7, .bool bo, .int .i64 n, .int .u64 0, .slice A1 bs.length c1, .int .i64 ky, .int .i64 el, .slice A2 ls.len c2, .slice A3 fs.len c3] 27))) := ⟨HB.out.alloc HB.out.size _⟩
  have HX := Aside0.mk (Blk.new W #[.int .i64 7, .bool bo, .int .i64 n, .int .u64 0, .slice A1 bs.length c1, .int .i64 ky, .int .i64 el, .slice A2 ls.len c2, .slice A3 fs.len c3] 27)
  have HV2 := Aside0.mk (HV.out.alloc (.cells #[.int .i64 7, .bool bo, .int .i64 n, .int .u64 0, .slice A1 bs.length c1, .int .i64 ky, .int .i64 el, .slice A2 ls.len c2, .slice A3 fs.len c3] 27))
  go_upto_region 18 with (fail)
  generalize hW2 : World.alloc _ _ = W2 at HBA HX HV2 ⊢
  clear hW2 q0 q1 q2 q3 q4 q5 q6 q7 q8 qz
  obtain ⟨r0, r1, r2, r3, r4, r5, r6, r7, r8, rz⟩ := nine HX.out
  obtain ⟨q0, q1, q2, q3, q4, q5, q6, q7, q8, qz⟩ := nine HV2.out
  go_wp2_with (first
    | (go_at_call 19; (with_reducible refine (HRC.out _).mono ?_); rintro e w2 ⟨rfl, hb2⟩; have HB2 := Aside0.mk hb2; clear hb2))
  go_ret
  refine ⟨⟨R, rfl, ⟨fun h => ?_, fun hP => HRR.out.2 (by obtain ⟨e1, e2, e4, e5, e6, e7, e8⟩ := inv_7 hP; exact ⟨e1, e2, (by trivial), by rw [e4]; rfl, e5, e6, by rw [e7]; rfl, by rw [e8]; rfl⟩)⟩⟩, HBA.out.trans (HB2.out.mono HBA.out.size)⟩
  obtain ⟨h1, h2, _, h4, h5, h6, h7, h8⟩ := HRR.out.1 h
  subst h1 h2 h5 h6
  obtain rfl := List.length_eq_zero_iff.1 h4
  obtain rfl := len_nil h7
  obtain rfl := len_nil h8
  exact .inr (.inr (.inr (.inr (.inr (.inr (.inl ⟨rfl, HWF.out.d.2.2.2.2.1, rfl, rfl, rfl⟩))))))
set_option maxHeartbeats 16000000 in
set_option maxRecDepth 100000 in
theorem it_8 (bo : Bool) (n : Int) (bits : Nat) (bs : List Int) (ky el : Int) (ls fs : F) (ihl : F.all It ls) (ihf : F.all It fs) (hbb : bytesB bs = true) : It ⟨⟨8, bo, n, bits, bs, ky, el⟩, ls, fs⟩ := by
  intro hwf dd fld w cs hdd hin
  obtain ⟨bsv, lsv, fsv, lcs, fcs, e, hb, hl, hli, hf, hfi⟩ := hin.out
  obtain ⟨A1, c1, rfl, hc1, _⟩ := hb.out
  have HL := Aside0.mk hl
  have HF := Aside0.mk hf
  obtain ⟨A2, c2, rfl, hc2, _⟩ := hl.out
  obtain ⟨A3, c3, rfl, hc3, _⟩ := hf.out
  have e2 : cs = [.int .i64 8, .bool bo, .int .i64 n, .int .u64 (bits : Int), .slice A1 bs.length c1, .int .i64 ky, .int .i64 el, .slice A2 ls.len c2, .slice A3 fs.len c3] := e
  subst e2
  have HLi := Aside0.mk hli
  have HFi := Aside0.mk hfi
  have HWF := Aside0.mk hwf
  have HIL := Aside0.mk ihl
  have HIF := Aside0.mk ihf
  have HB : Aside0 (Below w.heap.size w (w.alloc (.cells #[.int .i64 8, .bool bo, .int .i64 n, .int .u64 (bits : Int), .slice A1 bs.length c1, .int .i64 ky, .int .i64 el, .slice A2 ls.len c2, .slice A3 fs.len c3] 27))) := ⟨(Below.refl _ _).alloc (Nat.le_refl _) _⟩
  have HV := Aside0.mk (Blk.new w #[.int .i64 8, .bool bo, .int .i64 n, .int .u64 (bits : Int), .slice A1 bs.length c1, .int .i64 ky, .int .i64 el, .slice A2 ls.len c2, .slice A3 fs.len c3] 27)
  have HNL : Aside0 (ls.len ≤ 9223372036854775807) := ⟨by have := hwf.nl; unfold maxLen at this; exact this⟩
  have HNF : Aside0 (fs.len ≤ 9223372036854775807) := ⟨by have := hwf.nf; unfold maxLen at this; exact this⟩
  have hnl := HNL.out
  have hnf := HNF.out
  clear hin e hb hl hli hf hfi hwf ihl ihf
  go_enter Tryd.func11, Tryd.ntmps11
  go_upto_region 1 with (fail)
  generalize hW : World.alloc _ _ = W at HB HV ⊢
  clear hW
  obtain ⟨q0, q1, q2, q3, q4, q5, q6, q7, q8, qz⟩ := nine HV.out
  obtain ⟨R, hRC, hRR⟩ := empty_var 8 bo n bits none 0 0 ky el A2 ls.len c2 A3 fs.len c3
  skip
  have HRC := Aside0.mk hRC
  have HRR := Aside0.mk hRR
  clear hRC hRR
  have HBA : Aside0 (Below w.heap.size w (W.alloc (.cells #[.int .i64 8, .bool bo, .int .i64 n, .int .u64 (bits : Int), .slice none 0 0, .int .i64 ky, .int .i64 el, .slice A2 ls.len c2, .slice A3 fs.len c3] 27))) := ⟨HB.out.alloc HB.out.size _⟩
  have HX := Aside0.mk (Blk.new W #[.int .i64 8, .bool bo, .int .i64 n, .int .u64 (bits : Int), .slice none 0 0, .int .i64 ky, .int .i64 el, .slice A2 ls.len c2, .slice A3 fs.len c3] 27)
  have HV2 := Aside0.mk (HV.out.alloc (.cells #[.int .i64 8, .bool bo, .int .i64 n, .int .u64 (bits : Int), .slice none 0 0, .int .i64 ky, .int .i64 el, .slice A2 ls.len c2, .slice A3 fs.len c3] 27))
  go_upto_region 22 with (fail)
  generalize hW2 : World.alloc _ _ = W2 at HBA HX HV2 ⊢
  clear hW2 q0 q1 q2 q3 q4 q5 q6 q7 q8 qz
  obtain ⟨r0, r1, r2, r3, r4, r5, r6, r7, r8, rz⟩ := nine HX.out
  obtain ⟨q0, q1, q2, q3, q4, q5, q6, q7, q8, qz⟩ := nine HV2.out
  by_cases cl : bs.length ≤ 10000
  · have k1 : decide ((bs.length : Int) ≤ 10000) = true := decide_eq_true (by omega)
    have k2 : decide (bs.length ≤ 10000) = true := decide_eq_true cl
    go_wp2_with (first
      | (go_at_call 19; (with_reducible refine (HRC.out _).mono ?_); rintro e w2 ⟨rfl, hb2⟩; have HB2 := Aside0.mk hb2; clear hb2))
    go_ret
    refine ⟨⟨R, rfl, ⟨fun h => ?_, fun hP => HRR.out.2 (by obtain ⟨_, e1, e2, e3, e5, e6, e7, e8⟩ := inv_8 hP; exact ⟨e1, e2, e3, (by trivial), e5, e6, by rw [e7]; rfl, by rw [e8]; rfl⟩)⟩⟩, HBA.out.trans (HB2.out.mono HBA.out.size)⟩
    obtain ⟨h1, h2, h3, _, h5, h6, h7, h8⟩ := HRR.out.1 h
    subst h1 h2 h3 h5 h6
    obtain rfl := len_nil h7
    obtain rfl := len_nil h8
    exact .inr (.inr (.inr (.inr (.inr (.inr (.inr (.inl ⟨rfl, cl, hbb, rfl, rfl, rfl⟩)))))))
  · have k1 : decide ((bs.length : Int) ≤ 10000) = false := decide_eq_false (by omega)
    have k2 : decide (bs.length ≤ 10000) = false := decide_eq_false cl
    go_wp2_with (fail)
    go_ret
    exact ⟨⟨false, rfl, ⟨(fun h => nomatch h), fun hP => absurd (inv_8 hP).1 cl⟩⟩, HBA.out⟩
end Go.Proofs.YtcboegodjlfmnaaDoor.Tiu
