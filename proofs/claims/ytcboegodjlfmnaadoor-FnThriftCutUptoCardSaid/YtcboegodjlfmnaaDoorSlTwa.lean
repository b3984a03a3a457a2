import Derived.Test.YtcboegodjlfmnaaDoorSlTit
import Derived.Deep.RegionHeld3
namespace Go.Proofs.YtcboegodjlfmnaaDoor.Twa
open Go.Proofs.YtcboegodjlfmnaaDoor.Tit Go.Proofs.YtcboegodjlfmnaaDoor.Tsd Go.Proofs.YtcboegodjlfmnaaDoor.Ton Go.Proofs.YtcboegodjlfmnaaDoor.Tpw Go.Proofs.YtcboegodjlfmnaaDoor.Tap Go.Proofs.YtcboegodjlfmnaaDoor.Tzm Go.Proofs.YtcboegodjlfmnaaDoor.Tzl Go.Proofs.YtcboegodjlfmnaaDoor.Trh Go.Proofs.YtcboegodjlfmnaaDoor.Trn Go.Proofs.YtcboegodjlfmnaaDoor.Trm Go.Proofs.YtcboegodjlfmnaaDoor.Tuv Go.Proofs.YtcboegodjlfmnaaDoor.Tpa Go.Proofs.YtcboegodjlfmnaaDoor.Duv Go.Proofs.YtcboegodjlfmnaaDoor.Dpu Go.Proofs.YtcboegodjlfmnaaDoor.Pak Go.Proofs.YtcboegodjlfmnaaDoor.Buf Go.Proofs.YtcboegodjlfmnaaDoor.Fit Go.Proofs.YtcboegodjlfmnaaDoor.Bit Go.Proofs.YtcboegodjlfmnaaDoor.Wrd Go.Proofs.YtcboegodjlfmnaaDoor.Spl Go.Proofs.YtcboegodjlfmnaaDoor.Str Go.Proofs.YtcboegodjlfmnaaDoor.Flt Go.Proofs.YtcboegodjlfmnaaDoor.Owe Go.Proofs.YtcboegodjlfmnaaDoor.Num Go.Proofs.YtcboegodjlfmnaaDoor.Le Go.Proofs.YtcboegodjlfmnaaDoor.Lst Go.Proofs.YtcboegodjlfmnaaDoor.Aid Go.RowKit Go.Proofs.YtcboegodjlfmnaaDoorW.PrintWords Go.Proofs.YtcboegodjlfmnaaDoorW.PrintLast Go.Proofs.YtcboegodjlfmnaaDoorW.PrintMore Go.Proofs.YtcboegodjlfmnaaDoor.Tpv Go.Proofs.YtcboegodjlfmnaaDoor.Tzz
set_option linter.unusedVariables false
set_option linter.unusedSimpArgs false
theorem ori64 (a b : Nat) (ha : a < 1000000) (hb : b < 16) : bits .or .i64 ((a : Int) * 16) (b : Int) = (a : Int) * 16 + (b : Int) := by
  have e : ((a : Int) * 16) = ((a * 16 : Nat) : Int) := by omega
  have h1 : (BitVec.ofInt 64 ((a * 16 : Nat) : Int)).toNat = a * 16 := by
    rw [BitVec.ofInt_natCast, BitVec.toNat_ofNat]; exact Nat.mod_eq_of_lt (by omega)
  have h2 : (BitVec.ofInt 64 (b : Int)).toNat = b := by
    rw [BitVec.ofInt_natCast, BitVec.toNat_ofNat]; exact Nat.mod_eq_of_lt (by omega)
  rw [e]
  show IntKind.i64.wrap ((BitVec.ofInt 64 ((a * 16 : Nat) : Int) ||| BitVec.ofInt 64 (b : Int)).toNat : Int) = _
  have := Nat.two_pow_add_eq_or_of_lt (i := 4) (b := b) (by omega) a
  rw [BitVec.toNat_or, h1, h2, show a * 16 = 2 ^ 4 * a by omega, ← this, IntKind.wrap_i64]
  omega
theorem own_byte (w : World) (x : Int) (base : Nat) (hb : base ≤ w.heap.size) : Own (w.alloc (.cells #[.int .u8 x] 5)) base 5 .u8 (.slice (some ⟨w.heap.size, 0, none⟩) 1 1) [x] := by
  have h : Row (w.alloc (.cells #[.int .u8 x] 5)) w.heap.size 5 .u8 [x] := ⟨Blk.new _ _ _⟩
  exact h.toOwn hb (n := 1) (by simp) (by simp)
set_option maxHeartbeats 4000000 in
theorem varint_calls (x : Nat) (w : World) (hx : x < 18446744073709551616) :
    Calls Tryd.prog 22 #[.int .u64 x] w fun e w' => ∃ v, e = .returned v ∧ Own w' w.heap.size 5 .u8 v (varL x) ∧ Below w.heap.size w w' := by
  have HL5 := varL_len10 x hx
  go_enter Tryd.func22, Tryd.ntmps22
  go_wp2_with (fail)
  go_loopg [0, 3] 10 (fun kq v0 v3 w' => ∃ (y i : Nat) (pre : List Int), v0 = .int .u64 y ∧ y ≤ x ∧ i ≤ 10 ∧ Aside0 (pre.length = i) ∧ Aside0 (pre ++ varL y = varL x) ∧ Aside0 (Own w' w.heap.size 5 .u8 v3 pre) ∧ Aside0 (Below w.heap.size w w') ∧ Aside0 (10 - i ≤ kq))
  case atStart => exact ⟨x, 0, [], rfl, Nat.le_refl _, by omega, ⟨rfl⟩, ⟨rfl⟩, ⟨Own.nil _ _ _ _⟩, ⟨Below.refl _ _⟩, ⟨by omega⟩⟩
  case round =>
    obtain ⟨y, i, pre, rfl, hyx, hi5, HP, HV, HO, HB, HK⟩ := hrel
    have hlen : i + (varL y).length = (varL x).length := by rw [← HV.out, List.length_append, HP.out]
    have hpos := varL_pos y
    by_cases c : 128 ≤ y
    · have qc : decide (128 ≤ (y : Int)) = true := decide_eq_true (by omega)
      have qc2 : decide (128 ≤ y) = true := decide_eq_true c
      have e := varL_hi (n := y) (by omega)
      have hl2 : (varL y).length = (varL (y / 128)).length + 1 := by rw [e]; simp
      have hp2 := varL_pos (y / 128)
      have hor : bits BinOp.or IntKind.u8 ((y : Int) % 256) 128 = ((y % 128 + 128 : Nat) : Int) := by
        rw [show ((y : Int) % 256) = ((y % 256 : Nat) : Int) by omega, show (128 : Int) = ((128 : Nat) : Int) from rfl, u8_or_nat (y % 256) 128 (Nat.mod_lt _ (by omega)) (by omega), or128]
      have HE := Aside0.mk e
      obtain ⟨t, ht⟩ : ∃ t, y % 128 + 128 = t := ⟨_, rfl⟩
      rw [ht] at hor
      have HTT := Aside0.mk ht
      clear e ht
      go_wp2_with (first
        | (at_builtin; refine appendOwn (w0 := w) w.heap.size rfl (.tmp 6) (.tmp 10) 23 5 .u8 1 rfl Tryd.underlying23 infoU8 (by decide) u3 pre (t : Int) rfl rfl HO.out HB.out ?hb ?hl ?_; (case hb => exact HB.out.size); (case hl => rw [HP.out]; omega); intro v1 w1 ho hb hg; have HO1 := Aside0.mk ho; have HB1 := Aside0.mk hb; clear ho hb hg))
      go_roundg (gk - 1)
      case measure => have := HK.out; omega
      case rel =>
        refine ⟨y / 128, i + 1, pre ++ [(t : Int)], by first | rfl | (congr 1; omega), by omega, by omega, ⟨by rw [List.length_append, HP.out]; rfl⟩, ⟨?_⟩, HO1, HB1, ⟨by have := HK.out; omega⟩⟩
        rw [List.append_assoc, List.singleton_append, ← HTT.out, ← HE.out]; exact HV.out
    · have qc : decide (128 ≤ (y : Int)) = false := decide_eq_false (by omega)
      have qc2 : decide (128 ≤ y) = false := decide_eq_false c
      have HE : Aside0 (pre ++ [(y : Int)] = varL x) := ⟨by rw [← HV.out, varL_lo (by omega)]⟩
      go_wp2_with (first
        | (at_builtin; refine appendOwn (w0 := w) w.heap.size rfl (.tmp 14) (.tmp 17) 23 5 .u8 1 rfl Tryd.underlying23 infoU8 (by decide) u3 pre (y : Int) rfl rfl HO.out HB.out ?hb ?hl ?_; (case hb => exact HB.out.size); (case hl => rw [HP.out]; omega); intro v1 w1 ho hb hg; have HO1 := Aside0.mk ho; have HB1 := Aside0.mk hb; clear ho hb hg))
      go_ret
      refine ⟨v1, rfl, ?_, HB1.out⟩
      rw [← HE.out]; exact HO1.out
theorem zigzag_calls (x : Int) (hx0 : -9223372036854775808 ≤ x) (hx1 : x ≤ 9223372036854775807) (w : World) :
    Calls Tryd.prog 23 #[.int .i64 x] w fun e w' => e = .returned (.int .u64 (zz x : Int)) ∧ w = w' := by
  by_cases c0 : x < 0
  · have hz := zz_half_neg x c0
    obtain ⟨Z, hZ⟩ : ∃ Z, zz x = Z := ⟨_, rfl⟩
    rw [hZ] at hz ⊢
    obtain ⟨u, hu⟩ : ∃ u, IntKind.u64.wrap x = u := ⟨_, rfl⟩
    have hu2 : u = x + 18446744073709551616 := by rw [← hu, IntKind.wrap_u64]; omega
    obtain ⟨s, hs⟩ : ∃ s, IntKind.u64.wrap (u * 2) = s := ⟨_, rfl⟩
    have hs3 : s = 2 * x + 18446744073709551616 := by rw [← hs, IntKind.wrap_u64]; omega
    obtain ⟨n, hn⟩ : ∃ n : Nat, s = (n : Int) := ⟨s.toNat, by omega⟩
    have hd : x / 9223372036854775808 = -1 := by omega
    have hw : IntKind.u64.wrap (-1) = 18446744073709551615 := by decide
    have hx : bits .xor .u64 s 18446744073709551615 = (Z : Int) := by
      rw [hn, show (18446744073709551615 : Int) = ((2 ^ 64 - 1 : Nat) : Int) by decide, bits_xor_u64_nat _ _ (by omega) (by decide), Nat.xor_comm, xor_ones n (by omega)]
      omega
    clear hu2 hs3 hz hZ hn
    go_enter Tryd.func23, Tryd.ntmps23
    go_wp2_with (fail)
    go_ret
    exact ⟨rfl, rfl⟩
  · have hz := zz_half_pos x (by omega)
    obtain ⟨Z, hZ⟩ : ∃ Z, zz x = Z := ⟨_, rfl⟩
    rw [hZ] at hz ⊢
    have hu : IntKind.u64.wrap x = x := IntWalk.u64_in _ (by omega)
    have hz2 : x * 2 = (Z : Int) := by omega
    have hs : IntKind.u64.wrap (Z : Int) = (Z : Int) := IntWalk.u64_in _ (by omega)
    have hd : x / 9223372036854775808 = 0 := by omega
    have hx : bits .xor .u64 (Z : Int) 0 = (Z : Int) := by
      rw [show (0 : Int) = ((0 : Nat) : Int) from rfl, bits_xor_u64_nat _ _ (by omega) (by decide), Nat.xor_zero]
    clear hz hZ
    go_enter Tryd.func23, Tryd.ntmps23
    go_wp2_with (fail)
    go_ret
    exact ⟨rfl, rfl⟩
structure WB (w w' : World) (bs : List Int) (e : Ending) : Prop where
  mk :: (out : ∃ v, e = .returned v ∧ Own w' w.heap.size 5 .u8 v bs) (below : Below w.heap.size w w')
set_option maxHeartbeats 4000000 in
theorem head_calls (n : Nat) (el : Int) (long : Bool) (hn : n ≤ 1000) (h3 : 3 ≤ el) (h12 : el ≤ 12) (w : World) :
    Calls Tryd.prog 25 #[.int .i64 n, .int .i64 el, .bool long] w fun e w' => WB w w' (headL long n el) e := by
  obtain ⟨el, rfl⟩ := Int.eq_ofNat_of_zero_le (show 0 ≤ el by omega)
  have hor1 : bits .or .i64 240 (el : Int) = 240 + (el : Int) := ori64 15 el (by omega) (by omega)
  have hor2 := ori64 n el (by omega) (by omega)
  have hu8 : IntKind.u8.wrap (240 + (el : Int)) = 240 + (el : Int) := by rw [IntKind.wrap_u8]; omega
  have hw1 : IntKind.i64.wrap ((n : Int) * 16) = (n : Int) * 16 := IntWalk.i64_in _ (by omega)
  have hw2 : IntKind.u64.wrap (n : Int) = (n : Int) := IntWalk.u64_in _ (by omega)
  have h240 : (240 + (el : Int)) % 256 = 240 + (el : Int) := by omega
  have HVA := Aside0.mk fun W1 => varint_calls n W1 (by omega)
  obtain ⟨L, hL⟩ : ∃ L, (varL n).length = L := ⟨_, rfl⟩
  have hL5 := varL_len5 n (by omega)
  have HL := Aside0.mk hL
  rw [hL] at hL5
  clear hL
  by_cases c : n < 15 ∧ long = false
  · have HE : Aside0 (headL long n el = [(n : Int) * 16 + (el : Int)]) := ⟨by unfold headL; rw [if_pos c]⟩
    obtain ⟨c1, rfl⟩ := c
    have q1 : decide ((n : Int) < 15) = true := decide_eq_true (by omega)
    have q2 : decide (n < 15) = true := decide_eq_true c1
    have hu9 : IntKind.u8.wrap ((n : Int) * 16 + (el : Int)) = (n : Int) * 16 + (el : Int) := by rw [IntKind.wrap_u8]; omega
    have hu91 : ((n : Int) * 16 + (el : Int)) % 256 = (n : Int) * 16 + (el : Int) := by omega
    obtain ⟨x, hx⟩ : ∃ x, (n : Int) * 16 + (el : Int) = x := ⟨_, rfl⟩
    rw [hx] at HE hor2 hu9 hu91
    clear hx
    go_enter Tryd.func25, Tryd.ntmps25
    go_wp2_with (fail)
    go_ret
    refine ⟨⟨_, rfl, ?_⟩, (Below.refl _ _).alloc (Nat.le_refl _) _⟩
    rw [HE.out]
    exact own_byte w _ _ (Nat.le_refl _)
  · have HE : Aside0 (headL long n el = [(240 + (el : Int))] ++ varL n) := ⟨by unfold headL; rw [if_neg c]; rfl⟩
    obtain ⟨x, hx⟩ : ∃ x, (240 + (el : Int)) = x := ⟨_, rfl⟩
    rw [hx] at HE hor1 hu8 h240
    clear hx hor2
    have key : ∀ (b : Bool), decide ((n : Int) < 15) = b → decide (n < 15) = b → (b = true → long = true) → Calls Tryd.prog 25 #[.int .i64 n, .int .i64 (el : Int), .bool long] w fun e w' => WB w w' (headL long n el) e := by
      intro b q1 q2 hb
      have HO := Aside0.mk (own_byte w x w.heap.size (Nat.le_refl _))
      have HB : Aside0 (Below w.heap.size w (w.alloc (.cells #[.int .u8 x] 5))) := ⟨(Below.refl _ _).alloc (Nat.le_refl _) _⟩
      cases b with
      | true =>
        obtain rfl := hb rfl
        go_enter Tryd.func25, Tryd.ntmps25
        go_wp2_with (first
          | (go_at_call 22; (with_reducible refine (HVA.out _).mono ?_); rintro e w2 ⟨v2, rfl, ho, hb⟩; obtain ⟨A2, c2, rfl, hc2, hr2⟩ := ho.read; rw [HL.out] at hc2 hr2; rw [HL.out]; have HR2 := Aside0.mk hr2; have HO2 := Aside0.mk (HO.out.below hb); have HB2 := Aside0.mk (HB.out.trans (hb.mono HB.out.size)); clear ho hb hr2)
          | (at_builtin; refine appendRead (w0 := w) w.heap.size rfl (.tmp 22) (.tmp 25) 23 5 .u8 1 rfl Tryd.underlying23 infoU8 (by decide) _ [x] A2 L c2 (varL n) rfl rfl HO2.out HB2.out ?hb HR2.out ?hl ?_; (case hb => exact HB2.out.size); (case hl => show (1 + L) * 1 ≤ _; omega); intro v1 w1 ho hb hg; have HO1 := Aside0.mk ho; have HB1 := Aside0.mk hb; clear ho hb hg))
        go_ret
        exact ⟨⟨_, rfl, by rw [HE.out]; exact HO1.out⟩, HB1.out⟩
      | false =>
        go_enter Tryd.func25, Tryd.ntmps25
        go_wp2_with (first
          | (go_at_call 22; (with_reducible refine (HVA.out _).mono ?_); rintro e w2 ⟨v2, rfl, ho, hb⟩; obtain ⟨A2, c2, rfl, hc2, hr2⟩ := ho.read; rw [HL.out] at hc2 hr2; rw [HL.out]; have HR2 := Aside0.mk hr2; have HO2 := Aside0.mk (HO.out.below hb); have HB2 := Aside0.mk (HB.out.trans (hb.mono HB.out.size)); clear ho hb hr2)
          | (at_builtin; refine appendRead (w0 := w) w.heap.size rfl (.tmp 22) (.tmp 25) 23 5 .u8 1 rfl Tryd.underlying23 infoU8 (by decide) _ [x] A2 L c2 (varL n) rfl rfl HO2.out HB2.out ?hb HR2.out ?hl ?_; (case hb => exact HB2.out.size); (case hl => show (1 + L) * 1 ≤ _; omega); intro v1 w1 ho hb hg; have HO1 := Aside0.mk ho; have HB1 := Aside0.mk hb; clear ho hb hg))
        go_ret
        exact ⟨⟨_, rfl, by rw [HE.out]; exact HO1.out⟩, HB1.out⟩
    exact key (decide (n < 15)) (by rw [decide_eq_decide]; omega) rfl (fun h => by
      have h1 := of_decide_eq_true h
      cases long with
      | true => rfl
      | false => exact absurd ⟨h1, rfl⟩ c)
def F.sz : F → Nat
  | .nil => 0
  | .cons d id ls fs tl => 9 + d.bs.length + (F.sz ls) + (F.sz fs) + (F.sz tl)
def N.sz (x : N) : Nat := 9 + x.d.bs.length + (F.sz x.ls) + (F.sz x.fs)
theorem F.sz_snoc : ∀ (X : F) (d : D) (id : Int) (ls fs : F), F.sz (X.snoc d id ls fs) = (F.sz X) + N.sz ⟨d, ls, fs⟩
  | .nil, d, id, ls, fs => by show 9 + d.bs.length + (F.sz ls) + (F.sz fs) + 0 = 0 + (9 + d.bs.length + (F.sz ls) + (F.sz fs)); omega
  | .cons d' id' ls' fs' tl, d, id, ls, fs => by
    have := F.sz_snoc tl d id ls fs
    show 9 + d'.bs.length + (F.sz ls') + (F.sz fs') + F.sz (tl.snoc d id ls fs) = 9 + d'.bs.length + (F.sz ls') + (F.sz fs') + (F.sz tl) + N.sz ⟨d, ls, fs⟩
    omega
theorem zz_lt (x : Int) (h : i64B x) : zz x < 18446744073709551616 := by
  unfold i64B at h
  rcases Int.lt_or_le x 0 with c | c
  · have := zz_half_neg x c; omega
  · have := zz_half_pos x c; omega
theorem body_len (long : Bool) (dd : Nat) (fld : Bool) (d : D) (ls fs : F) (lsB fsB : List Int) (hd : i64B d.n) {okl : Nat → Int → Int → Prop} {okf : Nat → Prop} (h : okN dd fld d ls fs okl okf) : (bodyB long d ls.len lsB fsB).length ≤ 11 + d.bs.length + lsB.length + fsB.length := by
  have h1 := varL_len10 (zz d.n) (zz_lt _ hd)
  have h3 : ls.len ≤ 1000 := by
    rcases h with h | h | h | h | h | h | h | h | h | h | h
    all_goals first
      | (have := h.2.2.2.2.1; omega)
      | (obtain ⟨_, _, h, _⟩ := h; omega)
      | skip
    all_goals first
      | (obtain ⟨_, _, _, h, _⟩ := h; rw [h]; exact Nat.zero_le _)
      | (obtain ⟨_, _, _, _, h, _⟩ := h; rw [h]; exact Nat.zero_le _)
  have h2 : d.bs.length ≤ 10000 := by
    rcases h with h | h | h | h | h | h | h | h | h | h | h
    all_goals first
      | (obtain ⟨_, h, _⟩ := h; rw [h]; exact Nat.zero_le _)
      | (obtain ⟨_, _, h, _⟩ := h; rw [h]; exact Nat.zero_le _)
      | (obtain ⟨_, _, _, h, _⟩ := h; rw [h]; exact Nat.zero_le _)
      | (obtain ⟨_, h, _⟩ := h; omega)
  have h4 := varL_len5 d.bs.length (by omega)
  have h5 := varL_len5 ls.len (by omega)
  have h6 := varL_len5 (ls.len / 2) (by omega)
  have h7 : (headL long ls.len d.el).length ≤ 6 := by
    unfold headL; split
    · simp
    · rw [List.length_cons]; omega
  unfold bodyB
  repeat' split
  all_goals try simp only [List.length_append, List.length_cons, List.length_nil, lowL_length]
  all_goals omega
theorem fhead_len (long : Bool) (last id ty : Int) (h0 : 0 ≤ id) (h1 : id ≤ 32767) : (fheadL long last id ty).length ≤ 6 := by
  unfold fheadL; split
  · simp
  · have := varL_len5 (zz id) (by have := zz_half_pos id h0; omega)
    rw [List.length_cons]; omega
theorem forest_len (long : Bool) : ∀ (X : F) (dd : Nat) (fld : Bool) (ev od last : Int), 0 ≤ last → F.ow X fld → X.ok dd fld ev od last → (X.byB long fld last).length ≤ 3 * (F.sz X)
  | .nil, dd, fld, ev, od, last, h0, ho, h => by show 0 ≤ _; omega
  | .cons d id ls fs tl, dd, fld, ev, od, last, h0, ho, h => by
    have hl : (ls.byB long false 0).length ≤ 3 * (F.sz ls) ∧ (fs.byB long true 0).length ≤ 3 * (F.sz fs) := by
      have hN := h.2.1
      have a0 : ls = .nil → (ls.byB long false 0).length ≤ 3 * (F.sz ls) := fun e => by rw [e]; show 0 ≤ _; omega
      have b0 : fs = .nil → (fs.byB long true 0).length ≤ 3 * (F.sz fs) := fun e => by rw [e]; show 0 ≤ _; omega
      rcases hN with h | h | h | h | h | h | h | h | h | h | h
      · exact ⟨a0 h.2.2.2.1, b0 h.2.2.2.2⟩
      · exact ⟨a0 h.2.2.2.1, b0 h.2.2.2.2⟩
      · exact ⟨a0 h.2.2.2.2.1, b0 h.2.2.2.2.2⟩
      · exact ⟨a0 h.2.2.2.2.1, b0 h.2.2.2.2.2⟩
      · exact ⟨a0 h.2.2.2.2.1, b0 h.2.2.2.2.2⟩
      · exact ⟨a0 h.2.2.2.2.1, b0 h.2.2.2.2.2⟩
      · exact ⟨a0 h.2.2.2.1, b0 h.2.2.2.2⟩
      · exact ⟨a0 h.2.2.2.2.1, b0 h.2.2.2.2.2⟩
      · obtain ⟨_, _, _, _, _, e, g, _, k⟩ := h
        exact ⟨forest_len long ls g false _ _ 0 (by omega) ho.2.2.2.2.1 k, b0 e⟩
      · obtain ⟨_, _, _, _, e, ⟨g, _, k⟩, _⟩ := h
        exact ⟨forest_len long ls g false _ _ 0 (by omega) ho.2.2.2.2.1 k, b0 e⟩
      · obtain ⟨_, _, _, e, g, _, k⟩ := h
        exact ⟨a0 e, forest_len long fs g true 0 0 0 (by omega) ho.2.2.2.2.2.1 k⟩
    have hb := body_len long dd fld d ls fs (ls.byB long false 0) (fs.byB long true 0) ho.1.2.1 h.2.1
    have hid : 0 ≤ id ∧ id ≤ 32767 := by
      have := h.1
      cases fld with
      | true => rw [if_pos rfl] at this; omega
      | false => rw [if_neg (by simp)] at this; omega
    have ht := forest_len long tl dd fld od ev id hid.1 ho.2.2.2.2.2.2 h.2.2
    have hf := fhead_len long last id d.ty hid.1 hid.2
    have hz : F.sz (.cons d id ls fs tl) = 9 + d.bs.length + (F.sz ls) + (F.sz fs) + (F.sz tl) := rfl
    show ((if fld then fheadL long last id d.ty else []) ++ bodyB long d ls.len (ls.byB long false 0) (fs.byB long true 0) ++ tl.byB long fld id).length ≤ _
    rw [List.length_append, List.length_append, hz]
    have hif : (if fld then fheadL long last id d.ty else []).length ≤ 6 := by
      cases fld with
      | true => exact hf
      | false => show 0 ≤ 6; omega
    omega
theorem by_len (long : Bool) (x : N) (dd : Nat) (hw : NOw x) (h : x.ok dd false) (h3 : 3 ≤ x.d.ty) : (x.byB long).length ≤ 3 * (N.sz x) := by
  have := forest_len long (.cons x.d 0 x.ls x.fs .nil) dd false x.d.ty 0 0 (by omega) ⟨hw.d, ⟨⟨by decide, by decide⟩, fun _ => rfl⟩, hw.nl, hw.nf, hw.ls, hw.fs, trivial⟩ ⟨by rw [if_neg (by simp)]; exact ⟨rfl, rfl⟩, h, trivial⟩
  have e1 : (F.cons x.d 0 x.ls x.fs .nil).byB long false 0 = [] ++ x.byB long ++ [] := rfl
  have e2 : F.sz (.cons x.d 0 x.ls x.fs .nil) = (N.sz x) + 0 := rfl
  rw [e1, e2, List.append_nil, List.nil_append] at this
  exact this
end Go.Proofs.YtcboegodjlfmnaaDoor.Twa
