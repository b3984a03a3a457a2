import Derived.Test.YtcboegodjlfmnaaDoorSlTon
import Derived.Test.YtcboegodjlfmnaaDoorSlTce
namespace Go.Proofs.YtcboegodjlfmnaaDoor.Tit
open Go.Proofs.YtcboegodjlfmnaaDoor.Tsd Go.Proofs.YtcboegodjlfmnaaDoor.Ton Go.Proofs.YtcboegodjlfmnaaDoor.Tpw Go.Proofs.YtcboegodjlfmnaaDoor.Tap Go.Proofs.YtcboegodjlfmnaaDoor.Tzm Go.Proofs.YtcboegodjlfmnaaDoor.Tzl Go.Proofs.YtcboegodjlfmnaaDoor.Trh Go.Proofs.YtcboegodjlfmnaaDoor.Trn Go.Proofs.YtcboegodjlfmnaaDoor.Trm Go.Proofs.YtcboegodjlfmnaaDoor.Tuv Go.Proofs.YtcboegodjlfmnaaDoor.Tpa Go.Proofs.YtcboegodjlfmnaaDoor.Duv Go.Proofs.YtcboegodjlfmnaaDoor.Dpu Go.Proofs.YtcboegodjlfmnaaDoor.Pak Go.Proofs.YtcboegodjlfmnaaDoor.Buf Go.Proofs.YtcboegodjlfmnaaDoor.Fit Go.Proofs.YtcboegodjlfmnaaDoor.Bit Go.Proofs.YtcboegodjlfmnaaDoor.Wrd Go.Proofs.YtcboegodjlfmnaaDoor.Spl Go.Proofs.YtcboegodjlfmnaaDoor.Str Go.Proofs.YtcboegodjlfmnaaDoor.Flt Go.Proofs.YtcboegodjlfmnaaDoor.Owe Go.Proofs.YtcboegodjlfmnaaDoor.Num Go.Proofs.YtcboegodjlfmnaaDoor.Le Go.Proofs.YtcboegodjlfmnaaDoor.Lst Go.Proofs.YtcboegodjlfmnaaDoor.Aid Go.RowKit Go.Proofs.YtcboegodjlfmnaaDoorW.PrintWords Go.Proofs.YtcboegodjlfmnaaDoorW.PrintLast Go.Proofs.YtcboegodjlfmnaaDoorW.PrintMore Go.Proofs.YtcboegodjlfmnaaDoor.Tpv Go.Proofs.YtcboegodjlfmnaaDoor.Tzz
set_option linter.unusedVariables false
set_option linter.unusedSimpArgs false
set_option maxHeartbeats 8000000 in
set_option maxRecDepth 100000 in
theorem empty_calls (ty : Int) (bo : Bool) (n : Int) (bits : Nat) (A1 : Option Addr) (n1 c1 : Nat) (ky el : Int) (A2 : Option Addr) (n2 c2 : Nat) (A3 : Option Addr) (n3 c3 : Nat) (w : World) :
    Calls Tryd.prog 19 #[.agg #[.int .i64 ty, .bool bo, .int .i64 n, .int .u64 (bits : Int), .slice A1 n1 c1, .int .i64 ky, .int .i64 el, .slice A2 n2 c2, .slice A3 n3 c3]] w fun e w' => e = .returned (.bool (decide (bo = false ∧ n = 0 ∧ bits = 0 ∧ n1 = 0 ∧ ky = 0 ∧ el = 0 ∧ n2 = 0 ∧ n3 = 0))) ∧ Below w.heap.size w w' := by
  have HB : Aside0 (Below w.heap.size w (w.alloc (.cells #[.int .i64 ty, .bool bo, .int .i64 n, .int .u64 (bits : Int), .slice A1 n1 c1, .int .i64 ky, .int .i64 el, .slice A2 n2 c2, .slice A3 n3 c3] 27))) := ⟨(Below.refl _ _).alloc (Nat.le_refl _) _⟩
  have HV := Aside0.mk (Blk.new w #[.int .i64 ty, .bool bo, .int .i64 n, .int .u64 (bits : Int), .slice A1 n1 c1, .int .i64 ky, .int .i64 el, .slice A2 n2 c2, .slice A3 n3 c3] 27)
  obtain ⟨R, hR⟩ : ∃ R, decide (bo = false ∧ n = 0 ∧ bits = 0 ∧ n1 = 0 ∧ ky = 0 ∧ el = 0 ∧ n2 = 0 ∧ n3 = 0) = R := ⟨_, rfl⟩
  rw [hR]
  have HR := Aside0.mk hR
  clear hR
  go_enter Tryd.func19, Tryd.ntmps19
  go_upto_region 1 with (fail)
  generalize hW : World.alloc _ _ = W at HB HV ⊢
  clear hW
  obtain ⟨q0, q1, q2, q3, q4, q5, q6, q7, q8, qz⟩ := nine HV.out
  cases bo with
  | true =>
    obtain rfl : R = false := by rw [← HR.out]; exact decide_eq_false (by rintro ⟨h0, h1, h2, h3, h4, h5, h6, h7⟩; cases h0)
    go_wp2_with (fail)
    go_ret
    exact ⟨rfl, HB.out⟩
  | false =>
    by_cases z1 : n = 0
    case neg =>
      have k1 : (n == 0) = false := by rw [beq_eq_false_iff_ne]; omega
      obtain rfl : R = false := by rw [← HR.out]; exact decide_eq_false (by rintro ⟨h0, h1, h2, h3, h4, h5, h6, h7⟩; exact z1 h1)
      clear z1
      go_wp2_with (fail)
      go_ret
      exact ⟨rfl, HB.out⟩
    case pos =>
      have k1 : (n == 0) = true := by rw [beq_iff_eq]; omega
      by_cases z2 : bits = 0
      case neg =>
        have k2 : ((bits : Int) == 0) = false := by rw [beq_eq_false_iff_ne]; omega
        have kk2 : (bits == 0) = false := by rw [beq_eq_false_iff_ne]; omega
        obtain rfl : R = false := by rw [← HR.out]; exact decide_eq_false (by rintro ⟨h0, h1, h2, h3, h4, h5, h6, h7⟩; exact z2 h2)
        clear z1 z2
        go_wp2_with (fail)
        go_ret
        exact ⟨rfl, HB.out⟩
      case pos =>
        have k2 : ((bits : Int) == 0) = true := by rw [beq_iff_eq]; omega
        have kk2 : (bits == 0) = true := by rw [beq_iff_eq]; omega
        by_cases z3 : n1 = 0
        case neg =>
          have k3 : ((n1 : Int) == 0) = false := by rw [beq_eq_false_iff_ne]; omega
          have kk3 : (n1 == 0) = false := by rw [beq_eq_false_iff_ne]; omega
          obtain rfl : R = false := by rw [← HR.out]; exact decide_eq_false (by rintro ⟨h0, h1, h2, h3, h4, h5, h6, h7⟩; exact z3 h3)
          clear z1 z2 z3
          go_wp2_with (fail)
          go_ret
          exact ⟨rfl, HB.out⟩
        case pos =>
          have k3 : ((n1 : Int) == 0) = true := by rw [beq_iff_eq]; omega
          have kk3 : (n1 == 0) = true := by rw [beq_iff_eq]; omega
          by_cases z4 : ky = 0
          case neg =>
            have k4 : (ky == 0) = false := by rw [beq_eq_false_iff_ne]; omega
            obtain rfl : R = false := by rw [← HR.out]; exact decide_eq_false (by rintro ⟨h0, h1, h2, h3, h4, h5, h6, h7⟩; exact z4 h4)
            clear z1 z2 z3 z4
            go_wp2_with (fail)
            go_ret
            exact ⟨rfl, HB.out⟩
          case pos =>
            have k4 : (ky == 0) = true := by rw [beq_iff_eq]; omega
            by_cases z5 : el = 0
            case neg =>
              have k5 : (el == 0) = false := by rw [beq_eq_false_iff_ne]; omega
              obtain rfl : R = false := by rw [← HR.out]; exact decide_eq_false (by rintro ⟨h0, h1, h2, h3, h4, h5, h6, h7⟩; exact z5 h5)
              clear z1 z2 z3 z4 z5
              go_wp2_with (fail)
              go_ret
              exact ⟨rfl, HB.out⟩
            case pos =>
              have k5 : (el == 0) = true := by rw [beq_iff_eq]; omega
              by_cases z6 : n2 = 0
              case neg =>
                have k6 : ((n2 : Int) == 0) = false := by rw [beq_eq_false_iff_ne]; omega
                have kk6 : (n2 == 0) = false := by rw [beq_eq_false_iff_ne]; omega
                obtain rfl : R = false := by rw [← HR.out]; exact decide_eq_false (by rintro ⟨h0, h1, h2, h3, h4, h5, h6, h7⟩; exact z6 h6)
                clear z1 z2 z3 z4 z5 z6
                go_wp2_with (fail)
                go_ret
                exact ⟨rfl, HB.out⟩
              case pos =>
                have k6 : ((n2 : Int) == 0) = true := by rw [beq_iff_eq]; omega
                have kk6 : (n2 == 0) = true := by rw [beq_iff_eq]; omega
                by_cases z7 : n3 = 0
                case neg =>
                  have k7 : ((n3 : Int) == 0) = false := by rw [beq_eq_false_iff_ne]; omega
                  have kk7 : (n3 == 0) = false := by rw [beq_eq_false_iff_ne]; omega
                  obtain rfl : R = false := by rw [← HR.out]; exact decide_eq_false (by rintro ⟨h0, h1, h2, h3, h4, h5, h6, h7⟩; exact z7 h7)
                  clear z1 z2 z3 z4 z5 z6 z7
                  go_wp2_with (fail)
                  go_ret
                  exact ⟨rfl, HB.out⟩
                case pos =>
                  have k7 : ((n3 : Int) == 0) = true := by rw [beq_iff_eq]; omega
                  have kk7 : (n3 == 0) = true := by rw [beq_iff_eq]; omega
                  obtain rfl : R = true := by rw [← HR.out]; exact decide_eq_true ⟨rfl, z1, z2, z3, z4, z5, z6, z7⟩
                  clear z1 z2 z3 z4 z5 z6 z7
                  go_wp2_with (fail)
                  go_ret
                  exact ⟨rfl, HB.out⟩
structure ItR (P : Prop) (w w' : World) (e : Ending) : Prop where
  mk :: (out : ∃ b : Bool, e = .returned (.bool b) ∧ (b = true ↔ P)) (below : Below w.heap.size w w')
def It (x : N) : Prop := NOw x → ∀ (dd : Nat) (fld : Bool) (w : World) (cs : List Value), dd ≤ 100 → x.In flT w (fun b => b < w.heap.size) cs → Calls Tryd.prog 11 #[.agg cs.toArray, .int .i64 dd, .bool fld] w fun e w' => ItR (N.ok x dd fld) w w' e
theorem ok_app : ∀ {D G : F} {dd : Nat} {ev od : Int} {i : Nat}, D.len = i → D.ok dd false ev od 0 → G.ok dd false (if i % 2 = 0 then ev else od) (if i % 2 = 0 then od else ev) 0 → (D.app G).ok dd false ev od 0
  | .nil, G, dd, ev, od, i, hi, hD, hG => by
    obtain rfl : i = 0 := hi.symm
    exact hG
  | .cons d id ls fs tl, G, dd, ev, od, i, hi, hD, hG => by
    obtain ⟨h1, h2, h3⟩ := hD
    have hid : id = 0 := by rw [if_neg (by simp)] at h1; exact h1.2
    subst hid
    refine ⟨h1, h2, ok_app (i := tl.len) rfl h3 ?_⟩
    have hl : tl.len + 1 = i := hi
    by_cases c : tl.len % 2 = 0
    · rw [if_neg (by omega), if_neg (by omega)] at hG
      rw [if_pos c, if_pos c]; exact hG
    · rw [if_pos (by omega), if_pos (by omega)] at hG
      rw [if_neg c, if_neg c]; exact hG
theorem ok_head : ∀ {Q : F} {d : D} {id : Int} {ls fs tl : F} {dd : Nat} {ev od : Int} {i : Nat}, Q.len = i → (Q.app (.cons d id ls fs tl)).ok dd false ev od 0 → d.ty = (if i % 2 = 0 then ev else od) ∧ N.ok ⟨d, ls, fs⟩ dd false
  | .nil, d, id, ls, fs, tl, dd, ev, od, i, hi, h => by
    obtain rfl : i = 0 := hi.symm
    obtain ⟨h1, h2, _⟩ := h
    rw [if_neg (by simp)] at h1
    exact ⟨h1.1, h2⟩
  | .cons d' id' ls' fs' D, d, id, ls, fs, tl, dd, ev, od, i, hi, h => by
    obtain ⟨h1, _, h3⟩ := h
    have hid : id' = 0 := by rw [if_neg (by simp)] at h1; exact h1.2
    subst hid
    have hl : D.len + 1 = i := hi
    have := ok_head (Q := D) (i := D.len) rfl h3
    refine ⟨?_, this.2⟩
    rw [this.1]
    by_cases c : D.len % 2 = 0
    · rw [if_pos c, if_neg (by omega)]
    · rw [if_neg c, if_pos (by omega)]
theorem ok_one {d : D} {ls fs : F} {dd : Nat} {ev od : Int} (ht : d.ty = ev) (h : N.ok ⟨d, ls, fs⟩ dd false) : (F.cons d 0 ls fs .nil).ok dd false ev od 0 := ⟨by rw [if_neg (by simp)]; exact ⟨ht, rfl⟩, h, trivial⟩
theorem ok_snoc {Q : F} {d : D} {ls fs : F} {dd : Nat} {ev od : Int} {i : Nat} (hi : Q.len = i) (hD : Q.ok dd false ev od 0) (ht : d.ty = if i % 2 = 0 then ev else od) (h : N.ok ⟨d, ls, fs⟩ dd false) : (Q.snoc d 0 ls fs).ok dd false ev od 0 := by
  have e := F.app_snoc Q .nil d 0 ls fs
  rw [F.app_nil] at e
  rw [← e]
  exact ok_app hi hD (ok_one ht h)
set_option maxHeartbeats 8000000 in
set_option maxRecDepth 100000 in
theorem things_calls (X : F) (ihX : F.all It X) (hX : F.ow X false) (A : Option Addr) (c : Nat) (ev od : Int) (g : Nat) (hg : g + 1 ≤ 100) (lcs : List Value) (w : World) (hm : X.len ≤ maxLen) (hL : Lies w (fun b => b < w.heap.size) (.slice A X.len c) X.len lcs) (hLi : X.In flT w (fun b => b < w.heap.size) false lcs) :
    Calls Tryd.prog 21 #[.slice A X.len c, .int .i64 ev, .int .i64 od, .int .i64 ((g + 1 : Nat) : Int)] w fun e w' => ItR (X.ok g false ev od 0) w w' e := by
  have hm9 : X.len ≤ 9223372036854775807 := by unfold maxLen at hm; omega
  have HXA := Aside0.mk ihX
  have HXO := Aside0.mk hX
  obtain ⟨A0, c0, e0, _, hrw⟩ := hL.out
  obtain ⟨rfl, _, rfl⟩ := Value.slice.inj e0
  have HL := Aside0.mk hrw
  have HLi := Aside0.mk hLi
  have qg : IntKind.i64.wrap (((g + 1 : Nat) : Int) - 1) = (g : Int) := by rw [IntWalk.i64_in _ (by omega)]; omega
  obtain ⟨G1, hG1⟩ : ∃ G1, g + 1 = G1 := ⟨_, rfl⟩
  rw [hG1] at qg ⊢
  have HGG := Aside0.mk hG1
  clear ihX hX hL hLi e0 hrw hG1 hm
  go_enter Tryd.func21, Tryd.ntmps21
  go_wp2_with (fail)
  go_loopg [8, 9, 10, 11, 14] X.len (fun kq v8 v9 v10 v11 v14 w' => ∃ (i : Nat) (D G : F) (gc pr : List Value), i ≤ X.len ∧ v14 = .int .i64 i ∧ Aside0 (D.len = i) ∧ Aside0 (D.app G = X) ∧ Aside0 (G.len + i = X.len) ∧ Aside0 (D.ok g false ev od 0) ∧ Aside0 (lcs = pr ++ gc) ∧ Aside0 (pr.length = i * 9) ∧ Aside0 (G.In flT w (fun b => b < w.heap.size) false gc) ∧ Aside0 (F.all It G) ∧ Aside0 (F.ow G false) ∧ Aside0 (Below w.heap.size w w') ∧ Aside0 (X.len - i ≤ kq))
  case atStart => exact ⟨0, .nil, X, lcs, [], Nat.zero_le _, rfl, ⟨rfl⟩, ⟨rfl⟩, ⟨rfl⟩, ⟨trivial⟩, ⟨rfl⟩, ⟨by simp⟩, HLi, HXA, HXO, ⟨Below.refl _ _⟩, ⟨by omega⟩⟩
  case round =>
    obtain ⟨i, D, G, gc, pr, hi, rfl, HDl, HDG, HGl, HDO, HLE, HPR, HGI, HGA, HGW, HB, HK⟩ := hrel
    by_cases ci : i < X.len
    · have ct : decide ((i : Int) < (X.len : Nat)) = true := decide_eq_true (by omega)
      have ctt : decide (i < X.len) = true := decide_eq_true ci
      cases G with
      | nil => exact absurd HGl.out (by show ¬ (0 + i = _); omega)
      | cons d id ls fs tl =>
        obtain ⟨bsv, lsv, fsv, l1, f1, t1, g1, g2, g3, g4, g5, g6, g7⟩ := HGI.out
        have hy1 : N.In flT w (fun b => b < w.heap.size) ⟨d, ls, fs⟩ (nodeC flT d bsv lsv fsv) := ⟨⟨bsv, lsv, fsv, l1, f1, rfl, g2, g3, g4, g5, g6⟩⟩
        obtain ⟨X4, Xn4, Xk4, X7, Xn7, Xk7, X8, Xn8, Xk8, hcs⟩ := openT hy1
        rw [hcs] at hy1 g1
        obtain ⟨ad, hA2, hadl, hcell⟩ := HL.out (by rw [HLE.out, g1]; simp)
        subst hA2
        have hid : id = 0 := HGW.out.2.1.2 rfl
        subst hid
        have hrow := rowCell hcell HLE.out HPR.out
        obtain ⟨z0, z1, z2, z3, z4, z5, z6, z7, z8⟩ := nineRow (w := wr) (ad := ad) (k := i * 9) (rest := t1) (fun q u hq => (World.cell?_of_block (by rw [add_block]; exact HB.out.block _ hadl)).trans (hrow q u hq)) g1
        have hbr2 : Below w.heap.size w (wr.alloc (.cells #[.int .i64 d.ty, .bool d.bo, .int .i64 d.n, .int .u64 (d.bits : Int), .slice X4 Xn4 Xk4, .int .i64 d.ky, .int .i64 d.el, .slice X7 Xn7 Xk7, .slice X8 Xn8 Xk8] 27)) := HB.out.alloc HB.out.size _
        have HYP := Aside0.mk (HGA.out.1 ⟨HGW.out.1, HGW.out.2.2.1, HGW.out.2.2.2.1, HGW.out.2.2.2.2.1, HGW.out.2.2.2.2.2.1⟩ g false (wr.alloc (.cells #[.int .i64 d.ty, .bool d.bo, .int .i64 d.n, .int .u64 (d.bits : Int), .slice X4 Xn4 Xk4, .int .i64 d.ky, .int .i64 d.el, .slice X7 Xn7 Xk7, .slice X8 Xn8 Xk8] 27)) _ (by omega) (hy1.move (Pc := fun b => b < (wr.alloc (.cells #[.int .i64 d.ty, .bool d.bo, .int .i64 d.n, .int .u64 (d.bits : Int), .slice X4 Xn4 Xk4, .int .i64 d.ky, .int .i64 d.el, .slice X7 Xn7 Xk7, .slice X8 Xn8 Xk8] 27)).heap.size) (fun b hb => hbr2.block b hb) (fun b hb => Nat.lt_of_lt_of_le hb hbr2.size)))
        have HB7 := Aside0.mk hbr2
        have HG7 := Aside0.mk g7
        have HL9 : Aside0 (lcs = pr ++ ([.int .i64 d.ty, .bool d.bo, .int .i64 d.n, .int .u64 (d.bits : Int), .slice X4 Xn4 Xk4, .int .i64 d.ky, .int .i64 d.el, .slice X7 Xn7 Xk7, .slice X8 Xn8 Xk8] ++ t1)) := ⟨by rw [HLE.out, g1]; rfl⟩
        have HCI := Aside0.mk ci
        have HPN := Aside0.mk (Blk.new wr #[.int .i64 d.ty, .bool d.bo, .int .i64 d.n, .int .u64 (d.bits : Int), .slice X4 Xn4 Xk4, .int .i64 d.ky, .int .i64 d.el, .slice X7 Xn7 Xk7, .slice X8 Xn8 Xk8] 27)
        clear g1 g2 g3 g4 g5 g6 g7 hy1 hrow hcell hcs hbr2
        go_upto_region 4 with (fail)
        clear z0 z1 z2 z3 z4 z5 z6 z7 z8
        generalize hw7 : World.alloc _ _ = w7 at HYP HB7 HPN ⊢
        clear hw7
        obtain ⟨u0, u1, u2, u3, u4, u5, u6, u7, u8, uz⟩ := nine HPN.out
        by_cases c3 : i % 2 = 1
        · have q33 : ((i : Int) % 2 == 1) = true := by rw [beq_iff_eq]; omega
          have q34 : (i % 2 == 1) = true := by rw [beq_iff_eq]; omega
          have HTY : Aside0 ((if i % 2 = 0 then ev else od) = od) := ⟨by rw [if_neg (by omega)]⟩
          clear c3
          by_cases ct2 : d.ty = od
          · subst ct2
            have q5 : (d.ty == d.ty) = true := by simp
            go_upto_if 34 with (first
              | (go_at_call 11; (with_reducible refine HYP.out.mono ?_); rintro e w5 HQ; obtain ⟨b, rfl, hb⟩ := HQ.out; have HBB := Aside0.mk hb; have HB5 := Aside0.mk (HB7.out.trans (HQ.below.mono HB7.out.size)); clear HQ hb))
            cases b with
            | false =>
              have HNO : Aside0 (¬ X.ok g false ev d.ty 0) := ⟨fun hP => by rw [← HDG.out] at hP; exact absurd (HBB.out.2 (ok_head HDl.out hP).2) (by simp)⟩
              go_wp2_with (fail)
              go_ret
              exact ⟨⟨false, rfl, ⟨(fun h => nomatch h), fun hP => absurd hP HNO.out⟩⟩, HB5.out⟩
            | true =>
              have HOK := Aside0.mk (ok_snoc HDl.out HDO.out HTY.out.symm (HBB.out.1 rfl))
              go_wp2_with (fail)
              go_roundg (gk - 1)
              all_goals first
                | (have := HK.out; have := HCI.out; omega)
                | (exact ⟨i + 1, D.snoc d 0 ls fs, tl, t1, pr ++ [.int .i64 d.ty, .bool d.bo, .int .i64 d.n, .int .u64 (d.bits : Int), .slice X4 Xn4 Xk4, .int .i64 d.ky, .int .i64 d.el, .slice X7 Xn7 Xk7, .slice X8 Xn8 Xk8], HCI.out, by go_num, ⟨by rw [F.len_snoc, HDl.out]⟩, ⟨by rw [← F.app_snoc]; exact HDG.out⟩, ⟨by have := HGl.out; have : (F.cons d 0 ls fs tl).len = tl.len + 1 := rfl; omega⟩, HOK, ⟨by rw [HL9.out, List.append_assoc]⟩, ⟨by rw [List.length_append, HPR.out]; show i * 9 + 9 = (i + 1) * 9; omega⟩, HG7, ⟨HGA.out.2⟩, ⟨HGW.out.2.2.2.2.2.2⟩, HB5, ⟨by have := HK.out; omega⟩⟩)
          · have q5 : (d.ty == od) = false := by rw [beq_eq_false_iff_ne]; exact ct2
            have HNO : Aside0 (¬ X.ok g false ev od 0) := ⟨fun hP => by rw [← HDG.out] at hP; exact ct2 ((ok_head HDl.out hP).1.trans HTY.out)⟩
            go_wp2_with (fail)
            go_ret
            exact ⟨⟨false, rfl, ⟨(fun h => nomatch h), fun hP => absurd hP HNO.out⟩⟩, HB7.out⟩
        · have q33 : ((i : Int) % 2 == 1) = false := by rw [beq_eq_false_iff_ne]; omega
          have q34 : (i % 2 == 1) = false := by rw [beq_eq_false_iff_ne]; omega
          have HTY : Aside0 ((if i % 2 = 0 then ev else od) = ev) := ⟨by rw [if_pos (by omega)]⟩
          clear c3
          by_cases ct2 : d.ty = ev
          · subst ct2
            have q5 : (d.ty == d.ty) = true := by simp
            go_upto_if 34 with (first
              | (go_at_call 11; (with_reducible refine HYP.out.mono ?_); rintro e w5 HQ; obtain ⟨b, rfl, hb⟩ := HQ.out; have HBB := Aside0.mk hb; have HB5 := Aside0.mk (HB7.out.trans (HQ.below.mono HB7.out.size)); clear HQ hb))
            cases b with
            | false =>
              have HNO : Aside0 (¬ X.ok g false d.ty od 0) := ⟨fun hP => by rw [← HDG.out] at hP; exact absurd (HBB.out.2 (ok_head HDl.out hP).2) (by simp)⟩
              go_wp2_with (fail)
              go_ret
              exact ⟨⟨false, rfl, ⟨(fun h => nomatch h), fun hP => absurd hP HNO.out⟩⟩, HB5.out⟩
            | true =>
              have HOK := Aside0.mk (ok_snoc HDl.out HDO.out HTY.out.symm (HBB.out.1 rfl))
              go_wp2_with (fail)
              go_roundg (gk - 1)
              all_goals first
                | (have := HK.out; have := HCI.out; omega)
                | (exact ⟨i + 1, D.snoc d 0 ls fs, tl, t1, pr ++ [.int .i64 d.ty, .bool d.bo, .int .i64 d.n, .int .u64 (d.bits : Int), .slice X4 Xn4 Xk4, .int .i64 d.ky, .int .i64 d.el, .slice X7 Xn7 Xk7, .slice X8 Xn8 Xk8], HCI.out, by go_num, ⟨by rw [F.len_snoc, HDl.out]⟩, ⟨by rw [← F.app_snoc]; exact HDG.out⟩, ⟨by have := HGl.out; have : (F.cons d 0 ls fs tl).len = tl.len + 1 := rfl; omega⟩, HOK, ⟨by rw [HL9.out, List.append_assoc]⟩, ⟨by rw [List.length_append, HPR.out]; show i * 9 + 9 = (i + 1) * 9; omega⟩, HG7, ⟨HGA.out.2⟩, ⟨HGW.out.2.2.2.2.2.2⟩, HB5, ⟨by have := HK.out; omega⟩⟩)
          · have q5 : (d.ty == ev) = false := by rw [beq_eq_false_iff_ne]; exact ct2
            have HNO : Aside0 (¬ X.ok g false ev od 0) := ⟨fun hP => by rw [← HDG.out] at hP; exact ct2 ((ok_head HDl.out hP).1.trans HTY.out)⟩
            go_wp2_with (fail)
            go_ret
            exact ⟨⟨false, rfl, ⟨(fun h => nomatch h), fun hP => absurd hP HNO.out⟩⟩, HB7.out⟩
    · have hin : i = X.len := by omega
      have hDx : D = X := by
        have hg := HGl.out
        have hd := HDG.out
        cases G with
        | nil => rw [F.app_nil] at hd; exact hd
        | cons d id ls fs tl => exfalso; have : (F.cons d id ls fs tl).len = tl.len + 1 := rfl; omega
      have ct : decide ((i : Int) < (X.len : Nat)) = false := decide_eq_false (by omega)
      have ctt : decide (i < X.len) = false := decide_eq_false ci
      have HFI : Aside0 (X.ok g false ev od 0) := ⟨hDx ▸ HDO.out⟩
      clear hin hDx ci
      go_wp2_with (fail)
      go_ret
      exact ⟨⟨true, rfl, ⟨fun _ => HFI.out, fun _ => rfl⟩⟩, HB.out⟩
end Go.Proofs.YtcboegodjlfmnaaDoor.Tit
