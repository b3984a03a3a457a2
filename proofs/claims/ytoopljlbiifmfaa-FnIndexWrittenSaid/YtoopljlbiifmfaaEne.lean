import Derived.Test.YtoopljlbiifmfaaEnd
import Derived.Test.YtoopljlbiifmfaaRlx
/-! Numbers of 32 bits in runs: the encoder's walk. -/
namespace Go.Proofs.Ytoopljlbiifmfaa.Ene
open Go.Proofs.Ytoopljlbiifmfaa.Rlx Go.Proofs.Ytoopljlbiifmfaa.End Go.Proofs.Ytoopljlbiifmfaa.Enc Go.Proofs.Ytoopljlbiifmfaa.Enb Go.Proofs.Ytoopljlbiifmfaa.Ena Go.Proofs.Ytoopljlbiifmfaa.Dec Go.Proofs.Ytoopljlbiifmfaa.Uva Go.Proofs.Ytoopljlbiifmfaa.Rle Go.Proofs.Ytoopljlbiifmfaa.Run Go.Proofs.Ytoopljlbiifmfaa.Rlp Go.Proofs.Ytoopljlbiifmfaa.Rlb Go.Proofs.Ytoopljlbiifmfaa.Buf Go.Proofs.Ytoopljlbiifmfaa.Fit Go.Proofs.Ytoopljlbiifmfaa.Bit Go.Proofs.Ytoopljlbiifmfaa.Wrd Go.Proofs.Ytoopljlbiifmfaa.Spl Go.Proofs.Ytoopljlbiifmfaa.Str Go.Proofs.Ytoopljlbiifmfaa.Flt Go.Proofs.Ytoopljlbiifmfaa.Owe Go.Proofs.Ytoopljlbiifmfaa.Num Go.Proofs.Ytoopljlbiifmfaa.Le Go.Proofs.Ytoopljlbiifmfaa.Lst Go.Proofs.Ytoopljlbiifmfaa.Aid Go.RowKit Go.Proofs.YtoopljlbiifmfaaW.PrintWords Go.Proofs.YtoopljlbiifmfaaW.PrintLast Go.Proofs.YtoopljlbiifmfaaW.PrintMore
set_option linter.unusedVariables false
set_option linter.unusedSimpArgs false
/-- what the loops keep: the target's block apart from the words' block -/
structure Sti (w0 : World) (gw : Nat) (ws : List Int) (v : Value) (xs : List Int) (w : World) : Prop where
  own : Own w w0.heap.size 5 .u8 v xs
  bel : Below w0.heap.size w0 w
  words : Row w gw 84 .i32 ws
  ne : v.ownBlock ≠ some gw
theorem _root_.Go.Proofs.Ytoopljlbiifmfaa.Ene.Sti.below' {w0 w W : World} {gw : Nat} {ws xs : List Int} {v : Value} (h : Sti w0 gw ws v xs w) (hb : Below w.heap.size w W) : Sti w0 gw ws v xs W :=
  ⟨h.own.below hb, h.bel.trans (hb.mono h.bel.size), h.words.grown (grownOfBelow hb rfl none) (by simp), h.ne⟩
theorem _root_.Go.Proofs.Ytoopljlbiifmfaa.Ene.Sti.drawn {w0 w W : World} {gw : Nat} {ws xs : List Int} {v : Value} (h : Sti w0 gw ws v xs w) (d : Drawn0 w W) : Sti w0 gw ws v xs W := by
  obtain ⟨n, rfl⟩ := d.out
  exact h.below' (drewN_below w n)
theorem _root_.Go.Proofs.Ytoopljlbiifmfaa.Ene.Sti.step {w0 w W : World} {gw : Nat} {ws xs ys : List Int} {v v1 : Value} (h : Sti w0 gw ws v xs w) (ho : Own W w0.heap.size 5 .u8 v1 ys) (hb : Below w0.heap.size w0 W) (hg : w.grownBy W v.ownBlock) (hat : Hat w v v1) : Sti w0 gw ws v1 ys W :=
  ⟨ho, hb, h.words.grown hg (fun e => h.ne e.symm), by
    rcases hat.out with e | ⟨g, e, hgt⟩
    · rw [e]; exact h.ne
    · rw [e]; intro e2; injection e2 with e2; have := h.words.lt; omega⟩
theorem _root_.Go.Proofs.Ytoopljlbiifmfaa.Ene.Sti.C {w0 w : World} {gw : Nat} {ws xs : List Int} {v : Value} (h : Sti w0 gw ws v xs w) (hl : ws.length ≤ 1000000) : (Kd.int .i32).C w (some ⟨gw, 0, none⟩) ws.length ws := rowC h.words rfl (by omega)
theorem _root_.Go.Proofs.Ytoopljlbiifmfaa.Ene.Sti.grownC {w0 w W : World} {gw : Nat} {ws xs : List Int} {v : Value} (h : Sti w0 gw ws v xs w) (hg : w.grownBy W v.ownBlock) (hl : ws.length ≤ 1000000) : (Kd.int .i32).C W (some ⟨gw, 0, none⟩) ws.length ws := rowC (h.words.grown hg (fun e => h.ne e.symm)) rfl (by omega)
theorem wide_get (l : List Int) (p : Nat) (hp : p < l.length) : rd (wideL 32 l) (p : Nat) = rd l (p : Nat) % 4294967296 := by
  rw [rd_nat _ _ (by unfold wideL; rw [List.length_map]; exact hp), rd_nat _ _ hp]
  unfold wideL
  rw [List.getElem_map]
  rfl
theorem wide_cut (l : List Int) (m i h : Nat) (hh : h ≤ m) : wideL 32 (((l.take (8 * m)).take (8 * h)).drop (8 * i)) = ((wideL 32 l).drop (8 * i)).take (8 * (h - i)) := by
  unfold wideL
  rw [List.take_take, Nat.min_eq_left (by omega), List.map_drop, List.map_take, List.drop_take, show 8 * h - 8 * i = 8 * (h - i) by omega]
theorem rep_bytesI (b y K sz : Nat) (hs : (b + 7) / 8 = sz) : varL (2 * K) ++ lowL sz (y : Int) = (R.rep y K).bytes b := by
  simp only [R.bytes, hs]
theorem hyb_bdI {b : Nat} {l : List Int} {rs : List R} {c n : Nat} (hw8 : b ≤ 32) (h : hybOk b rs) (hv : hybV rs = l.take c) (hl : l.length = n) (hn : n ≤ 100000) : (hyb b rs).length ≤ 900000 := by
  have h2 : (hybV rs).length ≤ 100000 := by rw [hv, List.length_take]; omega
  have := hyb_le b (by omega) rs h (by omega)
  omega
set_option maxHeartbeats 16000000 in
set_option maxRecDepth 100000 in
theorem encodeInt32_calls (w0 : World) (A : Option Addr) (n c : Nat) (b : Nat) (v : Value) (xs l : List Int) (w : World) (hO : Own w w0.heap.size 5 .u8 v xs) (hB : Below w0.heap.size w0 w) (hC : (Kd.int .i32).C w0 A n l) (hc : n ≤ c) (hn : n ≤ 100000) (hx : xs.length ≤ 16) (hw1 : 1 ≤ b) (hw8 : b ≤ 32) (hu : fitL b (wideL 32 l)) (hwf : ∀ x ∈ l, (Lit.int .i32 x).wf = true) :
    Calls Try.prog 31 #[v, .slice A n c, .int .u64 b] w fun e w' => ∃ v1 rs, e = .returned (.tuple #[v1, .nilIface]) ∧ Own w' w0.heap.size 5 .u8 v1 (xs ++ hyb b rs) ∧ hybV rs = wideL 32 l ∧ hybOk b rs ∧ Below w0.heap.size w0 w' := by
  have HLN : Aside0 (l.length = n) := ⟨hC.1⟩
  have HC := Aside0.mk hC
  have HWF := Aside0.mk hwf
  obtain ⟨wl, hwl⟩ : ∃ wl, wideL 32 l = wl := ⟨_, rfl⟩
  have HWG : Aside0 (∀ p : Nat, p < n → rd wl (p : Nat) = rd l (p : Nat) % 4294967296) := ⟨fun p hp => by rw [← hwl]; exact wide_get l p (by rw [HLN.out]; exact hp)⟩
  have HWN : Aside0 (wl.length = n) := ⟨by rw [← hwl]; unfold wideL; rw [List.length_map, HLN.out]⟩
  rw [hwl] at hu ⊢
  have HWL := Aside0.mk hwl
  have HU := Aside0.mk hu
  have HXL := Aside0.mk hx
  obtain ⟨sz, hsz⟩ : ∃ sz, (b + 7) / 8 = sz := ⟨_, rfl⟩
  have HSZ := Aside0.mk hsz
  obtain ⟨m, hm⟩ : ∃ m, n / 8 = m := ⟨_, rfl⟩
  have hmI : (n : Int) / 8 = (m : Int) := by omega
  have qw0 : ((b : Int) == 0) = false := by rw [beq_eq_false_iff_ne]; omega
  have qw8 : decide (32 < (b : Int)) = false := decide_eq_false (by omega)
  have qw82 : decide (32 < b) = false := decide_eq_false (by omega)
  have HWO := Aside0.mk (wordsOf_calls A n c m l w (Kd.C_below hC hB) hc (by omega) hm)
  have HO0 := Aside0.mk hO
  have HB0 := Aside0.mk hB
  obtain ⟨h32, hh32⟩ : ∃ i, (Try.prog.info? 84) = some i ∧ i.size = 8 := Option.map_eq_some_iff.1 (show (Try.prog.info? 84).map (fun i => i.size) = some 8 by kernel_rfl)
  clear hC hu hwl hO hB hx hwf hsz
  go_enter Try.func31, Try.ntmps31
  go_upto_if 35 with (fail)
  go_cut [0] from 33 (fun v0 wx => ∃ rs, Aside0 (Own wx w0.heap.size 5 .u8 v0 (xs ++ hyb b rs)) ∧ Aside0 (hybV rs = wl.take (8 * m)) ∧ Aside0 (hybOk b rs) ∧ Aside0 (Below w0.heap.size w0 wx))
  case first =>
    by_cases c8 : 8 ≤ n
    · have q8 : decide (8 ≤ (n : Int)) = true := decide_eq_true (by omega)
      have q82 : decide (8 ≤ n) = true := decide_eq_true c8
      go_wp2_with (first
        | (go_at_call 46; go_loud (with_reducible refine HWO.out.mono ?_); rintro e wm ⟨rfl, hr, hbw, hlt⟩; have HR := Aside0.mk hr; have HBW := Aside0.mk hbw; clear hr hbw hlt))
      obtain ⟨gw, hgw⟩ : ∃ gw, w.heap.size = gw := ⟨_, rfl⟩
      have HST : Aside0 (Sti w0 gw (l.take (8 * m)) v (xs ++ hyb b []) wm) := ⟨⟨by rw [show xs ++ hyb b [] = xs by simp [hyb]]; exact HO0.out.below HBW.out, HB0.out.trans (HBW.out.mono HB0.out.size), by rw [← hgw]; exact HR.out, fun e => by have := own_lt HO0.out.out gw e; omega⟩⟩
      rw [hgw] at HR ⊢
      obtain ⟨ws, hws⟩ : ∃ ws, l.take (8 * m) = ws := ⟨_, rfl⟩
      have HWL8 : Aside0 (ws.length = 8 * m) := ⟨by rw [← hws, List.length_take, HLN.out]; omega⟩
      have HWR : Aside0 (∀ p : Nat, p < 8 * m → rd ws (p : Nat) = rd l (p : Nat)) := ⟨fun p hp => by
        rw [← hws, rd_nat _ _ (by rw [List.length_take, HLN.out]; omega), rd_nat _ _ (by rw [HLN.out]; omega), List.getElem_take]⟩
      have HWW : Aside0 (∀ x ∈ ws, (Lit.int .i32 x).wf = true) := ⟨fun x hx => HWF.out x (by rw [← hws] at hx; exact List.mem_of_mem_take hx)⟩
      rw [hws] at HST
      have HWS := Aside0.mk hws
      obtain ⟨ad, had⟩ : ∃ ad : Addr, (⟨gw, 0, none⟩ : Addr) = ad := ⟨_, rfl⟩
      have HSC : Aside0 (∀ v xs W, Sti w0 gw ws v xs W → (Kd.int .i32).C W (some ad) (8 * m) ws) := ⟨fun v xs W h => by rw [← had, ← HWL8.out]; exact h.C (by rw [HWL8.out]; omega)⟩
      have HSG : Aside0 (∀ v xs W W2, Sti w0 gw ws v xs W → W.grownBy W2 v.ownBlock → (Kd.int .i32).C W2 (some ad) (8 * m) ws) := ⟨fun v xs W W2 h hg => by rw [← had, ← HWL8.out]; exact h.grownC hg (by rw [HWL8.out]; omega)⟩
      rw [had]
      clear hgw had hws HR HO0 HB0 HBW
      go_loopg [0, 9] m (fun kq v0 v9 w' => ∃ (i : Nat) (rs : List R), i ≤ m ∧ v9 = .int .i64 i ∧ Aside0 (Sti w0 gw ws v0 (xs ++ hyb b rs) w') ∧ Aside0 (hybV rs = wl.take (8 * i)) ∧ Aside0 (hybOk b rs) ∧ Aside0 (m - i ≤ kq))
      case atStart => exact ⟨0, [], by omega, rfl, HST, ⟨by simp [hybV]⟩, ⟨fun x hx => by cases hx⟩, ⟨by omega⟩⟩
      case round =>
        obtain ⟨i, rs, hi, rfl, HST1, HV, HOK, HK3⟩ := hrel
        clear HST
        by_cases ci : i < m
        · have cib : decide ((i : Int) < m) = true := decide_eq_true (by omega)
          obtain ⟨gk0, rfl⟩ : ∃ gk0, gk = gk0 + 1 := ⟨gk - 1, by have := HK3.out; omega⟩
          obtain ⟨ad', e', hc0, -⟩ := at8 (HSC.out _ _ _ HST1.out) i ci
          obtain rfl : ad = ad' := by injection e'
          obtain ⟨y, hy⟩ : ∃ y, rd ws (8 * i : Nat) = y := ⟨_, rfl⟩
          rw [hy] at hc0
          have HYY : Aside0 (rd ws (8 * i : Nat) = y) := ⟨hy⟩
          obtain ⟨u, hu⟩ : ∃ u : Nat, y % 4294967296 = (u : Int) := ⟨(y % 4294967296).toNat, by omega⟩
          have HUU := Aside0.mk hu
          have HBR := Aside0.mk fun W => broadcast8x4_calls y W
          clear hy hu e'
          go_wp2_with (first
            | (go_at_call 47; (with_reducible refine (HBR.out _).mono ?_); rintro e w2 ⟨rfl, hb⟩; have HB2 := Aside0.mk hb; clear hb))
          have HST2 : Aside0 (Sti w0 gw ws u0 (xs ++ hyb b rs) (w2.alloc (.cells #[.int .i32 y, .int .i32 y, .int .i32 y, .int .i32 y, .int .i32 y, .int .i32 y, .int .i32 y, .int .i32 y] 84))) := ⟨(HST1.out.below' HB2.out).below' ((Below.refl _ _).alloc (Nat.le_refl _) _)⟩
          have HBK : Aside0 (∀ W, Drawn0 (w2.alloc (.cells #[.int .i32 y, .int .i32 y, .int .i32 y, .int .i32 y, .int .i32 y, .int .i32 y, .int .i32 y, .int .i32 y] 84)) W → ∀ q : Nat, q < 8 → W.cell? ⟨w2.heap.size, q, none⟩ = some (.int .i32 y)) := ⟨fun W hd q hq => by
            obtain ⟨nd, rfl⟩ := hd.out
            have h := ((Blk.new w2 #[.int .i32 y, .int .i32 y, .int .i32 y, .int .i32 y, .int .i32 y, .int .i32 y, .int .i32 y, .int .i32 y] 84).drewN nd)
            refine h.cell ?_
            rcases q with _|_|_|_|_|_|_|_|q <;> first | rfl | omega⟩
          generalize w2.alloc (.cells #[.int .i32 y, .int .i32 y, .int .i32 y, .int .i32 y, .int .i32 y, .int .i32 y, .int .i32 y, .int .i32 y] 84) = wp at *
          obtain ⟨gp, hgp⟩ : ∃ gp, w2.heap.size = gp := ⟨_, rfl⟩
          rw [hgp] at HBK ⊢
          clear hgp HB2
          go_loopg [10] m (fun kq v10 w' => ∃ (k : Nat), i ≤ k ∧ k ≤ m ∧ v10 = .int .i64 k ∧ Aside0 (∀ q : Nat, 8 * i ≤ q → q < 8 * k → rd ws (q : Nat) = y) ∧ Aside0 (Drawn0 wp w') ∧ Aside0 (m - k ≤ kq))
          case atStart => exact ⟨i, Nat.le_refl _, by omega, rfl, ⟨fun q h1 h2 => by omega⟩, ⟨Drawn0.refl _⟩, ⟨by omega⟩⟩
          case round =>
            obtain ⟨k, hik, hkm, rfl, HQ, HD, HK4⟩ := hrel
            have HST3 := Aside0.mk (HST2.out.drawn HD.out)
            have p0 := HBK.out wr HD.out 0 (by omega)
            have p1 := HBK.out wr HD.out 1 (by omega)
            have p2 := HBK.out wr HD.out 2 (by omega)
            have p3 := HBK.out wr HD.out 3 (by omega)
            have p4 := HBK.out wr HD.out 4 (by omega)
            have p5 := HBK.out wr HD.out 5 (by omega)
            have p6 := HBK.out wr HD.out 6 (by omega)
            have p7 := HBK.out wr HD.out 7 (by omega)
            have hbp := World.block_lt_of_cell? wr _ p0
            have qi0 : (0 : Int) ≤ (k : Int) := by omega
            by_cases ck1 : k < m
            · have ckb : decide ((k : Int) < m) = true := decide_eq_true (by omega)
              have ckb2 : decide (k < m) = true := decide_eq_true ck1
              have qi1 : (k : Int) < (m : Int) := by omega
              obtain ⟨ad', e', d0, d8⟩ := at8 (HSC.out _ _ _ HST3.out) k ck1
              obtain rfl : ad = ad' := by injection e'
              obtain ⟨z0, hz0⟩ : ∃ z, rd ws (8 * k : Nat) = z := ⟨_, rfl⟩
              rw [hz0] at d0
              have HZ0 := Aside0.mk hz0
              have d1 := d8 1 (by omega) (by omega)
              obtain ⟨z1, hz1⟩ : ∃ z, rd ws (8 * k + 1 : Nat) = z := ⟨_, rfl⟩
              rw [hz1] at d1
              have HZ1 := Aside0.mk hz1
              have d2 := d8 2 (by omega) (by omega)
              obtain ⟨z2, hz2⟩ : ∃ z, rd ws (8 * k + 2 : Nat) = z := ⟨_, rfl⟩
              rw [hz2] at d2
              have HZ2 := Aside0.mk hz2
              have d3 := d8 3 (by omega) (by omega)
              obtain ⟨z3, hz3⟩ : ∃ z, rd ws (8 * k + 3 : Nat) = z := ⟨_, rfl⟩
              rw [hz3] at d3
              have HZ3 := Aside0.mk hz3
              have d4 := d8 4 (by omega) (by omega)
              obtain ⟨z4, hz4⟩ : ∃ z, rd ws (8 * k + 4 : Nat) = z := ⟨_, rfl⟩
              rw [hz4] at d4
              have HZ4 := Aside0.mk hz4
              have d5 := d8 5 (by omega) (by omega)
              obtain ⟨z5, hz5⟩ : ∃ z, rd ws (8 * k + 5 : Nat) = z := ⟨_, rfl⟩
              rw [hz5] at d5
              have HZ5 := Aside0.mk hz5
              have d6 := d8 6 (by omega) (by omega)
              obtain ⟨z6, hz6⟩ : ∃ z, rd ws (8 * k + 6 : Nat) = z := ⟨_, rfl⟩
              rw [hz6] at d6
              have HZ6 := Aside0.mk hz6
              have d7 := d8 7 (by omega) (by omega)
              obtain ⟨z7, hz7⟩ : ∃ z, rd ws (8 * k + 7 : Nat) = z := ⟨_, rfl⟩
              rw [hz7] at d7
              have HZ7 := Aside0.mk hz7
              have hbz := World.block_lt_of_cell? wr _ d0
              have heq := eql8 z0 z1 z2 z3 z4 z5 z6 z7 y y y y y y y y
              obtain ⟨B, hBq⟩ : ∃ B : Bool, (z0 == y && (z1 == y && (z2 == y && (z3 == y && (z4 == y && (z5 == y && (z6 == y && z7 == y))))))) = B := ⟨_, rfl⟩
              rw [hBq] at heq
              have HBQ := Aside0.mk hBq
              clear e' d8 hBq hz0 hz1 hz2 hz3 hz4 hz5 hz6 hz7
              cases B
              case true =>
                go_wp2_with (first
                  | (go_quiet (fail)))
                go_roundg (gk - 1)
                case measure => have := HK4.out; omega
                case rel => exact ⟨k + 1, by omega, by omega, by go_num, ⟨fun q h1 h2 => by
                  by_cases h : q < 8 * k
                  · exact HQ.out q h1 h
                  · have hb := HBQ.out
                    simp only [Bool.and_eq_true, beq_iff_eq] at hb
                    obtain ⟨b0, b1, b2, b3, b4, b5, b6, b7⟩ := hb
                    obtain ⟨r, rfl⟩ : ∃ r, q = 8 * k + r := ⟨q - 8 * k, by omega⟩
                    have hr : r < 8 := by omega
                    rcases r with _|_|_|_|_|_|_|_|r
                    · exact HZ0.out.trans b0
                    · exact HZ1.out.trans b1
                    · exact HZ2.out.trans b2
                    · exact HZ3.out.trans b3
                    · exact HZ4.out.trans b4
                    · exact HZ5.out.trans b5
                    · exact HZ6.out.trans b6
                    · exact HZ7.out.trans b7
                    · omega⟩, ⟨drawnTrans HD.out ⟨⟨_, rfl⟩⟩⟩, ⟨by have := HK4.out; omega⟩⟩
              case false =>
                by_cases cik : i < k
                · obtain ⟨K, hK⟩ : ∃ K, 8 * (k - i) = K := ⟨_, rfl⟩
                  have hKI : (8 : Int) * ((k : Int) - (i : Int)) = (K : Int) := by omega
                  have qik : decide ((i : Int) < (k : Int)) = true := decide_eq_true (by omega)
                  have qik2 : decide (i < k) = true := decide_eq_true cik
                  have hkb : k - i ≤ 100000 := by omega
                  have HKQ := Aside0.mk hK
                  have HSTd := Aside0.mk fun nd => HST3.out.below' (drewN_below wr nd)
                  have HCALL := Aside0.mk fun nd => appendRunLengthInt32_calls w0 w0.heap.size u0 (xs ++ hyb b rs) K y u b sz (wr.drewN nd) (HSTd.out nd).own (HSTd.out nd).bel (HSTd.out nd).bel.size (by rw [List.length_append]; have := hyb_bdI hw8 HOK.out HV.out HWN.out hn; have := HXL.out; omega) (by omega) HUU.out hw1 hw8 HSZ.out
                  clear hK
                  go_wp2_with (first
                    | (go_quiet (fail))
                    | (go_at_call 48; go_loud (with_reducible refine (HCALL.out _).mono ?_); rintro e w5 ⟨v5, rfl, ho, hb, hg, hat⟩; have HST5 := Aside0.mk ((HSTd.out _).step ho hb hg hat); clear ho hb hg hat))
                  go_roundg gk0
                  case measure => omega
                  case rel =>
                    have hK0 := HKQ.out
                    have hwu : ∀ p : Nat, 8 * i ≤ p → p < 8 * k → rd wl (p : Nat) = (u : Int) := fun p h1 h2 => by
                      rw [HWG.out p (by omega), ← HWR.out p (by omega), HQ.out p h1 h2, HUU.out]
                    have hyl : rd wl (8 * i : Nat) ∈ wl := rd_mem (by rw [HWN.out]; omega)
                    have hyf := HU.out _ hyl
                    rw [hwu (8 * i) (by omega) (by omega)] at hyf
                    have hy0 : u < 2 ^ b := by have := hyf.2; exact_mod_cast this
                    refine ⟨k, rs ++ [R.rep u K], by omega, rfl, ⟨?_⟩, ⟨?_⟩, ⟨hybOk_snoc HOK.out ⟨by omega, hy0⟩⟩, ⟨by have := HK3.out; omega⟩⟩
                    · rw [hyb_snoc, ← rep_bytesI b u K sz HSZ.out, ← List.append_assoc]; exact HST5.out
                    · rw [hybV_snoc, HV.out]
                      show wl.take (8 * i) ++ List.replicate K (u : Int) = _
                      rw [← hK0, show 8 * (k - i) = 8 * k - 8 * i by omega]
                      exact take_rep wl (8 * i) (8 * k) u (by omega) (by rw [HWN.out]; omega) hwu
                · obtain rfl : i = k := by omega
                  have qik : decide ((i : Int) < (i : Int)) = false := decide_eq_false (by omega)
                  obtain ⟨A1, cut1, hC1⟩ := cutLo8 (P := Try.prog) 82 84 Try.underlying82 hh32.1 hh32.2 (some ad) m m .i64 ((i : Int) + 1) (i + 1) (by omega) (by omega) (Nat.le_refl _)
                  obtain ⟨r, hr⟩ : ∃ r, m - (i + 1) = r := ⟨_, rfl⟩
                  rw [hr] at cut1 hC1
                  have HIX : Aside0 (∀ nd, Calls Try.prog 49 #[.slice A1 r r] (wr.drewN nd) fun e w' => ∃ n : Nat, e = .returned (.int .i64 n) ∧ n ≤ r ∧ Below (wr.drewN nd).heap.size (wr.drewN nd) w') := ⟨fun nd => index8_calls A1 r r (ws.drop (8 * (i + 1))) (wr.drewN nd) (hC1 _ _ (HSC.out _ _ _ (HST3.out.below' (drewN_below wr nd)))) (Nat.le_refl _) (by omega)⟩
                  have HSTd := Aside0.mk fun nd => HST3.out.below' (drewN_below wr nd)
                  have HCUT : Aside0 (∀ h, i + 1 ≤ h → h ≤ m → ∃ A2, (∀ W : World, (Instr.slice 82 (.slice (some ad) m m) (some (.int .i64 (i : Int))) (some (.int .i64 (h : Int))) none).run Try.prog W = .ok (.slice A2 (h - i) (m - i)) W) ∧ ∀ (w : World) (xs : List Int), (Kd.int .i32).C w (some ad) (8 * m) xs → (Kd.int .i32).C w A2 (8 * (h - i)) ((xs.take (8 * h)).drop (8 * i))) := ⟨fun h h1 h2 => cutMid8 (P := Try.prog) 82 84 Try.underlying82 hh32.1 hh32.2 (some ad) m m .i64 .i64 (i : Int) (h : Int) i h rfl rfl (by omega) h2 (Nat.le_refl _)⟩
                  have HRQ := Aside0.mk hr
                  clear hC1 hr
                  go_wp2_with (first
                    | (go_quiet (fail))
                    | (go_at_call 49; go_loud (with_reducible refine (HIX.out _).mono ?_); rintro e w4 ⟨t, rfl, ht, hb⟩; obtain ⟨h, hh⟩ : ∃ h, i + 1 + t = h := ⟨_, rfl⟩; have hhI : (i : Int) + 1 + (t : Int) = (h : Int) := (by omega); have hhm : h ≤ m := (by have := HRQ.out; omega); have HST4 := Aside0.mk ((HSTd.out _).below' hb); obtain ⟨A2, cut2, hC2⟩ := HCUT.out h (by omega) hhm; obtain ⟨K, hK⟩ : ∃ K, h - i = K := ⟨_, rfl⟩; rw [hK] at cut2 hC2; have HCALL := Aside0.mk (appendBitPackedInt32_calls w0 w0.heap.size u0 (xs ++ hyb b rs) A2 K (m - i) b ((ws.take (8 * h)).drop (8 * i)) w4 HST4.out.own HST4.out.bel HST4.out.bel.size (by rw [List.length_append]; have := hyb_bdI hw8 HOK.out HV.out HWN.out hn; have := HXL.out; omega) (fun W hW => hC2 W ws (HSG.out _ _ _ _ HST4.out hW)) (by omega) (by omega) hw1 hw8 (fun x hx => HWW.out x (List.mem_of_mem_take (List.mem_of_mem_drop hx)))); have HKQ := Aside0.mk hK; have HHQ := Aside0.mk hh; clear hC2 hK hh hb ht)
                    | (go_at_call 50; go_loud (with_reducible refine HCALL.out.mono ?_); rintro e w5 ⟨v5, rfl, ho, hb, hg, hat⟩; have HO5 := Aside0.mk ho; have HST5 := Aside0.mk (HST4.out.step ho hb hg hat); clear ho hb hg hat))
                  go_roundg gk0
                  case measure => omega
                  case rel =>
                    obtain ⟨L, hL⟩ : ∃ L, (wl.drop (8 * i)).take (8 * K) = L := ⟨_, rfl⟩
                    have hK0 := HKQ.out
                    have hH0 := HHQ.out
                    have hLL : L.length = 8 * K := by rw [← hL, List.length_take, List.length_drop, HWN.out]; omega
                    have hWC := wide_cut l m i h hhm
                    rw [HWS.out, HWL.out, hK0, hL] at hWC
                    refine ⟨h, rs ++ [R.grp L], hhm, rfl, ⟨?_⟩, ⟨?_⟩, ⟨hybOk_snoc HOK.out ⟨by rw [hLL]; omega, by rw [hLL]; omega, fun x hx => HU.out x (by rw [← hL] at hx; exact List.mem_of_mem_drop (List.mem_of_mem_take hx))⟩⟩, ⟨by have := HK3.out; omega⟩⟩
                    · have e : xs ++ hyb b (rs ++ [R.grp L]) = (xs ++ hyb b rs) ++ (varL (2 * K + 1) ++ packLo b (wideL 32 ((ws.take (8 * h)).drop (8 * i)))) := by
                        rw [hyb_snoc, hWC, List.append_assoc]
                        show xs ++ (_ ++ (varL (2 * (L.length / 8) + 1) ++ packLo b L)) = _
                        rw [hLL, show 8 * K / 8 = K by omega]
                      rw [e]; exact HST5.out
                    · rw [hybV_snoc, HV.out]
                      show wl.take (8 * i) ++ L = _
                      rw [← hL, ← List.take_add]
                      congr 1
                      omega
            · obtain rfl : k = m := by omega
              have ckb : decide ((k : Int) < k) = false := decide_eq_false (by omega)
              have cik : i < k := ci
              obtain ⟨K, hK⟩ : ∃ K, 8 * (k - i) = K := ⟨_, rfl⟩
              have hKI : (8 : Int) * ((k : Int) - (i : Int)) = (K : Int) := by omega
              have qik : decide ((i : Int) < (k : Int)) = true := decide_eq_true (by omega)
              have qik2 : decide (i < k) = true := decide_eq_true cik
              have hkb : k - i ≤ 100000 := by omega
              have HKQ := Aside0.mk hK
              have HSTd := Aside0.mk fun nd => HST3.out.below' (drewN_below wr nd)
              have HCALL := Aside0.mk fun nd => appendRunLengthInt32_calls w0 w0.heap.size u0 (xs ++ hyb b rs) K y u b sz (wr.drewN nd) (HSTd.out nd).own (HSTd.out nd).bel (HSTd.out nd).bel.size (by rw [List.length_append]; have := hyb_bdI hw8 HOK.out HV.out HWN.out hn; have := HXL.out; omega) (by omega) HUU.out hw1 hw8 HSZ.out
              clear hK
              go_wp2_with (first
                | (go_quiet (fail))
                | (go_at_call 48; go_loud (with_reducible refine (HCALL.out _).mono ?_); rintro e w5 ⟨v5, rfl, ho, hb, hg, hat⟩; have HST5 := Aside0.mk ((HSTd.out _).step ho hb hg hat); clear ho hb hg hat))
              go_roundg gk0
              case measure => omega
              case rel =>
                have hK0 := HKQ.out
                have hwu : ∀ p : Nat, 8 * i ≤ p → p < 8 * k → rd wl (p : Nat) = (u : Int) := fun p h1 h2 => by
                  rw [HWG.out p (by omega), ← HWR.out p (by omega), HQ.out p h1 h2, HUU.out]
                have hyl : rd wl (8 * i : Nat) ∈ wl := rd_mem (by rw [HWN.out]; omega)
                have hyf := HU.out _ hyl
                rw [hwu (8 * i) (by omega) (by omega)] at hyf
                have hy0 : u < 2 ^ b := by have := hyf.2; exact_mod_cast this
                refine ⟨k, rs ++ [R.rep u K], by omega, rfl, ⟨?_⟩, ⟨?_⟩, ⟨hybOk_snoc HOK.out ⟨by omega, hy0⟩⟩, ⟨by have := HK3.out; omega⟩⟩
                · rw [hyb_snoc, ← rep_bytesI b u K sz HSZ.out, ← List.append_assoc]; exact HST5.out
                · rw [hybV_snoc, HV.out]
                  show wl.take (8 * i) ++ List.replicate K (u : Int) = _
                  rw [← hK0, show 8 * (k - i) = 8 * k - 8 * i by omega]
                  exact take_rep wl (8 * i) (8 * k) u (by omega) (by rw [HWN.out]; omega) hwu
        · obtain rfl : i = m := by omega
          have cib : decide ((i : Int) < i) = false := decide_eq_false (by omega)
          go_wp2_with (fail)
          go_meet
          exact ⟨rs, ⟨HST1.out.own⟩, HV, HOK, ⟨HST1.out.bel⟩⟩
    · have q8 : decide (8 ≤ (n : Int)) = false := decide_eq_false (by omega)
      have q82 : decide (8 ≤ n) = false := decide_eq_false c8
      obtain rfl : m = 0 := by omega
      go_wp2_with (fail)
      go_meet
      exact ⟨[], ⟨by rw [show xs ++ hyb b [] = xs by simp [hyb]]; exact HO0.out⟩, ⟨by simp [hybV]⟩, ⟨fun x hx => by cases hx⟩, HB0⟩
  case rest =>
    obtain ⟨rs0, HO, HV, HOK, HB⟩ := hcut
    have hmI2 : (m : Int) * 8 = ((8 * m : Nat) : Int) := by omega
    obtain ⟨M, hM⟩ : ∃ M, 8 * m = M := ⟨_, rfl⟩
    rw [hM] at hmI2 HV
    clear HWO HO0 HB0
    go_wp2_with (fail)
    go_loopg [0, 12] n (fun kq v0 v12 w' => ∃ (i : Nat) (rs : List R), i ≤ n ∧ v12 = .int .i64 i ∧ Aside0 (Own w' w0.heap.size 5 .u8 v0 (xs ++ hyb b rs)) ∧ Aside0 (hybV rs = wl.take i) ∧ Aside0 (hybOk b rs) ∧ Aside0 (Below w0.heap.size w0 w') ∧ Aside0 (n - i ≤ kq))
    case atStart => exact ⟨M, rs0, by omega, rfl, HO, HV, HOK, HB, ⟨by omega⟩⟩
    case round =>
      clear HO HV HOK HB
      obtain ⟨i, rs, hi, rfl, HO, HV, HOK, HB, HK3⟩ := hrel
      by_cases ci : i < n
      · have cib : decide ((i : Int) < n) = true := decide_eq_true (by omega)
        have cib2 : decide (i < n) = true := decide_eq_true ci
        obtain ⟨gk0, rfl⟩ : ∃ gk0, gk = gk0 + 1 := ⟨gk - 1, by have := HK3.out; omega⟩
        obtain ⟨y, hy⟩ : ∃ y, rd l (i : Nat) = y := ⟨_, rfl⟩
        obtain ⟨u, hu⟩ : ∃ u : Nat, y % 4294967296 = (u : Int) := ⟨(y % 4294967296).toNat, by omega⟩
        have HUU := Aside0.mk hu
        have HWU : Aside0 (rd wl (i : Nat) = (u : Int)) := ⟨by rw [HWG.out i ci, hy, hu]⟩
        have HY0 : Aside0 (u < 2 ^ b) := ⟨by
          have hyf := HU.out _ (rd_mem (l := wl) (i := i) (by rw [HWN.out]; exact ci))
          rw [HWU.out] at hyf
          have := hyf.2; exact_mod_cast this⟩
        have HYY := Aside0.mk hy
        clear hy hu
        go_wp2_with (fail)
        go_loopg [13] n (fun kq v13 w' => ∃ (q : Nat), i ≤ q ∧ q + 1 ≤ n ∧ v13 = .int .i64 ((q : Int) + 1) ∧ Aside0 (∀ p : Nat, i ≤ p → p ≤ q → rd l (p : Nat) = y) ∧ Aside0 (Drawn0 wr w') ∧ Aside0 (n - q ≤ kq))
        case atStart => exact ⟨i, Nat.le_refl _, by omega, by go_num, ⟨fun p h1 h2 => by have e : p = i := (by omega); rw [e]; exact HYY.out⟩, ⟨Drawn0.refl _⟩, ⟨by omega⟩⟩
        case round =>
          obtain ⟨q, hiq, hqj, rfl, HQ, HD, HK5⟩ := hrel
          have HOq := Aside0.mk (own_drawn HO.out HD.out)
          have HBq := Aside0.mk (below_drawn HB.out HD.out)
          obtain ⟨ad, ead, d0⟩ := Kd.at_int (Kd.C_below HC.out HBq.out) (i : Int) (by omega) (by omega)
          rw [Int.toNat_natCast, HYY.out] at d0
          have b0 := World.block_lt_of_cell? wr _ d0
          have qi2 : (0 : Int) ≤ (q : Int) + 1 := by omega
          have qi1 : (i : Int) < (n : Int) := by omega
          have qi6 : (0 : Int) ≤ (i : Int) := by omega
          have qn : ((q : Int) + 1).toNat = q + 1 := by omega
          by_cases cq : q + 1 < n
          · have cqb : decide ((q : Int) + 1 < (n : Int)) = true := decide_eq_true (by omega)
            have qi5 : (q : Int) + 1 < (n : Int) := by omega
            obtain ⟨ad', ead', d1⟩ := Kd.at_int (Kd.C_below HC.out HBq.out) ((q + 1 : Nat) : Int) (by omega) (by omega)
            obtain rfl : ad = ad' := by rw [ead] at ead'; injection ead'
            rw [Int.toNat_natCast] at d1
            have eadd : ad.add (q + 1) = ⟨ad.block, ad.off + (q + 1), none⟩ := by simp [Addr.add]
            rw [eadd] at d1
            obtain ⟨z, hz⟩ : ∃ z, rd l ((q + 1 : Nat) : Int) = z := ⟨_, rfl⟩
            rw [hz] at d1
            have HZ := Aside0.mk hz
            clear eadd hz
            subst ead
            by_cases ce : y = z
            · have qe : (y == z) = true := by rw [ce]; simp
              have HCE := Aside0.mk ce
              subst ce
              go_wp2_with (first
                | (go_quiet (fail)))
              go_roundg (gk - 1)
              case measure => have := HK5.out; omega
              case rel => exact ⟨q + 1, by omega, by omega, by go_num, ⟨fun p h1 h2 => by
                by_cases h : p ≤ q
                · exact HQ.out p h1 h
                · obtain rfl : p = q + 1 := by omega
                  exact HZ.out⟩, ⟨drawnTrans HD.out ⟨⟨_, rfl⟩⟩⟩, ⟨by have := HK5.out; omega⟩⟩
            · have qe : (y == z) = false := by simpa using ce
              clear ce
              obtain ⟨K, hK⟩ : ∃ K, q + 1 - i = K := ⟨_, rfl⟩
              have hKI : (q : Int) + 1 - (i : Int) = (K : Int) := by omega
              have HKQ := Aside0.mk hK
              have hkb : K ≤ 100000 := by omega
              have HCALL := Aside0.mk fun nd => appendRunLengthInt32_calls w0 w0.heap.size u0 (xs ++ hyb b rs) K y u b sz (wr.drewN nd) (HOq.out.drewN nd) (HBq.out.trans ((drewN_below wr nd).mono HBq.out.size)) (by have := HBq.out.size; exact this) (by rw [List.length_append]; have := hyb_bdI hw8 HOK.out HV.out HWN.out hn; have := HXL.out; omega) (by omega) HUU.out hw1 hw8 HSZ.out
              clear hK
              go_wp2_with (first
                | (go_quiet (fail))
                | (go_at_call 48; go_loud (with_reducible refine (HCALL.out _).mono ?_); rintro e w5 ⟨v5, rfl, ho, hb, hg, hat⟩; have HO5 := Aside0.mk ho; have HB5 := Aside0.mk hb; clear ho hb hg hat))
              go_roundg gk0
              case measure => omega
              case rel =>
                have hK0 := HKQ.out
                refine ⟨q + 1, rs ++ [R.rep u K], by omega, by go_num, ⟨?_⟩, ⟨?_⟩, ⟨hybOk_snoc HOK.out ⟨by omega, HY0.out⟩⟩, HB5, ⟨by have := HK3.out; omega⟩⟩
                · rw [hyb_snoc, ← rep_bytesI b u K sz HSZ.out, ← List.append_assoc]; exact HO5.out
                · rw [hybV_snoc, HV.out]
                  show wl.take i ++ List.replicate K (u : Int) = _
                  rw [← hK0]
                  exact take_rep wl i (q + 1) u (by omega) (by rw [HWN.out]; omega) fun p h1 h2 => by rw [HWG.out p (by omega), HQ.out p h1 (by omega), HUU.out]
          · have cqb : decide ((q : Int) + 1 < (n : Int)) = false := decide_eq_false (by omega)
            have qi5 : ¬ (q : Int) + 1 < (n : Int) := by omega
            subst ead
            obtain ⟨K, hK⟩ : ∃ K, q + 1 - i = K := ⟨_, rfl⟩
            have hKI : (q : Int) + 1 - (i : Int) = (K : Int) := by omega
            have HKQ := Aside0.mk hK
            have hkb : K ≤ 100000 := by omega
            have HCALL := Aside0.mk fun nd => appendRunLengthInt32_calls w0 w0.heap.size u0 (xs ++ hyb b rs) K y u b sz (wr.drewN nd) (HOq.out.drewN nd) (HBq.out.trans ((drewN_below wr nd).mono HBq.out.size)) (by have := HBq.out.size; exact this) (by rw [List.length_append]; have := hyb_bdI hw8 HOK.out HV.out HWN.out hn; have := HXL.out; omega) (by omega) HUU.out hw1 hw8 HSZ.out
            clear hK
            go_wp2_with (first
              | (go_quiet (fail))
              | (go_at_call 48; go_loud (with_reducible refine (HCALL.out _).mono ?_); rintro e w5 ⟨v5, rfl, ho, hb, hg, hat⟩; have HO5 := Aside0.mk ho; have HB5 := Aside0.mk hb; clear ho hb hg hat))
            go_roundg gk0
            case measure => omega
            case rel =>
              have hK0 := HKQ.out
              refine ⟨q + 1, rs ++ [R.rep u K], by omega, by go_num, ⟨?_⟩, ⟨?_⟩, ⟨hybOk_snoc HOK.out ⟨by omega, HY0.out⟩⟩, HB5, ⟨by have := HK3.out; omega⟩⟩
              · rw [hyb_snoc, ← rep_bytesI b u K sz HSZ.out, ← List.append_assoc]; exact HO5.out
              · rw [hybV_snoc, HV.out]
                show wl.take i ++ List.replicate K (u : Int) = _
                rw [← hK0]
                exact take_rep wl i (q + 1) u (by omega) (by rw [HWN.out]; omega) fun p h1 h2 => by rw [HWG.out p (by omega), HQ.out p h1 (by omega), HUU.out]
      · obtain rfl : i = n := by omega
        have cib : decide ((i : Int) < i) = false := decide_eq_false (by omega)
        go_wp2_with (fail)
        go_ret2
        exact ⟨_, rs, rfl, HO.out, by rw [HV.out, ← HWN.out, List.take_length], HOK.out, HB.out⟩
end Go.Proofs.Ytoopljlbiifmfaa.Ene
