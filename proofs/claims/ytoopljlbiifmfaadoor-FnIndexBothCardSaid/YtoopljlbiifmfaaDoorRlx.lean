import Derived.Test.YtoopljlbiifmfaaDoorRle
/-! Runs of bytes: the encoder's walk. -/
namespace Go.Proofs.YtoopljlbiifmfaaDoor.Rlx
open Go.Proofs.YtoopljlbiifmfaaDoor.Rle Go.Proofs.YtoopljlbiifmfaaDoor.Run Go.Proofs.YtoopljlbiifmfaaDoor.Rlp Go.Proofs.YtoopljlbiifmfaaDoor.Rlb Go.Proofs.YtoopljlbiifmfaaDoor.Buf Go.Proofs.YtoopljlbiifmfaaDoor.Fit Go.Proofs.YtoopljlbiifmfaaDoor.Bit Go.Proofs.YtoopljlbiifmfaaDoor.Wrd Go.Proofs.YtoopljlbiifmfaaDoor.Spl Go.Proofs.YtoopljlbiifmfaaDoor.Str Go.Proofs.YtoopljlbiifmfaaDoor.Flt Go.Proofs.YtoopljlbiifmfaaDoor.Owe Go.Proofs.YtoopljlbiifmfaaDoor.Num Go.Proofs.YtoopljlbiifmfaaDoor.Le Go.Proofs.YtoopljlbiifmfaaDoor.Lst Go.Proofs.YtoopljlbiifmfaaDoor.Aid Go.RowKit Go.Proofs.YtoopljlbiifmfaaDoorW.PrintWords Go.Proofs.YtoopljlbiifmfaaDoorW.PrintLast Go.Proofs.YtoopljlbiifmfaaDoorW.PrintMore
set_option linter.unusedVariables false
set_option linter.unusedSimpArgs false
theorem infoU64x : (Tryd.prog.info? 32).map (fun i => (i.zero, i.size, i.bytes)) = some (some (.int .u64 0), 1, 8) := by kernel_rfl
theorem words_cut (l ws : List Int) (i h j : Nat) (hw : ∀ k, k < j → rd ws (k : Nat) = wd8 l k) (hl : ws.length = j) (hih : i ≤ h) (hhj : h ≤ j) : (ws.take h).drop i = (List.range (h - i)).map (wd8 (l.drop (8 * i))) := by
  apply List.ext_getElem
  · simp; omega
  · intro p h1 h2
    have hp : p < h - i := by simp at h2; exact h2
    have := hw (i + p) (by omega)
    rw [rd_nat _ _ (by omega)] at this
    simp only [List.getElem_drop, List.getElem_take, List.getElem_map, List.getElem_range]
    rw [this]
    unfold wd8
    rw [List.drop_drop, Nat.mul_add]
theorem packW_grp (b : Nat) (hw1 : 1 ≤ b) (hw8 : b ≤ 8) (l : List Int) (hb : bytesB l = true) (i K : Nat) (hl : 8 * i + 8 * K ≤ l.length) : packW b ((List.range K).map (wd8 (l.drop (8 * i)))) = packLo b ((l.drop (8 * i)).take (8 * K)) := by
  rw [packW_words b hw1 hw8 _ (bytesB_drop hb _), packLo_take b hw1 _ _ (by rw [List.length_drop]; omega)]
theorem own_drawn {w w' : World} {base t : Nat} {k : IntKind} {v : Value} {xs : List Int} (h : Own w base t k v xs) (d : Drawn0 w w') : Own w' base t k v xs := by
  obtain ⟨n, rfl⟩ := d.out
  exact h.drewN n
theorem below_drawn {b : Nat} {w0 w w' : World} (h : Below b w0 w) (d : Drawn0 w w') : Below b w0 w' := by
  obtain ⟨n, rfl⟩ := d.out
  exact ⟨h.os, h.tape, h.output, h.size, h.block⟩
theorem take_rep (l : List Int) (a c : Nat) (y : Int) (hac : a ≤ c) (hc : c ≤ l.length) (h : ∀ p : Nat, a ≤ p → p < c → rd l (p : Nat) = y) : l.take a ++ List.replicate (c - a) y = l.take c := by
  apply List.ext_getElem
  · simp; omega
  · intro p h1 h2
    have hp : p < c := by simp at h2; omega
    by_cases hpa : p < a
    · rw [List.getElem_append_left (by simp; omega)]; simp
    · rw [List.getElem_append_right (by simp; omega)]
      have := h p (by omega) hp
      rw [rd_nat _ _ (by omega)] at this
      simp [this]
theorem rep_bytes (b y K : Nat) (hw1 : 1 ≤ b) (hw8 : b ≤ 8) (hy : y < 256) : varL (2 * K) ++ [(y : Int)] = (R.rep y K).bytes b := by
  have e : (b + 7) / 8 = 1 := by omega
  simp only [R.bytes, e]
  have : lowL 1 (y : Int) = [(y : Int)] := by
    simp [lowL]; omega
  rw [this]
theorem hyb_bd {b : Nat} {l : List Int} {rs : List R} {c n : Nat} (hw8 : b ≤ 8) (h : hybOk b rs) (hv : hybV rs = l.take c) (hl : l.length = n) (hn : n ≤ 100000) : (hyb b rs).length ≤ 900000 := by
  have h2 : (hybV rs).length ≤ 100000 := by rw [hv, List.length_take]; omega
  have := hyb_le b (by omega) rs h (by omega)
  omega
set_option maxHeartbeats 16000000 in
set_option maxRecDepth 100000 in
theorem encodeBytes_calls (A : Option Addr) (n c : Nat) (b : Nat) (l : List Int) (w : World) (hC : (Kd.int .u8).C w A n l) (hc : n ≤ c) (hn : n ≤ 100000) (hw1 : 1 ≤ b) (hw8 : b ≤ 8) (hu : fitL b l) :
    Calls Tryd.prog 62 #[.slice none 0 0, .slice A n c, .int .u64 b] w fun e w' => ∃ v rs, e = .returned (.tuple #[v, .nilIface]) ∧ Own w' w.heap.size 5 .u8 v (hyb b rs) ∧ hybV rs = l ∧ hybOk b rs ∧ Below w.heap.size w w' := by
  have HLN : Aside0 (l.length = n) := ⟨hC.1⟩
  have HC := Aside0.mk hC
  have HU := Aside0.mk hu
  have HBY : Aside0 (bytesB l = true) := ⟨bytesB_of fun x hx => by
    have := hu x hx
    have h2 := two_pow_le hw8
    have h3 : (2 : Int) ^ b = ((2 ^ b : Nat) : Int) := by push_cast; rfl
    rw [h3] at this
    have h4 : (2 : Nat) ^ 8 = 256 := by decide
    exact ⟨by omega, by omega⟩⟩
  obtain ⟨m, hm⟩ : ∃ m, n / 8 = m := ⟨_, rfl⟩
  have hmI : (n : Int) / 8 = (m : Int) := by omega
  have qw0 : ((b : Int) == 0) = false := by rw [beq_eq_false_iff_ne]; omega
  have qw8 : decide (8 < (b : Int)) = false := decide_eq_false (by omega)
  have qw82 : decide (8 < b) = false := decide_eq_false (by omega)
  obtain ⟨i8, h8⟩ := h8
  have hmk : ∀ W : World, (Instr.makeSlice 27 (.int .i64 (m : Int)) (.int .i64 (m : Int))).run Tryd.prog W = .ok (.slice (some ⟨W.heap.size, 0, none⟩) m m) (W.alloc (.cells (madeCells #[.int .u64 0] m) 32)) := make1 (P := Tryd.prog) 27 32 (.int .u64 0) 8 Tryd.underlying27 infoU64x rfl m m (Nat.le_refl _) (by omega) (by omega)
  clear hC hu
  go_enter Tryd.func62, Tryd.ntmps62
  go_upto_if 37 with (fail)
  go_cut [0] from 35 (fun v0 wx => ∃ rs, Aside0 (Own wx w.heap.size 5 .u8 v0 (hyb b rs)) ∧ Aside0 (hybV rs = l.take (8 * m)) ∧ Aside0 (hybOk b rs) ∧ Aside0 (Below w.heap.size w wx))
  case first =>
    by_cases c8 : 8 ≤ n
    · have q8 : decide (8 ≤ (n : Int)) = true := decide_eq_true (by omega)
      have q82 : decide (8 ≤ n) = true := decide_eq_true c8
      go_wp2_with (fail)
      rw [q8]
      have HM : Aside0 (Row (w.alloc (.cells (madeCells #[.int .u64 0] m) 32)) w.heap.size 32 .u64 (partI (wd8 l) m 0)) := ⟨by rw [partI_zero]; exact madeRow w 32 .u64 m⟩
      have HB : Aside0 (Below w.heap.size w (w.alloc (.cells (madeCells #[.int .u64 0] m) 32))) := ⟨(Below.refl _ _).alloc (Nat.le_refl _) _⟩
      have HSZ : Aside0 (w.heap.size < (w.alloc (.cells (madeCells #[.int .u64 0] m) 32)).heap.size) := ⟨by simp⟩
      generalize w.alloc (.cells (madeCells #[.int .u64 0] m) 32) = wm at *
      clear hmk
      go_loopg [9, 10, 44] m (fun kq v9 v10 v44 w' => ∃ (j o : Nat), j ≤ m ∧ v44 = .int .i64 j ∧ v9 = .int .i64 o ∧ o ≤ 8 * j ∧ 8 * j ≤ o ∧ Aside0 (Row w' w.heap.size 32 .u64 (partI (wd8 l) m j)) ∧ Aside0 (Below w.heap.size w w') ∧ Aside0 (w.heap.size < w'.heap.size) ∧ Aside0 (m - j ≤ kq))
      case atStart => exact ⟨0, 0, by omega, rfl, rfl, by omega, by omega, HM, HB, HSZ, ⟨by omega⟩⟩
      case round =>
        clear HM HB HSZ
        obtain ⟨j, o, hj, rfl, rfl, ho1, ho2, HR, HB, HSZ, HK⟩ := hrel
        by_cases cj : j < m
        · have cjb : decide ((j : Int) < m) = true := decide_eq_true (by omega)
          obtain ⟨A1, cut1, hC1⟩ := cutMid (P := Tryd.prog) 25 5 Tryd.underlying25 h8.1 h8.2 A n c .i64 .i64 (o : Int) (8 + (o : Int)) o (8 + o) rfl (by omega) (by omega) (by omega) hc
          rw [show 8 + o - o = 8 by omega] at cut1 hC1
          have HCUT : Aside0 (le8L ((l.take (8 + o)).drop o) = wd8 l j) := ⟨by
            have e0 : ∀ i : Nat, i < 8 → rd ((l.take (8 + o)).drop o) (i : Nat) = rd l (o + i : Nat) := fun i hi => by
              rw [rd_drop]
              unfold rd
              rw [Int.toNat_natCast, List.getD_eq_getElem?_getD, List.getD_eq_getElem?_getD, List.getElem?_take, if_pos (by omega)]
            have h0 := wd8_rd l j
            have h1 := wd8_rd ((l.take (8 + o)).drop o) 0
            unfold wd8 at h1
            rw [List.drop_zero] at h1
            rw [h1, h0]
            simp only [Nat.mul_zero, Nat.zero_add]
            rw [e0 0 (by omega), e0 1 (by omega), e0 2 (by omega), e0 3 (by omega), e0 4 (by omega), e0 5 (by omega), e0 6 (by omega), e0 7 (by omega), show o = 8 * j by omega, Nat.add_zero]⟩
          have HCALL := Aside0.mk (pqrle_leUint64.calls' A1 8 (c - o) ((l.take (8 + o)).drop o) wr (hC1 _ _ _ rfl (Kd.C_below HC.out HB.out)) (by omega) (by omega) (bytesB_drop (bytesB_take HBY.out _) _))
          rw [HCUT.out] at HCALL
          obtain ⟨z, hz⟩ : ∃ z, wd8 l j = z := ⟨_, rfl⟩
          rw [hz] at HCALL
          have HZ := Aside0.mk hz
          have rc := HR.out.cell (j := j) (by rw [partI_length]; exact cj)
          have rf := HR.out.free j
          rw [rd_partI _ _ _ _ cj, if_neg (by omega)] at rc
          clear hC1 hz
          go_wp2_with (first
            | (go_at_call 90; (with_reducible refine HCALL.out.mono ?_); rintro e w2 ⟨rfl, ⟨nq, rfl⟩⟩))
          go_roundg (gk - 1)
          case measure => have := HK.out; omega
          case rel =>
            refine ⟨j + 1, o + 8, by omega, by go_num, by go_num, by omega, by omega, ⟨?_⟩, ⟨Below.setCell (p := ⟨w.heap.size, j, none⟩) (HB.out.trans ((drewN_below wr nq).mono HB.out.size)) (Nat.le_refl _) _⟩, ⟨by simpa [World.setCell] using HSZ.out⟩, ⟨by have := HK.out; omega⟩⟩
            have := (HR.out.drewN nq).set j (wd8 l j)
            rw [partI_set, HZ.out] at this
            exact this
        · obtain rfl : j = m := by omega
          have cjb : decide ((j : Int) < j) = false := decide_eq_false (by omega)
          go_wp2_with (fail)
          rw [partI_full] at HR
          obtain ⟨ws, hws⟩ : ∃ ws, (List.range j).map (wd8 l) = ws := ⟨_, rfl⟩
          have HWS := Aside0.mk hws
          have HWL : Aside0 (ws.length = j) := ⟨by rw [← hws]; simp⟩
          have HWR : Aside0 (∀ k, k < j → rd ws (k : Nat) = wd8 l k) := ⟨fun k hk => by rw [← hws]; simp [rd, List.getD_eq_getElem?_getD, hk]⟩
          rw [hws] at HR
          have HWC : Aside0 ((Kd.int .u64).C wr (some ⟨w.heap.size, 0, none⟩) j ws) := ⟨rowC HR.out HWL.out (by omega)⟩
          have HB1 := HB
          obtain ⟨h64, hh64⟩ : ∃ i, (Tryd.prog.info? 32) = some i ∧ i.size = 1 := Option.map_eq_some_iff.1 (show (Tryd.prog.info? 32).map (fun i => i.size) = some 1 by kernel_rfl)
          have HO0 : Aside0 (Own wr wr.heap.size 5 .u8 (.slice none 0 0) (hyb b [])) := ⟨Own.nil _ _ _ _⟩
          obtain ⟨w1, hw1⟩ : ∃ w1, wr = w1 := ⟨_, rfl⟩
          rw [hw1] at HWC HB1 HO0 HSZ ⊢
          have HRF : Aside0 (Below w1.heap.size w1 w1) := ⟨Below.refl _ _⟩
          clear hw1 HR HB hws
          go_loopg [0, 11] j (fun kq v0 v11 w' => ∃ (i : Nat) (rs : List R), i ≤ j ∧ v11 = .int .i64 i ∧ Aside0 (Own w' w1.heap.size 5 .u8 v0 (hyb b rs)) ∧ Aside0 (hybV rs = l.take (8 * i)) ∧ Aside0 (hybOk b rs) ∧ Aside0 (Below w1.heap.size w1 w') ∧ Aside0 (j - i ≤ kq))
          case atStart => exact ⟨0, [], by omega, rfl, HO0, ⟨by simp [hybV]⟩, ⟨fun x hx => by cases hx⟩, HRF, ⟨by omega⟩⟩
          case round =>
            obtain ⟨i, rs, hi, rfl, HO, HV, HOK, HB, HK3⟩ := hrel
            by_cases ci : i < j
            · have cib : decide ((i : Int) < j) = true := decide_eq_true (by omega)
              obtain ⟨gk0, rfl⟩ : ∃ gk0, gk = gk0 + 1 := ⟨gk - 1, by have := HK3.out; omega⟩
              obtain ⟨ad, ead, hcell⟩ := Kd.at_int (Kd.C_below HWC.out HB.out) (i : Int) (by omega) (by omega)
              injection ead with ead
              subst ead
              rw [Int.toNat_natCast, Addr.add_mid, Nat.zero_add, HWR.out i ci] at hcell
              have hX := wd8_u64 l HBY.out i
              have hXm := wd8_mod l HBY.out i
              obtain ⟨y, hy, hy8⟩ := byteN l HBY.out (8 * i)
              obtain ⟨X, hXX⟩ : ∃ X, wd8 l i = X := ⟨_, rfl⟩
              rw [hXX] at hcell hX hXm
              have HXX := Aside0.mk hXX
              have HYY := Aside0.mk hy
              rw [hy] at hXm
              obtain ⟨P, hP⟩ : ∃ P, bc X = P := ⟨_, rfl⟩
              have HP : Aside0 (P = (y : Int) * 72340172838076673) := ⟨by rw [← hP]; unfold bc; rw [hXm]⟩
              have HBR := Aside0.mk fun W => broadcast_calls X W hX.1 hX.2
              rw [hP] at HBR
              have HPB : Aside0 (P % 256 = (y : Int)) := ⟨by rw [HP.out]; omega⟩
              clear hy hXX hXm hP
              go_wp2_with (first
                | (go_at_call 91; (with_reducible refine (HBR.out _).mono ?_); rintro e w2 ⟨rfl, rfl⟩))
              go_loopg [12] j (fun kq v12 w' => ∃ (k : Nat), i ≤ k ∧ k ≤ j ∧ v12 = .int .i64 k ∧ Aside0 (∀ q, i ≤ q → q < k → wd8 l q = P) ∧ wr = w' ∧ Aside0 (j - k ≤ kq))
              case atStart => exact ⟨i, Nat.le_refl _, by omega, rfl, ⟨fun q h1 h2 => by omega⟩, rfl, ⟨by omega⟩⟩
              case round =>
                obtain ⟨k, hik, hkj, rfl, HQ, rfl, HK4⟩ := hrel
                by_cases ck : k < j ∧ wd8 l k = P
                · obtain ⟨ck1, ck2⟩ := ck
                  have ckb : decide ((k : Int) < j) = true := decide_eq_true (by omega)
                  have ckb2 : decide (k < j) = true := decide_eq_true ck1
                  obtain ⟨ad, ead, hcell2⟩ := Kd.at_int (Kd.C_below HWC.out HB.out) (k : Int) (by omega) (by omega)
                  injection ead with ead
                  subst ead
                  rw [Int.toNat_natCast, Addr.add_mid, Nat.zero_add, HWR.out k ck1, ck2] at hcell2
                  have HCK := Aside0.mk ck2
                  clear ck2
                  go_wp2_with (fail)
                  go_roundg (gk - 1)
                  case measure => have := HK4.out; omega
                  case rel => exact ⟨k + 1, by omega, by omega, by go_num, ⟨fun q h1 h2 => by
                    by_cases h : q < k
                    · exact HQ.out q h1 h
                    · obtain rfl : q = k := by omega
                      exact HCK.out⟩, rfl, ⟨by have := HK4.out; omega⟩⟩
                · by_cases ck1 : k < j
                  · have ck2 : wd8 l k ≠ P := fun h => ck ⟨ck1, h⟩
                    have ckb : decide ((k : Int) < j) = true := decide_eq_true (by omega)
                    have ckb2 : decide (k < j) = true := decide_eq_true ck1
                    obtain ⟨ad, ead, hcell2⟩ := Kd.at_int (Kd.C_below HWC.out HB.out) (k : Int) (by omega) (by omega)
                    injection ead with ead
                    subst ead
                    rw [Int.toNat_natCast, Addr.add_mid, Nat.zero_add, HWR.out k ck1] at hcell2
                    have qz : (wd8 l k == P) = false := by rw [beq_eq_false_iff_ne]; exact ck2
                    clear ck ck2
                    by_cases cik : i < k
                    · have qzz : True := trivial
                      obtain ⟨K, hK⟩ : ∃ K, 8 * (k - i) = K := ⟨_, rfl⟩
                      have hKI : (8 : Int) * ((k : Int) - (i : Int)) = (K : Int) := by omega
                      have qik : decide ((i : Int) < (k : Int)) = true := decide_eq_true (by omega)
                      have qik2 : decide (i < k) = true := decide_eq_true cik
                      have hPB := HPB.out
                      have hkb : k - i ≤ 100000 := by omega
                      have HKQ := Aside0.mk hK
                      have HCALL := Aside0.mk (appendRunLengthBytes_calls w1 w1.heap.size u0 (hyb b rs) K y wr HO.out HB.out HB.out.size (by have := hyb_bd hw8 HOK.out HV.out HLN.out hn; omega) (by omega))
                      clear hK
                      go_wp2_with (first
                        | (go_at_call 92; (with_reducible refine HCALL.out.mono ?_); rintro e w5 ⟨v5, rfl, ho, hb⟩; have HO5 := Aside0.mk ho; have HB5 := Aside0.mk hb; clear ho hb))
                      go_roundg gk0
                      case measure => omega
                      case rel =>
                        have hyl : rd l (8 * i : Nat) ∈ l := rd_mem (by rw [HLN.out]; omega)
                        have hyf := HU.out _ hyl
                        rw [HYY.out] at hyf
                        have hy0 : y < 2 ^ b := by have := hyf.2; exact_mod_cast this
                        refine ⟨k, rs ++ [R.rep y K], by omega, rfl, ⟨?_⟩, ⟨?_⟩, ⟨hybOk_snoc HOK.out ⟨by have := HKQ.out; omega, hy0⟩⟩, HB5, ⟨by have := HK3.out; omega⟩⟩
                        · rw [hyb_snoc, ← rep_bytes b y K hw1 hw8 hy8]; exact HO5.out
                        · rw [hybV_snoc, HV.out]
                          show l.take (8 * i) ++ List.replicate K (y : Int) = _
                          rw [← HKQ.out, show 8 * (k - i) = 8 * k - 8 * i by omega]
                          refine take_rep l (8 * i) (8 * k) y (by omega) (by rw [HLN.out]; omega) fun p h1 h2 => ?_
                          have := wd8_bc l HBY.out (p / 8) y (by omega) (by omega) (by rw [HQ.out (p / 8) (by omega) (by omega)]; exact HP.out) (p % 8) (by omega)
                          rw [show 8 * (p / 8) + p % 8 = p by omega] at this
                          exact this
                    · obtain rfl : i = k := by omega
                      have qz3 : (X == P) = false := by rw [← HXX.out]; exact qz
                      have qz4 : ¬ X = P := by intro h; rw [h] at qz3; simp at qz3
                      clear hcell2 qz
                      have qik : decide ((i : Int) < (i : Int)) = false := decide_eq_false (by omega)
                      go_wp2_with (fail)
                      go_loopg [12] j (fun kq v12 w' => ∃ (q : Nat), i ≤ q ∧ q + 1 ≤ j ∧ v12 = .int .i64 ((q : Int) + 1) ∧ Aside0 (Drawn0 wr w') ∧ Aside0 (j - q ≤ kq))
                      case atStart => exact ⟨i, Nat.le_refl _, by omega, by go_num, ⟨Drawn0.refl _⟩, ⟨by omega⟩⟩
                      case round =>
                        obtain ⟨q, hiq, hqj, rfl, HD, HK5⟩ := hrel
                        have HOq := Aside0.mk (own_drawn HO.out HD.out)
                        have HBq := Aside0.mk (below_drawn HB.out HD.out)
                        have qw1 : IntKind.i64.wrap ((q : Int) + 1 - 1) = (q : Int) := by rw [show (q : Int) + 1 - 1 = q by omega]; exact IntWalk.i64_in _ (by omega)
                        have qw2 : IntKind.i64.wrap (q : Int) = (q : Int) := IntWalk.i64_in _ (by omega)
                        have qi2 : (0 : Int) ≤ (q : Int) + 1 := by omega
                        have qi0 : (0 : Int) ≤ (q : Int) := by omega
                        have qi4 : (q : Int) < (j : Int) := by omega
                        have qn : ((q : Int) + 1).toNat = q + 1 := by omega
                        by_cases cq : q + 1 < j
                        · have cqb : decide ((q : Int) + 1 < (j : Int)) = true := decide_eq_true (by omega)
                          have qi5 : (q : Int) + 1 < (j : Int) := by omega
                          obtain ⟨ad, ead, d0⟩ := Kd.at_int (Kd.C_below HWC.out HBq.out) (q : Int) (by omega) (by omega)
                          injection ead with ead
                          subst ead
                          obtain ⟨ad, ead, d1⟩ := Kd.at_int (Kd.C_below HWC.out HBq.out) ((q + 1 : Nat) : Int) (by omega) (by omega)
                          injection ead with ead
                          subst ead
                          rw [Int.toNat_natCast, Addr.add_mid, Nat.zero_add, HWR.out q (by omega)] at d0
                          rw [Int.toNat_natCast, Addr.add_mid, Nat.zero_add, HWR.out (q + 1) cq] at d1
                          have hz := wd8_u64 l HBY.out q
                          obtain ⟨z0, hz0⟩ : ∃ z, wd8 l q = z := ⟨_, rfl⟩
                          obtain ⟨z1, hz1⟩ : ∃ z, wd8 l (q + 1) = z := ⟨_, rfl⟩
                          rw [hz0] at d0 hz
                          rw [hz1] at d1
                          have HB2 : Aside0 (∀ W, Calls Tryd.prog 91 #[.int .u64 z0] W fun e w' => e = .returned (.int .u64 (bc z0)) ∧ Drawn0 W w') := ⟨fun W => (broadcast_calls z0 W hz.1 hz.2).mono fun e w' h => ⟨h.1, by rw [← h.2]; exact Drawn0.refl _⟩⟩
                          obtain ⟨z2, hz2⟩ : ∃ z, bc z0 = z := ⟨_, rfl⟩
                          rw [hz2] at HB2
                          clear hz hz0 hz1 hz2
                          by_cases ce : z1 = z2
                          · have qe : (z1 != z2) = false := by rw [ce]; simp
                            have qe2 : (z1 == z2) = true := by rw [ce]; simp
                            have HCE := Aside0.mk ce
                            clear ce
                            obtain ⟨A2, cut2, hC2⟩ := cutMid (P := Tryd.prog) 27 32 Tryd.underlying27 hh64.1 hh64.2 (some ⟨w.heap.size, 0, none⟩) j j .i64 .i64 (i : Int) ((q : Int) + 1) i (q + 1) rfl (by omega) (by omega) (by omega) (Nat.le_refl _)
                            obtain ⟨K, hK⟩ : ∃ K, q + 1 - i = K := ⟨_, rfl⟩
                            have hws2 := words_cut l ws i (q + 1) j HWR.out HWL.out (by omega) (by omega)
                            rw [hK] at cut2 hC2 hws2
                            obtain ⟨L, hL⟩ : ∃ L, (l.drop (8 * i)).take (8 * K) = L := ⟨_, rfl⟩
                            have hLL : L.length = 8 * K := by rw [← hL, List.length_take, List.length_drop, HLN.out]; omega
                            have hpk := packW_grp b hw1 hw8 l HBY.out i K (by rw [HLN.out]; omega)
                            rw [hL] at hpk
                            have HCALL := Aside0.mk fun nd => appendBitPackedBytes_calls w1 w1.heap.size u0 (hyb b rs) A2 K (j - i) b ((ws.take (q + 1)).drop i) (wr.drewN nd) (HOq.out.drewN nd) (HBq.out.trans ((drewN_below wr nd).mono HBq.out.size)) (by have := HBq.out.size; exact this) (by have := hyb_bd hw8 HOK.out HV.out HLN.out hn; omega) (fun W hW => hC2 (Kd.int .u64) W ws rfl (Kd.C_below HWC.out hW)) (by omega) (by omega) hw1 hw8 (by
                              rw [hws2]
                              intro x hx
                              simp only [List.mem_map, List.mem_range] at hx
                              obtain ⟨p, _, rfl⟩ := hx
                              exact wd8_u64 _ (bytesB_drop HBY.out _) p)
                            rw [hws2, hpk] at HCALL
                            have HKQ := Aside0.mk hK
                            have HLQ := Aside0.mk hL
                            have HLL := Aside0.mk hLL
                            clear hC2 hws2 hpk hK hL hLL
                            go_wp2_with (first
                              | (go_quiet ((go_at_call 91; exact quietCall (HB2.out _))))
                              | (go_at_call 93; (with_reducible refine (HCALL.out _).mono ?_); rintro e w5 ⟨v5, rfl, ho, hb⟩; have HO5 := Aside0.mk ho; have HB5 := Aside0.mk hb; clear ho hb))
                            go_roundg gk0
                            case measure => omega
                            case rel =>
                              have hk0 : 0 < K := by have := HKQ.out; omega
                              refine ⟨q + 1, rs ++ [R.grp L], by omega, by go_num, ⟨?_⟩, ⟨?_⟩, ⟨hybOk_snoc HOK.out ⟨by rw [HLL.out]; omega, by rw [HLL.out]; omega, fun x hx => HU.out x (by rw [← HLQ.out] at hx; exact List.mem_of_mem_drop (List.mem_of_mem_take hx))⟩⟩, HB5, ⟨by have := HK3.out; omega⟩⟩
                              · rw [hyb_snoc]
                                show Own _ _ _ _ _ (_ ++ (varL (2 * (L.length / 8) + 1) ++ packLo b L))
                                rw [HLL.out, show 8 * K / 8 = K by omega]
                                exact HO5.out
                              · rw [hybV_snoc, HV.out]
                                show l.take (8 * i) ++ L = _
                                rw [← HLQ.out, ← List.take_add]
                                congr 1
                                have := HKQ.out
                                omega
                          · have qe : (z1 != z2) = true := by simpa using ce
                            have qe2 : (z1 == z2) = false := by simpa using ce
                            go_wp2_with (first
                              | (go_quiet ((go_at_call 91; exact quietCall (HB2.out _)))))
                            go_roundg (gk - 1)
                            case measure => have := HK5.out; omega
                            case rel => exact ⟨q + 1, by omega, by omega, by go_num, ⟨drawnTrans HD.out ⟨⟨_, rfl⟩⟩⟩, ⟨by have := HK5.out; omega⟩⟩
                        · have cqb : decide ((q : Int) + 1 < (j : Int)) = false := decide_eq_false (by omega)
                          have qi5 : ¬ (q : Int) + 1 < (j : Int) := by omega
                          obtain ⟨A2, cut2, hC2⟩ := cutMid (P := Tryd.prog) 27 32 Tryd.underlying27 hh64.1 hh64.2 (some ⟨w.heap.size, 0, none⟩) j j .i64 .i64 (i : Int) ((q : Int) + 1) i (q + 1) rfl (by omega) (by omega) (by omega) (Nat.le_refl _)
                          obtain ⟨K, hK⟩ : ∃ K, q + 1 - i = K := ⟨_, rfl⟩
                          have hws2 := words_cut l ws i (q + 1) j HWR.out HWL.out (by omega) (by omega)
                          rw [hK] at cut2 hC2 hws2
                          obtain ⟨L, hL⟩ : ∃ L, (l.drop (8 * i)).take (8 * K) = L := ⟨_, rfl⟩
                          have hLL : L.length = 8 * K := by rw [← hL, List.length_take, List.length_drop, HLN.out]; omega
                          have hpk := packW_grp b hw1 hw8 l HBY.out i K (by rw [HLN.out]; omega)
                          rw [hL] at hpk
                          have HCALL := Aside0.mk fun nd => appendBitPackedBytes_calls w1 w1.heap.size u0 (hyb b rs) A2 K (j - i) b ((ws.take (q + 1)).drop i) (wr.drewN nd) (HOq.out.drewN nd) (HBq.out.trans ((drewN_below wr nd).mono HBq.out.size)) (by have := HBq.out.size; exact this) (by have := hyb_bd hw8 HOK.out HV.out HLN.out hn; omega) (fun W hW => hC2 (Kd.int .u64) W ws rfl (Kd.C_below HWC.out hW)) (by omega) (by omega) hw1 hw8 (by
                            rw [hws2]
                            intro x hx
                            simp only [List.mem_map, List.mem_range] at hx
                            obtain ⟨p, _, rfl⟩ := hx
                            exact wd8_u64 _ (bytesB_drop HBY.out _) p)
                          rw [hws2, hpk] at HCALL
                          have HKQ := Aside0.mk hK
                          have HLQ := Aside0.mk hL
                          have HLL := Aside0.mk hLL
                          clear hC2 hws2 hpk hK hL hLL
                          go_wp2_with (first
                            | (go_quiet (fail))
                            | (go_at_call 93; (with_reducible refine (HCALL.out _).mono ?_); rintro e w5 ⟨v5, rfl, ho, hb⟩; have HO5 := Aside0.mk ho; have HB5 := Aside0.mk hb; clear ho hb))
                          go_roundg gk0
                          case measure => omega
                          case rel =>
                            have hk0 : 0 < K := by have := HKQ.out; omega
                            refine ⟨q + 1, rs ++ [R.grp L], by omega, by go_num, ⟨?_⟩, ⟨?_⟩, ⟨hybOk_snoc HOK.out ⟨by rw [HLL.out]; omega, by rw [HLL.out]; omega, fun x hx => HU.out x (by rw [← HLQ.out] at hx; exact List.mem_of_mem_drop (List.mem_of_mem_take hx))⟩⟩, HB5, ⟨by have := HK3.out; omega⟩⟩
                            · rw [hyb_snoc]
                              show Own _ _ _ _ _ (_ ++ (varL (2 * (L.length / 8) + 1) ++ packLo b L))
                              rw [HLL.out, show 8 * K / 8 = K by omega]
                              exact HO5.out
                            · rw [hybV_snoc, HV.out]
                              show l.take (8 * i) ++ L = _
                              rw [← HLQ.out, ← List.take_add]
                              congr 1
                              have := HKQ.out
                              omega
                  · obtain rfl : k = j := by omega
                    have ckb : decide ((k : Int) < k) = false := decide_eq_false (by omega)
                    have cik : i < k := ci
                    clear ck
                    obtain ⟨K, hK⟩ : ∃ K, 8 * (k - i) = K := ⟨_, rfl⟩
                    have hKI : (8 : Int) * ((k : Int) - (i : Int)) = (K : Int) := by omega
                    have qik : decide ((i : Int) < (k : Int)) = true := decide_eq_true (by omega)
                    have qik2 : decide (i < k) = true := decide_eq_true cik
                    have hPB := HPB.out
                    have hkb : k - i ≤ 100000 := by omega
                    have HKQ := Aside0.mk hK
                    have HCALL := Aside0.mk (appendRunLengthBytes_calls w1 w1.heap.size u0 (hyb b rs) K y wr HO.out HB.out HB.out.size (by have := hyb_bd hw8 HOK.out HV.out HLN.out hn; omega) (by omega))
                    clear hK
                    go_wp2_with (first
                      | (go_at_call 92; (with_reducible refine HCALL.out.mono ?_); rintro e w5 ⟨v5, rfl, ho, hb⟩; have HO5 := Aside0.mk ho; have HB5 := Aside0.mk hb; clear ho hb))
                    go_roundg gk0
                    case measure => omega
                    case rel =>
                      have hyl : rd l (8 * i : Nat) ∈ l := rd_mem (by rw [HLN.out]; omega)
                      have hyf := HU.out _ hyl
                      rw [HYY.out] at hyf
                      have hy0 : y < 2 ^ b := by have := hyf.2; exact_mod_cast this
                      refine ⟨k, rs ++ [R.rep y K], by omega, rfl, ⟨?_⟩, ⟨?_⟩, ⟨hybOk_snoc HOK.out ⟨by have := HKQ.out; omega, hy0⟩⟩, HB5, ⟨by have := HK3.out; omega⟩⟩
                      · rw [hyb_snoc, ← rep_bytes b y K hw1 hw8 hy8]; exact HO5.out
                      · rw [hybV_snoc, HV.out]
                        show l.take (8 * i) ++ List.replicate K (y : Int) = _
                        rw [← HKQ.out, show 8 * (k - i) = 8 * k - 8 * i by omega]
                        refine take_rep l (8 * i) (8 * k) y (by omega) (by rw [HLN.out]; omega) fun p h1 h2 => ?_
                        have := wd8_bc l HBY.out (p / 8) y (by omega) (by omega) (by rw [HQ.out (p / 8) (by omega) (by omega)]; exact HP.out) (p % 8) (by omega)
                        rw [show 8 * (p / 8) + p % 8 = p by omega] at this
                        exact this
            · obtain rfl : i = j := by omega
              have cib : decide ((i : Int) < i) = false := decide_eq_false (by omega)
              go_wp2_with (fail)
              go_meet
              exact ⟨rs, ⟨Own.lower HO.out HB1.out.size⟩, HV, HOK, ⟨HB1.out.trans (HB.out.mono HB1.out.size)⟩⟩
    · have q8 : decide (8 ≤ (n : Int)) = false := decide_eq_false (by omega)
      have q82 : decide (8 ≤ n) = false := decide_eq_false c8
      obtain rfl : m = 0 := by omega
      go_wp2_with (fail)
      go_meet
      exact ⟨[], ⟨Own.nil _ _ _ _⟩, ⟨by simp [hybV]⟩, ⟨fun x hx => by cases hx⟩, ⟨Below.refl _ _⟩⟩
  case rest =>
    obtain ⟨rs0, HO, HV, HOK, HB⟩ := hcut
    have hmI2 : (m : Int) * 8 = ((8 * m : Nat) : Int) := by omega
    obtain ⟨M, hM⟩ : ∃ M, 8 * m = M := ⟨_, rfl⟩
    rw [hM] at hmI2 HV
    clear hmk
    go_wp2_with (fail)
    go_loopg [0, 14] n (fun kq v0 v14 w' => ∃ (i : Nat) (rs : List R), i ≤ n ∧ v14 = .int .i64 i ∧ Aside0 (Own w' w.heap.size 5 .u8 v0 (hyb b rs)) ∧ Aside0 (hybV rs = l.take i) ∧ Aside0 (hybOk b rs) ∧ Aside0 (Below w.heap.size w w') ∧ Aside0 (n - i ≤ kq))
    case atStart => exact ⟨M, rs0, by omega, rfl, HO, HV, HOK, HB, ⟨by omega⟩⟩
    case round =>
      clear HO HV HOK HB
      obtain ⟨i, rs, hi, rfl, HO, HV, HOK, HB, HK3⟩ := hrel
      by_cases ci : i < n
      · have cib : decide ((i : Int) < n) = true := decide_eq_true (by omega)
        have cib2 : decide (i < n) = true := decide_eq_true ci
        obtain ⟨gk0, rfl⟩ : ∃ gk0, gk = gk0 + 1 := ⟨gk - 1, by have := HK3.out; omega⟩
        obtain ⟨y, hy, hy8⟩ := byteN l HBY.out i
        have hyf := HU.out _ (rd_mem (l := l) (i := i) (by rw [HLN.out]; exact ci))
        rw [hy] at hyf
        have HY0 : Aside0 (y < 2 ^ b) := ⟨by have := hyf.2; exact_mod_cast this⟩
        have HYY := Aside0.mk hy
        clear hy hyf
        go_wp2_with (fail)
        go_loopg [15] n (fun kq v15 w' => ∃ (q : Nat), i ≤ q ∧ q + 1 ≤ n ∧ v15 = .int .i64 ((q : Int) + 1) ∧ Aside0 (∀ p : Nat, i ≤ p → p ≤ q → rd l (p : Nat) = (y : Int)) ∧ Aside0 (Drawn0 wr w') ∧ Aside0 (n - q ≤ kq))
        case atStart => exact ⟨i, Nat.le_refl _, by omega, by go_num, ⟨fun p h1 h2 => by have e : p = i := (by omega); rw [e]; exact HYY.out⟩, ⟨Drawn0.refl _⟩, ⟨by omega⟩⟩
        case round =>
          obtain ⟨q, hiq, hqj, rfl, HQ, HD, HK5⟩ := hrel
          have HOq := Aside0.mk (own_drawn HO.out HD.out)
          have HBq := Aside0.mk (below_drawn HB.out HD.out)
          obtain ⟨ad, ead, d0⟩ := Kd.at_int (Kd.C_below HC.out HBq.out) (i : Int) (by omega) (by omega)
          rw [Int.toNat_natCast, HYY.out] at d0
          have b0 := World.block_lt_of_cell? wr _ d0
          have qi2 : (0 : Int) ≤ (q : Int) + 1 := by omega
          have qi1 : (i : Int) < (n : Int) := by omega
          have qi6 : (0 : Int) ≤ (i : Int) := by omega
          have qn : ((q : Int) + 1).toNat = q + 1 := by omega
          by_cases cq : q + 1 < n
          · have cqb : decide ((q : Int) + 1 < (n : Int)) = true := decide_eq_true (by omega)
            have qi5 : (q : Int) + 1 < (n : Int) := by omega
            obtain ⟨ad', ead', d1⟩ := Kd.at_int (Kd.C_below HC.out HBq.out) ((q + 1 : Nat) : Int) (by omega) (by omega)
            obtain rfl : ad = ad' := by rw [ead] at ead'; injection ead'
            rw [Int.toNat_natCast] at d1
            have eadd : ad.add (q + 1) = ⟨ad.block, ad.off + (q + 1), none⟩ := by simp [Addr.add]
            rw [eadd] at d1
            obtain ⟨z, hz⟩ : ∃ z, rd l ((q + 1 : Nat) : Int) = z := ⟨_, rfl⟩
            rw [hz] at d1
            have HZ := Aside0.mk hz
            clear eadd hz
            subst ead
            by_cases ce : (y : Int) = z
            · have qe : ((y : Int) == z) = true := by rw [ce]; simp
              have HCE := Aside0.mk ce
              subst ce
              go_wp2_with (first
                | (go_quiet (fail)))
              go_roundg (gk - 1)
              case measure => have := HK5.out; omega
              case rel => exact ⟨q + 1, by omega, by omega, by go_num, ⟨fun p h1 h2 => by
                by_cases h : p ≤ q
                · exact HQ.out p h1 h
                · obtain rfl : p = q + 1 := by omega
                  exact HZ.out⟩, ⟨drawnTrans HD.out ⟨⟨_, rfl⟩⟩⟩, ⟨by have := HK5.out; omega⟩⟩
            · have qe : ((y : Int) == z) = false := by simpa using ce
              clear ce
              obtain ⟨K, hK⟩ : ∃ K, q + 1 - i = K := ⟨_, rfl⟩
              have hKI : (q : Int) + 1 - (i : Int) = (K : Int) := by omega
              have HKQ := Aside0.mk hK
              have hkb : K ≤ 100000 := by omega
              have HCALL := Aside0.mk fun nd => appendRunLengthBytes_calls w w.heap.size u0 (hyb b rs) K y (wr.drewN nd) (HOq.out.drewN nd) (HBq.out.trans ((drewN_below wr nd).mono HBq.out.size)) (by have := HBq.out.size; exact this) (by have := hyb_bd hw8 HOK.out HV.out HLN.out hn; omega) (by omega)
              clear hK
              go_wp2_with (first
                | (go_quiet (fail))
                | (go_at_call 92; (with_reducible refine (HCALL.out _).mono ?_); rintro e w5 ⟨v5, rfl, ho, hb⟩; have HO5 := Aside0.mk ho; have HB5 := Aside0.mk hb; clear ho hb))
              go_roundg gk0
              case measure => omega
              case rel =>
                refine ⟨q + 1, rs ++ [R.rep y K], by omega, by go_num, ⟨?_⟩, ⟨?_⟩, ⟨hybOk_snoc HOK.out ⟨by have := HKQ.out; omega, HY0.out⟩⟩, HB5, ⟨by have := HK3.out; omega⟩⟩
                · rw [hyb_snoc, ← rep_bytes b y K hw1 hw8 hy8]; exact HO5.out
                · rw [hybV_snoc, HV.out]
                  show l.take i ++ List.replicate K (y : Int) = _
                  rw [← HKQ.out]
                  exact take_rep l i (q + 1) y (by omega) (by rw [HLN.out]; omega) fun p h1 h2 => HQ.out p h1 (by omega)
          · have cqb : decide ((q : Int) + 1 < (n : Int)) = false := decide_eq_false (by omega)
            have qi5 : ¬ (q : Int) + 1 < (n : Int) := by omega
            subst ead
            obtain ⟨K, hK⟩ : ∃ K, q + 1 - i = K := ⟨_, rfl⟩
            have hKI : (q : Int) + 1 - (i : Int) = (K : Int) := by omega
            have HKQ := Aside0.mk hK
            have hkb : K ≤ 100000 := by omega
            have HCALL := Aside0.mk fun nd => appendRunLengthBytes_calls w w.heap.size u0 (hyb b rs) K y (wr.drewN nd) (HOq.out.drewN nd) (HBq.out.trans ((drewN_below wr nd).mono HBq.out.size)) (by have := HBq.out.size; exact this) (by have := hyb_bd hw8 HOK.out HV.out HLN.out hn; omega) (by omega)
            clear hK
            go_wp2_with (first
              | (go_quiet (fail))
              | (go_at_call 92; (with_reducible refine (HCALL.out _).mono ?_); rintro e w5 ⟨v5, rfl, ho, hb⟩; have HO5 := Aside0.mk ho; have HB5 := Aside0.mk hb; clear ho hb))
            go_roundg gk0
            case measure => omega
            case rel =>
              refine ⟨q + 1, rs ++ [R.rep y K], by omega, by go_num, ⟨?_⟩, ⟨?_⟩, ⟨hybOk_snoc HOK.out ⟨by have := HKQ.out; omega, HY0.out⟩⟩, HB5, ⟨by have := HK3.out; omega⟩⟩
              · rw [hyb_snoc, ← rep_bytes b y K hw1 hw8 hy8]; exact HO5.out
              · rw [hybV_snoc, HV.out]
                show l.take i ++ List.replicate K (y : Int) = _
                rw [← HKQ.out]
                exact take_rep l i (q + 1) y (by omega) (by rw [HLN.out]; omega) fun p h1 h2 => HQ.out p h1 (by omega)
      · obtain rfl : i = n := by omega
        have cib : decide ((i : Int) < i) = false := decide_eq_false (by omega)
        go_wp2_with (fail)
        go_ret2
        exact ⟨_, rs, rfl, HO.out, by rw [HV.out, ← HLN.out, List.take_length], HOK.out, HB.out⟩
end Go.Proofs.YtoopljlbiifmfaaDoor.Rlx
