import Derived.Test.YtojoppondgnajaaDoorBl6
namespace Go.Proofs.YtojoppondgnajaaDoor.Bl
open Go.Proofs.YtojoppondgnajaaDoor.Aid Go.RowKit Go.Proofs.YtojoppondgnajaaDoorW.PrintWords Go.Proofs.YtojoppondgnajaaDoorW.PrintLast Go.Proofs.YtojoppondgnajaaDoorW.PrintMore
set_option linter.unusedVariables false
set_option linter.unusedSimpArgs false

theorem Own.block {w : World} {base t : Nat} {k : IntKind} {v : Value} {xs : List Int} (h : Own w base t k v xs) (hne : 0 < xs.length) :
    ∃ g c, v = .slice (some ⟨g, 0, none⟩) xs.length c ∧ base ≤ g ∧ g < w.heap.size ∧ xs.length ≤ c ∧ (∀ j : Nat, j < xs.length → w.cell? ⟨g, j, none⟩ = some (.int k (rd xs j))) ∧ ∀ j, w.frozen? ⟨g, j, none⟩ = false := by
  rcases h.out.2 with ⟨_, h0⟩ | ⟨g, c, cur, rfl, hb, hh, hn, hm, hs, ht⟩
  · omega
  · refine ⟨g, c, rfl, hb, (Array.getElem?_eq_some_iff.1 hh).1, hn, fun j hj => ?_, fun j => by simp [World.frozen?, hh]⟩
    have h1 : cur[j]? = some (.int k (rd xs j)) := by
      have h2 : (cur.toList.take (xs.length * 1))[j]? = (nums k xs)[j]? := by rw [ht]
      rw [List.getElem?_take, if_pos (by omega)] at h2
      rw [← Array.getElem?_toList, h2]
      simp [nums, rd, List.getD_eq_getElem?_getD, List.getElem?_eq_getElem hj]
    simp [World.cell?, hh, h1]
theorem Own.put {w : World} {base t g c : Nat} {k : IntKind} {xs : List Int} (h : Own w base t k (.slice (some ⟨g, 0, none⟩) xs.length c) xs) (j : Nat) (y : Int) :
    Own (w.setCell ⟨g, j, none⟩ (.int k y)) base t k (.slice (some ⟨g, 0, none⟩) (xs.set j y).length c) (xs.set j y) := by
  have := own_put h.out (j : Int) y
  rw [Int.toNat_natCast] at this
  rw [List.length_set]
  exact ⟨by rw [List.length_set] at this ⊢; exact this⟩

/-! ### hashes are put in, as the specification says -/
def setBit (l : List Int) (at_ : Int) : List Int := l.set (at_.toNat / 8) (orBit (rd l (at_.toNat / 8 : Nat)) (at_.toNat % 8))
def setBits (x : Int) (B : Nat) (l : List Int) : Nat → List Int
  | 0 => l
  | k + 1 => setBit (setBits x B l k) (placeI x B k)
theorem setBit_length (l : List Int) (p : Int) : (setBit l p).length = l.length := by simp [setBit]
theorem setBits_length (x : Int) (B : Nat) (l : List Int) (k : Nat) : (setBits x B l k).length = l.length := by
  induction k with
  | zero => rfl
  | succ k ih => simp [setBits, setBit_length, ih]
theorem orBit_byt (x : Int) (j : Nat) (hx : byt x) (hj : j < 8) : byt (orBit x j) := by
  unfold byt orBit at *
  have h2 : 2 ^ j < 2 ^ 8 := Nat.pow_lt_pow_right (by decide) hj
  have := Nat.or_lt_two_pow (n := 8) (show x.toNat < 2 ^ 8 by omega) h2
  omega
theorem setBit_bytes {l : List Int} (h : bytesB l = true) (p : Int) (hp : p.toNat / 8 < l.length) : bytesB (setBit l p) = true := bytesB_of fun x hx => by
  rcases List.mem_or_eq_of_mem_set hx with h1 | rfl
  · exact bytesB_mem h x h1
  · exact orBit_byt _ _ (bytesB_rd h (k := p.toNat / 8) rfl hp) (by omega)
theorem setBits_bytes {l : List Int} (h : bytesB l = true) (x : Int) (B : Nat) (hx : u64B x) (hB : 0 < B) (hl : l.length = 32 * B) (k : Nat) (hk : k ≤ 8) : bytesB (setBits x B l k) = true := by
  induction k with
  | zero => exact h
  | succ k ih =>
    have := placeI_bd x B k hx hB (by omega)
    exact setBit_bytes (ih (by omega)) _ (by rw [setBits_length]; omega)
def insS (B : Nat) (l : List Int) (x : Int) : List Int := setBits x B l 8
def insertS (l : List Int) (B : Nat) (hs : List Int) : List Int := hs.foldl (insS B) l
theorem insertS_length (l : List Int) (B : Nat) (hs : List Int) : (insertS l B hs).length = l.length := by
  unfold insertS
  induction hs generalizing l with
  | nil => rfl
  | cons x hs ih => rw [List.foldl_cons, ih]; exact setBits_length _ _ _ _
theorem insertS_bytes {l : List Int} (h : bytesB l = true) {B : Nat} (hB : 0 < B) (hl : l.length = 32 * B) {hs : List Int} (hh : u64L hs) : bytesB (insertS l B hs) = true := by
  unfold insertS
  induction hs generalizing l with
  | nil => exact h
  | cons x hs ih =>
    rw [List.foldl_cons]
    exact ih (setBits_bytes h x B (hh x (by simp)) hB hl 8 (Nat.le_refl _)) (by rw [← hl]; exact setBits_length _ _ _ _) (fun y hy => hh y (by simp [hy]))
theorem insertS_take (l : List Int) (B : Nat) (hs : List Int) (k : Nat) (hk : k < hs.length) : insertS l B (hs.take (k + 1)) = insS B (insertS l B (hs.take k)) (rd hs k) := by
  unfold insertS
  rw [List.take_succ_eq_append_getElem hk, List.foldl_append]
  have e : rd hs k = hs[k] := by simp [rd, List.getD_eq_getElem?_getD, List.getElem?_eq_getElem hk]
  rw [e]; rfl
theorem or8_val (x : Int) (j : Nat) (hx : byt x) (hj : j < 8) : Go.bits .or .u8 x (2 ^ j % 256) = orBit x j := by
  unfold byt at hx
  obtain ⟨n, rfl⟩ := Int.eq_ofNat_of_zero_le hx.1
  have h2 : 2 ^ j < 2 ^ 8 := Nat.pow_lt_pow_right (by decide) hj
  have e : (2 : Int) ^ j % 256 = ((2 ^ j : Nat) : Int) := by
    rw [show ((2 : Int) ^ j) = ((2 ^ j : Nat) : Int) by simp]
    generalize 2 ^ j = q at *
    omega
  rw [e, u8_or_nat n (2 ^ j) (by omega) (by omega)]
  unfold orBit
  rw [Int.toNat_natCast]
set_option maxHeartbeats 4000000 in
theorem inserted_calls (A : Option Addr) (n c : Nat) (l : List Int) (A2 : Option Addr) (m mc : Nat) (hs : List Int) (B : Nat) (w : World) (hC : (Kd.int .u8).C w A n l) (hc : n ≤ c) (hn : n = 32 * B) (hB1 : 0 < B) (hB2 : B < 65536) (hb : bytesB l = true) (hC2 : (Kd.int .u64).C w A2 m hs) (hmc : m ≤ mc) (hm9 : m ≤ 2147483647) (hh : u64L hs) :
    Calls Tryd.prog 10 #[.slice A n c, .slice A2 m mc] w fun e w' => ∃ v, e = .returned v ∧ Own w' w.heap.size 5 .u8 v (insertS l B hs) ∧ Below w.heap.size w w' := by
  have HLN : Aside0 (l.length = n) := ⟨hC.1⟩
  have HLM : Aside0 (hs.length = m) := ⟨hC2.1⟩
  have HN := Aside0.mk hn
  have HC := Aside0.mk hC
  have HCH := Aside0.mk hC2
  have HBY := Aside0.mk hb
  have HH := Aside0.mk hh
  have hn9 : n < 2097152 := by omega
  have HE := Aside0.mk (Own.empty w w.heap.size 5 .u8 (Nat.le_refl _))
  have HEB : Aside0 (Below w.heap.size w (w.alloc (.cells #[] 5))) := ⟨(Below.refl _ _).alloc (Nat.le_refl _) _⟩
  have HC2 : Aside0 ((Kd.int .u8).C (w.alloc (.cells #[] 5)) A n l) := ⟨Kd.C_alloc hC _⟩
  clear hC hn hC2 hb hh
  go_enter Tryd.func10, Tryd.ntmps10
  go_wp2_with (first
    | (at_builtin; refine appendRead (w0 := w) w.heap.size rfl (.tmp 10) (.tmp 11) 22 5 .u8 1 rfl Tryd.underlying22 info5 (by decide) _ [] A n c l rfl rfl HE.out HEB.out ?hb HC2.out ?hl ?_; (case hb => simp); (case hl => simp; omega); intro v1 w1 ho hb hg; rw [List.nil_append] at ho; have hpos : 0 < l.length := (by have := HLN.out; have := HN.out; omega); obtain ⟨g, c1, rfl, hg0, hg1, hc1, _, _⟩ := Own.block ho hpos; rw [HLN.out] at ho hc1; rw [HLN.out]; have HO := Aside0.mk ho; have HB1 := Aside0.mk hb; clear ho hb hg))
  have HG := Aside0.mk hg0
  clear hg0 hg1 HE HEB HC2
  go_loopg [7, 9, 15, 21, 22] m (fun kq v7 v9 v15 v21 v22 w' => ∃ k : Nat, k ≤ m ∧ v15 = .int .i64 k ∧ Aside0 (Own w' w.heap.size 5 .u8 (.slice (some ⟨g, 0, none⟩) n c1) (insertS l B (hs.take k))) ∧ Aside0 (Below w.heap.size w w') ∧ Aside0 (m - k ≤ kq))
  case atStart => exact ⟨0, by omega, rfl, HO, HB1, ⟨by omega⟩⟩
  case round =>
    clear HO HB1
    obtain ⟨k, hk, rfl, HO, HB1, HK⟩ := hrel
    by_cases ck : k < m
    · have ckb : decide ((k : Int) < m) = true := decide_eq_true (by omega)
      obtain ⟨gk0, rfl⟩ : ∃ gk0, gk = gk0 + 1 := ⟨gk - 1, by have := HK.out; omega⟩
      obtain ⟨ad, ead, hcell⟩ := Kd.at_int (Kd.C_below HCH.out HB1.out) (k : Int) (by omega) (by omega)
      rw [Int.toNat_natCast] at hcell
      obtain ⟨y, hy⟩ : ∃ y, rd hs (k : Int) = y := ⟨_, rfl⟩
      rw [hy] at hcell
      have hyb : u64B y := by rw [← hy]; exact HH.out _ (rd_mem (by rw [HLM.out]; exact ck))
      have HY := Aside0.mk hy
      have HYB := Aside0.mk hyb
      have HP := Aside0.mk (places_calls A n c y hyb B HN.out hB2 hB1 wr)
      obtain ⟨l1, hl1⟩ : ∃ l1, insertS l B (hs.take k) = l1 := ⟨_, rfl⟩
      have HL1 := Aside0.mk hl1
      have HLL : Aside0 (l1.length = n) := ⟨by rw [← hl1, insertS_length]; exact HLN.out⟩
      have HBY1 : Aside0 (bytesB l1 = true) := ⟨by rw [← hl1]; exact insertS_bytes HBY.out hB1 (by rw [HLN.out]; exact HN.out) (fun x hx => HH.out x (List.mem_of_mem_take hx))⟩
      rw [hl1] at HO
      clear hy hyb hl1
      subst ead
      go_wp2_with (first
        | (go_at_call 16; (with_reducible refine HP.out.mono ?_); rintro e w2 ⟨rfl, hb2⟩; have HB2 := Aside0.mk hb2; clear hb2))
      have HO2 : Aside0 (Own w2 w.heap.size 5 .u8 (.slice (some ⟨g, 0, none⟩) n c1) (setBits y B l1 0)) := ⟨HO.out.below HB2.out⟩
      have HB3 : Aside0 (Below w.heap.size w w2) := ⟨HB1.out.trans (HB2.out.mono HB1.out.size)⟩
      clear HO HB2
      go_loopg [9, 22] 8 (fun kq v9 v22 w' => ∃ j : Nat, j ≤ 8 ∧ v22 = .int .i64 j ∧ Aside0 (Own w' w.heap.size 5 .u8 (.slice (some ⟨g, 0, none⟩) n c1) (setBits y B l1 j)) ∧ Aside0 (Below w.heap.size w w') ∧ Aside0 (8 - j ≤ kq))
      case atStart => exact ⟨0, by omega, rfl, HO2, HB3, ⟨by omega⟩⟩
      case round =>
        clear HO2 HB3
        obtain ⟨j, hj, rfl, HO2, HB3, HK2⟩ := hrel
        by_cases cj : j < 8
        · have cjb : decide ((j : Int) < 8) = true := decide_eq_true (by omega)
          have hix := agg_at (placeI y B) j cj
          obtain ⟨hp0, hp1⟩ := placeI_bd y B j HYB.out hB1 cj
          obtain ⟨p, hp⟩ : ∃ p : Nat, placeI y B j = p := ⟨(placeI y B j).toNat, by omega⟩
          rw [hp] at hix hp0 hp1
          have hp8 : p / 8 < n := by have := HN.out; omega
          have HLS : Aside0 ((setBits y B l1 j).length = n) := ⟨by rw [setBits_length]; exact HLL.out⟩
          obtain ⟨g', c', egc, _, _, _, hce, hfr⟩ := Own.block HO2.out (by rw [HLS.out]; omega)
          have eg : g = g' := by
            simp only [Value.slice.injEq, Option.some.injEq, Addr.mk.injEq] at egc
            exact egc.1.1
          subst eg
          have hcell2 := hce (p / 8) (by rw [HLS.out]; exact hp8)
          obtain ⟨b, hb⟩ : ∃ b, rd (setBits y B l1 j) (p / 8 : Nat) = b := ⟨_, rfl⟩
          rw [hb] at hcell2
          have hb8 : byt b := by rw [← hb]; exact bytesB_rd (setBits_bytes HBY1.out y B HYB.out hB1 (by rw [HLL.out]; exact HN.out) j (by omega)) (k := p / 8) rfl (by rw [HLS.out]; exact hp8)
          have HV := Aside0.mk (or8_val b (p % 8) hb8 (by omega))
          have HSET : Aside0 (setBits y B l1 (j + 1) = (setBits y B l1 j).set (p / 8) (orBit b (p % 8))) := ⟨by
            rw [← hb]; show setBit _ _ = _; unfold setBit; rw [hp, Int.toNat_natCast]⟩
          have hb0 := hb8.1
          have hb1 := hb8.2
          have hfr1 := hfr (p / 8)
          obtain ⟨q, hq⟩ : ∃ q, p / 8 = q := ⟨_, rfl⟩
          obtain ⟨r, hr⟩ : ∃ r, p % 8 = r := ⟨_, rfl⟩
          have hr8 : r < 8 := by omega
          rw [hq] at hcell2 hfr1 hp8 HSET
          rw [hr] at HV HSET
          have wz1 : IntKind.i64.wrap ((p : Int) / 8) = (q : Int) := by rw [IntWalk.i64_in _ (by omega)]; omega
          have wz2 : (p : Int).tmod 8 = (r : Int) := by rw [Int.tmod_eq_emod_of_nonneg (by omega)]; omega
          have cpi : decide ((q : Int) < (n : Int)) = true := decide_eq_true (by omega)
          have qi1 : (q < n) = True := eq_true hp8
          have qi2 : ((q : Int) < (n : Int)) = True := eq_true (by omega)
          have qi3 : (0 ≤ (q : Int)) = True := eq_true (by omega)
          have qi4 : (0 ≤ (r : Int)) = True := eq_true (by omega)
          clear hb hce hp egc hb8 hfr
          go_wp2_with (fail)
          refine region_tail 10 (by kernel_rfl) (by kernel_rfl) ?_
          simp only [List.take_succ_cons, List.take_zero, List.drop_succ_cons, List.drop_zero]
          repeat (quiet_step ((fail)))
          refine wpQuiet_nil ?_
          rintro _ ⟨nq, rfl⟩
          go_wp2_with (fail)
          rw [HV.out]
          go_roundg (gk - 1)
          case measure => have := HK2.out; omega
          case rel =>
            refine ⟨j + 1, by omega, by go_num, ⟨?_⟩, ⟨Below.setCell (p := ⟨g, q, none⟩) (HB3.out.trans ((drewN_below wr nq).mono HB3.out.size)) HG.out _⟩, ⟨by have := HK2.out; omega⟩⟩
            have ho := HO2.out.drewN nq
            have hsl := HSET.out
            have hlen : ((setBits y B l1 j).set q (orBit b r)).length = n := by rw [List.length_set]; exact HLS.out
            rw [← HLS.out] at ho
            have := Own.put ho q (orBit b r)
            rw [hlen] at this
            rw [hsl]
            exact this
        · obtain rfl : j = 8 := by omega
          have cjb : decide (((8 : Nat) : Int) < 8) = false := by decide
          go_wp2_with (fail)
          go_roundg gk0
          case measure => omega
          case rel =>
            refine ⟨k + 1, by omega, by go_num, ⟨?_⟩, HB3, ⟨by have := HK.out; omega⟩⟩
            rw [insertS_take l B hs k (by rw [HLM.out]; exact ck), HY.out, HL1.out]; exact HO2.out
    · obtain rfl : k = m := by omega
      have ckb : decide ((k : Int) < k) = false := decide_eq_false (by omega)
      go_wp2_with (fail)
      go_ret
      have := HO.out
      rw [← HLM.out, List.take_length] at this
      exact ⟨_, rfl, this, HB1.out⟩
end Go.Proofs.YtojoppondgnajaaDoor.Bl
