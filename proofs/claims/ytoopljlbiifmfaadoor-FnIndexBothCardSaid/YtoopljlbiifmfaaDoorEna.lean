import Derived.Test.YtoopljlbiifmfaaDoorDec
/-! Numbers of 32 bits in runs: the encoder's parts. -/
namespace Go.Proofs.YtoopljlbiifmfaaDoor.Ena
open Go.Proofs.YtoopljlbiifmfaaDoor.Dec Go.Proofs.YtoopljlbiifmfaaDoor.Uva Go.Proofs.YtoopljlbiifmfaaDoor.Rle Go.Proofs.YtoopljlbiifmfaaDoor.Run Go.Proofs.YtoopljlbiifmfaaDoor.Rlp Go.Proofs.YtoopljlbiifmfaaDoor.Rlb Go.Proofs.YtoopljlbiifmfaaDoor.Buf Go.Proofs.YtoopljlbiifmfaaDoor.Fit Go.Proofs.YtoopljlbiifmfaaDoor.Bit Go.Proofs.YtoopljlbiifmfaaDoor.Wrd Go.Proofs.YtoopljlbiifmfaaDoor.Spl Go.Proofs.YtoopljlbiifmfaaDoor.Str Go.Proofs.YtoopljlbiifmfaaDoor.Flt Go.Proofs.YtoopljlbiifmfaaDoor.Owe Go.Proofs.YtoopljlbiifmfaaDoor.Num Go.Proofs.YtoopljlbiifmfaaDoor.Le Go.Proofs.YtoopljlbiifmfaaDoor.Lst Go.Proofs.YtoopljlbiifmfaaDoor.Aid Go.RowKit Go.Proofs.YtoopljlbiifmfaaDoorW.PrintWords Go.Proofs.YtoopljlbiifmfaaDoorW.PrintLast Go.Proofs.YtoopljlbiifmfaaDoorW.PrintMore
set_option linter.unusedVariables false
set_option linter.unusedSimpArgs false
theorem infoI32e : (Tryd.prog.info? 21).map (fun i => (i.zero, i.size, i.bytes)) = some (some (.int .i32 0), 1, 4) := by kernel_rfl
/-! ### packing, bit by bit -/
theorem byteLo_congr {f f' : Nat → Bool} {i : Nat} (h : ∀ p, 8 * i ≤ p → p < 8 * i + 8 → f p = f' p) : byteLo f i = byteLo f' i :=
  bitsN_congr fun q hq => h _ (by omega) (by omega)
theorem upTo_succ_false (f : Nat → Bool) (o : Nat) (h : f o = false) : upTo f (o + 1) = upTo f o := by
  funext p
  unfold upTo
  by_cases c : p < o
  · simp [c, show p < o + 1 by omega]
  · by_cases c2 : p = o
    · subst c2; simp [h]
    · simp [c, show ¬ p < o + 1 by omega]
theorem byteLo_set (f : Nat → Bool) (o : Nat) (h : f o = true) : byteLo (upTo f (o + 1)) (o / 8) = byteLo (upTo f o) (o / 8) ||| 2 ^ (o % 8) := by
  symm
  refine eq_bitsN ?_ fun q hq => ?_
  · refine Nat.or_lt_two_pow (byteLo_lt _ _) ?_
    have := two_pow_le (show o % 8 ≤ 7 by omega)
    have e : (2 : Nat) ^ 7 = 128 := by decide
    have e8 : (2 : Nat) ^ 8 = 256 := by decide
    omega
  · rw [Nat.testBit_or, byteLo_bit _ _ _ hq, Nat.testBit_two_pow]
    unfold upTo
    by_cases c : 8 * (o / 8) + q = o
    · rw [c, h]; simp [show o % 8 = q by omega]
    · by_cases c2 : 8 * (o / 8) + q < o
      · simp [c2, show 8 * (o / 8) + q < o + 1 by omega, show ¬ o % 8 = q by omega]
      · simp [c2, show ¬ 8 * (o / 8) + q < o + 1 by omega, show ¬ o % 8 = q by omega]
theorem bytesLo_set (f : Nat → Bool) (o M : Nat) (h : f o = true) (ho : o / 8 < M) : (bytesLo (upTo f o) M).set (o / 8) ((byteLo (upTo f o) (o / 8) ||| 2 ^ (o % 8) : Nat) : Int) = bytesLo (upTo f (o + 1)) M := by
  apply rd_ext
  · simp [bytesLo]
  · intro i hi
    rw [List.length_set, bytesLo_length] at hi
    rw [rd_set _ _ _ _ (by rw [bytesLo_length]; exact ho)]
    by_cases c : i = o / 8
    · subst c; rw [if_pos rfl, rd_bytesLo _ _ _ hi, byteLo_set f o h]
    · rw [if_neg c, rd_bytesLo _ _ _ hi, rd_bytesLo _ _ _ hi]
      congr 1
      refine byteLo_congr fun p h1 h2 => ?_
      unfold upTo
      simp [show (p < o) = (p < o + 1) from by apply propext; omega]
theorem bytesLo_zero (f : Nat → Bool) (M : Nat) : bytesLo (upTo f 0) M = List.replicate M 0 := by
  apply rd_ext
  · simp [bytesLo]
  · intro i hi
    rw [bytesLo_length] at hi
    rw [rd_bytesLo _ _ _ hi, rd_nat _ _ (by simpa using hi)]
    have : byteLo (upTo f 0) i = 0 := by
      symm
      refine eq_bitsN (by decide) fun q hq => ?_
      unfold upTo; simp
    rw [this]; simp
theorem packLo_upTo (w : Nat) (l : List Int) (h8 : 8 * (l.length * w / 8) = l.length * w) : bytesLo (upTo (bitsLo w l) (l.length * w)) ((l.length * w + 7) / 8) = packLo w l := by
  unfold packLo
  rw [show (l.length * w + 7) / 8 = l.length * w / 8 by omega]
  unfold bytesLo
  apply List.map_congr_left
  intro i hi
  rw [List.mem_range] at hi
  congr 1
  refine byteLo_congr fun p h1 h2 => ?_
  unfold upTo
  rw [decide_eq_true (by omega), Bool.true_and]
theorem bitsLo_at (w : Nat) (l : List Int) (j k o y : Nat) (hk : k < w) (ho : o = j * w + k) (hy : rd l (j : Nat) = (y : Int)) : bitsLo w l o = y.testBit k := by
  unfold bitsLo
  rw [ho, Nat.mul_comm j w, Nat.mul_add_div (by omega), Nat.div_eq_of_lt hk, Nat.mul_add_mod, Nat.mod_eq_of_lt hk, Nat.add_zero, hy, Int.toNat_natCast]
theorem bit_and32 (y k : Nat) (hy : y < 4294967296) : bits .and .u32 ((y : Int) / 2 ^ k) 1 = (((y.testBit k).toNat : Nat) : Int) := by
  have e : (y : Int) / 2 ^ k = ((y / 2 ^ k : Nat) : Int) := by push_cast; rfl
  rw [e, show (1 : Int) = ((2 ^ 1 - 1 : Nat) : Int) by decide, u32_and_nat _ _ (Nat.lt_of_le_of_lt (Nat.div_le_self _ _) hy) (by decide), Nat.and_two_pow_sub_one_eq_mod]
  congr 1
  rw [Nat.testBit_eq_decide_div_mod_eq]
  have := Nat.mod_lt (y / 2 ^ k) (show 0 < 2 by omega)
  rw [Nat.pow_one]
  rcases (show y / 2 ^ k % 2 = 0 ∨ y / 2 ^ k % 2 = 1 by omega) with h | h <;> simp [h]
theorem Front.set {w : World} {g C t : Nat} {k : IntKind} {xs : List Int} (h : Front w g C t k xs) (j : Nat) (hj : j < xs.length) (y : Int) : Front (w.setCell ⟨g, j, none⟩ (.int k y)) g C t k (xs.set j y) := by
  obtain ⟨cs, hb, hc, hle, hx⟩ := h.out
  refine ⟨_, hb.set j (.int k y), by simp [hc], by simpa using hle, fun i hi => ?_⟩
  rw [List.length_set] at hi
  rw [Array.getElem?_setIfInBounds, rd_set _ _ _ _ hj]
  by_cases e : j = i
  · subst e; rw [if_pos rfl, if_pos (by omega), if_pos rfl]
  · rw [if_neg e, hx i hi, if_neg (fun h => e h.symm)]
theorem set_right (xs B : List Int) (o q : Nat) (y : Int) (ho : xs.length = o) : (xs ++ B).set (o + q) y = xs ++ B.set q y := by
  rw [List.set_append_right _ _ (by omega), show o + q - xs.length = q by omega]
theorem cutAnyE {P : Program} (t e : TypeId) {i : TypeInfo} (ht : P.underlying t = some (.slice e)) (hi : P.info? e = some i) (A : Option Addr) (n C size : Nat) (h : size ≤ C) :
    ∀ W : World, (Instr.slice t (.slice A n C) none (some (.int .i64 (size : Int))) none).run P W = .ok (.slice A size C) W := by
  intro W
  have hel : P.elem t = e := by simp [Program.elem, ht]
  have hu : P.underlying t = some (.slice (P.elem t)) := by rw [hel]; exact ht
  rw [run_slice_h W t A n C hu .i64 size (by omega) (by omega), hel]
  cases A <;> simp [sizeOf, typeInfo, hi, sliced, Result.andThen, Addr.add]
/-- cuts of a slice of words of eight numbers -/
theorem cutLo8 {P : Program} (t e : TypeId) {i : TypeInfo} (ht : P.underlying t = some (.slice e)) (hi : P.info? e = some i) (hsz : i.size = 8) (A : Option Addr) (n c : Nat) (kl : IntKind) (lo : Int) (l : Nat) (hlo : lo = l) (h1 : l ≤ n) (hc : n ≤ c) :
    ∃ A', (∀ W : World, (Instr.slice t (.slice A n c) (some (.int kl lo)) none none).run P W = .ok (.slice A' (n - l) (c - l)) W) ∧
      ∀ (w : World) (xs : List Int), (Kd.int .i32).C w A (8 * n) xs → (Kd.int .i32).C w A' (8 * (n - l)) (xs.drop (8 * l)) := by
  refine ⟨if c = l then A else A.map (·.add (l * 8)), ?_, ?_⟩
  · intro W
    subst hlo
    have := cut_from t e kl ht hi 8 hsz A n c l (by omega) (by omega) W
    simpa using this
  · intro w xs h
    have hn : xs.length = 8 * n := h.1
    have h' : (Kd.int .i32).C w A xs.length xs := by rw [hn]; exact h
    have := Kd.C_drop (m := 8 * l) (c := 8 * c) h' (by omega) (by omega)
    rw [List.length_drop, hn, show 8 * n - 8 * l = 8 * (n - l) by omega] at this
    have e1 : (8 * c = 8 * l) = (c = l) := by apply propext; omega
    have e2 : 8 * l * (Kd.int IntKind.i32).sz = l * 8 := by show 8 * l * 1 = l * 8; omega
    rw [e2] at this
    simp only [e1] at this
    exact this
theorem cutMid8 {P : Program} (t e : TypeId) {i : TypeInfo} (ht : P.underlying t = some (.slice e)) (hi : P.info? e = some i) (hsz : i.size = 8) (A : Option Addr) (n c : Nat) (kl kh : IntKind) (lo hi' : Int) (l h : Nat) (hlo : lo = l) (hhi : hi' = h) (h0 : l ≤ h) (h1 : h ≤ n) (hc : n ≤ c) :
    ∃ A', (∀ W : World, (Instr.slice t (.slice A n c) (some (.int kl lo)) (some (.int kh hi')) none).run P W = .ok (.slice A' (h - l) (c - l)) W) ∧
      ∀ (w : World) (xs : List Int), (Kd.int .i32).C w A (8 * n) xs → (Kd.int .i32).C w A' (8 * (h - l)) ((xs.take (8 * h)).drop (8 * l)) := by
  refine ⟨if c = l then A else A.map (·.add (l * 8)), ?_, ?_⟩
  · intro W
    subst hlo hhi
    have := cut_mid t e kl kh ht hi 8 hsz A n c l h (by omega) (by omega) (by omega) hc W
    simpa using this
  · intro w xs hC
    have hn : xs.length = 8 * n := hC.1
    have h' : (Kd.int .i32).C w A xs.length xs := by rw [hn]; exact hC
    have := Kd.C_mid (lo := 8 * l) (hi := 8 * h) (c := 8 * c) h' (by omega) (by omega) (by omega)
    rw [List.length_drop, List.length_take, Nat.min_eq_left (by omega), show 8 * h - 8 * l = 8 * (h - l) by omega] at this
    have e1 : (8 * c = 8 * l) = (c = l) := by apply propext; omega
    have e2 : 8 * l * (Kd.int IntKind.i32).sz = l * 8 := by show 8 * l * 1 = l * 8; omega
    rw [e2] at this
    simp only [e1] at this
    exact this
theorem at8 {w : World} {A : Option Addr} {m : Nat} {l : List Int} (h : (Kd.int .i32).C w A (8 * m) l) (i : Nat) (hi : i < m) :
    ∃ ad, A = some ad ∧ w.cell? (ad.add (i * 8)) = some (.int .i32 (rd l (8 * i : Nat))) ∧ ∀ q, 0 < q → q < 8 → w.cell? ⟨(ad.add (i * 8)).block, (ad.add (i * 8)).off + q, none⟩ = some (.int .i32 (rd l (8 * i + q : Nat))) := by
  obtain ⟨ad, e, hc⟩ := Kd.at_int h ((8 * i : Nat) : Int) (by omega) (by omega)
  rw [Int.toNat_natCast] at hc
  refine ⟨ad, e, by rw [Nat.mul_comm i 8]; exact hc, fun q h0 h8 => ?_⟩
  obtain ⟨ad2, e2, hc2⟩ := Kd.at_int h ((8 * i + q : Nat) : Int) (by omega) (by omega)
  rw [e] at e2
  injection e2 with e2
  subst e2
  rw [Int.toNat_natCast] at hc2
  have e3 : (⟨(ad.add (i * 8)).block, (ad.add (i * 8)).off + q, none⟩ : Addr) = ad.add (8 * i + q) := by
    rw [← add_field _ _ _ h0, Nat.mul_comm i 8]
  rw [e3]; exact hc2
set_option maxHeartbeats 8000000 in
set_option maxRecDepth 100000 in
theorem packInt32_calls (g C t n c : Nat) (xs : List Int) (A : Option Addr) (N cs b M : Nat) (l : List Int) (w0 : World) (hF : Front w0 g C t .u8 xs) (hA : ReadKeep w0 g .i32 A N l) (hN : N ≤ 1000000) (hwf : ∀ x ∈ l, (Lit.int .i32 x).wf = true) (hb : b ≤ 32) (hM : (N * b + 7) / 8 = M) (hMn : M ≤ n) (hnc : n ≤ c) (hC : xs.length + n ≤ C) (hc9 : c ≤ 9223372036854775807) :
    Calls Tryd.prog 145 #[.slice (some ⟨g, xs.length, none⟩) n c, .slice A N cs, .int .u64 b] w0 fun e w' => e = .returned (.tuple #[]) ∧ Front w' g C t .u8 (xs ++ bytesLo (upTo (bitsLo b (wideL 32 l)) (N * b)) M) ∧ w0.grownBy w' (some g) := by
  have HF := Aside0.mk hF
  have HA := Aside0.mk hA
  have HLN : Aside0 (l.length = N) := ⟨(hA w0 (grownRefl _ _)).1⟩
  have HWF := Aside0.mk hwf
  obtain ⟨o, ho⟩ : ∃ o, xs.length = o := ⟨_, rfl⟩
  have HO := Aside0.mk ho
  rw [ho] at hC ⊢
  obtain ⟨nb, hnb⟩ : ∃ nb, N * b = nb := ⟨_, rfl⟩
  have hnbI : (N : Int) * (b : Int) = (nb : Int) := by rw [← hnb]; push_cast; rfl
  have hnb9 : nb ≤ 32000000 := by rw [← hnb]; exact Nat.le_trans (Nat.mul_le_mul hN hb) (by omega)
  rw [hnb] at hM ⊢
  have HNB := Aside0.mk hnb
  have HBC := Aside0.mk fun W => byteCount_calls nb W (by omega)
  rw [hM] at HBC
  obtain ⟨i8, h8⟩ := h8
  have cut1 := cutAnyE (P := Tryd.prog) 25 5 Tryd.underlying25 h8.1 (some ⟨g, o, none⟩) n c M (by omega)
  obtain ⟨f, hf⟩ : ∃ f : Nat → Bool, bitsLo b (wideL 32 l) = f := ⟨_, rfl⟩
  have HFF := Aside0.mk hf
  rw [hf]
  clear hF hA hwf ho hnb hf
  go_enter Tryd.func145, Tryd.ntmps145
  go_wp2_with (first
    | (go_at_call 82; go_loud (with_reducible refine (HBC.out _).mono ?_); rintro e w1 ⟨rfl, rfl⟩))
  go_loopg [6, 20] M (fun kq v6 v20 w' => ∃ j : Nat, j ≤ M ∧ v20 = .int .i64 j ∧ Aside0 (Front w' g C t .u8 (xs ++ List.replicate j 0)) ∧ Aside0 (w0.grownBy w' (some g)) ∧ Aside0 (M - j ≤ kq))
  case atStart => exact ⟨0, by omega, rfl, ⟨by rw [List.replicate_zero, List.append_nil]; exact HF.out⟩, ⟨grownRefl _ _⟩, ⟨by omega⟩⟩
  case round =>
    obtain ⟨j, hj, rfl, HR, HG, HK⟩ := hrel
    by_cases cj : j < M
    · have cjb : decide ((j : Int) < (M : Int)) = true := decide_eq_true (by omega)
      obtain ⟨z, rc⟩ := HR.out.cell (o + j) (by omega)
      have rf := HR.out.free (o + j)
      have hjn : j < n := by omega
      go_wp2_with (fail)
      go_roundg (gk - 1)
      case measure => have := HK.out; omega
      case rel =>
        refine ⟨j + 1, by omega, by go_num, ⟨?_⟩, ⟨grownSet HG.out _ _⟩, ⟨by have := HK.out; omega⟩⟩
        have := HR.out.push (by rw [List.length_append, List.length_replicate, HO.out]; omega) 0 (o + j) (by rw [List.length_append, List.length_replicate, HO.out])
        rw [List.append_assoc, ← List.replicate_succ'] at this
        exact this
    · obtain rfl : j = M := by omega
      have cjb : decide ((j : Int) < (j : Int)) = false := decide_eq_false (by omega)
      have HR1 : Aside0 (Front wr g C t .u8 (xs ++ bytesLo (upTo f 0) j)) := ⟨by rw [bytesLo_zero]; exact HR.out⟩
      go_wp2_with (fail)
      clear HR
      go_loopg [7, 8, 29] N (fun kq v7 v8 v29 w' => ∃ (i ib : Nat), i ≤ N ∧ v29 = .int .i64 i ∧ Aside0 (ib = i * b) ∧ Aside0 (Front w' g C t .u8 (xs ++ bytesLo (upTo f ib) j)) ∧ Aside0 (w0.grownBy w' (some g)) ∧ Aside0 (N - i ≤ kq))
      case atStart => exact ⟨0, 0, by omega, rfl, ⟨by simp⟩, HR1, HG, ⟨by omega⟩⟩
      case round =>
        clear HR1 HG
        obtain ⟨i, ib, hi, rfl, HIB, HR, HG, HK3⟩ := hrel
        by_cases ci : i < N
        · have cib : decide ((i : Int) < N) = true := decide_eq_true (by omega)
          obtain ⟨gk0, rfl⟩ : ∃ gk0, gk = gk0 + 1 := ⟨gk - 1, by have := HK3.out; omega⟩
          have hibI : (i : Int) * (b : Int) = (ib : Int) := by rw [HIB.out]; push_cast; rfl
          have hib9 : ib + b ≤ nb := by
            have h1 : (i + 1) * b ≤ N * b := Nat.mul_le_mul_right b ci
            rw [Nat.succ_mul] at h1
            have := HNB.out; have := HIB.out; omega
          obtain ⟨ad, ead, hcell⟩ := Kd.at_int (HA.out wr HG.out) (i : Int) (by omega) (by omega)
          rw [Int.toNat_natCast] at hcell
          obtain ⟨y, hy⟩ : ∃ y, rd l (i : Int) = y := ⟨_, rfl⟩
          rw [hy] at hcell
          have hyw := wf_bd (HWF.out y (by rw [← hy]; exact rd_mem (by rw [HLN.out]; exact ci)))
          have e1 : IntKind.i32.min = -2147483648 := by decide +kernel
          have e2 : IntKind.i32.max = 2147483647 := by decide +kernel
          rw [e1, e2] at hyw
          obtain ⟨hy0, hy1⟩ := hyw
          obtain ⟨u, hu⟩ : ∃ u : Nat, y % 4294967296 = (u : Int) := ⟨(y % 4294967296).toNat, by omega⟩
          have hu9 : u < 4294967296 := by omega
          have huw : IntKind.u32.wrap y = (u : Int) := by rw [IntKind.wrap_u32]; exact hu
          have HUQ : Aside0 (rd (wideL 32 l) (i : Nat) = (u : Int)) := ⟨by
            unfold wideL
            rw [rd_map _ _ _ (by rw [HLN.out]; exact ci)]
            show wideI 32 (rd l (i : Int)) = _
            rw [hy, ← hu]; rfl⟩
          have hibw : IntKind.u64.wrap (ib : Int) = (ib : Int) := IntWalk.u64_in _ (by omega)
          subst ead
          clear hy e1 e2
          have HR0 : Aside0 (Front wr g C t .u8 (xs ++ bytesLo (upTo f (ib + 0)) j)) := ⟨by rw [Nat.add_zero]; exact HR.out⟩
          go_wp2_with (fail)
          go_loopg [9, 10] b (fun kq v9 v10 w' => ∃ k : Nat, k ≤ b ∧ v9 = .int .u64 k ∧ Aside0 (Front w' g C t .u8 (xs ++ bytesLo (upTo f (ib + k)) j)) ∧ Aside0 (w0.grownBy w' (some g)) ∧ Aside0 (b - k ≤ kq))
          case atStart => exact ⟨0, by omega, rfl, HR0, HG, ⟨by omega⟩⟩
          case round =>
            clear HR HR0 HG
            obtain ⟨k, hk, rfl, HR, HG, HK2⟩ := hrel
            by_cases ck : k < b
            · have ckb : decide ((k : Int) < (b : Int)) = true := decide_eq_true (by omega)
              have ckb2 : decide (k < b) = true := decide_eq_true ck
              have hand := bit_and32 u k hu9
              have hfo : f (ib + k) = u.testBit k := by rw [← HFF.out]; exact bitsLo_at b (wideL 32 l) i k (ib + k) u ck (by rw [HIB.out]) HUQ.out
              have hk32 : k < 32 := by omega
              by_cases cb : u.testBit k = true
              · rw [cb] at hand hfo
                obtain ⟨p, hp⟩ : ∃ p, ib + k = p := ⟨_, rfl⟩
                have hpI : (ib : Int) + (k : Int) = (p : Int) := by omega
                obtain ⟨q, hq⟩ : ∃ q, p / 8 = q := ⟨_, rfl⟩
                obtain ⟨r, hr⟩ : ∃ r, p % 8 = r := ⟨_, rfl⟩
                have hq1 : (p : Int) / 8 = (q : Int) := by omega
                have hr1 : (p : Int) % 8 = (r : Int) := by omega
                have hr8 : r < 8 := by omega
                have hqM : q < j := by omega
                have hqn : q < n := by omega
                have hpw9 : IntKind.u64.wrap (p : Int) = (p : Int) := IntWalk.u64_in _ (by omega)
                have rc := HR.out.at' (o + q) (by rw [List.length_append, bytesLo_length, HO.out]; omega)
                have rf := HR.out.free (o + q)
                rw [rd_append, if_neg (by rw [HO.out]; omega), HO.out, show o + q - o = q by omega, rd_bytesLo _ _ _ hqM] at rc
                have hset := bytesLo_set f p j (by rw [← hp]; exact hfo) (by omega)
                rw [hp] at rc
                rw [hq, hr] at hset
                obtain ⟨z, hz⟩ : ∃ z, byteLo (upTo f p) q = z := ⟨_, rfl⟩
                have hz8 : z < 256 := by rw [← hz]; exact byteLo_lt _ _
                rw [hz] at rc hset
                have hpp := two_pow_le (show r ≤ 7 by omega)
                have e7 : (2 : Nat) ^ 7 = 128 := by decide
                obtain ⟨pw, hpw⟩ : ∃ pw, 2 ^ r = pw := ⟨_, rfl⟩
                have hpwI : (2 : Int) ^ r = (pw : Int) := by rw [← hpw]; push_cast; rfl
                have hpm : (pw : Int) % 256 = (pw : Int) := by omega
                have hp9 : pw < 256 := by omega
                have hpwrap : IntKind.u8.wrap (pw : Int) = (pw : Int) := by rw [IntKind.wrap_u8]; omega
                have HOR := Aside0.mk (u8_or_nat z pw hz8 hp9)
                rw [hpw] at hset
                have HSET := Aside0.mk hset
                have HP := Aside0.mk hp
                clear hfo hq hr hset hz hpp hpw hp cb
                go_wp2_with (fail)
                rw [HOR.out]
                go_roundg (gk - 1)
                case measure => have := HK2.out; omega
                case rel =>
                  refine ⟨k + 1, by omega, by go_num, ⟨?_⟩, ⟨grownSet HG.out _ _⟩, ⟨by have := HK2.out; omega⟩⟩
                  have h := Front.set HR.out (o + q) (by rw [List.length_append, bytesLo_length, HO.out]; omega) ((z ||| pw : Nat) : Int)
                  rw [set_right _ _ _ _ _ HO.out, HP.out, HSET.out] at h
                  rw [← Nat.add_assoc, HP.out]
                  exact h
              · have cb2 : u.testBit k = false := by simpa using cb
                rw [cb2] at hand hfo
                have HUS := Aside0.mk (upTo_succ_false f (ib + k) hfo)
                clear hfo cb cb2
                go_wp2_with (fail)
                go_roundg (gk - 1)
                case measure => have := HK2.out; omega
                case rel =>
                  refine ⟨k + 1, by omega, by go_num, ⟨?_⟩, HG, ⟨by have := HK2.out; omega⟩⟩
                  rw [← Nat.add_assoc, HUS.out]; exact HR.out
            · obtain rfl : k = b := by omega
              have ckb : decide ((k : Int) < (k : Int)) = false := decide_eq_false (by omega)
              go_wp2_with (fail)
              go_roundg gk0
              case measure => omega
              case rel => exact ⟨i + 1, ib + k, by omega, by go_num, ⟨by rw [HIB.out, Nat.succ_mul]⟩, HR, HG, ⟨by have := HK3.out; omega⟩⟩
        · obtain rfl : i = N := by omega
          have cib : decide ((i : Int) < i) = false := decide_eq_false (by omega)
          have HIN : Aside0 (ib = nb) := ⟨by rw [HIB.out]; exact HNB.out⟩
          go_wp2_with (fail)
          go_end0
          exact ⟨rfl, by rw [← HIN.out]; exact HR.out, HG.out⟩
end Go.Proofs.YtoopljlbiifmfaaDoor.Ena
