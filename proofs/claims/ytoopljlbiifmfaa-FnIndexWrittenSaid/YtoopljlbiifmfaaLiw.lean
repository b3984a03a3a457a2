import Derived.Test.YtoopljlbiifmfaaLie
import Derived.Test.YtoopljlbiifmfaaLen
import Derived.Test.YtoopljlbiifmfaaRvh
import Derived.Test.YtoopljlbiifmfaaPad
/-! Indexes in runs behind their width: the methods that write them. -/
namespace Go.Proofs.Ytoopljlbiifmfaa.Max
open Go.Proofs.Ytoopljlbiifmfaa.Len Go.Proofs.Ytoopljlbiifmfaa.Lie Go.Proofs.Ytoopljlbiifmfaa.Ene Go.Proofs.Ytoopljlbiifmfaa.Rlx Go.Proofs.Ytoopljlbiifmfaa.End Go.Proofs.Ytoopljlbiifmfaa.Enc Go.Proofs.Ytoopljlbiifmfaa.Enb Go.Proofs.Ytoopljlbiifmfaa.Ena Go.Proofs.Ytoopljlbiifmfaa.Dec Go.Proofs.Ytoopljlbiifmfaa.Uva Go.Proofs.Ytoopljlbiifmfaa.Rle Go.Proofs.Ytoopljlbiifmfaa.Run Go.Proofs.Ytoopljlbiifmfaa.Rlp Go.Proofs.Ytoopljlbiifmfaa.Rlb Go.Proofs.Ytoopljlbiifmfaa.Buf Go.Proofs.Ytoopljlbiifmfaa.Fit Go.Proofs.Ytoopljlbiifmfaa.Bit Go.Proofs.Ytoopljlbiifmfaa.Wrd Go.Proofs.Ytoopljlbiifmfaa.Spl Go.Proofs.Ytoopljlbiifmfaa.Str Go.Proofs.Ytoopljlbiifmfaa.Flt Go.Proofs.Ytoopljlbiifmfaa.Owe Go.Proofs.Ytoopljlbiifmfaa.Num Go.Proofs.Ytoopljlbiifmfaa.Le Go.Proofs.Ytoopljlbiifmfaa.Lst Go.Proofs.Ytoopljlbiifmfaa.Aid Go.RowKit Go.Proofs.YtoopljlbiifmfaaW.PrintWords Go.Proofs.YtoopljlbiifmfaaW.PrintLast Go.Proofs.YtoopljlbiifmfaaW.PrintMore
set_option linter.unusedVariables false
set_option linter.unusedSimpArgs false
set_option maxHeartbeats 4000000 in
theorem maxLen_calls (A : Option Addr) (n c : Nat) (l : List Int) (w : World) (hC : (Kd.int .i32).C w A n l) (hc : n ≤ c) (hn : n ≤ 2147483647) :
    Calls Try.prog 36 #[.slice A n c] w fun e w' => ∃ k : Nat, e = .returned (.int .i64 (k : Int)) ∧ k ≤ 32 ∧ fitL k (wideL 32 l) ∧ w = w' := by
  have HLN : Aside0 (l.length = n) := ⟨hC.1⟩
  have HC := Aside0.mk hC
  clear hC
  go_enter Try.func36, Try.ntmps36
  go_wp2_with (fail)
  go_loopg [2, 4, 5, 8] n (fun kq v2 v4 v5 v8 w' => ∃ (j k : Nat), j ≤ n ∧ k ≤ 32 ∧ v8 = .int .i64 j ∧ v2 = .int .i64 k ∧ Aside0 (∀ p : Nat, p < j → rd l (p : Nat) % 4294967296 < ((2 ^ k : Nat) : Int)) ∧ w = w' ∧ Aside0 (n - j ≤ kq))
  case atStart => exact ⟨0, 0, by omega, by omega, rfl, rfl, ⟨fun p hp => by omega⟩, rfl, ⟨by omega⟩⟩
  case round =>
    obtain ⟨j, k, hj, hk, rfl, rfl, HP, rfl, HK⟩ := hrel
    by_cases cj : j < n
    · have cjb : decide ((j : Int) < n) = true := decide_eq_true (by omega)
      obtain ⟨ad, ead, hcell⟩ := Kd.at_int HC.out (j : Int) (by omega) (by omega)
      rw [Int.toNat_natCast] at hcell
      obtain ⟨y, hy⟩ : ∃ y, rd l (j : Int) = y := ⟨_, rfl⟩
      rw [hy] at hcell
      obtain ⟨u, hu⟩ : ∃ u : Nat, y % 4294967296 = (u : Int) := ⟨(y % 4294967296).toNat, by omega⟩
      have hyw : IntKind.u32.wrap y = (u : Int) := by rw [IntKind.wrap_u32]; exact hu
      have hu9 : u < 4294967296 := by omega
      have HY : Aside0 (rd l (j : Nat) % 4294967296 = (u : Int)) := ⟨by rw [hy]; exact hu⟩
      have hbl := bitLen_fit u hu9
      have HL : Aside0 (∀ W : World, Calls Try.prog 54 #[.int .u32 (u : Int)] W fun e w' => e = .returned (.int .i64 (Lib.bitLen u)) ∧ w' = W) := ⟨fun W => by
        have := len32_calls' (u : Int) W (by omega) (by omega)
        rw [Int.toNat_natCast] at this
        exact this⟩
      obtain ⟨q, hq⟩ : ∃ q, Lib.bitLen u = q := ⟨_, rfl⟩
      rw [hq] at hbl HL
      obtain ⟨hq32, huq⟩ := hbl
      have HUQ := Aside0.mk huq
      clear hu hy hq huq
      subst ead
      by_cases cq : k < q
      · have cqb : decide ((k : Int) < (q : Int)) = true := decide_eq_true (by omega)
        go_wp2_with (first
          | (go_at_call 54; go_loud (with_reducible refine (HL.out _).mono ?_); rintro e w2 ⟨rfl, rfl⟩))
        go_roundg (gk - 1)
        case measure => have := HK.out; omega
        case rel =>
          refine ⟨j + 1, q, by omega, hq32, by go_num, rfl, ⟨fun p hp => ?_⟩, rfl, ⟨by have := HK.out; omega⟩⟩
          by_cases h : p < j
          · have h1 := HP.out p h
            have h2 : (2 : Nat) ^ k ≤ 2 ^ q := Nat.pow_le_pow_right (by omega) (by omega)
            omega
          · obtain rfl : p = j := by omega
            have h1 := HY.out
            have h2 := HUQ.out
            omega
      · have cqb : decide ((k : Int) < (q : Int)) = false := decide_eq_false (by omega)
        go_wp2_with (first
          | (go_at_call 54; go_loud (with_reducible refine (HL.out _).mono ?_); rintro e w2 ⟨rfl, rfl⟩))
        go_roundg (gk - 1)
        case measure => have := HK.out; omega
        case rel =>
          refine ⟨j + 1, k, by omega, hk, by go_num, rfl, ⟨fun p hp => ?_⟩, rfl, ⟨by have := HK.out; omega⟩⟩
          by_cases h : p < j
          · exact HP.out p h
          · obtain rfl : p = j := by omega
            have h1 := HY.out
            have h2 := HUQ.out
            have h3 : (2 : Nat) ^ q ≤ 2 ^ k := Nat.pow_le_pow_right (by omega) (by omega)
            omega
    · obtain rfl : j = n := by omega
      have cjb : decide ((j : Int) < j) = false := decide_eq_false (by omega)
      go_wp2_with (fail)
      go_ret
      refine ⟨k, rfl, hk, fun x hx => ?_, rfl⟩
      unfold wideL at hx
      obtain ⟨y, hy, rfl⟩ := List.mem_map.1 hx
      obtain ⟨p, hp, rfl⟩ := List.getElem_of_mem hy
      have h := HP.out p (by rw [← HLN.out]; exact hp)
      rw [rd_nat _ _ hp] at h
      have h3 : (2 : Int) ^ k = ((2 ^ k : Nat) : Int) := by push_cast; rfl
      rw [h3]
      show 0 ≤ l[p] % 4294967296 ∧ l[p] % 4294967296 < _
      omega
set_option maxHeartbeats 4000000 in
theorem isZero32_calls (A : Option Addr) (n c : Nat) (l : List Int) (w : World) (hC : (Kd.int .i32).C w A n l) (hc : n ≤ c) (hn : n ≤ 2147483647) (hz : ∀ p : Nat, p < n → rd l (p : Nat) = 0) :
    Calls Try.prog 45 #[.slice A n c] w fun e w' => e = .returned (.bool true) ∧ w = w' := by
  have HC := Aside0.mk hC
  have HZ := Aside0.mk hz
  clear hC hz
  go_enter Try.func45, Try.ntmps45
  go_wp2_with (fail)
  go_loopg [4, 7] n (fun kq v4 v7 w' => ∃ (j : Nat), j ≤ n ∧ v7 = .int .i64 j ∧ w = w' ∧ Aside0 (n - j ≤ kq))
  case atStart => exact ⟨0, by omega, rfl, rfl, ⟨by omega⟩⟩
  case round =>
    obtain ⟨j, hj, rfl, rfl, HK⟩ := hrel
    by_cases cj : j < n
    · have cjb : decide ((j : Int) < n) = true := decide_eq_true (by omega)
      obtain ⟨ad, ead, hcell⟩ := Kd.at_int HC.out (j : Int) (by omega) (by omega)
      rw [Int.toNat_natCast, HZ.out j cj] at hcell
      subst ead
      go_wp2_with (fail)
      go_roundg (gk - 1)
      case measure => have := HK.out; omega
      case rel => exact ⟨j + 1, by omega, by go_num, rfl, ⟨by have := HK.out; omega⟩⟩
    · obtain rfl : j = n := by omega
      have cjb : decide ((j : Int) < j) = false := decide_eq_false (by omega)
      go_wp2_with (fail)
      go_ret
      exact ⟨rfl, rfl⟩
set_option maxHeartbeats 4000000 in
set_option maxRecDepth 100000 in
theorem appendUvarint_calls (w0 : World) (base : Nat) (v : Value) (xs : List Int) (x : Nat) (w : World) (hO : Own w base 5 .u8 v xs) (hB : Below base w0 w) (hb : base ≤ w.heap.size) (hx : xs.length ≤ 536870912) (hx9 : x < 34359738368) :
    Calls Try.prog 40 #[v, .int .u64 x] w fun e w' => ∃ v1, e = .returned v1 ∧ Own w' base 5 .u8 v1 (xs ++ varL x) ∧ Below base w0 w' := by
  have HF : Aside0 (Front (w.alloc (.cells #[.int .u8 0, .int .u8 0, .int .u8 0, .int .u8 0, .int .u8 0, .int .u8 0, .int .u8 0, .int .u8 0, .int .u8 0, .int .u8 0] 92)) w.heap.size 10 92 .u8 []) := ⟨by
    have := Front.ofRow (w := w.alloc (.cells #[.int .u8 0, .int .u8 0, .int .u8 0, .int .u8 0, .int .u8 0, .int .u8 0, .int .u8 0, .int .u8 0, .int .u8 0, .int .u8 0] 92)) (g := w.heap.size) (t := 92) (k := .u8) (ys := [0, 0, 0, 0, 0, 0, 0, 0, 0, 0]) ⟨Blk.new _ _ _⟩ 0 (by omega)
    exact this⟩
  have HOA : Aside0 (Own (w.alloc (.cells #[.int .u8 0, .int .u8 0, .int .u8 0, .int .u8 0, .int .u8 0, .int .u8 0, .int .u8 0, .int .u8 0, .int .u8 0, .int .u8 0] 92)) base 5 .u8 v xs) := ⟨hO.alloc _⟩
  have HBA : Aside0 (Below base w0 (w.alloc (.cells #[.int .u8 0, .int .u8 0, .int .u8 0, .int .u8 0, .int .u8 0, .int .u8 0, .int .u8 0, .int .u8 0, .int .u8 0, .int .u8 0] 92))) := ⟨hB.alloc hb _⟩
  have HNE : Aside0 (v.ownBlock = none ∨ v.ownBlock ≠ some w.heap.size) := ⟨.inr fun e => by have := own_lt hO.out w.heap.size e; omega⟩
  have hL5 := varL_len5 x hx9
  have hL0 := varL_pos x
  have HPU := Aside0.mk (putUvarint_calls w.heap.size 10 92 10 10 [] x _ HF.out hx9 (by omega) (by simp))
  obtain ⟨L, hL⟩ : ∃ L, (varL x).length = L := ⟨_, rfl⟩
  rw [hL, List.length_nil] at HPU
  rw [hL] at hL5 hL0
  have HL := Aside0.mk hL
  obtain ⟨n, hn⟩ : ∃ n, xs.length = n := ⟨_, rfl⟩
  have HN := Aside0.mk hn
  rw [hn] at hx
  have hsz : base ≤ (w.alloc (.cells #[.int .u8 0, .int .u8 0, .int .u8 0, .int .u8 0, .int .u8 0, .int .u8 0, .int .u8 0, .int .u8 0, .int .u8 0, .int .u8 0] 92)).heap.size := by simp; omega
  have hglt : w.heap.size < (w.alloc (.cells #[.int .u8 0, .int .u8 0, .int .u8 0, .int .u8 0, .int .u8 0, .int .u8 0, .int .u8 0, .int .u8 0, .int .u8 0, .int .u8 0] 92)).heap.size := HF.out.lt
  have hL9 : (0 : Int) ≤ (L : Int) := by omega
  have hL10 : (L : Int) ≤ 10 := by omega
  have hL11 : (L : Int) ≤ (Try.prog.arrayLen 92 : Int) := by
    rw [show Try.prog.arrayLen 92 = 10 by kernel_rfl]; omega
  obtain ⟨i8, h8⟩ := h8
  clear hO hB hL hn
  go_enter Try.func40, Try.ntmps40
  go_wp2_with (first
    | (go_at_call 57; go_loud (with_reducible refine HPU.out.mono ?_); rintro e w3 ⟨rfl, hf, hg⟩; rw [List.nil_append] at hf; have hf3 := hf.toOwn (base := w.heap.size) (Nat.le_refl _) (by omega); obtain ⟨A3, c3, e3, hc3, hr3⟩ := hf3.read; injection e3 with e4 e5 e6; subst e4; have HR3 := Aside0.mk hr3; rw [HL.out] at HR3; have HS3 : Aside0 (base ≤ w3.heap.size) := ⟨Nat.le_trans hsz hg.size⟩; have HO3 := Aside0.mk (HOA.out.grown hg HNE.out); have HB3 : Aside0 (Below base w0 w3) := ⟨HBA.out.grown hg hsz (fun j hj => by injection hj with hj; omega)⟩; clear hf hg hf3 hr3 e5 e6 hc3)
    | (at_builtin; go_loud (refine appendRead (w0 := w0) base rfl (.tmp 10) (.tmp 12) 22 5 .u8 1 rfl Try.underlying22 infoU8 (by decide) v xs (some ⟨w.heap.size, 0, none⟩) L 10 (varL x) rfl rfl HO3.out HB3.out ?hb HR3.out ?hl ?_); (case hb => exact HS3.out); go_loud ((case hl => rw [HN.out]; omega)); intro v5 w5 ho hb hg; have HO5 := Aside0.mk ho; have HB5 := Aside0.mk hb; clear ho hb hg))
  go_ret
  exact ⟨_, rfl, HO5.out, HB5.out⟩
end Go.Proofs.Ytoopljlbiifmfaa.Max

/-! Indexes in runs behind their width: the methods that write them. -/
namespace Go.Proofs.Ytoopljlbiifmfaa.Dic
open Go.Proofs.Ytoopljlbiifmfaa.Max Go.Proofs.Ytoopljlbiifmfaa.Len Go.Proofs.Ytoopljlbiifmfaa.Lie Go.Proofs.Ytoopljlbiifmfaa.Ene Go.Proofs.Ytoopljlbiifmfaa.Rlx Go.Proofs.Ytoopljlbiifmfaa.End Go.Proofs.Ytoopljlbiifmfaa.Enc Go.Proofs.Ytoopljlbiifmfaa.Enb Go.Proofs.Ytoopljlbiifmfaa.Ena Go.Proofs.Ytoopljlbiifmfaa.Dec Go.Proofs.Ytoopljlbiifmfaa.Uva Go.Proofs.Ytoopljlbiifmfaa.Rle Go.Proofs.Ytoopljlbiifmfaa.Run Go.Proofs.Ytoopljlbiifmfaa.Rlp Go.Proofs.Ytoopljlbiifmfaa.Rlb Go.Proofs.Ytoopljlbiifmfaa.Buf Go.Proofs.Ytoopljlbiifmfaa.Fit Go.Proofs.Ytoopljlbiifmfaa.Bit Go.Proofs.Ytoopljlbiifmfaa.Wrd Go.Proofs.Ytoopljlbiifmfaa.Spl Go.Proofs.Ytoopljlbiifmfaa.Str Go.Proofs.Ytoopljlbiifmfaa.Flt Go.Proofs.Ytoopljlbiifmfaa.Owe Go.Proofs.Ytoopljlbiifmfaa.Num Go.Proofs.Ytoopljlbiifmfaa.Le Go.Proofs.Ytoopljlbiifmfaa.Lst Go.Proofs.Ytoopljlbiifmfaa.Aid Go.RowKit Go.Proofs.YtoopljlbiifmfaaW.PrintWords Go.Proofs.YtoopljlbiifmfaaW.PrintLast Go.Proofs.YtoopljlbiifmfaaW.PrintMore
set_option linter.unusedVariables false
set_option linter.unusedSimpArgs false
theorem hyb_zero (n : Nat) : hyb 0 [R.rep 0 n] = varL (2 * n) := by
  simp [hyb, R.bytes, lowL]
theorem fit_zero {l : List Int} (h : fitL 0 (wideL 32 l)) (hwf : ∀ x ∈ l, (Lit.int .i32 x).wf = true) : ∀ x ∈ l, x = 0 := by
  intro x hx
  have h1 := h (wideI 32 x) (by unfold wideL; exact List.mem_map_of_mem hx)
  have h2 : wideI 32 x = x % 4294967296 := rfl
  have h3 := hwf x hx
  rw [h2] at h1
  simp [Lit.wf, IntKind.min, IntKind.max, IntKind.signed, IntKind.bits] at h3
  simp at h1
  omega
theorem wide_zero {l : List Int} (h : ∀ x ∈ l, x = 0) : wideL 32 l = List.replicate l.length 0 := by
  unfold wideL
  rw [List.eq_replicate_iff]
  refine ⟨by simp, fun b hb => ?_⟩
  obtain ⟨y, hy, rfl⟩ := List.mem_map.1 hb
  rw [h y hy]; rfl
set_option maxHeartbeats 4000000 in
theorem encodeInt32Z_calls (w0 : World) (A : Option Addr) (n c : Nat) (v : Value) (xs l : List Int) (w : World) (hO : Own w w0.heap.size 5 .u8 v xs) (hB : Below w0.heap.size w0 w) (hC : (Kd.int .i32).C w0 A n l) (hc : n ≤ c) (hn : n ≤ 100000) (hx : xs.length ≤ 16) (hz : ∀ x ∈ l, x = 0) :
    Calls Try.prog 31 #[v, .slice A n c, .int .u64 0] w fun e w' => ∃ v1, e = .returned (.tuple #[v1, .nilIface]) ∧ Own w' w0.heap.size 5 .u8 v1 (xs ++ varL (2 * n)) ∧ Below w0.heap.size w0 w' := by
  have HLN : l.length = n := hC.1
  have HZ := Aside0.mk (isZero32_calls A n c l w (Kd.C_below hC hB) hc (by omega) (fun p hp => by
    rw [rd_nat _ _ (by omega)]; exact hz _ (List.getElem_mem _)))
  have HU := Aside0.mk (appendUvarint_calls w0 w0.heap.size v xs (2 * n) w hO hB hB.size (by omega) (by omega))
  rw [show ((2 * n : Nat) : Int) = (n : Int) * 2 by omega] at HU
  have hw : IntKind.u64.wrap (n : Int) = (n : Int) := IntWalk.u64_in _ (by omega)
  clear hO hB hC hz HLN
  go_enter Try.func31, Try.ntmps31
  go_wp2_with (first
    | (go_at_call 45; go_loud (with_reducible refine HZ.out.mono ?_); rintro e w2 ⟨rfl, rfl⟩)
    | (go_at_call 40; go_loud (with_reducible refine HU.out.mono ?_); rintro e w3 ⟨v1, rfl, ho, hb⟩; have HO3 := Aside0.mk ho; have HB3 := Aside0.mk hb; clear ho hb))
  go_ret2
  exact ⟨_, rfl, HO3.out, HB3.out⟩
/-- runs of so many bits, none too: then all are one run of zeros -/
theorem encodeInt32A_calls (w0 : World) (A : Option Addr) (n c : Nat) (b : Nat) (v : Value) (xs l : List Int) (w : World) (hO : Own w w0.heap.size 5 .u8 v xs) (hB : Below w0.heap.size w0 w) (hC : (Kd.int .i32).C w0 A n l) (hc : n ≤ c) (hn : n ≤ 100000) (hn0 : 0 < n) (hx : xs.length ≤ 16) (hw8 : b ≤ 32) (hu : fitL b (wideL 32 l)) (hwf : ∀ x ∈ l, (Lit.int .i32 x).wf = true) :
    Calls Try.prog 31 #[v, .slice A n c, .int .u64 b] w fun e w' => ∃ v1 rs, e = .returned (.tuple #[v1, .nilIface]) ∧ Own w' w0.heap.size 5 .u8 v1 (xs ++ hyb b rs) ∧ hybV rs = wideL 32 l ∧ hybOk b rs ∧ (b = 0 → rs = [R.rep 0 n]) ∧ Below w0.heap.size w0 w' := by
  by_cases h0 : b = 0
  · subst h0
    have hz := fit_zero hu hwf
    refine (encodeInt32Z_calls w0 A n c v xs l w hO hB hC hc hn hx hz).mono ?_
    rintro e w' ⟨v1, rfl, ho, hb⟩
    refine ⟨v1, [R.rep 0 n], rfl, by rw [hyb_zero]; exact ho, ?_, ?_, fun _ => rfl, hb⟩
    · rw [wide_zero hz, hC.1]; simp [hybV, R.vals]
    · intro r hr
      rw [List.mem_singleton] at hr
      subst hr
      exact ⟨by omega, by decide⟩
  · refine (encodeInt32_calls w0 A n c b v xs l w hO hB hC hc hn hx (by omega) hw8 hu hwf).mono ?_
    rintro e w' ⟨v1, rs, rfl, ho, hv, hk, hb⟩
    exact ⟨v1, rs, rfl, ho, hv, hk, fun h => absurd h h0, hb⟩
set_option maxHeartbeats 4000000 in
theorem diWrapE_calls (p : Value) (w : World) :
    Calls Try.prog 37 #[p, .nilIface] w fun e w' => e = .returned .nilIface ∧ w = w' := by
  go_enter Try.func37, Try.ntmps37
  go_wp2_with (fail)
  go_ret
  exact ⟨rfl, rfl⟩
set_option maxHeartbeats 4000000 in
theorem diEnc32_calls (p : Option Addr) (A : Option Addr) (N c : Nat) (l : List Int) (w0 : World) (hC : (Kd.int .i32).C w0 A N l) (hc : N ≤ c) (hn : N ≤ 100000) (hn0 : 0 < N) (hwf : ∀ x ∈ l, (Lit.int .i32 x).wf = true) :
    Calls Try.prog 25 #[.pointer p, .slice none 0 0, .slice A N c] w0 fun e w' => ∃ (v : Value) (b : Nat) (rs : List R), e = .returned (.tuple #[v, .nilIface]) ∧ b ≤ 32 ∧ Own w' w0.heap.size 5 .u8 v ((b : Int) :: hyb b rs) ∧ hybV rs = wideL 32 l ∧ hybOk b rs ∧ (b = 0 → rs = [R.rep 0 N]) ∧ Below w0.heap.size w0 w' := by
  have HC := Aside0.mk hC
  have HWF := Aside0.mk hwf
  have HML := Aside0.mk (maxLen_calls A N c l w0 hC hc (by omega))
  obtain ⟨i8, h8⟩ := h8
  obtain ⟨cutz, _⟩ := cutHi (P := Try.prog) 22 5 Try.underlying22 h8.1 none 0 0 .i64 0 0 rfl (by omega) (by omega)
  clear hC hwf
  go_enter Try.func25, Try.ntmps25
  go_wp2_with (first
    | (go_at_call 36; go_loud (with_reducible refine HML.out.mono ?_); rintro e w2 ⟨b, rfl, hb32, hfit, rfl⟩; have HFT := Aside0.mk hfit; clear hfit; have qb8 : IntKind.u8.wrap (b : Int) = (b : Int) := (by rw [IntKind.wrap_u8]; omega); have qb64 : IntKind.u64.wrap (b : Int) = (b : Int) := IntWalk.u64_in _ (by omega); have HOA : Aside0 (Own (w0.alloc (.cells #[.int .u8 (b : Int)] 5)) w0.heap.size 5 .u8 (.slice none 0 0) []) := ⟨Own.nil _ _ _ _⟩; have HBA : Aside0 (Below w0.heap.size w0 (w0.alloc (.cells #[.int .u8 (b : Int)] 5))) := ⟨(Below.refl _ _).alloc (Nat.le_refl _) _⟩; have HCA : Aside0 ((Kd.int .u8).C (w0.alloc (.cells #[.int .u8 (b : Int)] 5)) (some ⟨w0.heap.size, 0, none⟩) 1 [(b : Int)]) := ⟨rowC (t := 5) ⟨Blk.new _ _ _⟩ rfl (by omega)⟩)
    | (at_builtin; go_loud (refine appendRead (w0 := w0) w0.heap.size rfl (.tmp 13) (.tmp 16) 22 5 .u8 1 rfl Try.underlying22 infoU8 (by decide) (.slice none 0 0) [] (some ⟨w0.heap.size, 0, none⟩) 1 1 [(b : Int)] rfl rfl HOA.out HBA.out ?hb HCA.out ?hl ?_); (case hb => exact HBA.out.size); (case hl => simp); intro v5 w5 ho hb hg; rw [List.nil_append] at ho; have HO5 := Aside0.mk ho; have HB5 := Aside0.mk hb; have HCALL := Aside0.mk (encodeInt32A_calls w0 A N c b v5 [(b : Int)] l w5 ho hb HC.out hc hn hn0 (by simp) hb32 HFT.out HWF.out); clear ho hb hg)
    | (go_at_call 31; go_loud (with_reducible refine HCALL.out.mono ?_); rintro e w6 ⟨v6, rs, rfl, ho, hv, hk, hz, hb⟩; have HO6 := Aside0.mk ho; have HV6 := Aside0.mk hv; have HK6 := Aside0.mk hk; have HZ6 := Aside0.mk hz; have HB6 := Aside0.mk hb; clear ho hv hk hz hb)
    | (go_at_call 37; (with_reducible refine (diWrapE_calls _ _).mono ?_); rintro e w7 ⟨rfl, rfl⟩))
  go_ret2
  exact ⟨v6, b, rs, rfl, hb32, HO6.out, HV6.out, HK6.out, HZ6.out, HB6.out⟩
set_option maxHeartbeats 4000000 in
theorem encodeInt32sDi_calls (A : Option Addr) (N c : Nat) (l : List Int) (w0 : World) (hC : (Kd.int .i32).C w0 A N l) (hc : N ≤ c) (hn : N ≤ 100000) (hn0 : 0 < N) (hwf : ∀ x ∈ l, (Lit.int .i32 x).wf = true) :
    Calls Try.prog 11 #[.string ⟨#[114, 108, 101, 100, 105, 99, 116]⟩, .int .i64 0, .slice A N c] w0 fun e w' => ∃ (v : Value) (b : Nat) (rs : List R), e = .returned (.tuple #[v, .bool true]) ∧ b ≤ 32 ∧ Own w' w0.heap.size 5 .u8 v ((b : Int) :: hyb b rs) ∧ hybV rs = wideL 32 l ∧ hybOk b rs ∧ (b = 0 → rs = [R.rep 0 N]) ∧ Below w0.heap.size w0 w' := by
  have HLN : Aside0 (l.length = N) := ⟨hC.1⟩
  have HWF := Aside0.mk hwf
  have HC2 : Aside0 ((Kd.int .i32).C (w0.alloc (.cells #[] 21)) A N l) := ⟨Kd.C_alloc hC _⟩
  have HE := Aside0.mk (Own.empty w0 w0.heap.size 21 .i32 (Nat.le_refl _))
  have HEB : Aside0 (Below w0.heap.size w0 (w0.alloc (.cells #[] 21))) := ⟨(Below.refl _ _).alloc (Nat.le_refl _) _⟩
  clear hC hwf
  go_enter Try.func11, Try.ntmps11
  go_wp2_with (first
    | (at_builtin; go_loud (refine appendRead (w0 := w0) w0.heap.size rfl (.tmp 11) (.tmp 12) 33 21 .i32 4 rfl Try.underlying33 infoI32e (by decide) _ [] A N c l rfl rfl HE.out HEB.out ?hb HC2.out ?hl ?_); (case hb => exact HEB.out.size); (case hl => simp; omega); intro v1 w1 ho hb hg; rw [List.nil_append] at ho; obtain ⟨A1, c1, rfl, hc1, hr1⟩ := ho.read; rw [HLN.out] at hc1 hr1; rw [HLN.out]; have HR1 := Aside0.mk (Kd.C_alloc hr1 (.cells #[] 65)); have HBA : Aside0 (Below w0.heap.size w0 (w1.alloc (.cells #[] 65))) := ⟨hb.alloc hb.size _⟩; clear ho hb hg hr1)
    | (go_at_call 25; go_loud (with_reducible refine (diEnc32_calls _ A1 N c1 l _ HR1.out hc1 hn hn0 HWF.out).mono ?_); rintro e w2 ⟨v2, b, rs, rfl, hb32, ho, hv, hk, hz, hb⟩; have HV2 := Aside0.mk hv; have HK2 := Aside0.mk hk; have HZ2 := Aside0.mk hz; have HB2 := Aside0.mk (HBA.out.trans (hb.mono HBA.out.size)); have HO2 := Aside0.mk (Own.lower ho HBA.out.size); clear ho hb hv hk hz)
    | go_quiet (fail))
  go_ret2
  exact ⟨v2, b, rs, rfl, hb32, HO2.out.drewN _, HV2.out, HK2.out, HZ2.out, HB2.out.trans ((drewN_below _ _).mono HB2.out.size)⟩
end Go.Proofs.Ytoopljlbiifmfaa.Dic

/-! Indexes written behind their width: the law. -/
namespace Go.Proofs.Ytoopljlbiifmfaa.Liw
open Go.Proofs.Ytoopljlbiifmfaa.Pad Go.Proofs.Ytoopljlbiifmfaa.Rvh Go.Proofs.Ytoopljlbiifmfaa.Dic Go.Proofs.Ytoopljlbiifmfaa.Max Go.Proofs.Ytoopljlbiifmfaa.Lie Go.Proofs.Ytoopljlbiifmfaa.Ene Go.Proofs.Ytoopljlbiifmfaa.Uva Go.Proofs.Ytoopljlbiifmfaa.Rlx Go.Proofs.Ytoopljlbiifmfaa.Rle Go.Proofs.Ytoopljlbiifmfaa.Run Go.Proofs.Ytoopljlbiifmfaa.Rlp Go.Proofs.Ytoopljlbiifmfaa.Rlb Go.Proofs.Ytoopljlbiifmfaa.Buf Go.Proofs.Ytoopljlbiifmfaa.Fit Go.Proofs.Ytoopljlbiifmfaa.Bit Go.Proofs.Ytoopljlbiifmfaa.Wrd Go.Proofs.Ytoopljlbiifmfaa.Spl Go.Proofs.Ytoopljlbiifmfaa.Str Go.Proofs.Ytoopljlbiifmfaa.Flt Go.Proofs.Ytoopljlbiifmfaa.Owe Go.Proofs.Ytoopljlbiifmfaa.Num Go.Proofs.Ytoopljlbiifmfaa.Le Go.Proofs.Ytoopljlbiifmfaa.Lst Go.Proofs.Ytoopljlbiifmfaa.Aid Go.RowKit Go.Proofs.YtoopljlbiifmfaaW.PrintWords Go.Proofs.YtoopljlbiifmfaaW.PrintLast Go.Proofs.YtoopljlbiifmfaaW.PrintMore
set_option linter.unusedVariables false
set_option linter.unusedSimpArgs false
theorem rep_or {b N : Nat} {rs : List R} (h : b = 0 → rs = [R.rep 0 N]) : 1 ≤ b ∨ ∀ r ∈ rs, isRep r = true := by
  by_cases h0 : b = 0
  · refine .inr fun r hr => ?_
    rw [h h0, List.mem_singleton] at hr
    subst hr; rfl
  · exact .inl (by omega)
set_option maxHeartbeats 8000000 in
set_option maxRecDepth 100000 in
theorem indexWrittenLaw (a1 : Option Addr) (len1 cap1 : Nat) (z1 : List Int) (W : World) (w1 : IsRow .i32 W a1 len1 cap1 z1) (y1 : len1 * 4 ≤ 140737488351232) :
    Calls Try.prog 4 #[.slice a1 len1 cap1] W fun e w' => e = .returned (.bool true) ∧ Below W.heap.size W w' := by
  obtain ⟨l, hlen, hc, hC, hwf⟩ := isRow_open w1
  have HLN := Aside0.mk hlen
  have HC := Aside0.mk hC
  have HWF := Aside0.mk hwf
  clear w1 hC hwf hlen
  by_cases h1 : 100000 < len1
  · have q3 : decide (100000 < (len1 : Int)) = true := decide_eq_true (by omega)
    have q0 : ((len1 : Int) == 0) = false := by rw [beq_eq_false_iff_ne]; omega
    by_cases h2 : 2147483647 < len1
    · have q1 : decide (2147483647 < (len1 : Int)) = true := decide_eq_true (by omega)
      go_enter Try.func4, Try.ntmps4
      go_wp2
      go_ret
      exact ⟨rfl, Below.refl _ _⟩
    · have q1 : decide (2147483647 < (len1 : Int)) = false := decide_eq_false (by omega)
      go_enter Try.func4, Try.ntmps4
      go_wp2
      go_ret
      exact ⟨rfl, Below.refl _ _⟩
  have q1 : decide (2147483647 < (len1 : Int)) = false := decide_eq_false (by omega)
  by_cases h0 : len1 = 0
  · have q0 : ((len1 : Int) == 0) = true := by rw [beq_iff_eq]; omega
    go_enter Try.func4, Try.ntmps4
    go_wp2
    go_ret
    exact ⟨rfl, Below.refl _ _⟩
  have q0 : ((len1 : Int) == 0) = false := by rw [beq_eq_false_iff_ne]; omega
  have q3 : decide (100000 < (len1 : Int)) = false := decide_eq_false (by omega)
  have hn9 : len1 ≤ 100000 := by omega
  have hn0 : 0 < len1 := by omega
  obtain ⟨wl, hwl⟩ : ∃ wl, wideL 32 l = wl := ⟨_, rfl⟩
  have HWN : Aside0 (wl.length = len1) := ⟨by rw [← hwl]; unfold wideL; rw [List.length_map, HLN.out]⟩
  have HWI : Aside0 (∀ W1 : World, Below W.heap.size W W1 → Calls Try.prog 12 #[.int .i64 32, .slice a1 len1 cap1] W1 fun e w' => ∃ v, e = .returned v ∧ Own w' W1.heap.size 37 .u64 v wl ∧ Below W1.heap.size W1 w') := ⟨fun W1 hb => by
    have := wide_int32_calls a1 len1 cap1 l W1 (Kd.C_below HC.out hb) hc (by omega) HWF.out
    rw [hwl] at this
    exact this⟩
  have HENC := Aside0.mk (encodeInt32sDi_calls a1 len1 cap1 l W HC.out hc hn9 hn0 HWF.out)
  rw [hwl] at HENC
  obtain ⟨i8, h8⟩ := h8
  clear hwl h0 h1
  go_enter Try.func4, Try.ntmps4
  go_wp2_with (fail)
  go_loopg [4, 22] len1 (fun kq v4 v22 w' => ∃ (j : Nat), j ≤ len1 ∧ v22 = .int .i64 j ∧ W = w' ∧ Aside0 (len1 - j ≤ kq))
  case atStart => exact ⟨0, by omega, rfl, rfl, ⟨by omega⟩⟩
  case round =>
    obtain ⟨j, hj, rfl, rfl, HK⟩ := hrel
    by_cases cj : j < len1
    · have cjb : decide ((j : Int) < len1) = true := decide_eq_true (by omega)
      obtain ⟨ad, ead, hcell⟩ := Kd.at_int HC.out (j : Int) (by omega) (by omega)
      rw [Int.toNat_natCast] at hcell
      obtain ⟨y, hy⟩ : ∃ y, rd l (j : Int) = y := ⟨_, rfl⟩
      rw [hy] at hcell
      clear hy HENC HWI
      subst ead
      by_cases cy : y < 0
      · have cyb : decide (y < 0) = true := decide_eq_true cy
        go_wp2_with (fail)
        go_ret
        exact ⟨rfl, Below.refl _ _⟩
      · have cyb : decide (y < 0) = false := decide_eq_false cy
        go_wp2_with (fail)
        go_roundg (gk - 1)
        case measure => have := HK.out; omega
        case rel => exact ⟨j + 1, by omega, by go_num, rfl, ⟨by have := HK.out; omega⟩⟩
    · obtain rfl : j = len1 := by omega
      have cjb : decide ((j : Int) < j) = false := decide_eq_false (by omega)
      go_wp2_with (first
        | (go_at_call 11; go_loud (with_reducible refine HENC.out.mono ?_); rintro e w3 ⟨v3, b, rs, rfl, hb32, ho, hv, hk, hz, hb⟩; have HV3 := Aside0.mk hv; have HK3 := Aside0.mk hk; have HZ3 := Aside0.mk (rep_or hz); obtain ⟨X, hX⟩ : ∃ X, hyb b rs = X := ⟨_, rfl⟩; have HX := Aside0.mk hX; have hN9 : X.length ≤ 900000 := (by rw [← hX]; have := hyb_le b (by omega) rs hk (by rw [hv, HWN.out]; omega); rw [hv, HWN.out] at this; omega); rw [hX] at ho; obtain ⟨A3, c3, rfl, hc3, hr3⟩ := ho.read; rw [List.length_cons] at hc3 hr3; rw [List.length_cons]; obtain ⟨N, hN⟩ : ∃ N, X.length = N := ⟨_, rfl⟩; rw [hN] at hc3 hr3 hN9; rw [hN]; have HR3 := Aside0.mk hr3; have HB3 := Aside0.mk hb; have q32 : decide (32 < (b : Int)) = false := decide_eq_false (by omega); have q32' : decide (32 < b) = false := decide_eq_false (by omega); have qn0 : (((N : Int) + 1) == 0) = false := (by rw [beq_eq_false_iff_ne]; omega); have qn1 : (0 < N + 1) = True := eq_true (by omega); have qn2 : ((0 : Int) < (N : Int) + 1) = True := eq_true (by omega); obtain ⟨ad3, ead3, hp3⟩ := Kd.at_int hr3 0 (by omega) (by omega); have hp3 : w3.cell? (ad3.add 0) = some (.int .u8 (b : Int)) := hp3; have had3 : ad3.add 0 = ad3 := (by simp [Addr.add]); rw [had3] at hp3; have hlt3 := World.block_lt_of_cell? w3 _ hp3; have hpd3 : w3.drew.cell? ad3 = some (.int .u8 (b : Int)) := hp3; have hltd3 : ad3.block < w3.drew.heap.size := hlt3; have qb64 : IntKind.i64.wrap (b : Int) = (b : Int) := IntWalk.i64_in _ (by omega); obtain ⟨A4, cut4, hC4⟩ := cutLo (P := Try.prog) 22 5 Try.underlying22 h8.1 h8.2 A3 (N + 1) c3 .i64 1 1 rfl (by omega) hc3; have hC4d := hC4 (Kd.int .u8) w3.drew _ rfl (Kd.C_drewN hr3 1); rw [List.drop_one, List.tail_cons, show N + 1 - 1 = N by omega] at hC4d; rw [show N + 1 - 1 = N by omega] at cut4; have HB3d : Aside0 (Below W.heap.size W w3.drew) := ⟨hb.trans ((drewN_below w3 1).mono hb.size)⟩; have HRH := Aside0.mk (readHybridA_calls A4 N (c3 - 1) b X rs w3.drew hC4d hX.symm (by omega) (by omega) (rep_or hz) hb32 hk (by rw [hv, HWN.out]; omega)); rw [hv] at HRH; subst ead3; clear ho hb hr3 hv hk hz hX hN hC4 hC4d had3))
      go_region_held3 (fun (w9 : World) => w9.cell? ad3 = some (.int .u8 (b : Int)))
        (first | assumption | exact hpd3 | exact HP4.out)
        ((first
          | (go_at_call 9; go_loud (with_reducible refine HRH.out.mono ?_); rintro e w4 ⟨v4, rfl, ho, hb⟩; obtain ⟨A5, c5, rfl, hc5, hr5⟩ := ho.read; rw [HWN.out] at hc5 hr5; rw [HWN.out]; have HR5 := Aside0.mk hr5; have HP4 : Aside0 (w4.cell? ad3 = some (.int .u8 (b : Int))) := ⟨(hb.cell hltd3).trans hpd3⟩; have HB4 := Aside0.mk (HB3d.out.trans (hb.mono HB3d.out.size)); clear ho hb hr5)
          | fail "no arm"))
      go_wp2_with (first
        | (go_at_call 12; go_loud (with_reducible refine (HWI.out w4 HB4.out).mono ?_); rintro e w6 ⟨v6, rfl, ho, hb⟩; obtain ⟨A6, c6, rfl, hc6, hr6⟩ := ho.read; rw [HWN.out] at hc6 hr6; rw [HWN.out]; have HR6 := Aside0.mk hr6; have HR56 := Aside0.mk (Kd.C_below HR5.out hb); have HB6 := Aside0.mk (HB4.out.trans (hb.mono HB4.out.size)); clear ho hb hr6)
        | (go_at_call 10; go_loud (with_reducible refine (padded_calls A5 A6 j c5 c6 wl w6 HR56.out HR6.out hc5 (by omega)).mono ?_); rintro e w7 ⟨rfl, hd⟩; have HB7 := Aside0.mk (below_drawn HB6.out hd); clear hd))
      go_ret
      exact ⟨rfl, HB7.out⟩
end Go.Proofs.Ytoopljlbiifmfaa.Liw
