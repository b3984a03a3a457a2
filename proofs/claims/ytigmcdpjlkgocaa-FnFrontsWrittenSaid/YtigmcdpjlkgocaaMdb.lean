import Derived.Test.YtigmcdpjlkgocaaMda
import Derived.Test.YtigmcdpjlkgocaaLen
/-! Blocks of differences: the widths of their parts. -/
namespace Go.Proofs.Ytigmcdpjlkgocaa.Dbw
open Go.Proofs.Ytigmcdpjlkgocaa.Len Go.Proofs.Ytigmcdpjlkgocaa.Dbk Go.Proofs.Ytigmcdpjlkgocaa.Pak Go.Proofs.Ytigmcdpjlkgocaa.Buf Go.Proofs.Ytigmcdpjlkgocaa.Fit Go.Proofs.Ytigmcdpjlkgocaa.Bit Go.Proofs.Ytigmcdpjlkgocaa.Wrd Go.Proofs.Ytigmcdpjlkgocaa.Spl Go.Proofs.Ytigmcdpjlkgocaa.Str Go.Proofs.Ytigmcdpjlkgocaa.Flt Go.Proofs.Ytigmcdpjlkgocaa.Owe Go.Proofs.Ytigmcdpjlkgocaa.Num Go.Proofs.Ytigmcdpjlkgocaa.Le Go.Proofs.Ytigmcdpjlkgocaa.Lst Go.Proofs.Ytigmcdpjlkgocaa.Aid Go.RowKit Go.Proofs.YtigmcdpjlkgocaaW.PrintWords Go.Proofs.YtigmcdpjlkgocaaW.PrintLast Go.Proofs.YtigmcdpjlkgocaaW.PrintMore
set_option linter.unusedVariables false
set_option linter.unusedSimpArgs false
theorem bitLen_0 : Lib.bitLen 0 = 0 := by decide +kernel
def natsI (ws : List Nat) : List Int := ws.map fun q : Nat => (q : Int)
theorem natsI_length (ws : List Nat) : (natsI ws).length = ws.length := by simp [natsI]
theorem natsI_snoc (ws : List Nat) (q : Nat) : natsI (ws ++ [q]) = natsI ws ++ [(q : Int)] := by simp [natsI]
theorem getD_left (a b : List Nat) (i : Nat) (h : i < a.length) : (a ++ b).getD i 0 = a.getD i 0 := by
  simp [List.getD_eq_getElem?_getD, List.getElem?_append, h]
theorem getD_mid (a : List Nat) (q i : Nat) (h : a.length = i) : (a ++ [q]).getD i 0 = q := by
  subst h
  simp [List.getD_eq_getElem?_getD]
/-- numbers of so many bits; of none, if all are 0 -/
def fitsAt (M : Int) (xs : List Int) (lo hi q : Nat) : Prop := (∀ p : Nat, lo ≤ p → p < hi → rd xs (p : Nat) % M < ((2 ^ q : Nat) : Int)) ∧ ((∀ p : Nat, lo ≤ p → p < hi → rd xs (p : Nat) % M = 0) → q = 0)

set_option maxHeartbeats 16000000 in
set_option maxRecDepth 100000 in
theorem blockBitWidthsInt64_calls (g gb : Nat) (xs : List Int) (w : World) (hR : Row w g 113 .i64 xs) (hl : xs.length = 128) (hW : Row w gb 98 .u8 [0, 0, 0, 0]) (hne : g ≠ gb) :
    Calls Try.prog 81 #[.pointer (some ⟨gb, 0, none⟩), .pointer (some ⟨g, 0, none⟩)] w fun e w' => ∃ ws : List Nat, e = .returned (.tuple #[]) ∧ ws.length = 4 ∧ (∀ q ∈ ws, q ≤ 64) ∧ (∀ i, i < 4 → fitsAt 18446744073709551616 xs (32 * i) (32 * i + 32) (ws.getD i 0)) ∧ Row w' gb 98 .u8 (natsI ws) ∧ w.grownBy w' (some gb) := by
  have HL := Aside0.mk hl
  have HR := Aside0.mk hR
  have HW0 : Aside0 (Row w gb 98 .u8 (natsI [] ++ List.replicate (4 - 0) 0)) := ⟨hW⟩
  have HNE := Aside0.mk hne
  obtain ⟨i0, hi0⟩ := Option.map_eq_some_iff.1 infoInt64
  clear hR hl hW hne
  go_enter Try.func81, Try.ntmps81
  go_wp2_with (fail)
  go_loopg [4, 5, 6, 7, 9, 10, 11] 4 (fun kq v4 v5 v6 v7 v9 v10 v11 w' => ∃ (j : Nat) (ws : List Nat), j ≤ 4 ∧ v11 = .int .i64 j ∧ Aside0 (ws.length = j) ∧ Aside0 (∀ q ∈ ws, q ≤ 64) ∧ Aside0 (∀ i, i < j → fitsAt 18446744073709551616 xs (32 * i) (32 * i + 32) (ws.getD i 0)) ∧ Aside0 (Row w' gb 98 .u8 (natsI ws ++ List.replicate (4 - j) 0)) ∧ Aside0 (w.grownBy w' (some gb)) ∧ Aside0 (4 - j ≤ kq))
  case atStart => exact ⟨0, [], by omega, rfl, ⟨rfl⟩, ⟨fun q hq => by cases hq⟩, ⟨fun i hi => by omega⟩, HW0, ⟨grownRefl _ _⟩, ⟨by omega⟩⟩
  case round =>
    clear HW0
    obtain ⟨j, ws, hj, rfl, HWL, HWQ, HWF, HW, HG, HK⟩ := hrel
    by_cases cj : j < 4
    · have cjb : decide ((j : Int) < 4) = true := decide_eq_true (by omega)
      have cjn : decide (j < 4) = true := decide_eq_true (by omega)
      obtain ⟨gk0, rfl⟩ : ∃ gk0, gk = gk0 + 1 := ⟨gk - 1, by have := HK.out; omega⟩
      obtain ⟨lo, hlo⟩ : ∃ lo, 32 * j = lo := ⟨_, rfl⟩
      obtain ⟨hi, hhi⟩ : ∃ hi, lo + 32 = hi := ⟨_, rfl⟩
      have hloI : (j : Int) * 32 = (lo : Int) := by omega
      have hhiI : ((j : Int) + 1) * 32 = (hi : Int) := by omega
      have cut1 := cutArrLH (P := Try.prog) 113 2 128 (by first | exact Try.underlying113 | kernel_rfl) hi0.1 hi0.2 g lo hi (by omega) (by omega) (by omega)
      rw [show hi - lo = 32 by omega] at cut1
      have HLO := Aside0.mk hlo
      have HHI := Aside0.mk hhi
      have hlo9 : lo ≤ 96 := by omega
      clear hlo hhi
      go_wp2_with (fail)
      go_loopg [7, 9, 10, 26] 32 (fun kq v7 v9 v10 v26 w' => ∃ (r q : Nat), r ≤ 32 ∧ q ≤ 64 ∧ v26 = .int .i64 r ∧ v7 = .int .i64 q ∧ Aside0 (fitsAt 18446744073709551616 xs lo (lo + r) q) ∧ wr = w' ∧ Aside0 (32 - r ≤ kq))
      case atStart => exact ⟨0, 0, by omega, by omega, rfl, rfl, ⟨⟨fun p h1 h2 => by omega, fun _ => rfl⟩⟩, rfl, ⟨by omega⟩⟩
      case round =>
        obtain ⟨r, q, hr, hq, rfl, rfl, HF, rfl, HK2⟩ := hrel
        by_cases cr : r < 32
        · have crb : decide ((r : Int) < 32) = true := decide_eq_true (by omega)
          have crn : decide (r < 32) = true := decide_eq_true (by omega)
          have rc := (HR.out.grown HG.out (fun e => HNE.out (by injection e))).cell (j := lo + r) (by rw [HL.out]; omega)
          obtain ⟨y, hy⟩ : ∃ y, rd xs ((lo + r : Nat) : Int) = y := ⟨_, rfl⟩
          rw [hy] at rc
          obtain ⟨u, hu⟩ : ∃ u : Nat, y % 18446744073709551616 = (u : Int) := ⟨(y % 18446744073709551616).toNat, by omega⟩
          have hyw : IntKind.u64.wrap y = (u : Int) := by rw [IntKind.wrap_u64]; exact hu
          have hu9 : u < 18446744073709551616 := by omega
          have HY : Aside0 (rd xs ((lo + r : Nat) : Int) % 18446744073709551616 = (u : Int)) := ⟨by rw [hy]; exact hu⟩
          have hbl := bitLen_fit64 u hu9
          have HLn : Aside0 (∀ W : World, Calls Try.prog 99 #[.int .u64 (u : Int)] W fun e w' => e = .returned (.int .i64 (Lib.bitLen u)) ∧ w' = W) := ⟨fun W => by
            have := len64_calls' (u : Int) W (by omega) (by omega)
            rw [Int.toNat_natCast] at this
            exact this⟩
          obtain ⟨z, hz⟩ : ∃ z, Lib.bitLen u = z := ⟨_, rfl⟩
          rw [hz] at hbl HLn
          have HZQ := Aside0.mk hz
          obtain ⟨hz32, huz⟩ := hbl
          have HUZ := Aside0.mk huz
          have qi0 : (0 : Int) ≤ (r : Int) := by omega
          have qi1 : (r : Int) < 32 := by omega
          clear hu hy hz huz
          by_cases cq : q < z
          · have cqb : decide ((q : Int) < (z : Int)) = true := decide_eq_true (by omega)
            go_wp2_with (first
              | (go_at_call 99; go_loud (with_reducible refine (HLn.out _).mono ?_); rintro e w2 ⟨rfl, rfl⟩))
            go_roundg (gk - 1)
            case measure => have := HK2.out; omega
            case rel =>
              refine ⟨r + 1, z, by omega, hz32, by go_num, rfl, ⟨⟨fun p h1 h2 => ?_, fun h0 => ?_⟩⟩, rfl, ⟨by have := HK2.out; omega⟩⟩
              rotate_left
              · have h3 := HY.out
                have h4 := h0 (lo + r) (by omega) (by omega)
                have h5 : u = 0 := by omega
                have h6 := HZQ.out
                rw [h5, bitLen_0] at h6
                omega
              by_cases h : p < lo + r
              · have h3 := HF.out.1 p h1 h
                have h4 : (2 : Nat) ^ q ≤ 2 ^ z := Nat.pow_le_pow_right (by omega) (by omega)
                omega
              · obtain rfl : p = lo + r := by omega
                have h3 := HY.out
                have h4 := HUZ.out
                omega
          · have cqb : decide ((q : Int) < (z : Int)) = false := decide_eq_false (by omega)
            go_wp2_with (first
              | (go_at_call 99; go_loud (with_reducible refine (HLn.out _).mono ?_); rintro e w2 ⟨rfl, rfl⟩))
            go_roundg (gk - 1)
            case measure => have := HK2.out; omega
            case rel =>
              refine ⟨r + 1, q, by omega, hq, by go_num, rfl, ⟨⟨fun p h1 h2 => ?_, fun h0 => HF.out.2 fun p h1 h2 => h0 p h1 (by omega)⟩⟩, rfl, ⟨by have := HK2.out; omega⟩⟩
              by_cases h : p < lo + r
              · exact HF.out.1 p h1 h
              · obtain rfl : p = lo + r := by omega
                have h3 := HY.out
                have h4 := HUZ.out
                have h5 : (2 : Nat) ^ z ≤ 2 ^ q := Nat.pow_le_pow_right (by omega) (by omega)
                omega
        · obtain rfl : r = 32 := by omega
          have crb : decide (((32 : Nat) : Int) < 32) = false := by decide
          have rb := HW.out.cell (j := j) (by rw [List.length_append, natsI_length, List.length_replicate, HWL.out]; omega)
          have rf := HW.out.free j
          obtain ⟨y, hy⟩ : ∃ y, rd (natsI ws ++ List.replicate (4 - j) 0) (j : Nat) = y := ⟨_, rfl⟩
          rw [hy] at rb
          have qw : IntKind.u8.wrap (q : Int) = (q : Int) := by rw [IntKind.wrap_u8]; omega
          have qi0 : (0 : Int) ≤ (j : Int) := by omega
          have qi1 : (j : Int) < 4 := by omega
          clear hy
          go_wp2_with (fail)
          go_roundg gk0
          case measure => omega
          case rel =>
            refine ⟨j + 1, ws ++ [q], by omega, by go_num, ⟨by rw [List.length_append, HWL.out]; rfl⟩, ⟨fun x hx => ?_⟩, ⟨fun i hi => ?_⟩, ⟨?_⟩, ⟨grownSet HG.out _ _⟩, ⟨by have := HK.out; omega⟩⟩
            · rcases List.mem_append.1 hx with h | h
              · exact HWQ.out x h
              · rw [List.mem_singleton] at h; omega
            · by_cases h : i < j
              · rw [getD_left _ _ _ (by rw [HWL.out]; exact h)]; exact HWF.out i h
              · obtain rfl : i = j := by omega
                rw [getD_mid _ _ _ HWL.out]
                rw [HLO.out]; exact HF.out
            · have := HW.out.set j (q : Int)
              rw [List.set_append_right _ _ (by rw [natsI_length, HWL.out]; omega), natsI_length, HWL.out, Nat.sub_self, show 4 - j = (4 - (j + 1)) + 1 by omega, List.replicate_succ, List.set_cons_zero] at this
              rw [natsI_snoc, List.append_assoc]
              exact this
    · obtain rfl : j = 4 := by omega
      have cjb : decide (((4 : Nat) : Int) < 4) = false := by decide
      have HRF := HW.out
      rw [Nat.sub_self, List.replicate_zero, List.append_nil] at HRF
      go_wp2_with (fail)
      go_end0
      exact ⟨ws, rfl, HWL.out, HWQ.out, HWF.out, HRF, HG.out⟩

set_option maxHeartbeats 16000000 in
set_option maxRecDepth 100000 in
theorem blockBitWidthsInt32_calls (g gb : Nat) (xs : List Int) (w : World) (hR : Row w g 125 .i32 xs) (hl : xs.length = 128) (hW : Row w gb 98 .u8 [0, 0, 0, 0]) (hne : g ≠ gb) :
    Calls Try.prog 89 #[.pointer (some ⟨gb, 0, none⟩), .pointer (some ⟨g, 0, none⟩)] w fun e w' => ∃ ws : List Nat, e = .returned (.tuple #[]) ∧ ws.length = 4 ∧ (∀ q ∈ ws, q ≤ 32) ∧ (∀ i, i < 4 → fitsAt 4294967296 xs (32 * i) (32 * i + 32) (ws.getD i 0)) ∧ Row w' gb 98 .u8 (natsI ws) ∧ w.grownBy w' (some gb) := by
  have HL := Aside0.mk hl
  have HR := Aside0.mk hR
  have HW0 : Aside0 (Row w gb 98 .u8 (natsI [] ++ List.replicate (4 - 0) 0)) := ⟨hW⟩
  have HNE := Aside0.mk hne
  obtain ⟨i0, hi0⟩ := Option.map_eq_some_iff.1 infoInt32
  clear hR hl hW hne
  go_enter Try.func89, Try.ntmps89
  go_wp2_with (fail)
  go_loopg [4, 5, 6, 7, 9, 10, 11] 4 (fun kq v4 v5 v6 v7 v9 v10 v11 w' => ∃ (j : Nat) (ws : List Nat), j ≤ 4 ∧ v11 = .int .i64 j ∧ Aside0 (ws.length = j) ∧ Aside0 (∀ q ∈ ws, q ≤ 32) ∧ Aside0 (∀ i, i < j → fitsAt 4294967296 xs (32 * i) (32 * i + 32) (ws.getD i 0)) ∧ Aside0 (Row w' gb 98 .u8 (natsI ws ++ List.replicate (4 - j) 0)) ∧ Aside0 (w.grownBy w' (some gb)) ∧ Aside0 (4 - j ≤ kq))
  case atStart => exact ⟨0, [], by omega, rfl, ⟨rfl⟩, ⟨fun q hq => by cases hq⟩, ⟨fun i hi => by omega⟩, HW0, ⟨grownRefl _ _⟩, ⟨by omega⟩⟩
  case round =>
    clear HW0
    obtain ⟨j, ws, hj, rfl, HWL, HWQ, HWF, HW, HG, HK⟩ := hrel
    by_cases cj : j < 4
    · have cjb : decide ((j : Int) < 4) = true := decide_eq_true (by omega)
      have cjn : decide (j < 4) = true := decide_eq_true (by omega)
      obtain ⟨gk0, rfl⟩ : ∃ gk0, gk = gk0 + 1 := ⟨gk - 1, by have := HK.out; omega⟩
      obtain ⟨lo, hlo⟩ : ∃ lo, 32 * j = lo := ⟨_, rfl⟩
      obtain ⟨hi, hhi⟩ : ∃ hi, lo + 32 = hi := ⟨_, rfl⟩
      have hloI : (j : Int) * 32 = (lo : Int) := by omega
      have hhiI : ((j : Int) + 1) * 32 = (hi : Int) := by omega
      have cut1 := cutArrLH (P := Try.prog) 125 21 128 (by first | exact Try.underlying125 | kernel_rfl) hi0.1 hi0.2 g lo hi (by omega) (by omega) (by omega)
      rw [show hi - lo = 32 by omega] at cut1
      have HLO := Aside0.mk hlo
      have HHI := Aside0.mk hhi
      have hlo9 : lo ≤ 96 := by omega
      clear hlo hhi
      go_wp2_with (fail)
      go_loopg [7, 9, 10, 26] 32 (fun kq v7 v9 v10 v26 w' => ∃ (r q : Nat), r ≤ 32 ∧ q ≤ 32 ∧ v26 = .int .i64 r ∧ v7 = .int .i64 q ∧ Aside0 (fitsAt 4294967296 xs lo (lo + r) q) ∧ wr = w' ∧ Aside0 (32 - r ≤ kq))
      case atStart => exact ⟨0, 0, by omega, by omega, rfl, rfl, ⟨⟨fun p h1 h2 => by omega, fun _ => rfl⟩⟩, rfl, ⟨by omega⟩⟩
      case round =>
        obtain ⟨r, q, hr, hq, rfl, rfl, HF, rfl, HK2⟩ := hrel
        by_cases cr : r < 32
        · have crb : decide ((r : Int) < 32) = true := decide_eq_true (by omega)
          have crn : decide (r < 32) = true := decide_eq_true (by omega)
          have rc := (HR.out.grown HG.out (fun e => HNE.out (by injection e))).cell (j := lo + r) (by rw [HL.out]; omega)
          obtain ⟨y, hy⟩ : ∃ y, rd xs ((lo + r : Nat) : Int) = y := ⟨_, rfl⟩
          rw [hy] at rc
          obtain ⟨u, hu⟩ : ∃ u : Nat, y % 4294967296 = (u : Int) := ⟨(y % 4294967296).toNat, by omega⟩
          have hyw : IntKind.u32.wrap y = (u : Int) := by rw [IntKind.wrap_u32]; exact hu
          have hu9 : u < 4294967296 := by omega
          have HY : Aside0 (rd xs ((lo + r : Nat) : Int) % 4294967296 = (u : Int)) := ⟨by rw [hy]; exact hu⟩
          have hbl := bitLen_fit u hu9
          have HLn : Aside0 (∀ W : World, Calls Try.prog 75 #[.int .u32 (u : Int)] W fun e w' => e = .returned (.int .i64 (Lib.bitLen u)) ∧ w' = W) := ⟨fun W => by
            have := len32_calls' (u : Int) W (by omega) (by omega)
            rw [Int.toNat_natCast] at this
            exact this⟩
          obtain ⟨z, hz⟩ : ∃ z, Lib.bitLen u = z := ⟨_, rfl⟩
          rw [hz] at hbl HLn
          have HZQ := Aside0.mk hz
          obtain ⟨hz32, huz⟩ := hbl
          have HUZ := Aside0.mk huz
          have qi0 : (0 : Int) ≤ (r : Int) := by omega
          have qi1 : (r : Int) < 32 := by omega
          clear hu hy hz huz
          by_cases cq : q < z
          · have cqb : decide ((q : Int) < (z : Int)) = true := decide_eq_true (by omega)
            go_wp2_with (first
              | (go_at_call 75; go_loud (with_reducible refine (HLn.out _).mono ?_); rintro e w2 ⟨rfl, rfl⟩))
            go_roundg (gk - 1)
            case measure => have := HK2.out; omega
            case rel =>
              refine ⟨r + 1, z, by omega, hz32, by go_num, rfl, ⟨⟨fun p h1 h2 => ?_, fun h0 => ?_⟩⟩, rfl, ⟨by have := HK2.out; omega⟩⟩
              rotate_left
              · have h3 := HY.out
                have h4 := h0 (lo + r) (by omega) (by omega)
                have h5 : u = 0 := by omega
                have h6 := HZQ.out
                rw [h5, bitLen_0] at h6
                omega
              by_cases h : p < lo + r
              · have h3 := HF.out.1 p h1 h
                have h4 : (2 : Nat) ^ q ≤ 2 ^ z := Nat.pow_le_pow_right (by omega) (by omega)
                omega
              · obtain rfl : p = lo + r := by omega
                have h3 := HY.out
                have h4 := HUZ.out
                omega
          · have cqb : decide ((q : Int) < (z : Int)) = false := decide_eq_false (by omega)
            go_wp2_with (first
              | (go_at_call 75; go_loud (with_reducible refine (HLn.out _).mono ?_); rintro e w2 ⟨rfl, rfl⟩))
            go_roundg (gk - 1)
            case measure => have := HK2.out; omega
            case rel =>
              refine ⟨r + 1, q, by omega, hq, by go_num, rfl, ⟨⟨fun p h1 h2 => ?_, fun h0 => HF.out.2 fun p h1 h2 => h0 p h1 (by omega)⟩⟩, rfl, ⟨by have := HK2.out; omega⟩⟩
              by_cases h : p < lo + r
              · exact HF.out.1 p h1 h
              · obtain rfl : p = lo + r := by omega
                have h3 := HY.out
                have h4 := HUZ.out
                have h5 : (2 : Nat) ^ z ≤ 2 ^ q := Nat.pow_le_pow_right (by omega) (by omega)
                omega
        · obtain rfl : r = 32 := by omega
          have crb : decide (((32 : Nat) : Int) < 32) = false := by decide
          have rb := HW.out.cell (j := j) (by rw [List.length_append, natsI_length, List.length_replicate, HWL.out]; omega)
          have rf := HW.out.free j
          obtain ⟨y, hy⟩ : ∃ y, rd (natsI ws ++ List.replicate (4 - j) 0) (j : Nat) = y := ⟨_, rfl⟩
          rw [hy] at rb
          have qw : IntKind.u8.wrap (q : Int) = (q : Int) := by rw [IntKind.wrap_u8]; omega
          have qi0 : (0 : Int) ≤ (j : Int) := by omega
          have qi1 : (j : Int) < 4 := by omega
          clear hy
          go_wp2_with (fail)
          go_roundg gk0
          case measure => omega
          case rel =>
            refine ⟨j + 1, ws ++ [q], by omega, by go_num, ⟨by rw [List.length_append, HWL.out]; rfl⟩, ⟨fun x hx => ?_⟩, ⟨fun i hi => ?_⟩, ⟨?_⟩, ⟨grownSet HG.out _ _⟩, ⟨by have := HK.out; omega⟩⟩
            · rcases List.mem_append.1 hx with h | h
              · exact HWQ.out x h
              · rw [List.mem_singleton] at h; omega
            · by_cases h : i < j
              · rw [getD_left _ _ _ (by rw [HWL.out]; exact h)]; exact HWF.out i h
              · obtain rfl : i = j := by omega
                rw [getD_mid _ _ _ HWL.out]
                rw [HLO.out]; exact HF.out
            · have := HW.out.set j (q : Int)
              rw [List.set_append_right _ _ (by rw [natsI_length, HWL.out]; omega), natsI_length, HWL.out, Nat.sub_self, show 4 - j = (4 - (j + 1)) + 1 by omega, List.replicate_succ, List.set_cons_zero] at this
              rw [natsI_snoc, List.append_assoc]
              exact this
    · obtain rfl : j = 4 := by omega
      have cjb : decide (((4 : Nat) : Int) < 4) = false := by decide
      have HRF := HW.out
      rw [Nat.sub_self, List.replicate_zero, List.append_nil] at HRF
      go_wp2_with (fail)
      go_end0
      exact ⟨ws, rfl, HWL.out, HWQ.out, HWF.out, HRF, HG.out⟩
end Go.Proofs.Ytigmcdpjlkgocaa.Dbw

/-! What a list of differences is: the description that all writers and readers share. -/
namespace Go.Proofs.Ytigmcdpjlkgocaa.Dds
open Go.Proofs.Ytigmcdpjlkgocaa.Dmw Go.Proofs.Ytigmcdpjlkgocaa.Dml Go.Proofs.Ytigmcdpjlkgocaa.Dbw Go.Proofs.Ytigmcdpjlkgocaa.Dbk Go.Proofs.Ytigmcdpjlkgocaa.Dhd Go.Proofs.Ytigmcdpjlkgocaa.Dgr Go.Proofs.Ytigmcdpjlkgocaa.Dpu Go.Proofs.Ytigmcdpjlkgocaa.Pak Go.Proofs.Ytigmcdpjlkgocaa.Buf Go.Proofs.Ytigmcdpjlkgocaa.Fit Go.Proofs.Ytigmcdpjlkgocaa.Bit Go.Proofs.Ytigmcdpjlkgocaa.Wrd Go.Proofs.Ytigmcdpjlkgocaa.Spl Go.Proofs.Ytigmcdpjlkgocaa.Str Go.Proofs.Ytigmcdpjlkgocaa.Flt Go.Proofs.Ytigmcdpjlkgocaa.Owe Go.Proofs.Ytigmcdpjlkgocaa.Num Go.Proofs.Ytigmcdpjlkgocaa.Le Go.Proofs.Ytigmcdpjlkgocaa.Lst Go.Proofs.Ytigmcdpjlkgocaa.Aid Go.RowKit Go.Proofs.YtigmcdpjlkgocaaW.PrintWords Go.Proofs.YtigmcdpjlkgocaaW.PrintLast Go.Proofs.YtigmcdpjlkgocaaW.PrintMore
set_option linter.unusedVariables false
set_option linter.unusedSimpArgs false
/-- the values of numbers above the least difference, one behind the other -/
def walkV (k : IntKind) (m : Int) : Int → List Int → List Int
  | _, [] => []
  | last, n :: ns => k.wrap (last + m + n) :: walkV k m (k.wrap (last + m + n)) ns
theorem walkV_length (k : IntKind) (m : Int) : ∀ (ns : List Int) (last : Int), (walkV k m last ns).length = ns.length
  | [], _ => rfl
  | n :: ns, last => by simp [walkV, walkV_length k m ns]
theorem walkV_take (k : IntKind) (m : Int) : ∀ (ns : List Int) (last : Int) (L : Nat), walkV k m last (ns.take L) = (walkV k m last ns).take L
  | [], last, L => by simp [walkV]
  | n :: ns, last, 0 => by simp [walkV]
  | n :: ns, last, L + 1 => by simp [walkV, walkV_take k m ns]
theorem walkV_eq (k : IntKind) (m : Int) : ∀ (xs ns : List Int) (last : Int), ns.length = xs.length → (∀ j : Nat, j < xs.length → rd xs (j : Nat) = k.wrap (prv last xs j + m + rd ns (j : Nat))) → walkV k m last ns = xs
  | [], ns, last, h, _ => by
    obtain rfl : ns = [] := List.eq_nil_of_length_eq_zero h
    rfl
  | x :: xs, [], last, h, _ => by simp at h
  | x :: xs, n :: ns, last, h, hs => by
    have h0 := hs 0 (by simp)
    have e0 : k.wrap (last + m + n) = x := by
      have : rd (x :: xs) ((0 : Nat) : Int) = x := rfl
      rw [this] at h0
      exact h0.symm
    unfold walkV
    rw [e0]
    congr 1
    refine walkV_eq k m xs ns x (by simpa using h) fun j hj => ?_
    have := hs (j + 1) (by simp; omega)
    have e1 : rd (x :: xs) ((j + 1 : Nat) : Int) = rd xs (j : Nat) := by simp [rd]
    have e2 : rd (n :: ns) ((j + 1 : Nat) : Int) = rd ns (j : Nat) := by simp [rd]
    have e3 : prv last (x :: xs) (j + 1) = prv x xs j := by
      unfold prv
      rw [if_neg (by omega), show j + 1 - 1 = j by omega]
      by_cases c : j = 0
      · subst c; rfl
      · rw [if_neg c]
        obtain ⟨i, rfl⟩ : ∃ i, j = i + 1 := ⟨j - 1, by omega⟩
        simp [rd]
    rw [e1, e2, e3] at this
    exact this
theorem rd_dlt (k : IntKind) (last : Int) (xs : List Int) (j : Nat) (h : j < xs.length) : rd (dlt k last xs) (j : Nat) = k.wrap (rd xs (j : Nat) - prv last xs j) := by
  rw [rd_nat _ _ (by rw [dlt_length]; exact h)]
  simp [dlt, dltF]
theorem rd_subL (k : IntKind) (m : Int) (xs : List Int) (j : Nat) (h : j < xs.length) : rd (subL k m xs) (j : Nat) = k.wrap (rd xs (j : Nat) - m) := by
  rw [rd_nat _ _ (by rw [subL_length]; exact h)]
  simp [subL, subF]
/-- what the encoder writes are the values that it has read -/
theorem enc64_vals (m last : Int) (xs : List Int) (hx : ∀ x ∈ xs, -9223372036854775808 ≤ x ∧ x ≤ 9223372036854775807) : walkV .i64 m last (unsI 18446744073709551616 (subL .i64 m (dlt .i64 last xs))) = xs := by
  refine walkV_eq _ _ _ _ _ (by rw [unsI_length, subL_length, dlt_length]) fun j hj => ?_
  rw [rd_unsI _ _ _ (by rw [subL_length, dlt_length]; exact hj), rd_subL _ _ _ _ (by rw [dlt_length]; exact hj), rd_dlt _ _ _ _ hj]
  have h := hx _ (rd_mem (l := xs) (i := j) hj)
  generalize rd xs (j : Nat) = y at *
  generalize prv last xs j = p at *
  rw [IntKind.wrap_i64, IntKind.wrap_i64, IntKind.wrap_i64]
  omega
theorem enc32_vals (m last : Int) (xs : List Int) (hx : ∀ x ∈ xs, -2147483648 ≤ x ∧ x ≤ 2147483647) : walkV .i32 m last (unsI 4294967296 (subL .i32 m (dlt .i32 last xs))) = xs := by
  refine walkV_eq _ _ _ _ _ (by rw [unsI_length, subL_length, dlt_length]) fun j hj => ?_
  rw [rd_unsI _ _ _ (by rw [subL_length, dlt_length]; exact hj), rd_subL _ _ _ _ (by rw [dlt_length]; exact hj), rd_dlt _ _ _ _ hj]
  have h := hx _ (rd_mem (l := xs) (i := j) hj)
  generalize rd xs (j : Nat) = y at *
  generalize prv last xs j = p at *
  rw [IntKind.wrap_i32, IntKind.wrap_i32, IntKind.wrap_i32]
  omega
/-! ### blocks -/
/-- a part: its width and its numbers -/
abbrev DPart := Nat × List Int
/-- a block: its least difference and its parts -/
abbrev DBlk := Int × List DPart
def partsB (ps : List DPart) : List Int := ps.flatMap fun p => packLo p.1 p.2
def blkB (b : DBlk) : List Int := varL (zz b.1) ++ natsI (b.2.map (·.1)) ++ partsB b.2
def blksB (bs : List DBlk) : List Int := bs.flatMap blkB
def blkN (b : DBlk) : List Int := b.2.flatMap (·.2)
/-- the values behind the first one -/
def blksV (k : IntKind) : Int → List DBlk → List Int
  | _, [] => []
  | last, b :: bs =>
    let vs := walkV k b.1 last (blkN b)
    vs ++ blksV k (vs.getLastD last) bs
/-- a block of P parts of S numbers each, of W bits at most -/
def blkOk (W P S : Nat) (b : DBlk) : Prop := b.2.length = P ∧ ∀ p ∈ b.2, p.1 ≤ W ∧ p.2.length = S ∧ fitL p.1 p.2
theorem blksB_snoc (bs : List DBlk) (b : DBlk) : blksB (bs ++ [b]) = blksB bs ++ blkB b := by simp [blksB]
/-- a part's bytes, and zeros behind -/
theorem mini_bytes (b n : Nat) (ws : List Int) (hl : ws.length = 32) (hn : 4 * b ≤ n) : bytesLo (upTo (bitsLo b ws) (32 * b)) n = packLo b ws ++ List.replicate (n - 4 * b) 0 := by
  have hpl : (packLo b ws).length = 4 * b := by unfold packLo; rw [bytesLo_length, hl]; omega
  apply rd_ext
  · rw [List.length_append, List.length_replicate, hpl, bytesLo_length]; omega
  · intro i hi
    rw [bytesLo_length] at hi
    rw [rd_bytesLo _ _ _ hi, rd_append, hpl]
    by_cases c : i < 4 * b
    · rw [if_pos c]
      unfold packLo
      rw [rd_bytesLo _ _ _ (by rw [hl]; omega)]
      have e : byteLo (upTo (bitsLo b ws) (32 * b)) i = byteLo (bitsLo b ws) i := by
        refine byteLo_congr fun p h1 h2 => ?_
        unfold upTo
        rw [decide_eq_true (by omega), Bool.true_and]
      rw [e]
    · rw [if_neg c]
      have e : byteLo (upTo (bitsLo b ws) (32 * b)) i = 0 := by
        symm
        unfold byteLo
        refine eq_bitsN (by decide) fun q hq => ?_
        unfold upTo
        rw [decide_eq_false (by omega), Bool.false_and, Nat.zero_testBit]
      rw [e, rd_nat _ _ (by rw [List.length_replicate]; omega)]
      simp
end Go.Proofs.Ytigmcdpjlkgocaa.Dds

/-! Run equations that the encoder's walk lacks. -/
namespace Go.Proofs.Ytigmcdpjlkgocaa.Drx
open Go.Proofs.Ytigmcdpjlkgocaa.Dds Go.Proofs.Ytigmcdpjlkgocaa.Pak Go.Proofs.Ytigmcdpjlkgocaa.Buf Go.Proofs.Ytigmcdpjlkgocaa.Spl Go.Proofs.Ytigmcdpjlkgocaa.Num Go.Proofs.Ytigmcdpjlkgocaa.Lst Go.Proofs.Ytigmcdpjlkgocaa.Aid Go.RowKit Go.Proofs.YtigmcdpjlkgocaaW.PrintWords Go.Proofs.YtigmcdpjlkgocaaW.PrintLast Go.Proofs.YtigmcdpjlkgocaaW.PrintMore
set_option linter.unusedVariables false
set_option linter.unusedSimpArgs false
/-- a slice as the address of an array -/
theorem runArrayAt {P : Program} (t e : TypeId) (n : Nat) (ht : P.underlying t = some (.array n e)) (a : Addr) (len cap : Nat) (h : n ≤ len) (w : World) :
    (Instr.arrayAt t (.slice (some a) len cap)).run P w = .ok (.pointer (some a)) w := by
  have hn : ¬ len < n := by omega
  simp [Instr.arrayAt, run_underlying ht, hn]
/-- an element of an array of four numbers -/
theorem runIndex4 {P : Program} (t e : TypeId) (ht : P.underlying t = some (.array 4 e)) (he : (P.info? e).map (·.size) = some 1) (ha : ∀ w : World, (isAgg e).run P w = .ok false w) (a0 a1 a2 a3 : Value) (j : Nat) (hj : j < 4) (w : World) :
    (Instr.index t (.agg #[a0, a1, a2, a3]) (.int .i64 (j : Int))).run P w = .ok ([a0, a1, a2, a3].getD j a0) w := by
  obtain ⟨i, hi, hz⟩ := Option.map_eq_some_iff.1 he
  have hs : ∀ w : World, (sizeOf e).run P w = .ok 1 w := fun w => by simp [sizeOf, typeInfo, hi, hz]
  rcases (show j = 0 ∨ j = 1 ∨ j = 2 ∨ j = 3 by omega) with h | h | h | h <;> subst h <;> simp [Instr.index, run_underlying ht, asIntOf, hs, ha, go_sem]
end Go.Proofs.Ytigmcdpjlkgocaa.Drx

/-! The blocks that the encoder writes. -/
namespace Go.Proofs.Ytigmcdpjlkgocaa.Deb
open Go.Proofs.Ytigmcdpjlkgocaa.Drx Go.Proofs.Ytigmcdpjlkgocaa.Dds Go.Proofs.Ytigmcdpjlkgocaa.Dml Go.Proofs.Ytigmcdpjlkgocaa.Dbw Go.Proofs.Ytigmcdpjlkgocaa.Dbk Go.Proofs.Ytigmcdpjlkgocaa.Dpu Go.Proofs.Ytigmcdpjlkgocaa.Pak Go.Proofs.Ytigmcdpjlkgocaa.Buf Go.Proofs.Ytigmcdpjlkgocaa.Fit Go.Proofs.Ytigmcdpjlkgocaa.Spl Go.Proofs.Ytigmcdpjlkgocaa.Num Go.Proofs.Ytigmcdpjlkgocaa.Lst Go.Proofs.Ytigmcdpjlkgocaa.Aid Go.RowKit Go.Proofs.YtigmcdpjlkgocaaW.PrintWords Go.Proofs.YtigmcdpjlkgocaaW.PrintLast Go.Proofs.YtigmcdpjlkgocaaW.PrintMore
set_option linter.unusedVariables false
set_option linter.unusedSimpArgs false
/-- one part of a block of 128 numbers -/
def encP (M : Int) (ws : List Nat) (cl : List Int) (i : Nat) : DPart := (ws.getD i 0, unsI M ((cl.drop (32 * i)).take 32))
def encPs (M : Int) (ws : List Nat) (cl : List Int) (n : Nat) : List DPart := (List.range n).map (encP M ws cl)
theorem encPs_succ (M : Int) (ws : List Nat) (cl : List Int) (n : Nat) : encPs M ws cl (n + 1) = encPs M ws cl n ++ [encP M ws cl n] := by simp [encPs, List.range_succ]
theorem partsB_snoc (ps : List DPart) (p : DPart) : partsB (ps ++ [p]) = partsB ps ++ packLo p.1 p.2 := by simp [partsB]
theorem packLo_zero (l : List Int) : packLo 0 l = [] := by simp [packLo, bytesLo]
theorem encP_len (M : Int) (ws : List Nat) (cl : List Int) (i : Nat) (hl : cl.length = 128) (hi : i < 4) : (encP M ws cl i).2.length = 32 := by
  unfold encP
  rw [unsI_length, List.length_take, List.length_drop, hl]; omega
theorem encPs_fst (M : Int) (ws : List Nat) (cl : List Int) (h : ws.length = 4) : (encPs M ws cl 4).map (·.1) = ws := by
  apply List.ext_getElem
  · simp [encPs, h]
  · intro i h1 h2
    simp [encPs, encP, List.getD_eq_getElem?_getD, h2]
theorem four_chunks (cl : List Int) (h : cl.length = 128) : (cl.drop 0).take 32 ++ ((cl.drop 32).take 32 ++ ((cl.drop 64).take 32 ++ (cl.drop 96).take 32)) = cl := by
  have e3 : (cl.drop 96).take 32 = cl.drop 96 := List.take_of_length_le (by rw [List.length_drop]; omega)
  have s2 : (cl.drop 64).take 32 ++ cl.drop 96 = cl.drop 64 := by
    have := List.take_append_drop 32 (cl.drop 64)
    rw [List.drop_drop] at this; exact this
  have s1 : (cl.drop 32).take 32 ++ cl.drop 64 = cl.drop 32 := by
    have := List.take_append_drop 32 (cl.drop 32)
    rw [List.drop_drop] at this; exact this
  rw [e3, s2, s1, List.drop_zero]
  exact List.take_append_drop 32 cl
theorem encPs_N (M : Int) (m : Int) (ws : List Nat) (cl : List Int) (h : cl.length = 128) : blkN (m, encPs M ws cl 4) = unsI M cl := by
  have e : blkN (m, encPs M ws cl 4) = unsI M ((cl.drop 0).take 32) ++ (unsI M ((cl.drop 32).take 32) ++ (unsI M ((cl.drop 64).take 32) ++ unsI M ((cl.drop 96).take 32))) := by
    simp [blkN, encPs, encP, List.range_succ]
  rw [e]
  unfold unsI
  rw [← List.map_append, ← List.map_append, ← List.map_append, four_chunks cl h]
theorem encPs_ok (W : Nat) (M m : Int) (ws : List Nat) (cl : List Int) (hM : 0 < M) (hl : cl.length = 128) (hw : ∀ q ∈ ws, q ≤ W) (hwl : ws.length = 4) (hf : ∀ i, i < 4 → fitsAt M cl (32 * i) (32 * i + 32) (ws.getD i 0)) : blkOk W 4 32 (m, encPs M ws cl 4) := by
  refine ⟨by simp [encPs], fun p hp => ?_⟩
  simp only [encPs, List.mem_map, List.mem_range] at hp
  obtain ⟨i, hi, rfl⟩ := hp
  refine ⟨?_, encP_len M ws cl i hl hi, ?_⟩
  · refine hw _ ?_
    show ws.getD i 0 ∈ ws
    rw [List.getD_eq_getElem?_getD, List.getElem?_eq_getElem (by omega)]
    exact List.getElem_mem _
  · intro x hx
    obtain ⟨p, hp, rfl⟩ := List.getElem_of_mem hx
    have hlen := encP_len M ws cl i hl hi
    have hp32 : p < 32 := by omega
    have e : (encP M ws cl i).2[p] = rd cl ((32 * i + p : Nat) : Int) % M := by
      rw [rd_nat _ _ (by omega)]
      simp [encP, unsI]
    rw [e]
    have h1 := (hf i hi).1 (32 * i + p) (by omega) (by omega)
    have h3 : (2 : Int) ^ (encP M ws cl i).1 = ((2 ^ (ws.getD i 0) : Nat) : Int) := by push_cast; rfl
    rw [h3]
    exact ⟨Int.emod_nonneg _ (by omega), h1⟩
end Go.Proofs.Ytigmcdpjlkgocaa.Deb

/-! The encoder of differences: the walk. -/
namespace Go.Proofs.Ytigmcdpjlkgocaa.Den
open Go.Proofs.Ytigmcdpjlkgocaa.Deb Go.Proofs.Ytigmcdpjlkgocaa.Drx Go.Proofs.Ytigmcdpjlkgocaa.Dds Go.Proofs.Ytigmcdpjlkgocaa.Dmw Go.Proofs.Ytigmcdpjlkgocaa.Dml Go.Proofs.Ytigmcdpjlkgocaa.Dbw Go.Proofs.Ytigmcdpjlkgocaa.Dbk Go.Proofs.Ytigmcdpjlkgocaa.Dhd Go.Proofs.Ytigmcdpjlkgocaa.Dgr Go.Proofs.Ytigmcdpjlkgocaa.Dpu Go.Proofs.Ytigmcdpjlkgocaa.Pak Go.Proofs.Ytigmcdpjlkgocaa.Buf Go.Proofs.Ytigmcdpjlkgocaa.Fit Go.Proofs.Ytigmcdpjlkgocaa.Bit Go.Proofs.Ytigmcdpjlkgocaa.Wrd Go.Proofs.Ytigmcdpjlkgocaa.Spl Go.Proofs.Ytigmcdpjlkgocaa.Str Go.Proofs.Ytigmcdpjlkgocaa.Flt Go.Proofs.Ytigmcdpjlkgocaa.Owe Go.Proofs.Ytigmcdpjlkgocaa.Num Go.Proofs.Ytigmcdpjlkgocaa.Le Go.Proofs.Ytigmcdpjlkgocaa.Lst Go.Proofs.Ytigmcdpjlkgocaa.Aid Go.RowKit Go.Proofs.YtigmcdpjlkgocaaW.PrintWords Go.Proofs.YtigmcdpjlkgocaaW.PrintLast Go.Proofs.YtigmcdpjlkgocaaW.PrintMore
set_option linter.unusedVariables false
set_option linter.unusedSimpArgs false
/-- the first number, 0 if there is none -/
def fstI (l : List Int) : Int := l.headD 0
theorem own_front0 {w : World} {g C t : Nat} {k : IntKind} {xs zs : List Int} {base : Nat} (h : Front w g C t k (xs ++ zs)) (hb : base ≤ g) (hm : C ≤ 9223372036854775807) : Own w base t k (.slice (some ⟨g, 0, none⟩) xs.length C) xs := by
  have := (h.take xs.length).toOwn hb hm
  rw [List.take_left] at this
  exact this
set_option maxHeartbeats 16000000 in
set_option maxRecDepth 100000 in
/-- the head alone: of lists of none or one -/
theorem encInt64Short_calls (w0 : World) (A : Option Addr) (N c : Nat) (l : List Int) (v : Value) (xs : List Int) (w : World) (hO : Own w w0.heap.size 5 .u8 v xs) (hB : Below w0.heap.size w0 w) (hC : (Kd.int .i64).C w0 A N l) (hc : N ≤ c) (hn : N < 2) (hx : xs.length ≤ 16777216) (hwf : ∀ x ∈ l, (Lit.int .i64 x).wf = true) :
    Calls Try.prog 56 #[v, .slice A N c] w fun e w' => ∃ v1, e = .returned v1 ∧ Own w' w0.heap.size 5 .u8 v1 (xs ++ hdL N (fstI l)) ∧ Below w0.heap.size w0 w' := by
  have HLN : Aside0 (l.length = N) := ⟨hC.1⟩
  obtain ⟨A0, c0, rfl, hc0, _⟩ := hO.read
  have HB := Aside0.mk hB
  have HC := Aside0.mk hC
  obtain ⟨n, hn0⟩ : ∃ n, xs.length = n := ⟨_, rfl⟩
  have HN := Aside0.mk hn0
  have HRS := Aside0.mk (resizeZ_calls w0.heap.size _ xs (n + 80) w hO hB.size (by omega) (by omega))
  rw [hn0] at hO hc0 hx HRS ⊢
  rw [show ((n + 80 : Nat) : Int) = (n : Int) + 80 by omega, show n + 80 - n = 80 by omega] at HRS
  have hfb : -9223372036854775808 ≤ fstI l ∧ fstI l ≤ 9223372036854775807 := by
    cases l with
    | nil => show -9223372036854775808 ≤ (0 : Int) ∧ (0 : Int) ≤ 9223372036854775807; omega
    | cons x l =>
      have := hwf x (by simp)
      simp [Lit.wf, IntKind.min, IntKind.max, IntKind.signed, IntKind.bits] at this
      show -9223372036854775808 ≤ x ∧ x ≤ 9223372036854775807; omega
  obtain ⟨f, hf⟩ : ∃ f, fstI l = f := ⟨_, rfl⟩
  rw [hf] at hfb ⊢
  have HFQ := Aside0.mk hf
  have HHD : Aside0 (∀ W g M, Front W g M 5 .u8 (xs ++ List.replicate 80 0) → n + 80 ≤ M → M ≤ 9223372036854775807 → Calls Try.prog 76 #[.slice (some ⟨g, n, none⟩) 80 (M - n), .int .i64 128, .int .i64 4, .int .i64 N, .int .i64 f] W fun e w' => e = .returned (.int .i64 ((hdL N f).length : Int)) ∧ (hdL N f).length ≤ 40 ∧ Front w' g M 5 .u8 (xs ++ hdL N f ++ (List.replicate 80 0).drop (hdL N f).length) ∧ W.grownBy w' (some g)) := ⟨fun W g M hfr h1 h2 => by
    have := header_calls g M 5 80 (M - n) xs (List.replicate 80 0) N f W hfr (by omega) (by omega) (by omega) (by omega) (by omega) (by omega) (by rw [List.length_replicate]; omega)
    rw [HN.out] at this; exact this⟩
  obtain ⟨i8, h8⟩ := h8
  clear hO hB hn0 hf hC
  rcases (show N = 0 ∨ N = 1 by omega) with h | h
  · subst h
    have hf0 : f = 0 := by
      have hl0 : l = [] := List.eq_nil_of_length_eq_zero HLN.out
      rw [← HFQ.out, hl0]; rfl
    subst hf0
    simp only [show ((0 : Nat) : Int) = 0 from rfl] at HHD
    go_enter Try.func56, Try.ntmps56
    go_wp2_with (first
      | (go_at_call 48; go_loud (with_reducible refine HRS.out.mono ?_); rintro e w2 ⟨g, M, rfl, hf, h1, h2, h3, h4, hg⟩; have HF2 := Aside0.mk hf; have HG2 := Aside0.mk hg; have cut1 := cutFrom0 (P := Try.prog) 23 5 Try.underlying23 h8.1 h8.2 g (n + 80) M n (by omega) h1 (by omega); rw [show n + 80 - n = 80 by omega] at cut1; clear hf hg)
      | (go_at_call 76; go_loud (with_reducible refine (HHD.out w2 g M HF2.out h1 h2).mono ?_); rintro e w3 ⟨rfl, hle, hf, hg⟩; have HF3 := Aside0.mk hf; have HG3 := Aside0.mk hg; obtain ⟨L, hL⟩ : ∃ L, (hdL 0 0).length = L := ⟨_, rfl⟩; rw [hL] at hle; rw [hL]; have HLQ := Aside0.mk hL; have cut2 := cutAtMid0 (P := Try.prog) 23 5 Try.underlying23 h8.1 h8.2 g (n + 80) M (n + L) (by omega); rw [show ((n + L : Nat) : Int) = (n : Int) + (L : Int) by omega] at cut2; clear hf hg hL))
    go_ret
    exact ⟨_, rfl, by have := own_front0 HF3.out h3 h2; rw [List.length_append, HN.out, HLQ.out] at this; exact this, HB.out.grown (HG2.out.trans HG3.out) (by have := HB.out.size; exact this) (fun j hj => by injection hj with hj; omega)⟩
  · subst h
    obtain ⟨ad, ead, hcell⟩ := Kd.at_int (Kd.C_below HC.out HB.out) 0 (by omega) (by omega)
    have hcell : w.cell? (ad.add 0) = some (.int .i64 (rd l 0)) := hcell
    have had : ad.add 0 = ad := by simp [Addr.add]
    have hrf : rd l 0 = f := by
      rw [← HFQ.out]
      cases l with
      | nil => have := HLN.out; simp at this
      | cons x l => rfl
    rw [had, hrf] at hcell
    subst ead
    clear had hrf
    simp only [show ((1 : Nat) : Int) = 1 from rfl] at HHD
    go_enter Try.func56, Try.ntmps56
    go_wp2_with (first
      | (go_at_call 48; go_loud (with_reducible refine HRS.out.mono ?_); rintro e w2 ⟨g, M, rfl, hf, h1, h2, h3, h4, hg⟩; have HF2 := Aside0.mk hf; have HG2 := Aside0.mk hg; have cut1 := cutFrom0 (P := Try.prog) 23 5 Try.underlying23 h8.1 h8.2 g (n + 80) M n (by omega) h1 (by omega); rw [show n + 80 - n = 80 by omega] at cut1; clear hf hg)
      | (go_at_call 76; go_loud (with_reducible refine (HHD.out w2 g M HF2.out h1 h2).mono ?_); rintro e w3 ⟨rfl, hle, hf, hg⟩; have HF3 := Aside0.mk hf; have HG3 := Aside0.mk hg; obtain ⟨L, hL⟩ : ∃ L, (hdL 1 f).length = L := ⟨_, rfl⟩; rw [hL] at hle; rw [hL]; have HLQ := Aside0.mk hL; have cut2 := cutAtMid0 (P := Try.prog) 23 5 Try.underlying23 h8.1 h8.2 g (n + 80) M (n + L) (by omega); rw [show ((n + L : Nat) : Int) = (n : Int) + (L : Int) by omega] at cut2; clear hf hg hL))
    go_ret
    exact ⟨_, rfl, by have := own_front0 HF3.out h3 h2; rw [List.length_append, HN.out, HLQ.out] at this; exact this, HB.out.grown (HG2.out.trans HG3.out) (by have := HB.out.size; exact this) (fun j hj => by injection hj with hj; omega)⟩
set_option maxHeartbeats 16000000 in
set_option maxRecDepth 100000 in
/-- the head alone: of lists of none or one -/
theorem encInt32Short_calls (w0 : World) (A : Option Addr) (N c : Nat) (l : List Int) (v : Value) (xs : List Int) (w : World) (hO : Own w w0.heap.size 5 .u8 v xs) (hB : Below w0.heap.size w0 w) (hC : (Kd.int .i32).C w0 A N l) (hc : N ≤ c) (hn : N < 2) (hx : xs.length ≤ 16777216) (hwf : ∀ x ∈ l, (Lit.int .i32 x).wf = true) :
    Calls Try.prog 60 #[v, .slice A N c] w fun e w' => ∃ v1, e = .returned v1 ∧ Own w' w0.heap.size 5 .u8 v1 (xs ++ hdL N (fstI l)) ∧ Below w0.heap.size w0 w' := by
  have HLN : Aside0 (l.length = N) := ⟨hC.1⟩
  obtain ⟨A0, c0, rfl, hc0, _⟩ := hO.read
  have HB := Aside0.mk hB
  have HC := Aside0.mk hC
  obtain ⟨n, hn0⟩ : ∃ n, xs.length = n := ⟨_, rfl⟩
  have HN := Aside0.mk hn0
  have HRS := Aside0.mk (resizeZ_calls w0.heap.size _ xs (n + 40) w hO hB.size (by omega) (by omega))
  rw [hn0] at hO hc0 hx HRS ⊢
  rw [show ((n + 40 : Nat) : Int) = (n : Int) + 40 by omega, show n + 40 - n = 40 by omega] at HRS
  have hfb : -2147483648 ≤ fstI l ∧ fstI l ≤ 2147483647 := by
    cases l with
    | nil => show -2147483648 ≤ (0 : Int) ∧ (0 : Int) ≤ 2147483647; omega
    | cons x l =>
      have := hwf x (by simp)
      simp [Lit.wf, IntKind.min, IntKind.max, IntKind.signed, IntKind.bits] at this
      show -2147483648 ≤ x ∧ x ≤ 2147483647; omega
  obtain ⟨f, hf⟩ : ∃ f, fstI l = f := ⟨_, rfl⟩
  rw [hf] at hfb ⊢
  have HFQ := Aside0.mk hf
  have HHD : Aside0 (∀ W g M, Front W g M 5 .u8 (xs ++ List.replicate 40 0) → n + 40 ≤ M → M ≤ 9223372036854775807 → Calls Try.prog 76 #[.slice (some ⟨g, n, none⟩) 40 (M - n), .int .i64 128, .int .i64 4, .int .i64 N, .int .i64 f] W fun e w' => e = .returned (.int .i64 ((hdL N f).length : Int)) ∧ (hdL N f).length ≤ 40 ∧ Front w' g M 5 .u8 (xs ++ hdL N f ++ (List.replicate 40 0).drop (hdL N f).length) ∧ W.grownBy w' (some g)) := ⟨fun W g M hfr h1 h2 => by
    have := header_calls g M 5 40 (M - n) xs (List.replicate 40 0) N f W hfr (by omega) (by omega) (by omega) (by omega) (by omega) (by omega) (by rw [List.length_replicate]; omega)
    rw [HN.out] at this; exact this⟩
  obtain ⟨i8, h8⟩ := h8
  clear hO hB hn0 hf hC
  rcases (show N = 0 ∨ N = 1 by omega) with h | h
  · subst h
    have hf0 : f = 0 := by
      have hl0 : l = [] := List.eq_nil_of_length_eq_zero HLN.out
      rw [← HFQ.out, hl0]; rfl
    subst hf0
    simp only [show ((0 : Nat) : Int) = 0 from rfl] at HHD
    go_enter Try.func60, Try.ntmps60
    go_wp2_with (first
      | (go_at_call 48; go_loud (with_reducible refine HRS.out.mono ?_); rintro e w2 ⟨g, M, rfl, hf, h1, h2, h3, h4, hg⟩; have HF2 := Aside0.mk hf; have HG2 := Aside0.mk hg; have cut1 := cutFrom0 (P := Try.prog) 23 5 Try.underlying23 h8.1 h8.2 g (n + 40) M n (by omega) h1 (by omega); rw [show n + 40 - n = 40 by omega] at cut1; clear hf hg)
      | (go_at_call 76; go_loud (with_reducible refine (HHD.out w2 g M HF2.out h1 h2).mono ?_); rintro e w3 ⟨rfl, hle, hf, hg⟩; have HF3 := Aside0.mk hf; have HG3 := Aside0.mk hg; obtain ⟨L, hL⟩ : ∃ L, (hdL 0 0).length = L := ⟨_, rfl⟩; rw [hL] at hle; rw [hL]; have HLQ := Aside0.mk hL; have cut2 := cutAtMid0 (P := Try.prog) 23 5 Try.underlying23 h8.1 h8.2 g (n + 40) M (n + L) (by omega); rw [show ((n + L : Nat) : Int) = (n : Int) + (L : Int) by omega] at cut2; clear hf hg hL))
    go_ret
    exact ⟨_, rfl, by have := own_front0 HF3.out h3 h2; rw [List.length_append, HN.out, HLQ.out] at this; exact this, HB.out.grown (HG2.out.trans HG3.out) (by have := HB.out.size; exact this) (fun j hj => by injection hj with hj; omega)⟩
  · subst h
    obtain ⟨ad, ead, hcell⟩ := Kd.at_int (Kd.C_below HC.out HB.out) 0 (by omega) (by omega)
    have hcell : w.cell? (ad.add 0) = some (.int .i32 (rd l 0)) := hcell
    have had : ad.add 0 = ad := by simp [Addr.add]
    have hrf : rd l 0 = f := by
      rw [← HFQ.out]
      cases l with
      | nil => have := HLN.out; simp at this
      | cons x l => rfl
    rw [had, hrf] at hcell
    subst ead
    clear had hrf
    simp only [show ((1 : Nat) : Int) = 1 from rfl] at HHD
    go_enter Try.func60, Try.ntmps60
    go_wp2_with (first
      | (go_at_call 48; go_loud (with_reducible refine HRS.out.mono ?_); rintro e w2 ⟨g, M, rfl, hf, h1, h2, h3, h4, hg⟩; have HF2 := Aside0.mk hf; have HG2 := Aside0.mk hg; have cut1 := cutFrom0 (P := Try.prog) 23 5 Try.underlying23 h8.1 h8.2 g (n + 40) M n (by omega) h1 (by omega); rw [show n + 40 - n = 40 by omega] at cut1; clear hf hg)
      | (go_at_call 76; go_loud (with_reducible refine (HHD.out w2 g M HF2.out h1 h2).mono ?_); rintro e w3 ⟨rfl, hle, hf, hg⟩; have HF3 := Aside0.mk hf; have HG3 := Aside0.mk hg; obtain ⟨L, hL⟩ : ∃ L, (hdL 1 f).length = L := ⟨_, rfl⟩; rw [hL] at hle; rw [hL]; have HLQ := Aside0.mk hL; have cut2 := cutAtMid0 (P := Try.prog) 23 5 Try.underlying23 h8.1 h8.2 g (n + 40) M (n + L) (by omega); rw [show ((n + L : Nat) : Int) = (n : Int) + (L : Int) by omega] at cut2; clear hf hg hL))
    go_ret
    exact ⟨_, rfl, by have := own_front0 HF3.out h3 h2; rw [List.length_append, HN.out, HLQ.out] at this; exact this, HB.out.grown (HG2.out.trans HG3.out) (by have := HB.out.size; exact this) (fun j hj => by injection hj with hj; omega)⟩
end Go.Proofs.Ytigmcdpjlkgocaa.Den

/-! The encoder of differences: lists of two and more. -/
namespace Go.Proofs.Ytigmcdpjlkgocaa.Deo
open Go.Proofs.Ytigmcdpjlkgocaa.Den Go.Proofs.Ytigmcdpjlkgocaa.Deb Go.Proofs.Ytigmcdpjlkgocaa.Drx Go.Proofs.Ytigmcdpjlkgocaa.Dds Go.Proofs.Ytigmcdpjlkgocaa.Dmw Go.Proofs.Ytigmcdpjlkgocaa.Dml Go.Proofs.Ytigmcdpjlkgocaa.Dbw Go.Proofs.Ytigmcdpjlkgocaa.Dbk Go.Proofs.Ytigmcdpjlkgocaa.Dhd Go.Proofs.Ytigmcdpjlkgocaa.Dgr Go.Proofs.Ytigmcdpjlkgocaa.Dpu Go.Proofs.Ytigmcdpjlkgocaa.Pak Go.Proofs.Ytigmcdpjlkgocaa.Buf Go.Proofs.Ytigmcdpjlkgocaa.Fit Go.Proofs.Ytigmcdpjlkgocaa.Bit Go.Proofs.Ytigmcdpjlkgocaa.Wrd Go.Proofs.Ytigmcdpjlkgocaa.Spl Go.Proofs.Ytigmcdpjlkgocaa.Str Go.Proofs.Ytigmcdpjlkgocaa.Flt Go.Proofs.Ytigmcdpjlkgocaa.Owe Go.Proofs.Ytigmcdpjlkgocaa.Num Go.Proofs.Ytigmcdpjlkgocaa.Le Go.Proofs.Ytigmcdpjlkgocaa.Lst Go.Proofs.Ytigmcdpjlkgocaa.Aid Go.RowKit Go.Proofs.YtigmcdpjlkgocaaW.PrintWords Go.Proofs.YtigmcdpjlkgocaaW.PrintLast Go.Proofs.YtigmcdpjlkgocaaW.PrintMore
set_option linter.unusedVariables false
set_option linter.unusedSimpArgs false
theorem grownRowE (w : World) (g : Nat) (cs : Array Value) : w.grownBy (w.setRow g cs) (some g) :=
  ⟨rfl, rfl, rfl, by simp [World.setRow], fun k _ hk => setRow_other w g k cs (fun e => hk (by rw [e]))⟩
section
variable {P : Program} {ops : Array Oper} {rest : List Oper} {o : Oper} {a : Act} {Q : Exit → Act → World → Prop} {w : World}
theorem wpList_copy_at (hgd : o.guard = none) (d s : Operand) (dT sT : TypeId)
    (ho : o.op = .call { callee := .builtin .copy, args := #[d, s], argTypes := #[dT, sT] }) (elem : TypeId) (hu : P.underlying dT = some (.slice elem)) (hsz : (P.info? elem).map (·.size) = some 1)
    (g off n C : Nat) (ad : Addr) (sLen sCap : Nat) (hd : a.eval d = .slice (some ⟨g, off, none⟩) n C) (hs : a.eval s = .slice (some ad) sLen sCap)
    (t : Nat) (k : IntKind) (ys xs : List Int) (hR : Row w g t k ys) (hn : xs.length = Nat.min sLen n) (hsrc : ∀ j v, (nums k xs)[j]? = some v → w.cell? (ad.add j) = some v) (hfit : off + xs.length ≤ ys.length)
    (h : ∀ w1, Row w1 g t k (ys.take off ++ (xs ++ ys.drop (off + xs.length))) → w.grownBy w1 (some g) → wpList P ops Q rest (a.put o.dst (goInt (nums k xs).length)) w1) :
    wpList P ops Q (o :: rest) a w := by
  refine wpList_copy_own hgd d s dT sT ho elem hu hsz g off n C ad sLen sCap hd hs (nums k ys).toArray t hR.out.out (nums k xs) (by simpa [nums] using hn) hsrc (by simpa [nums] using hfit) (nums_one _ _) ?_
  refine h _ ⟨⟨?_⟩⟩ (grownRowE _ _ _)
  have e : ((nums k ys).toArray.toList.take off ++ (nums k xs ++ (nums k ys).toArray.toList.drop (off + (nums k xs).length))) = nums k (ys.take off ++ (xs ++ ys.drop (off + xs.length))) := by simp [nums, List.map_drop, List.map_take]
  rw [e]
  exact setRow_heap w g _ _ t _ hR.out.out
end
/-- the target apart from what has been made since -/
structure Stz (w0 : World) (v : Value) (xs : List Int) (w : World) : Prop where
  own : Own w w0.heap.size 5 .u8 v xs
  bel : Below w0.heap.size w0 w
theorem _root_.Go.Proofs.Ytigmcdpjlkgocaa.Deo.Stz.below' {w0 w W : World} {xs : List Int} {v : Value} (h : Stz w0 v xs w) (hb : Below w.heap.size w W) : Stz w0 v xs W := ⟨h.own.below hb, h.bel.trans (hb.mono h.bel.size)⟩
theorem _root_.Go.Proofs.Ytigmcdpjlkgocaa.Deo.Stz.apart {w0 w : World} {xs : List Int} {v : Value} (h : Stz w0 v xs w) {k : Nat} (hk : w.heap.size ≤ k) : v.ownBlock ≠ some k := fun e => by
  have := own_lt h.own.out k e; omega
theorem _root_.Go.Proofs.Ytigmcdpjlkgocaa.Deo.Stz.other {w0 w W : World} {xs : List Int} {v : Value} (h : Stz w0 v xs w) {k : Nat} (hk : w0.heap.size ≤ k) (hg : w.grownBy W (some k)) (hne : v.ownBlock ≠ some k) : Stz w0 v xs W :=
  ⟨h.own.grown hg (.inr hne), h.bel.grown hg h.bel.size (fun j hj => by injection hj with hj; omega)⟩
theorem getLastD_app (a b : List Int) (x : Int) : (a ++ b).getLastD x = b.getLastD (a.getLastD x) := by
  rw [List.getLastD_eq_getLast?, List.getLastD_eq_getLast?, List.getLastD_eq_getLast?, List.getLast?_append]
  cases b.getLast? <;> rfl
/-- one block more -/
theorem blksV_snoc (k : IntKind) (b : DBlk) : ∀ (bs : List DBlk) (last : Int), blksV k last (bs ++ [b]) = blksV k last bs ++ walkV k b.1 ((blksV k last bs).getLastD last) (blkN b)
  | [], last => by simp [blksV]
  | b0 :: bs, last => by
    have ih := blksV_snoc k b bs ((walkV k b0.1 last (blkN b0)).getLastD last)
    show walkV k b0.1 last (blkN b0) ++ blksV k ((walkV k b0.1 last (blkN b0)).getLastD last) (bs ++ [b]) = (walkV k b0.1 last (blkN b0) ++ blksV k ((walkV k b0.1 last (blkN b0)).getLastD last) bs) ++ walkV k b.1 ((walkV k b0.1 last (blkN b0) ++ blksV k ((walkV k b0.1 last (blkN b0)).getLastD last) bs).getLastD last) (blkN b)
    rw [ih, getLastD_app, List.append_assoc]
theorem last_of (f : Int) (ys l : List Int) (i : Nat) (h : f :: ys = l.take (i + 1)) (hi : i < l.length) : ys.getLastD f = rd l (i : Nat) := by
  have h1 : (f :: ys).getLast? = (l.take (i + 1)).getLast? := by rw [h]
  rw [List.getLast?_cons, List.take_succ_eq_append_getElem hi, List.getLast?_append] at h1
  simp at h1
  rw [List.getLastD_eq_getLast?, rd_nat _ _ hi]
  exact h1
end Go.Proofs.Ytigmcdpjlkgocaa.Deo

/-! Lists of differences: how many blocks there are, and what each number is. -/
namespace Go.Proofs.Ytigmcdpjlkgocaa.Dst
open Go.Proofs.Ytigmcdpjlkgocaa.Deo Go.Proofs.Ytigmcdpjlkgocaa.Den Go.Proofs.Ytigmcdpjlkgocaa.Deb Go.Proofs.Ytigmcdpjlkgocaa.Drx Go.Proofs.Ytigmcdpjlkgocaa.Dds Go.Proofs.Ytigmcdpjlkgocaa.Dml Go.Proofs.Ytigmcdpjlkgocaa.Dbw Go.Proofs.Ytigmcdpjlkgocaa.Dbk Go.Proofs.Ytigmcdpjlkgocaa.Dhd Go.Proofs.Ytigmcdpjlkgocaa.Dpu Go.Proofs.Ytigmcdpjlkgocaa.Pak Go.Proofs.Ytigmcdpjlkgocaa.Buf Go.Proofs.Ytigmcdpjlkgocaa.Fit Go.Proofs.Ytigmcdpjlkgocaa.Spl Go.Proofs.Ytigmcdpjlkgocaa.Num Go.Proofs.Ytigmcdpjlkgocaa.Lst Go.Proofs.Ytigmcdpjlkgocaa.Aid Go.RowKit Go.Proofs.YtigmcdpjlkgocaaW.PrintWords Go.Proofs.YtigmcdpjlkgocaaW.PrintLast Go.Proofs.YtigmcdpjlkgocaaW.PrintMore
set_option linter.unusedVariables false
set_option linter.unusedSimpArgs false
theorem prv_cons (last x : Int) (xs : List Int) (j : Nat) : prv last (x :: xs) (j + 1) = prv x xs j := by
  unfold prv
  rw [if_neg (by omega), show j + 1 - 1 = j by omega]
  by_cases c : j = 0
  · subst c; rfl
  · rw [if_neg c]
    obtain ⟨i, rfl⟩ : ∃ i, j = i + 1 := ⟨j - 1, by omega⟩
    simp [rd]
theorem rd_walkV (k : IntKind) (m : Int) : ∀ (ns : List Int) (last : Int) (j : Nat), j < ns.length → rd (walkV k m last ns) (j : Nat) = k.wrap (prv last (walkV k m last ns) j + m + rd ns (j : Nat))
  | [], last, j, h => by simp at h
  | n :: ns, last, 0, h => by simp [walkV, rd, prv]
  | n :: ns, last, j + 1, h => by
    have ih := rd_walkV k m ns (k.wrap (last + m + n)) j (by simpa using h)
    have e1 : rd (walkV k m last (n :: ns)) ((j + 1 : Nat) : Int) = rd (walkV k m (k.wrap (last + m + n)) ns) (j : Nat) := by simp [rd, walkV]
    have e2 : rd (n :: ns) ((j + 1 : Nat) : Int) = rd ns (j : Nat) := by simp [rd]
    rw [e1, e2, ih]
    conv => rhs; rw [show walkV k m last (n :: ns) = k.wrap (last + m + n) :: walkV k m (k.wrap (last + m + n)) ns from rfl, prv_cons]
/-- blocks that hold so many values more -/
def strOk (W P S : Nat) : Nat → List DBlk → Prop
  | R, [] => R = 0
  | R, b :: bs => 0 < R ∧ blkOk W P S b ∧ (∀ i, R ≤ i * S → (b.2.getD i (0, [])).1 = 0) ∧ (-9223372036854775808 ≤ b.1 ∧ b.1 ≤ 9223372036854775807) ∧ strOk W P S (R - P * S) bs
/-- the head of a list of differences: how many numbers a block has, and how many parts, how many numbers there are, and the first one -/
def hdG (B P T : Nat) (first : Int) : List Int := varL B ++ varL P ++ varL T ++ varL (zz first)
theorem hdL_eq (T : Nat) (f : Int) : hdL T f = hdG 128 4 T f := rfl
theorem flat_length (S : Nat) : ∀ ps : List DPart, (∀ p ∈ ps, p.2.length = S) → (ps.flatMap (·.2)).length = ps.length * S
  | [], _ => by simp
  | p :: ps, h => by
    rw [List.flatMap_cons, List.length_append, flat_length S ps (fun q hq => h q (by simp [hq])), h p (by simp), List.length_cons, Nat.succ_mul]; omega
theorem blkN_length {W P S : Nat} {b : DBlk} (h : blkOk W P S b) : (blkN b).length = P * S := by
  unfold blkN
  rw [flat_length S b.2 (fun p hp => (h.2 p hp).2.1), h.1]
theorem flat_rd (S : Nat) : ∀ (ps : List DPart) (i j : Nat), (∀ p ∈ ps, p.2.length = S) → i < ps.length → j < S → rd (ps.flatMap (·.2)) ((i * S + j : Nat) : Int) = rd (ps.getD i (0, [])).2 (j : Nat)
  | [], i, j, _, h, _ => by simp at h
  | p :: ps, 0, j, h, _, hj => by
    have hp := h p (by simp)
    rw [List.flatMap_cons, Nat.zero_mul, Nat.zero_add]
    simp [rd, List.getD_eq_getElem?_getD, List.getElem?_append_left (show j < p.2.length by omega)]
  | p :: ps, i + 1, j, h, hi, hj => by
    have hp := h p (by simp)
    have ih := flat_rd S ps i j (fun q hq => h q (by simp [hq])) (by simpa using hi) hj
    have e : (p :: ps).getD (i + 1) (0, []) = ps.getD i (0, []) := by simp
    rw [e, ← ih, List.flatMap_cons]
    unfold rd
    rw [Int.toNat_natCast, Int.toNat_natCast, List.getD_eq_getElem?_getD, List.getD_eq_getElem?_getD, List.getElem?_append_right (by rw [hp, Nat.succ_mul]; omega), hp, show (i + 1) * S + j - S = i * S + j by rw [Nat.succ_mul]; omega]
theorem blksV_cons (k : IntKind) (last : Int) (b : DBlk) (bs : List DBlk) : blksV k last (b :: bs) = walkV k b.1 last (blkN b) ++ blksV k ((walkV k b.1 last (blkN b)).getLastD last) bs := rfl
theorem strOk_len {W P S : Nat} (k : IntKind) : ∀ (bs : List DBlk) (R : Nat) (last : Int), strOk W P S R bs → R ≤ (blksV k last bs).length
  | [], R, last, h => by
    have : R = 0 := h
    omega
  | b :: bs, R, last, ⟨h0, h1, h2, _, h3⟩ => by
    rw [blksV_cons, List.length_append, walkV_length, blkN_length h1]
    have := strOk_len k bs _ ((walkV k b.1 last (blkN b)).getLastD last) h3
    omega
theorem encPs_str (W : Nat) (M m : Int) (ws : List Nat) (cl : List Int) (R : Nat) (bb : List DBlk) (hM : 0 < M) (hl : cl.length = 128) (hw : ∀ q ∈ ws, q ≤ W) (hwl : ws.length = 4) (hf : ∀ i, i < 4 → fitsAt M cl (32 * i) (32 * i + 32) (ws.getD i 0)) (hR : 0 < R) (hz : ∀ p : Nat, R ≤ p → p < 128 → rd cl (p : Nat) = 0) (hm : -9223372036854775808 ≤ m ∧ m ≤ 9223372036854775807) (h : strOk W 4 32 (R - 128) bb) : strOk W 4 32 R ((m, encPs M ws cl 4) :: bb) := by
  refine ⟨hR, encPs_ok W M m ws cl hM hl hw hwl hf, fun i hi => ?_, hm, h⟩
  by_cases c : i < 4
  · have e : (encPs M ws cl 4).getD i (0, []) = encP M ws cl i := by simp [encPs, List.getD_eq_getElem?_getD, c]
    show ((encPs M ws cl 4).getD i (0, [])).1 = 0
    rw [e]
    refine (hf i c).2 fun p h1 h2 => ?_
    rw [hz p (by omega) (by omega)]; exact Int.zero_emod _
  · have e : (encPs M ws cl 4).getD i (0, []) = (0, []) := by simp [encPs, List.getD_eq_getElem?_getD, c]
    show ((encPs M ws cl 4).getD i (0, [])).1 = 0
    rw [e]
theorem fst_rd (ps : List DPart) (i : Nat) (h : i < ps.length) : rd (natsI (ps.map (·.1))) (i : Nat) = ((ps.getD i (0, [])).1 : Int) := by
  rw [rd_nat _ _ (by simp [natsI]; exact h)]
  simp [natsI, List.getD_eq_getElem?_getD, h]
theorem getD_mem (ps : List DPart) (i : Nat) (h : i < ps.length) : ps.getD i (0, []) ∈ ps := by
  rw [List.getD_eq_getElem?_getD, List.getElem?_eq_getElem h]
  exact List.getElem_mem _
theorem partsB_drop (ps : List DPart) (i : Nat) (h : i < ps.length) : partsB (ps.drop i) = packLo (ps.getD i (0, [])).1 (ps.getD i (0, [])).2 ++ partsB (ps.drop (i + 1)) := by
  rw [List.drop_eq_getElem_cons h]
  have e : ps.getD i (0, []) = ps[i] := by simp [List.getD_eq_getElem?_getD, h]
  rw [e]; rfl
theorem partsB_none : ∀ (ps : List DPart), (∀ p ∈ ps, p.1 = 0) → partsB ps = []
  | [], _ => rfl
  | p :: ps, h => by
    have e : partsB (p :: ps) = packLo p.1 p.2 ++ partsB ps := rfl
    rw [e, partsB_none ps (fun q hq => h q (by simp [hq])), h p (by simp), packLo_zero]; rfl
theorem partsB_rest (ps : List DPart) (i : Nat) (h : ∀ j, i ≤ j → (ps.getD j (0, [])).1 = 0) : partsB (ps.drop i) = [] := by
  refine partsB_none _ fun p hp => ?_
  obtain ⟨j, hj, rfl⟩ := List.getElem_of_mem hp
  rw [List.length_drop] at hj
  have := h (i + j) (by omega)
  rw [List.getD_eq_getElem?_getD, List.getElem?_eq_getElem (by omega)] at this
  rw [List.getElem_drop]; exact this
theorem blksB_cons (b : DBlk) (bs : List DBlk) : blksB (b :: bs) = blkB b ++ blksB bs := rfl
theorem take_rd (l : List Int) (p : Nat) (h : p < l.length) : l.take (p + 1) = l.take p ++ [rd l (p : Nat)] := by
  rw [List.take_succ_eq_append_getElem h, rd_nat _ _ h]
theorem prv_succ (last : Int) (l : List Int) (p : Nat) : prv last l (p + 1) = rd l (p : Nat) := by
  unfold prv; rw [if_neg (by omega), show p + 1 - 1 = p by omega]
theorem prv_full (last : Int) (l : List Int) : prv last l l.length = l.getLastD last := by
  unfold prv
  by_cases h : l = []
  · subst h; rfl
  · have hl : 0 < l.length := by cases l with | nil => exact absurd rfl h | cons _ _ => simp
    rw [if_neg (by omega), rd_nat _ _ (by omega), List.getLastD_eq_getLast?, List.getLast?_eq_getElem?, List.getElem?_eq_getElem (by omega)]
    rfl
theorem bytes_app {a b : List Int} (h : bytesB a = true) (k : bytesB b = true) : bytesB (a ++ b) = true := bytesB_of fun x hx => by
  rcases List.mem_append.1 hx with h1 | h1
  · exact bytesB_mem h x h1
  · exact bytesB_mem k x h1
theorem strOk_nil {W P S : Nat} : ∀ {bs : List DBlk}, strOk W P S 0 bs → bs = []
  | [], _ => rfl
  | b :: bs, h => absurd h.1 (by omega)
/-- behind a block -/
theorem blk_end {W P S R : Nat} {m last : Int} {ps : List DPart} {bb : List DBlk} (k : IntKind) (o V : List Int) (i q : Nat) (h : strOk W P S R ((m, ps) :: bb)) (hV : o ++ (blksV k last ((m, ps) :: bb)).take R = V) (hi : i ≤ P) (hq : q = min (i * S) R) (he : i = P ∨ q = R) :
    partsB (ps.drop i) = [] ∧ strOk W P S (R - P * S) bb ∧ q + (R - P * S) = R ∧ q ≤ P * S ∧ (o ++ (walkV k m last (blkN (m, ps))).take q) ++ (blksV k (prv last (walkV k m last (blkN (m, ps))) q) bb).take (R - P * S) = V := by
  obtain ⟨h0, hb, htl, hm, h'⟩ := h
  have hl : (walkV k m last (blkN (m, ps))).length = P * S := by rw [walkV_length, blkN_length hb]
  have hiS : i * S ≤ P * S := Nat.mul_le_mul_right S hi
  have hqe : q = min (P * S) R := by
    rcases he with e | e
    · subst e; exact hq
    · omega
  refine ⟨?_, h', by omega, by omega, ?_⟩
  · rcases he with e | e
    · have : ps.drop i = [] := List.drop_eq_nil_of_le (by have := hb.1; simp only at this; omega)
      rw [this]; rfl
    · refine partsB_rest _ _ fun j hj => htl j ?_
      have := Nat.mul_le_mul_right S hj
      omega
  · rw [← hV, blksV_cons, List.append_assoc]
    congr 1
    rw [List.take_append, hl]
    show _ = (walkV k m last (blkN (m, ps))).take R ++ _
    by_cases c : R ≤ P * S
    · rw [show R - P * S = 0 by omega, List.take_zero, List.take_zero, show q = R by omega]
    · have e1 : q = (walkV k m last (blkN (m, ps))).length := by omega
      have e2 : (walkV k m last (blkN (m, ps))).take (walkV k m last (blkN (m, ps))).length = walkV k m last (blkN (m, ps)) := List.take_length
      have e3 : (walkV k m last (blkN (m, ps))).take R = walkV k m last (blkN (m, ps)) := List.take_of_length_le (by omega)
      rw [e1, prv_full, e2, e3]
end Go.Proofs.Ytigmcdpjlkgocaa.Dst

/-! The encoder of differences: what a round of it has written. -/
namespace Go.Proofs.Ytigmcdpjlkgocaa.Dsr
open Go.Proofs.Ytigmcdpjlkgocaa.Dst Go.Proofs.Ytigmcdpjlkgocaa.Deo Go.Proofs.Ytigmcdpjlkgocaa.Den Go.Proofs.Ytigmcdpjlkgocaa.Deb Go.Proofs.Ytigmcdpjlkgocaa.Drx Go.Proofs.Ytigmcdpjlkgocaa.Dds Go.Proofs.Ytigmcdpjlkgocaa.Dml Go.Proofs.Ytigmcdpjlkgocaa.Dbw Go.Proofs.Ytigmcdpjlkgocaa.Dbk Go.Proofs.Ytigmcdpjlkgocaa.Dhd Go.Proofs.Ytigmcdpjlkgocaa.Dpu Go.Proofs.Ytigmcdpjlkgocaa.Pak Go.Proofs.Ytigmcdpjlkgocaa.Buf Go.Proofs.Ytigmcdpjlkgocaa.Fit Go.Proofs.Ytigmcdpjlkgocaa.Spl Go.Proofs.Ytigmcdpjlkgocaa.Num Go.Proofs.Ytigmcdpjlkgocaa.Lst Go.Proofs.Ytigmcdpjlkgocaa.Aid Go.RowKit Go.Proofs.YtigmcdpjlkgocaaW.PrintWords Go.Proofs.YtigmcdpjlkgocaaW.PrintLast Go.Proofs.YtigmcdpjlkgocaaW.PrintMore
set_option linter.unusedVariables false
set_option linter.unusedSimpArgs false
theorem unsI_take (M : Int) (l : List Int) (m : Nat) : (unsI M l).take m = unsI M (l.take m) := by simp [unsI, List.map_take]
theorem take_pad (a : List Int) (m n : Nat) (h : a.length = m) : (a ++ List.replicate n 0).take m = a := by
  subst h; exact List.take_left
theorem enc_round (k : IntKind) (W : Nat) (M : Int) (hM : 0 < M) (f last mn : Int) (l : List Int) (N i m : Nat) (bs : List DBlk) (ws : List Nat) (Bk Sb cl : List Int)
    (hl : l.length = N) (hi1 : 1 ≤ i) (hiN : i < N) (hm : Nat.min (N - i) 128 = m) (hBk : Bk = (l.drop i).take m ++ List.replicate (128 - m) 0)
    (hSl : Sb.length = 128) (hvals : walkV k mn last (unsI M Sb) = Bk) (hcl : cl = Sb.take m ++ List.replicate (128 - m) 0)
    (hwl : ws.length = 4) (hw : ∀ q ∈ ws, q ≤ W) (hf : ∀ j, j < 4 → fitsAt M cl (32 * j) (32 * j + 32) (ws.getD j 0)) (hmn : -9223372036854775808 ≤ mn ∧ mn ≤ 9223372036854775807)
    (HOK : ∀ bb, strOk W 4 32 (N - i) bb → strOk W 4 32 (N - 1) (bs ++ bb)) (HV2 : f :: blksV k f bs = l.take i) (hlast : last = rd l (i - 1 : Nat)) :
    (∀ bb, strOk W 4 32 (N - (i + 128)) bb → strOk W 4 32 (N - 1) (bs ++ [(mn, encPs M ws cl 4)] ++ bb)) ∧ (f :: blksV k f (bs ++ [(mn, encPs M ws cl 4)])).take N = l.take (i + 128) ∧ (i + 128 ≤ N → f :: blksV k f (bs ++ [(mn, encPs M ws cl 4)]) = l.take (i + 128)) ∧ (i + 128 ≤ N → rd Bk (127 : Nat) = rd l (i + 128 - 1 : Nat)) := by
  have hm1 : m ≤ N - i := by rw [← hm]; exact Nat.min_le_left _ _
  have hm2 : m ≤ 128 := by rw [← hm]; exact Nat.min_le_right _ _
  have hm3 : m = N - i ∨ m = 128 := by
    rcases Nat.le_total (N - i) 128 with h | h
    · left; rw [← hm]; exact Nat.min_eq_left h
    · right; rw [← hm]; exact Nat.min_eq_right h
  have hch : ((l.drop i).take m).length = m := by rw [List.length_take, List.length_drop, hl]; omega
  have hsm : (Sb.take m).length = m := by rw [List.length_take, hSl]; omega
  have hcll : cl.length = 128 := by rw [hcl, List.length_append, hsm, List.length_replicate]; omega
  obtain ⟨b, hb⟩ : ∃ b, (mn, encPs M ws cl 4) = b := ⟨_, rfl⟩
  have hbN : blkN b = unsI M cl := by rw [← hb]; exact encPs_N M mn ws cl hcll
  have hb1 : b.1 = mn := by rw [← hb]
  have hVl : (walkV k mn last (unsI M cl)).length = 128 := by rw [walkV_length, unsI_length, hcll]
  have hVm : (walkV k mn last (unsI M cl)).take m = (l.drop i).take m := by
    rw [← walkV_take, unsI_take, hcl, take_pad _ _ _ hsm, ← unsI_take, walkV_take, hvals, hBk, take_pad _ _ _ hch]
  have hgl : (blksV k f bs).getLastD f = last := by
    rw [hlast]
    refine last_of f _ l (i - 1) ?_ (by omega)
    rw [HV2, show i - 1 + 1 = i by omega]
  have hall : f :: blksV k f (bs ++ [b]) = l.take i ++ walkV k mn last (unsI M cl) := by
    rw [blksV_snoc, hgl, hbN, hb1, ← HV2]; rfl
  rw [hb]
  refine ⟨fun bb h => ?_, ?_, fun h => ?_, fun h => ?_⟩
  · rw [List.append_assoc]
    refine HOK _ ?_
    rw [← hb]
    refine encPs_str W M mn ws cl (N - i) bb hM hcll hw hwl hf (by omega) (fun p h1 h2 => ?_) hmn (by rw [show N - i - 128 = N - (i + 128) by omega]; exact h)
    rw [hcl, rd_append, if_neg (by rw [hsm]; omega), hsm, rd_nat _ _ (by rw [List.length_replicate]; omega)]
    simp
  · rw [hall, List.take_append, List.length_take, hl, Nat.min_eq_left (by omega), List.take_of_length_le (by rw [List.length_take]; omega)]
    rcases hm3 with e | e
    · rw [← e, hVm, e]
      have e1 : (l.drop i).take (N - i) = l.drop i := List.take_of_length_le (by rw [List.length_drop, hl]; omega)
      rw [e1, List.take_append_drop, List.take_of_length_le (by omega)]
    · have e1 : (walkV k mn last (unsI M cl)).take (N - i) = walkV k mn last (unsI M cl) := List.take_of_length_le (by omega)
      have e2 : (walkV k mn last (unsI M cl)).take m = walkV k mn last (unsI M cl) := List.take_of_length_le (by omega)
      rw [e1, ← e2, hVm, e, List.take_add]
  · have e : m = 128 := by omega
    have e2 : (walkV k mn last (unsI M cl)).take m = walkV k mn last (unsI M cl) := List.take_of_length_le (by omega)
    rw [hall, ← e2, hVm, e, List.take_add]
  · have e : m = 128 := by omega
    rw [hBk, rd_append, if_pos (by rw [hch]; omega)]
    have e3 := rd_drop l i 127
    rw [show i + 128 - 1 = i + 127 by omega, ← e3]
    unfold rd
    rw [Int.toNat_natCast, List.getD_eq_getElem?_getD, List.getD_eq_getElem?_getD, List.getElem?_take, if_pos (by omega)]
theorem partsB_len : ∀ (ps : List DPart) (W : Nat), (∀ p ∈ ps, p.1 ≤ W ∧ p.2.length = 32) → (partsB ps).length ≤ ps.length * (4 * W)
  | [], _, _ => by simp [partsB]
  | p :: ps, W, h => by
    have e : partsB (p :: ps) = packLo p.1 p.2 ++ partsB ps := rfl
    obtain ⟨h1, h2⟩ := h p (by simp)
    have h3 : (packLo p.1 p.2).length ≤ 4 * W := by unfold packLo; rw [bytesLo_length, h2]; omega
    have ih := partsB_len ps W (fun q hq => h q (by simp [hq]))
    rw [e, List.length_append, List.length_cons, Nat.succ_mul]; omega
theorem blk_len (W : Nat) (hW : W ≤ 64) (M m : Int) (ws : List Nat) (cl : List Int) (hl : cl.length = 128) (hw : ∀ q ∈ ws, q ≤ W) (hwl : ws.length = 4) (hm : -9223372036854775808 ≤ m ∧ m ≤ 9223372036854775807) : (blkB (m, encPs M ws cl 4)).length ≤ 1038 := by
  have h1 := varL_len10 (zz m) (zz_lt m hm.1 hm.2)
  have h2 : (partsB (encPs M ws cl 4)).length ≤ (encPs M ws cl 4).length * (4 * 64) := partsB_len _ 64 fun p hp => by
    simp only [encPs, List.mem_map, List.mem_range] at hp
    obtain ⟨i, hi, rfl⟩ := hp
    refine ⟨?_, encP_len M ws cl i hl hi⟩
    have : ws.getD i 0 ≤ W := hw _ (by rw [List.getD_eq_getElem?_getD, List.getElem?_eq_getElem (by omega)]; exact List.getElem_mem _)
    show ws.getD i 0 ≤ 64
    omega
  have h3 : (encPs M ws cl 4).length = 4 := by simp [encPs]
  rw [h3] at h2
  unfold blkB
  rw [List.length_append, List.length_append, natsI_length, List.length_map, h3]
  show (varL (zz m)).length + 4 + (partsB (encPs M ws cl 4)).length ≤ 1038
  omega
end Go.Proofs.Ytigmcdpjlkgocaa.Dsr
