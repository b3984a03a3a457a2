import Derived.Test.YtigmcdpjlkgocaaStr
import Derived.Test.YtigmcdpjlkgocaaFlt
/-! Walks of the package of streams: numbers of 32 bits. -/
namespace Go.Proofs.Ytigmcdpjlkgocaa.Spl
open Go.Proofs.Ytigmcdpjlkgocaa.Str Go.Proofs.Ytigmcdpjlkgocaa.Flt Go.Proofs.Ytigmcdpjlkgocaa.Owe Go.Proofs.Ytigmcdpjlkgocaa.Num Go.Proofs.Ytigmcdpjlkgocaa.Le Go.Proofs.Ytigmcdpjlkgocaa.Lst Go.Proofs.Ytigmcdpjlkgocaa.Aid Go.RowKit Go.Proofs.YtigmcdpjlkgocaaW.PrintWords Go.Proofs.YtigmcdpjlkgocaaW.PrintLast Go.Proofs.YtigmcdpjlkgocaaW.PrintMore
set_option linter.unusedVariables false
set_option linter.unusedSimpArgs false
def u32B (x : Int) : Prop := 0 ≤ x ∧ x < 4294967296
def u32L (hs : List Int) : Prop := ∀ x ∈ hs, u32B x
theorem u32_of_wf {x : Int} (h : (Lit.int .u32 x).wf = true) : u32B x := by
  have := wf_bd h
  have e1 : IntKind.u32.min = 0 := by decide +kernel
  have e2 : IntKind.u32.max = 4294967295 := by decide +kernel
  unfold u32B; omega
theorem at_f32 {w : World} {A : Option Addr} {n : Nat} {xs : List Int} (h : (Kd.scalar f32 f32_one).C w A n xs) (i : Int) (h0 : 0 ≤ i) (h1 : i < n) : ∃ ad, A = some ad ∧ w.cell? (ad.add i.toNat) = some (f32 (rd xs i)) :=
  ReadsOf.at_ (Kd.reads_of_C (enc := f32) (d := (0 : Int)) (h1 := f32_one) h) i h0 h1
/-! ### more cuts, makes -/
theorem cutAtMid {P : Program} (t e : TypeId) {i : TypeInfo} (ht : P.underlying t = some (.slice e)) (hi : P.info? e = some i) (hsz : i.size = 1) (g n c : Nat) (kl kh : IntKind) (lo hi' : Int) (l h : Nat) (hlo : lo = l) (hhi : hi' = h) (h0 : l ≤ h) (h1 : h ≤ n) (hc : n ≤ c) (hl : l < c) :
    ∀ W : World, (Instr.slice t (.slice (some ⟨g, 0, none⟩) n c) (some (.int kl lo)) (some (.int kh hi')) none).run P W = .ok (.slice (some ⟨g, l, none⟩) (h - l) (c - l)) W := by
  intro W
  subst hlo hhi
  have := cut_mid t e kl kh ht hi 1 hsz (some ⟨g, 0, none⟩) n c l h (by omega) (by omega) (by omega) hc W
  have hne : ¬ c = l := by omega
  by_cases h0 : l = 0
  · subst h0; simpa [hne, Addr.add] using this
  · simpa [hne, Addr.add, h0] using this
theorem make1 {P : Program} (t e : TypeId) (z : Value) (bytes : Nat) (ht : P.underlying t = some (.slice e)) (hinfo : (P.info? e).map (fun i => (i.zero, i.size, i.bytes)) = some (some z, 1, bytes)) (hz : z.cells = #[z])
    (m c : Nat) (hmc : m ≤ c) (hn : c * bytes ≤ 281474976710656) (hm : c ≤ 281474976710656) :
    ∀ W : World, (Instr.makeSlice t (.int .i64 (m : Int)) (.int .i64 (c : Int))).run P W = .ok (.slice (some ⟨W.heap.size, 0, none⟩) m c) (W.alloc (.cells (madeCells #[z] c) e)) := by
  intro W
  obtain ⟨i, hi, hzz⟩ := Option.map_eq_some_iff.1 hinfo
  simp only [Prod.mk.injEq] at hzz
  obtain ⟨h1, h2, h3⟩ := hzz
  have h4 : (i.bytes : Int) * (c : Int) ≤ 281474976710656 := by
    rw [h3]
    have : ((c * bytes : Nat) : Int) ≤ 281474976710656 := by omega
    rwa [Int.natCast_mul, Int.mul_comm] at this
  have hr := run_make (P := P) W t e i z ht hi h1 .i64 .i64 m c (by omega) (by omega) h4 (by omega)
  simp only [Int.toNat_natCast, h2, hz, Nat.mul_one] at hr
  exact hr
theorem infoU32 : (Try.prog.info? 60).map (fun i => (i.zero, i.size, i.bytes)) = some (some (.int .u32 0), 1, 4) := by kernel_rfl
/-- word j of bytes -/
def wd4 (bs : List Int) (j : Nat) : Int := le4L (bs.drop (4 * j))
theorem wd4_bd {bs : List Int} (hb : bytesB bs = true) {j : Nat} (hj : 4 * j + 4 ≤ bs.length) : 0 ≤ wd4 bs j ∧ wd4 bs j < 4294967296 := le4L_bd (bytesB_drop hb _) (by rw [List.length_drop]; omega)
theorem wd4_rd (bs : List Int) (j : Nat) : wd4 bs j = le4 (rd bs (4 * j : Nat)) (rd bs (4 * j + 1 : Nat)) (rd bs (4 * j + 2 : Nat)) (rd bs (4 * j + 3 : Nat)) := by
  unfold wd4 le4L
  have h0 := rd_drop bs (4 * j) 0
  have h1 := rd_drop bs (4 * j) 1
  have h2 := rd_drop bs (4 * j) 2
  have h3 := rd_drop bs (4 * j) 3
  rw [Nat.add_zero] at h0
  rw [← h0, ← h1, ← h2, ← h3]; rfl
theorem wd4_p4 (l : List Int) (n j : Nat) (hu : u32L l) (hn : l.length = n) (hj : j < n) : wd4 (p4 l n n) j = rd l (j : Nat) := by
  have hb : u32B (rd l (j : Nat)) := hu _ (rd_mem (by omega))
  rw [wd4_rd, rd_p4 _ _ _ _ (Nat.le_refl _), rd_p4 _ _ _ _ (Nat.le_refl _), rd_p4 _ _ _ _ (Nat.le_refl _), rd_p4 _ _ _ _ (Nat.le_refl _),
    if_pos (by omega), if_pos (by omega), if_pos (by omega), if_pos (by omega),
    show 4 * j / 4 = j by omega, show (4 * j + 1) / 4 = j by omega, show (4 * j + 2) / 4 = j by omega, show (4 * j + 3) / 4 = j by omega,
    show 4 * j % 4 = 0 by omega, show (4 * j + 1) % 4 = 1 by omega, show (4 * j + 2) % 4 = 2 by omega, show (4 * j + 3) % 4 = 3 by omega]
  have := le4_bytes _ hb.1 hb.2
  simpa using this
theorem p4_bytes (l : List Int) (n k : Nat) (hk : k ≤ n) : bytesB (p4 l n k) = true := by
  apply bytesB_of
  intro x hx
  obtain ⟨i, hi, rfl⟩ := List.getElem_of_mem hx
  rw [← rd_nat _ _ hi, rd_p4 _ _ _ _ hk]
  split
  · exact ⟨Int.emod_nonneg _ (by decide), Int.emod_lt_of_pos _ (by decide)⟩
  · exact ⟨by omega, by omega⟩
set_option maxHeartbeats 4000000 in
theorem words32_calls (A : Option Addr) (N c n : Nat) (bs : List Int) (w : World) (hC : (Kd.int .u8).C w A N bs) (hc : N ≤ c) (hN : N = 4 * n) (hn : n ≤ 100000) (hb : bytesB bs = true) :
    Calls Try.prog 97 #[.slice A N c] w fun e w' => e = .returned (.slice (some ⟨w.heap.size, 0, none⟩) n n) ∧ Row w' w.heap.size 60 .u32 (partI (wd4 bs) n n) ∧ Below w.heap.size w w' := by
  have HLN : Aside0 (bs.length = N) := ⟨hC.1⟩
  have HC := Aside0.mk hC
  have HBY := Aside0.mk hb
  have h1N : N ≤ 4 * n := by omega
  have h2N : 4 * n ≤ N := by omega
  have hq : (N : Int) / 4 = (n : Int) := by omega
  obtain ⟨i8, h8⟩ := h8
  have hmk := print_make (P := Try.prog) 61 60 .u32 4 Try.underlying61 infoU32 (by decide) n (by omega)
  clear hC hb hN
  go_enter Try.func97, Try.ntmps97
  go_wp2_with (fail)
  have HM : Aside0 (Row (w.alloc (.cells (madeCells #[.int .u32 0] n) 60)) w.heap.size 60 .u32 (partI (wd4 bs) n 0)) := ⟨by rw [partI_zero]; exact madeRow w 60 .u32 n⟩
  have HB : Aside0 (Below w.heap.size w (w.alloc (.cells (madeCells #[.int .u32 0] n) 60))) := ⟨(Below.refl _ _).alloc (Nat.le_refl _) _⟩
  generalize w.alloc (.cells (madeCells #[.int .u32 0] n) 60) = wm at *
  clear hmk
  go_loopg [4, 11] n (fun kq v4 v11 w' => ∃ (j : Nat), j ≤ n ∧ v11 = .int .i64 j ∧ Aside0 (Row w' w.heap.size 60 .u32 (partI (wd4 bs) n j)) ∧ Aside0 (Below w.heap.size w w') ∧ Aside0 (n - j ≤ kq))
  case atStart => exact ⟨0, by omega, rfl, HM, HB, ⟨by omega⟩⟩
  case round =>
    clear HM HB
    obtain ⟨j, hj, rfl, HR, HB, HK⟩ := hrel
    by_cases cj : j < n
    · have cjb : decide ((j : Int) < n) = true := decide_eq_true (by omega)
      have cjn : decide (j < n) = true := decide_eq_true (by omega)
      obtain ⟨A1, cut1, hC1⟩ := cutLo (P := Try.prog) 23 5 Try.underlying23 h8.1 h8.2 A N c .i64 (4 * (j : Int)) (4 * j) (by omega) (by omega) hc
      have HCALL := Aside0.mk (pqsplit_leUint32.calls' A1 (N - 4 * j) (c - 4 * j) (bs.drop (4 * j)) wr (hC1 _ _ _ rfl (Kd.C_below HC.out HB.out)) (by omega) (by omega) (bytesB_drop HBY.out _))
      have HW := Aside0.mk (wd4_bd HBY.out (j := j) (by rw [HLN.out]; omega))
      have rc := HR.out.cell (j := j) (by rw [partI_length]; exact cj)
      have rf := HR.out.free j
      rw [rd_partI _ _ _ _ cj, if_neg (by omega)] at rc
      clear hC1 hj
      go_wp2_with (first
        | (go_at_call 108; (with_reducible refine HCALL.out.mono ?_); rintro e w2 ⟨rfl, ⟨nq, rfl⟩⟩))
      go_roundg (gk - 1)
      case measure => have := HK.out; omega
      case rel =>
        refine ⟨j + 1, by omega, by go_num, ⟨?_⟩, ⟨Below.setCell (p := ⟨w.heap.size, j, none⟩) (HB.out.trans ((drewN_below wr nq).mono HB.out.size)) (Nat.le_refl _) _⟩, ⟨by have := HK.out; omega⟩⟩
        have := (HR.out.drewN nq).set j (wd4 bs j)
        rw [partI_set] at this
        exact this
    · obtain rfl : j = n := by omega
      have cjb : decide ((j : Int) < j) = false := decide_eq_false (by omega)
      go_wp2_with (fail)
      go_ret
      exact ⟨rfl, HR.out, HB.out⟩
set_option maxHeartbeats 4000000 in
theorem encodeFloat_calls (g M : Nat) (A : Option Addr) (N c n : Nat) (bs : List Int) (w : World) (hR : Row w g 5 .u8 (List.replicate (8 * n) 0)) (hM : M = 8 * n) (hC : (Kd.int .u8).C w A N bs) (hc : N ≤ c) (hN : N = 4 * n) (hn0 : 0 < n) (hn : n ≤ 100000) (hb : bytesB bs = true) :
    Calls Try.prog 73 #[.slice (some ⟨g, 0, none⟩) N M, .slice A N c] w fun e w' => e = .returned (.tuple #[]) ∧ w.grownBy w' (some g) ∧ Row w' g 5 .u8 (strP (fun j s => wd4 bs j / 256 ^ s % 256) n (8 * n) 4 n) := by
  have HLN : Aside0 (bs.length = N) := ⟨hC.1⟩
  have HG : Aside0 (g < w.heap.size) := ⟨hR.lt⟩
  have HGN : Aside0 (g ≠ w.heap.size) := ⟨by have := HG.out; omega⟩
  have HCALL := Aside0.mk (words32_calls A N c n bs w hC hc hN hn hb)
  have HR := Aside0.mk hR
  have HBY := Aside0.mk hb
  have h1N : N ≤ 4 * n := by omega
  have h2N : 4 * n ≤ N := by omega
  have h1M : M ≤ 8 * n := by omega
  have h2M : 8 * n ≤ M := by omega
  have hq : (N : Int) / 4 = (n : Int) := by omega
  obtain ⟨i8, h8⟩ := h8
  have cut0 := cutAtMid (P := Try.prog) 23 5 Try.underlying23 h8.1 h8.2 g N M .i64 .i64 0 (n : Int) 0 n rfl rfl (by omega) (by omega) (by omega) (by omega)
  have cut1 := cutAtMid (P := Try.prog) 23 5 Try.underlying23 h8.1 h8.2 g N M .i64 .i64 (n : Int) (2 * (n : Int)) n (2 * n) rfl (by omega) (by omega) (by omega) (by omega) (by omega)
  have cut2 := cutAtMid (P := Try.prog) 23 5 Try.underlying23 h8.1 h8.2 g N M .i64 .i64 (2 * (n : Int)) (3 * (n : Int)) (2 * n) (3 * n) (by omega) (by omega) (by omega) (by omega) (by omega) (by omega)
  have cut3 := cutAtMid (P := Try.prog) 23 5 Try.underlying23 h8.1 h8.2 g N M .i64 .i64 (3 * (n : Int)) (4 * (n : Int)) (3 * n) (4 * n) (by omega) (by omega) (by omega) (by omega) (by omega) (by omega)
  rw [Nat.sub_zero, Nat.sub_zero] at cut0
  rw [show 2 * n - n = n by omega] at cut1
  rw [show 3 * n - 2 * n = n by omega] at cut2
  rw [show 4 * n - 3 * n = n by omega] at cut3
  clear hC hb hN hR hM
  go_enter Try.func73, Try.ntmps73
  go_wp2_with (first
    | (go_at_call 97; (with_reducible refine HCALL.out.mono ?_); rintro e w1 ⟨rfl, hw, hb⟩; have HW1 := Aside0.mk hw; have HB1 := Aside0.mk hb; clear hw hb))
  have HR1 : Aside0 (Row w1 g 5 .u8 (strP (fun j s => wd4 bs j / 256 ^ s % 256) n (8 * n) 4 0)) := ⟨by rw [strP_zero]; exact HR.out.below HB1.out HG.out⟩
  have HGR : Aside0 (w.grownBy w1 (some g)) := ⟨grown_of_below HB1.out _⟩
  clear HR HB1 cut0 cut1 cut2 cut3 hq HCALL
  go_loopg [9, 10, 41] n (fun kq v9 v10 v41 w' => ∃ (j : Nat), j ≤ n ∧ v41 = .int .i64 j ∧ Aside0 (Row w' g 5 .u8 (strP (fun j s => wd4 bs j / 256 ^ s % 256) n (8 * n) 4 j)) ∧ Aside0 (Row w' w.heap.size 60 .u32 (partI (wd4 bs) n n)) ∧ Aside0 (w.grownBy w' (some g)) ∧ Aside0 (n - j ≤ kq))
  case atStart => exact ⟨0, by omega, rfl, HR1, HW1, HGR, ⟨by omega⟩⟩
  case round =>
    clear HR1 HW1 HGR
    obtain ⟨j, hj, rfl, HR, HW, HGR, HK⟩ := hrel
    by_cases cj : j < n
    · have cjb : decide ((j : Int) < n) = true := decide_eq_true (by omega)
      have cjn : decide (j < n) = true := decide_eq_true (by omega)
      have wc := HW.out.cell (j := j) (by rw [partI_length]; exact cj)
      rw [rd_partI _ _ _ _ cj, if_pos cj] at wc
      obtain ⟨hy0, hy1⟩ := wd4_bd HBY.out (j := j) (by rw [HLN.out]; omega)
      obtain ⟨y, hy⟩ : ∃ y, wd4 bs j = y := ⟨_, rfl⟩
      rw [hy] at wc hy0 hy1
      have HY := Aside0.mk hy
      have rc0 := HR.out.cell (j := j) (by rw [strP_length]; omega)
      have rc1 := HR.out.cell (j := n + j) (by rw [strP_length]; omega)
      have rc2 := HR.out.cell (j := 2 * n + j) (by rw [strP_length]; omega)
      have rc3 := HR.out.cell (j := 3 * n + j) (by rw [strP_length]; omega)
      have rf0 := HR.out.free j
      have rf1 := HR.out.free (n + j)
      have rf2 := HR.out.free (2 * n + j)
      have rf3 := HR.out.free (3 * n + j)
      clear hy hj
      go_wp2_with (fail)
      go_roundg (gk - 1)
      case measure => have := HK.out; omega
      case rel =>
        refine ⟨j + 1, by omega, by go_num, ⟨?_⟩, ⟨?_⟩, ⟨?_⟩, ⟨by have := HK.out; omega⟩⟩
        · have h := (((HR.out.set j (y % 256)).set (n + j) (y / 256 % 256)).set (2 * n + j) (y / 65536 % 256)).set (3 * n + j) (y / 16777216 % 256)
          rw [← strP_set _ _ _ _ _ cj (by omega)]
          have e : setsK (fun s => wd4 bs j / 256 ^ s % 256) n j (strP (fun j s => wd4 bs j / 256 ^ s % 256) n (8 * n) 4 j) 4 = ((((strP (fun j s => wd4 bs j / 256 ^ s % 256) n (8 * n) 4 j).set j (y % 256)).set (n + j) (y / 256 % 256)).set (2 * n + j) (y / 65536 % 256)).set (3 * n + j) (y / 16777216 % 256) := by
            simp [setsK, HY.out]
          rw [e]
          have e3 : y / 16777216 % 256 = y / 16777216 := by omega
          rw [e3] at h ⊢
          exact h
        · have hne := HGN.out
          exact (((HW.out.far (p := ⟨g, j, none⟩) (Ne.symm hne) _).far (p := ⟨g, n + j, none⟩) (Ne.symm hne) _).far (p := ⟨g, 2 * n + j, none⟩) (Ne.symm hne) _).far (p := ⟨g, 3 * n + j, none⟩) (Ne.symm hne) _
        · exact grownSet (grownSet (grownSet (grownSet HGR.out _ _) _ _) _ _) _ _
    · obtain rfl : j = n := by omega
      have cjb : decide ((j : Int) < j) = false := decide_eq_false (by omega)
      go_wp2_with (fail)
      go_end0
      exact ⟨rfl, HGR.out, HR.out⟩
end Go.Proofs.Ytigmcdpjlkgocaa.Spl
