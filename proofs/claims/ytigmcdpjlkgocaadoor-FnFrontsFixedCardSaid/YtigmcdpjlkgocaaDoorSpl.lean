import Derived.Test.YtigmcdpjlkgocaaDoorStr
import Derived.Test.YtigmcdpjlkgocaaDoorFlt
/-! Walks of the package of streams: numbers of 32 bits. -/
namespace Go.Proofs.YtigmcdpjlkgocaaDoor.Spl
open Go.Proofs.YtigmcdpjlkgocaaDoor.Str Go.Proofs.YtigmcdpjlkgocaaDoor.Flt Go.Proofs.YtigmcdpjlkgocaaDoor.Owe Go.Proofs.YtigmcdpjlkgocaaDoor.Num Go.Proofs.YtigmcdpjlkgocaaDoor.Le Go.Proofs.YtigmcdpjlkgocaaDoor.Lst Go.Proofs.YtigmcdpjlkgocaaDoor.Aid Go.RowKit Go.Proofs.YtigmcdpjlkgocaaDoorW.PrintWords Go.Proofs.YtigmcdpjlkgocaaDoorW.PrintLast Go.Proofs.YtigmcdpjlkgocaaDoorW.PrintMore
set_option linter.unusedVariables false
set_option linter.unusedSimpArgs false
def u32B (x : Int) : Prop := 0 ≤ x ∧ x < 4294967296
def u32L (hs : List Int) : Prop := ∀ x ∈ hs, u32B x
theorem u32_of_wf {x : Int} (h : (Lit.int .u32 x).wf = true) : u32B x := by
  have := wf_bd h
  have e1 : IntKind.u32.min = 0 := by decide +kernel
  have e2 : IntKind.u32.max = 4294967295 := by decide +kernel
  unfold u32B; omega
theorem at_f32 {w : World} {A : Option Addr} {n : Nat} {xs : List Int} (h : (Kd.scalar f32 f32_one).C w A n xs) (i : Int) (h0 : 0 ≤ i) (h1 : i < n) : ∃ ad, A = some ad ∧ w.cell? (ad.add i.toNat) = some (f32 (rd xs i)) :=
  ReadsOf.at_ (Kd.reads_of_C (enc := f32) (d := (0 : Int)) (h1 := f32_one) h) i h0 h1
/-! ### more cuts, makes -/
theorem cutAtMid {P : Program} (t e : TypeId) {i : TypeInfo} (ht : P.underlying t = some (.slice e)) (hi : P.info? e = some i) (hsz : i.size = 1) (g n c : Nat) (kl kh : IntKind) (lo hi' : Int) (l h : Nat) (hlo : lo = l) (hhi : hi' = h) (h0 : l ≤ h) (h1 : h ≤ n) (hc : n ≤ c) (hl : l < c) :
    ∀ W : World, (Instr.slice t (.slice (some ⟨g, 0, none⟩) n c) (some (.int kl lo)) (some (.int kh hi')) none).run P W = .ok (.slice (some ⟨g, l, none⟩) (h - l) (c - l)) W := by
  intro W
  subst hlo hhi
  have := cut_mid t e kl kh ht hi 1 hsz (some ⟨g, 0, none⟩) n c l h (by omega) (by omega) (by omega) hc W
  have hne : ¬ c = l := by omega
  by_cases h0 : l = 0
  · subst h0; simpa [hne, Addr.add] using this
  · simpa [hne, Addr.add, h0] using this
theorem make1 {P : Program} (t e : TypeId) (z : Value) (bytes : Nat) (ht : P.underlying t = some (.slice e)) (hinfo : (P.info? e).map (fun i => (i.zero, i.size, i.bytes)) = some (some z, 1, bytes)) (hz : z.cells = #[z])
    (m c : Nat) (hmc : m ≤ c) (hn : c * bytes ≤ 281474976710656) (hm : c ≤ 281474976710656) :
    ∀ W : World, (Instr.makeSlice t (.int .i64 (m : Int)) (.int .i64 (c : Int))).run P W = .ok (.slice (some ⟨W.heap.size, 0, none⟩) m c) (W.alloc (.cells (madeCells #[z] c) e)) := by
  intro W
  obtain ⟨i, hi, hzz⟩ := Option.map_eq_some_iff.1 hinfo
  simp only [Prod.mk.injEq] at hzz
  obtain ⟨h1, h2, h3⟩ := hzz
  have h4 : (i.bytes : Int) * (c : Int) ≤ 281474976710656 := by
    rw [h3]
    have : ((c * bytes : Nat) : Int) ≤ 281474976710656 := by omega
    rwa [Int.natCast_mul, Int.mul_comm] at this
  have hr := run_make (P := P) W t e i z ht hi h1 .i64 .i64 m c (by omega) (by omega) h4 (by omega)
  simp only [Int.toNat_natCast, h2, hz, Nat.mul_one] at hr
  exact hr
theorem infoU32 : (Tryd.prog.info? 84).map (fun i => (i.zero, i.size, i.bytes)) = some (some (.int .u32 0), 1, 4) := by kernel_rfl
/-- word j of bytes -/
def wd4 (bs : List Int) (j : Nat) : Int := le4L (bs.drop (4 * j))
theorem wd4_bd {bs : List Int} (hb : bytesB bs = true) {j : Nat} (hj : 4 * j + 4 ≤ bs.length) : 0 ≤ wd4 bs j ∧ wd4 bs j < 4294967296 := le4L_bd (bytesB_drop hb _) (by rw [List.length_drop]; omega)
theorem wd4_rd (bs : List Int) (j : Nat) : wd4 bs j = le4 (rd bs (4 * j : Nat)) (rd bs (4 * j + 1 : Nat)) (rd bs (4 * j + 2 : Nat)) (rd bs (4 * j + 3 : Nat)) := by
  unfold wd4 le4L
  have h0 := rd_drop bs (4 * j) 0
  have h1 := rd_drop bs (4 * j) 1
  have h2 := rd_drop bs (4 * j) 2
  have h3 := rd_drop bs (4 * j) 3
  rw [Nat.add_zero] at h0
  rw [← h0, ← h1, ← h2, ← h3]; rfl
theorem wd4_p4 (l : List Int) (n j : Nat) (hu : u32L l) (hn : l.length = n) (hj : j < n) : wd4 (p4 l n n) j = rd l (j : Nat) := by
  have hb : u32B (rd l (j : Nat)) := hu _ (rd_mem (by omega))
  rw [wd4_rd, rd_p4 _ _ _ _ (Nat.le_refl _), rd_p4 _ _ _ _ (Nat.le_refl _), rd_p4 _ _ _ _ (Nat.le_refl _), rd_p4 _ _ _ _ (Nat.le_refl _),
    if_pos (by omega), if_pos (by omega), if_pos (by omega), if_pos (by omega),
    show 4 * j / 4 = j by omega, show (4 * j + 1) / 4 = j by omega, show (4 * j + 2) / 4 = j by omega, show (4 * j + 3) / 4 = j by omega,
    show 4 * j % 4 = 0 by omega, show (4 * j + 1) % 4 = 1 by omega, show (4 * j + 2) % 4 = 2 by omega, show (4 * j + 3) % 4 = 3 by omega]
  have := le4_bytes _ hb.1 hb.2
  simpa using this
theorem p4_bytes (l : List Int) (n k : Nat) (hk : k ≤ n) : bytesB (p4 l n k) = true := by
  apply bytesB_of
  intro x hx
  obtain ⟨i, hi, rfl⟩ := List.getElem_of_mem hx
  rw [← rd_nat _ _ hi, rd_p4 _ _ _ _ hk]
  split
  · exact ⟨Int.emod_nonneg _ (by decide), Int.emod_lt_of_pos _ (by decide)⟩
  · exact ⟨by omega, by omega⟩
end Go.Proofs.YtigmcdpjlkgocaaDoor.Spl
