import Derived.Test.YtigmcdpjlkgocaaDoorDct
import Derived.Test.YtigmcdpjlkgocaaDoorDfm
/-! spec.DeltaHead. -/
namespace Go.Proofs.YtigmcdpjlkgocaaDoor.Dhe
open Go.Proofs.YtigmcdpjlkgocaaDoor.Dfm Go.Proofs.YtigmcdpjlkgocaaDoor.Dct Go.Proofs.YtigmcdpjlkgocaaDoor.Dst Go.Proofs.YtigmcdpjlkgocaaDoor.Deo Go.Proofs.YtigmcdpjlkgocaaDoor.Den Go.Proofs.YtigmcdpjlkgocaaDoor.Deb Go.Proofs.YtigmcdpjlkgocaaDoor.Dds Go.Proofs.YtigmcdpjlkgocaaDoor.Dpu Go.Proofs.YtigmcdpjlkgocaaDoor.Pak Go.Proofs.YtigmcdpjlkgocaaDoor.Buf Go.Proofs.YtigmcdpjlkgocaaDoor.Fit Go.Proofs.YtigmcdpjlkgocaaDoor.Bit Go.Proofs.YtigmcdpjlkgocaaDoor.Wrd Go.Proofs.YtigmcdpjlkgocaaDoor.Spl Go.Proofs.YtigmcdpjlkgocaaDoor.Str Go.Proofs.YtigmcdpjlkgocaaDoor.Flt Go.Proofs.YtigmcdpjlkgocaaDoor.Owe Go.Proofs.YtigmcdpjlkgocaaDoor.Num Go.Proofs.YtigmcdpjlkgocaaDoor.Le Go.Proofs.YtigmcdpjlkgocaaDoor.Lst Go.Proofs.YtigmcdpjlkgocaaDoor.Aid Go.RowKit Go.Proofs.YtigmcdpjlkgocaaDoorW.PrintWords Go.Proofs.YtigmcdpjlkgocaaDoorW.PrintLast Go.Proofs.YtigmcdpjlkgocaaDoorW.PrintMore
set_option linter.unusedVariables false
set_option linter.unusedSimpArgs false
/-- a varint whose length alone is wanted -/
theorem varintLen_calls (x L : Nat) (w : World) (hx : x < 18446744073709551616) (hL : (varL x).length = L) :
    Calls Tryd.prog 36 #[.int .u64 x] w fun e w' => ∃ A c, e = .returned (.slice A L c) ∧ Below w.heap.size w w' := by
  refine (varint_calls x w hx).mono ?_
  rintro e w' ⟨v, rfl, ho, hb⟩
  obtain ⟨A, c, rfl, _, _⟩ := ho.read
  rw [hL]
  exact ⟨A, c, rfl, hb⟩
set_option maxHeartbeats 16000000 in
set_option maxRecDepth 100000 in
theorem deltaHead_calls (B P : Nat) (Am : Option Addr) (nm cm : Nat) (A : Option Addr) (N c : Nat) (l : List Int) (W : World) (hC : (Kd.int .i64).C W A N l) (hc : N ≤ c) (hN : N ≤ 100000) (hN1 : 1 ≤ N) (hwf : ∀ x ∈ l, -9223372036854775808 ≤ x ∧ x ≤ 9223372036854775807) (hB9 : B ≤ 1024) (hP9 : P ≤ 32) :
    Calls Tryd.prog 16 #[.slice A N c, .agg #[.int .i64 B, .int .i64 P, .slice Am nm cm]] W fun e w' => e = .returned (.int .i64 ((hdG B P N (fstI l)).length : Int)) ∧ Below W.heap.size W w' := by
  obtain ⟨x0, x1, x2⟩ := form_cells W B P Am nm cm
  have hlt0 : W.heap.size < (W.alloc (.cells #[.int .i64 B, .int .i64 P, .slice Am nm cm] 25)).heap.size := by simp
  have HB0 : Aside0 (Below W.heap.size W (W.alloc (.cells #[.int .i64 B, .int .i64 P, .slice Am nm cm] 25))) := ⟨(Below.refl _ _).alloc (Nat.le_refl _) _⟩
  have HX : Aside0 ((W.alloc (.cells #[.int .i64 B, .int .i64 P, .slice Am nm cm] 25)).cell? ⟨W.heap.size, 0, none⟩ = some (.int .i64 B) ∧ (W.alloc (.cells #[.int .i64 B, .int .i64 P, .slice Am nm cm] 25)).cell? ⟨W.heap.size, 1, none⟩ = some (.int .i64 P)) := ⟨⟨x0, x1⟩⟩
  have hlen := hC.1
  obtain ⟨f, hf⟩ : ∃ f, rd l ((0 : Nat) : Int) = f := ⟨_, rfl⟩
  have hfm := hwf f (by rw [← hf]; exact rd_mem (by omega))
  have hfi : fstI l = f := by
    cases l with
    | nil => simp at hlen; omega
    | cons x l => rw [← hf]; rfl
  obtain ⟨ad, ead, hcell⟩ := Kd.at_int (Kd.C_alloc hC (.cells #[.int .i64 B, .int .i64 P, .slice Am nm cm] 25)) 0 (by omega) (by omega)
  subst ead
  have had : ad.add 0 = ad := by simp [Addr.add]
  have hcell : (W.alloc (.cells #[.int .i64 B, .int .i64 P, .slice Am nm cm] 25)).cell? ad = some (.int .i64 f) := by
    have h := hcell
    rw [show (0 : Int).toNat = 0 from rfl, had] at h
    rw [← hf]; exact h
  have HAD := Aside0.mk (World.block_lt_of_cell? W ad (by
    obtain ⟨ad', e, h⟩ := Kd.at_int hC 0 (by omega) (by omega)
    injection e with e
    subst e
    rw [show (0 : Int).toNat = 0 from rfl, had] at h
    exact h))
  obtain ⟨l1, hl1⟩ : ∃ n, (varL B).length = n := ⟨_, rfl⟩
  obtain ⟨l2, hl2⟩ : ∃ n, (varL P).length = n := ⟨_, rfl⟩
  obtain ⟨l3, hl3⟩ : ∃ n, (varL N).length = n := ⟨_, rfl⟩
  obtain ⟨l4, hl4⟩ : ∃ n, (varL (zz f)).length = n := ⟨_, rfl⟩
  have hz9 := zz_lt f hfm.1 hfm.2
  have t1 : l1 ≤ 10 := by rw [← hl1]; exact varL_len10 _ (by omega)
  have t2 : l2 ≤ 10 := by rw [← hl2]; exact varL_len10 _ (by omega)
  have t3 : l3 ≤ 10 := by rw [← hl3]; exact varL_len10 _ (by omega)
  have t4 : l4 ≤ 10 := by rw [← hl4]; exact varL_len10 _ hz9
  have HE0 : Aside0 ((hdG B P N (fstI l)).length = l1 + l2 + l3 + l4) := ⟨by rw [hfi]; unfold hdG; simp [hl1, hl2, hl3, hl4, Nat.add_assoc]⟩
  have HV1 := Aside0.mk fun W1 => varintLen_calls B l1 W1 (by omega) hl1
  have HV2 := Aside0.mk fun W1 => varintLen_calls P l2 W1 (by omega) hl2
  have HV3 := Aside0.mk fun W1 => varintLen_calls N l3 W1 (by omega) hl3
  have HV4 := Aside0.mk fun W1 => varintLen_calls (zz f) l4 W1 hz9 hl4
  have HZG := Aside0.mk fun W1 => zigzag_calls f hfm.1 hfm.2 W1
  have qB : IntKind.u64.wrap (B : Int) = (B : Int) := IntWalk.u64_in _ (by omega)
  have qP : IntKind.u64.wrap (P : Int) = (P : Int) := IntWalk.u64_in _ (by omega)
  have qN : IntKind.u64.wrap (N : Int) = (N : Int) := IntWalk.u64_in _ (by omega)
  have HK : Aside0 (∀ W1, Below W.heap.size W W1 → W1.cell? ad = some (.int .i64 f)) := ⟨fun W1 h => by
    obtain ⟨ad', e, h2⟩ := Kd.at_int (Kd.C_below hC h) 0 (by omega) (by omega)
    injection e with e
    subst e
    rw [show (0 : Int).toNat = 0 from rfl, had] at h2
    rw [← hf]; exact h2⟩
  have HXX : Aside0 (∀ W1, Below (W.alloc (.cells #[.int .i64 B, .int .i64 P, .slice Am nm cm] 25)).heap.size (W.alloc (.cells #[.int .i64 B, .int .i64 P, .slice Am nm cm] 25)) W1 → W1.cell? ⟨W.heap.size, 0, none⟩ = some (.int .i64 B) ∧ W1.cell? ⟨W.heap.size, 1, none⟩ = some (.int .i64 P) ∧ W1.cell? ad = some (.int .i64 f)) := ⟨fun W1 h => ⟨(h.cell hlt0).trans x0, (h.cell hlt0).trans x1, HK.out _ (HB0.out.trans (h.mono (Nat.le_of_lt hlt0)))⟩⟩
  have HBd : Aside0 (Below (W.alloc (.cells #[.int .i64 B, .int .i64 P, .slice Am nm cm] 25)).heap.size (W.alloc (.cells #[.int .i64 B, .int .i64 P, .slice Am nm cm] 25)) (W.alloc (.cells #[.int .i64 B, .int .i64 P, .slice Am nm cm] 25)).drew) := ⟨(Below.refl _ _).drew⟩
  have hN0 : ((0 : Int) < (N : Int)) = True := eq_true (by omega)
  have hN00 : (0 < N) = True := eq_true (by omega)
  clear hC hwf hfi hf hl1 hl2 hl3 hl4 HX HK had hfm hz9 hlen
  go_enter Tryd.func16, Tryd.ntmps16
  go_wp2_with (fail)
  go_region_held3 (fun (w9 : World) => w9.cell? ⟨W.heap.size, 0, none⟩ = some (.int .i64 B) ∧ w9.cell? ⟨W.heap.size, 1, none⟩ = some (.int .i64 P) ∧ w9.cell? ad = some (.int .i64 f))
    (first | exact HXX.out _ HB5.out | exact HXX.out _ HB4.out | exact HXX.out _ HB3.out | exact HXX.out _ HB2.out | exact HXX.out _ HBd.out)
    ((first
      | (go_at_call 37; (with_reducible refine (HZG.out _).mono ?_); rintro e w9 ⟨rfl, rfl⟩)
      | (go_at_call 36; (first
        | ((with_reducible refine (HV1.out _).mono ?_); rintro e w2 ⟨A1, c1, rfl, hb⟩; have HB2 := Aside0.mk (HBd.out.trans (hb.mono HBd.out.size)); clear hb)
        | ((with_reducible refine (HV2.out _).mono ?_); rintro e w3 ⟨A2, c2, rfl, hb⟩; have HB3 := Aside0.mk (HB2.out.trans (hb.mono HB2.out.size)); clear hb)
        | ((with_reducible refine (HV3.out _).mono ?_); rintro e w4 ⟨A3, c3, rfl, hb⟩; have HB4 := Aside0.mk (HB3.out.trans (hb.mono HB3.out.size)); clear hb)
        | ((with_reducible refine (HV4.out _).mono ?_); rintro e w5 ⟨A4, c4, rfl, hb⟩; have HB5 := Aside0.mk (HB4.out.trans (hb.mono HB4.out.size)); clear hb)))
      | fail "no arm"))
  go_wp2_with (fail)
  go_ret
  rw [HE0.out]
  have e1 : IntKind.i64.wrap ((l1 : Int) + (l2 : Int)) = (l1 : Int) + (l2 : Int) := IntWalk.i64_in _ (by omega)
  have e2 : IntKind.i64.wrap ((l1 : Int) + (l2 : Int) + (l3 : Int)) = (l1 : Int) + (l2 : Int) + (l3 : Int) := IntWalk.i64_in _ (by omega)
  have e3 : IntKind.i64.wrap ((l1 : Int) + (l2 : Int) + (l3 : Int) + (l4 : Int)) = (l1 : Int) + (l2 : Int) + (l3 : Int) + (l4 : Int) := IntWalk.i64_in _ (by omega)
  exact ⟨by simp [e1, e2, e3], HB0.out.trans (HB5.out.mono (Nat.le_of_lt hlt0))⟩
end Go.Proofs.YtigmcdpjlkgocaaDoor.Dhe
