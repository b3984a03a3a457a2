import Derived.Test.YtoopljlbiifmfaaDoorRhb
import Derived.Maps.AppendAt
/-! Runs that come in: their bytes. -/
namespace Go.Proofs.YtoopljlbiifmfaaDoor.Rhc
open Go.Proofs.YtoopljlbiifmfaaDoor.Rhb Go.Proofs.YtoopljlbiifmfaaDoor.Rub Go.Proofs.YtoopljlbiifmfaaDoor.Rus Go.Proofs.YtoopljlbiifmfaaDoor.Rin Go.Proofs.YtoopljlbiifmfaaDoor.Uva Go.Proofs.YtoopljlbiifmfaaDoor.Rle Go.Proofs.YtoopljlbiifmfaaDoor.Run Go.Proofs.YtoopljlbiifmfaaDoor.Rlp Go.Proofs.YtoopljlbiifmfaaDoor.Rlb Go.Proofs.YtoopljlbiifmfaaDoor.Buf Go.Proofs.YtoopljlbiifmfaaDoor.Fit Go.Proofs.YtoopljlbiifmfaaDoor.Bit Go.Proofs.YtoopljlbiifmfaaDoor.Wrd Go.Proofs.YtoopljlbiifmfaaDoor.Spl Go.Proofs.YtoopljlbiifmfaaDoor.Str Go.Proofs.YtoopljlbiifmfaaDoor.Flt Go.Proofs.YtoopljlbiifmfaaDoor.Owe Go.Proofs.YtoopljlbiifmfaaDoor.Num Go.Proofs.YtoopljlbiifmfaaDoor.Le Go.Proofs.YtoopljlbiifmfaaDoor.Lst Go.Proofs.YtoopljlbiifmfaaDoor.Aid Go.RowKit Go.Proofs.YtoopljlbiifmfaaDoorW.PrintWords Go.Proofs.YtoopljlbiifmfaaDoorW.PrintLast Go.Proofs.YtoopljlbiifmfaaDoorW.PrintMore
set_option linter.unusedVariables false
set_option linter.unusedSimpArgs false
section
variable {P : Program} {ops : Array Oper} {o : Oper} {a : Act} {Q : Exit → Act → World → Prop} {K : Act → World → Prop} {E : Prop}
/-- append(v, ys...) as a step of a region that draws its order, and where the new slice lies -/
theorem appendReadStepAt {w0 W : World} (base : Nat) (hgd : o.guard = none) (s x : Operand) (t e : TypeId) (k : IntKind) (bytes : Nat)
    (ho : o.op = .call { callee := .builtin .append, args := #[s, x], argTypes := #[t, t] })
    (ht : P.underlying t = some (.slice e)) (hinfo : (P.info? e).map (fun i => (i.zero, i.size, i.bytes)) = some (some (.int k 0), 1, bytes)) (hb0 : 0 < bytes)
    (v : Value) (xs : List Int) (A : Option Addr) (m c : Nat) (ys : List Int) (hs : a.eval s = v) (hx : a.eval x = .slice A m c)
    (HO : Own W base e k v xs) (HB : Below base w0 W) (hbase : base ≤ W.heap.size) (hC : (Kd.int k).C W A m ys) (hl : (xs.length + m) * bytes ≤ 140737488355328)
    (h : ∀ v1 w1, Own w1 base e k v1 (xs ++ ys) → Below base w0 w1 → W.grownBy w1 v.ownBlock → (v1.ownBlock = v.ownBlock ∨ v1.ownBlock = some W.heap.size) → K (a.put o.dst v1) w1) :
    if Region.wanted o (yielded ops a.tmps) = true then Oper.wp P o a W K Q else E := by
  have hw : Region.wanted o (yielded ops a.tmps) = true := by simp [Region.wanted, hgd]
  rw [if_pos hw]
  obtain ⟨i0, hi, hzz⟩ := Option.map_eq_some_iff.1 hinfo
  simp only [Prod.mk.injEq] at hzz
  obtain ⟨hz0, hz1, hz2⟩ := hzz
  have hm : ys.length = m := hC.1
  have hlen : xs.length + m ≤ 140737488355328 := Nat.le_trans (Nat.le_mul_of_pos_right _ hb0) hl
  have key : ∀ v1 w1, w1.ownsRow base e 1 v1 (xs.length + m) (nums k xs ++ nums k ys) → W.grownBy w1 v.ownBlock → (v1.ownBlock = v.ownBlock ∨ v1.ownBlock = some W.heap.size) → K (a.put o.dst v1) w1 := by
    intro v1 w1 h1 hg hat
    refine h v1 w1 ⟨?_⟩ (HB.grown hg hbase (own_base HO.out)) hg hat
    rw [List.length_append, hm, nums_append]; exact h1
  rcases A with _ | ad
  · have h0 : m = 0 := by
      rcases Nat.eq_zero_or_pos m with h0 | h0
      · exact h0
      · obtain ⟨ad, h', _⟩ := hC.2.2 h0
        cases h'
    subst h0
    obtain rfl : ys = [] := List.eq_nil_of_length_eq_zero hm
    have hk := key v W (by simpa [nums] using HO.out) (grownRefl W _) (.inl rfl)
    have hrun : (Builtin.append_ #[t, t] o.type #[v, .slice none 0 c]).run P W = .ok v W := by
      rcases HO.out.2 with ⟨rfl, _⟩ | ⟨g, cap, cur, rfl, _, _, hnc, _⟩
      · simp [Builtin.append_, run_underlying ht, sizeOf, typeInfo, hi, Builtin.lenOf, Builtin.firstCells]
      · simp [Builtin.append_, run_underlying ht, sizeOf, typeInfo, hi, Builtin.lenOf, Builtin.firstCells, hnc, storeCells]
    unfold Oper.wp
    simp [execOp, ho, resolve, invoke, builtin, hs, hx, hrun, Result.andThen]
    exact hk
  · obtain ⟨v', w', hr, h2, h3, _, h5⟩ := run_append_own_at (P := P) W base t o.type e i0 (.int k 0) 1 bytes ht hi hz0 hz1 hz2 rfl (by omega) v xs.length (nums k xs) HO.out ad m c (nums k ys) (by simp [nums, hm]) (C_cells hC) (by intro u hu; simp [nums] at hu; obtain ⟨q, _, rfl⟩ := hu; rfl) (by simp only [maxLen]; omega) hl hbase
    unfold Oper.wp execOp
    simp only [ho, resolve, invoke, builtin, Sem.run_bind, Sem.run_pure, Result.andThen_ok, List.map_toArray, List.map_cons, List.map_nil, hs, hx, hr]
    exact key v' w' h2 h3 h5
end
theorem cells3_keep {w w' : World} {row : Option Nat} {gb : Nat} {a b c : Value} (hg : w.grownBy w' row) (hl : gb < w.heap.size) (hr : some gb ≠ row)
    (h : w.cell? ⟨gb, 0, none⟩ = some a ∧ w.cell? ⟨gb, 1, none⟩ = some b ∧ w.cell? ⟨gb, 2, none⟩ = some c) : w'.cell? ⟨gb, 0, none⟩ = some a ∧ w'.cell? ⟨gb, 1, none⟩ = some b ∧ w'.cell? ⟨gb, 2, none⟩ = some c := by
  have e : ∀ i, w'.cell? ⟨gb, i, none⟩ = w.cell? ⟨gb, i, none⟩ := fun i => World.cell?_of_block (hg.block gb hl hr)
  rw [e, e, e]; exact h
theorem cells3_below {w w' : World} {gb : Nat} {a b c : Value} (hb : Below w.heap.size w w') (hl : gb < w.heap.size)
    (h : w.cell? ⟨gb, 0, none⟩ = some a ∧ w.cell? ⟨gb, 1, none⟩ = some b ∧ w.cell? ⟨gb, 2, none⟩ = some c) : w'.cell? ⟨gb, 0, none⟩ = some a ∧ w'.cell? ⟨gb, 1, none⟩ = some b ∧ w'.cell? ⟨gb, 2, none⟩ = some c := by
  have e : ∀ i, w'.cell? ⟨gb, i, none⟩ = w.cell? ⟨gb, i, none⟩ := fun i => World.cell?_of_block (hb.block gb hl)
  rw [e, e, e]; exact h
theorem ne_of_hat {v v1 : Value} {gb n : Nat} (h : some gb ≠ v.ownBlock) (hat : v1.ownBlock = v.ownBlock ∨ v1.ownBlock = some n) (hn : gb < n) : some gb ≠ v1.ownBlock := by
  rcases hat with e | e
  · rw [e]; exact h
  · rw [e]; intro h2; injection h2 with h2; omega
set_option maxHeartbeats 16000000 in
set_option maxRecDepth 100000 in
theorem hybridBytes_calls (t : Nat) (w : Nat) (A : Option Addr) (n c : Nat) (ls : List RunT) (W : World) (hC : (runK t).C W A n ls) (hc : n ≤ c) (ha : areP w ls) (hwf : wfRuns ls) (hw1 : 1 ≤ w) (hw : w ≤ 32) :
    Calls Tryd.prog 14 #[.int .i64 w, .slice A n c] W fun e w' => ∃ v, e = .returned v ∧ Own w' W.heap.size 5 .u8 v (hyb w (rsR ls)) ∧ Below W.heap.size W w' := by
  have HLN : Aside0 (ls.length = n) := ⟨hC.1⟩
  have hn9 : n ≤ 100000 := by have := ha.2.2; rw [hC.1] at this; exact this
  have HC := Aside0.mk hC
  have HWF := Aside0.mk hwf
  have HA := Aside0.mk ha
  have HV9 : Aside0 (∀ j, (hyb w (rsR (ls.take j))).length ≤ 900000) := ⟨fun j => by
    have h1 := hybV_le (ls.take j)
    have h2 := total_le ls j
    have h3 := ha.2.1
    have h4 : hybOk w (rsR (ls.take j)) := fun r hr => rsR_ok w ls ha hwf r (by
      simp only [rsR, List.mem_map] at hr ⊢
      obtain ⟨q, hq, e⟩ := hr
      exact ⟨q, List.mem_of_mem_take hq, e⟩)
    have := hyb_le w hw _ h4 (by omega)
    omega⟩
  obtain ⟨sz, hsz⟩ : ∃ sz, (w + 7) / 8 = sz := ⟨_, rfl⟩
  have hszI : ((w : Int) + 7) / 8 = (sz : Int) := by omega
  have hszw : IntKind.i64.wrap (sz : Int) = (sz : Int) := IntWalk.i64_in _ (by omega)
  have hw7 : IntKind.i64.wrap ((w : Int) + 7) = (w : Int) + 7 := IntWalk.i64_in _ (by omega)
  have hszt : ((w : Int) + 7).tdiv 8 = (sz : Int) := by rw [Int.tdiv_eq_ediv_of_nonneg (by omega)]; exact hszI
  have hsz4 : sz ≤ 4 := by omega
  have HSZ := Aside0.mk hsz
  have HO0 : Aside0 (Own W W.heap.size 5 .u8 (.slice none 0 0) (hyb w (rsR (ls.take 0)))) := ⟨Own.nil _ _ _ _⟩
  have HB0 : Aside0 (Below W.heap.size W W) := ⟨Below.refl _ _⟩
  clear hC ha hwf hsz
  go_enter Tryd.func14, Tryd.ntmps14
  go_wp2_with (fail)
  go_loopg [5, 10] n (fun kq v5 v10 w' => ∃ (j : Nat), j ≤ n ∧ v10 = .int .i64 j ∧ Aside0 (Own w' W.heap.size 5 .u8 v5 (hyb w (rsR (ls.take j)))) ∧ Aside0 (Below W.heap.size W w') ∧ Aside0 (n - j ≤ kq))
  case atStart => exact ⟨0, by omega, rfl, HO0, HB0, ⟨by omega⟩⟩
  case round =>
    clear HO0 HB0
    obtain ⟨j, hj, rfl, HO, HB, HK⟩ := hrel
    by_cases cj : j < n
    · have cjb : decide ((j : Int) < n) = true := decide_eq_true (by omega)
      have cjn : decide (j < n) = true := decide_eq_true (by omega)
      obtain ⟨ad, A', c', ead, g0, g1, g2, hle, hCl⟩ := at_run HC.out j cj
      replace g0 := (HB.out.cell (World.block_lt_of_cell? W _ g0)).trans g0
      replace g1 := (HB.out.cell (World.block_lt_of_cell? W _ g1)).trans g1
      replace g2 := (HB.out.cell (World.block_lt_of_cell? W _ g2)).trans g2
      have hmem : rdr ls j ∈ ls := rdr_mem (by rw [HLN.out]; exact cj)
      have hok := HA.out.1 _ hmem
      have hv64 := u64_of_wf (HWF.out _ hmem).1
      unfold u64B at hv64
      have htk := rsR_take ls j (by rw [HLN.out]; exact cj)
      have hv0 := HV9.out j
      have HTK := Aside0.mk htk
      have hok2 := hok.2.1
      have hok3 := hok.2.2.1
      have hok4 := hok.2.2.2.1
      obtain ⟨kn, hkn⟩ : ∃ kn : Nat, (rdr ls j).2.1 = (kn : Int) := ⟨(rdr ls j).2.1.toNat, by omega⟩
      obtain ⟨v, hv⟩ : ∃ v : Nat, (rdr ls j).1 = (v : Int) := ⟨(rdr ls j).1.toNat, by omega⟩
      have hul : u64L (rdr ls j).2.2 := fun x hx => u64_of_wf ((HWF.out _ hmem).2.2 x hx)
      obtain ⟨l, hl⟩ : ∃ l, (rdr ls j).2.2 = l := ⟨_, rfl⟩
      obtain ⟨m, hm⟩ : ∃ m, l.length = m := ⟨_, rfl⟩
      have hrr : rR (rdr ls j) = if m = 0 then R.rep v kn else R.grp l := by
        unfold rR; rw [hkn, hv, hl, hm]; rfl
      rw [hl] at hul
      rw [hl, hm] at g2 hle hCl hok4
      rw [hv] at g0 hv64
      rw [hkn] at g1 hok3
      have hm9 : m ≤ 100000 := by have := hok.1; rw [hl, hm] at this; exact this
      have HLL := Aside0.mk hm
      have HAL : Aside0 (Below W.heap.size W (wr.alloc (.cells #[.int .u64 v, .int .i64 kn, .slice A' m c'] 52))) := ⟨HB.out.alloc HB.out.size _⟩
      have HOA : Aside0 (Own (wr.alloc (.cells #[.int .u64 v, .int .i64 kn, .slice A' m c'] 52)) W.heap.size 5 .u8 u5 (hyb w (rsR (ls.take j)))) := ⟨HO.out.alloc _⟩
      have HCQ : Aside0 (∀ W1, Below W.heap.size W W1 → (Kd.int .u64).C W1 A' m l) := ⟨fun W1 h => Kd.C_below hCl h⟩
      have HOU : Aside0 (some wr.heap.size ≠ u5.ownBlock) := ⟨fun h => by have := own_lt HO.out.out wr.heap.size h.symm; omega⟩
      have HUL := Aside0.mk hul
      clear htk hok hok2 hmem hv hkn hl hm hCl hul
      subst ead
      by_cases z : m = 0
      · have HRR : Aside0 ((rR (rdr ls j)).bytes w = varL (2 * kn) ++ lowL sz (v : Int)) := ⟨by rw [hrr, if_pos z, ← HSZ.out]; rfl⟩
        have q5 : ((m : Int) == 0) = true := by rw [z]; rfl
        obtain ⟨x, hx⟩ : ∃ x, 2 * kn = x := ⟨_, rfl⟩
        have hxI : (kn : Int) * 2 = (x : Int) := by omega
        have hkw : IntKind.u64.wrap (kn : Int) = (kn : Int) := IntWalk.u64_in _ (by omega)
        have hxw : IntKind.u64.wrap (x : Int) = (x : Int) := IntWalk.u64_in _ (by omega)
        rw [hx] at HRR
        have HVA := Aside0.mk fun W1 => varint_calls x W1 (by omega)
        have HLO := Aside0.mk fun W1 => low_calls sz (v : Int) (by omega) hv64 W1
        obtain ⟨L, hL⟩ : ∃ L, (varL x).length = L := ⟨_, rfl⟩
        have hL5 := varL_len5 x (by omega)
        have HL := Aside0.mk hL
        rw [hL] at hL5
        have HZ := Aside0.mk z
        clear hrr hL hx z
        go_wp2_with (fail)
        have HX : Aside0 ((wr.alloc (.cells #[.int .u64 v, .int .i64 kn, .slice A' m c'] 52)).drew.cell? ⟨wr.heap.size, 0, none⟩ = some (.int .u64 v) ∧ (wr.alloc (.cells #[.int .u64 v, .int .i64 kn, .slice A' m c'] 52)).drew.cell? ⟨wr.heap.size, 1, none⟩ = some (.int .i64 kn) ∧ (wr.alloc (.cells #[.int .u64 v, .int .i64 kn, .slice A' m c'] 52)).drew.cell? ⟨wr.heap.size, 2, none⟩ = some (.slice A' m c')) := ⟨(Blk.new wr #[.int .u64 v, .int .i64 kn, .slice A' m c'] 52).cell rfl, (Blk.new wr #[.int .u64 v, .int .i64 kn, .slice A' m c'] 52).cell rfl, (Blk.new wr #[.int .u64 v, .int .i64 kn, .slice A' m c'] 52).cell rfl⟩
        have HLW : Aside0 (wr.heap.size < (wr.alloc (.cells #[.int .u64 v, .int .i64 kn, .slice A' m c'] 52)).drew.heap.size) := ⟨by show wr.heap.size < (wr.alloc _).heap.size; simp⟩
        have HOd : Aside0 (Own (wr.alloc (.cells #[.int .u64 v, .int .i64 kn, .slice A' m c'] 52)).drew W.heap.size 5 .u8 u5 (hyb w (rsR (ls.take j)))) := ⟨HOA.out.drewN 1⟩
        have HBd : Aside0 (Below W.heap.size W (wr.alloc (.cells #[.int .u64 v, .int .i64 kn, .slice A' m c'] 52)).drew) := ⟨HAL.out.drew⟩
        generalize wr.alloc (.cells #[.int .u64 v, .int .i64 kn, .slice A' m c'] 52) = wa at *
        obtain ⟨gb, hgb⟩ : ∃ gb, wr.heap.size = gb := ⟨_, rfl⟩
        rw [hgb] at HX HLW HOU ⊢
        clear HAL HOA hgb
        go_region_held3 (fun (w9 : World) => w9.cell? ⟨gb, 0, none⟩ = some (.int .u64 v) ∧ w9.cell? ⟨gb, 1, none⟩ = some (.int .i64 kn) ∧ w9.cell? ⟨gb, 2, none⟩ = some (.slice A' m c'))
          (first | exact HX5.out | exact HX4.out | exact HX3.out | exact HX2.out | exact HX.out)
          ((first
            | (go_at_call 36; go_loud (with_reducible refine (HVA.out _).mono ?_); rintro e w2 ⟨v2, rfl, ho, hb⟩; obtain ⟨A2, c2, rfl, hc2, hr2⟩ := ho.read; rw [HL.out] at hc2 hr2; rw [HL.out]; have HR2 := Aside0.mk hr2; have HO2 := Aside0.mk (HOd.out.below hb); have HB2 := Aside0.mk (HBd.out.trans (hb.mono HBd.out.size)); have HX2 := Aside0.mk (cells3_below hb HLW.out HX.out); have HLW2 : Aside0 (gb < w2.heap.size) := ⟨Nat.lt_of_lt_of_le HLW.out hb.size⟩; clear ho hb hr2)
            | (go_at_call 17; go_loud (with_reducible refine (HLO.out _).mono ?_); rintro e w4 ⟨v4, rfl, ho, hb⟩; obtain ⟨A4, c4, rfl, hc4, hr4⟩ := ho.read; rw [lowL_length] at hc4 hr4; rw [lowL_length]; have HR4 := Aside0.mk hr4; have HO4 := Aside0.mk (HO3.out.below hb); have HB4 := Aside0.mk (HB3.out.trans (hb.mono HB3.out.size)); have HX4 := Aside0.mk (cells3_below hb HLW3.out HX3.out); have HLW4 : Aside0 (gb < w4.heap.size) := ⟨Nat.lt_of_lt_of_le HLW3.out hb.size⟩; clear ho hb hr4)
            | (refine appendReadStepAt (w0 := W) W.heap.size (by rfl) (.tmp 18) (.tmp 23) 25 5 .u8 1 (by rfl) Tryd.underlying25 infoU8 (by decide) _ (hyb w (rsR (ls.take j))) A2 L c2 (varL x) (by rfl) (by rfl) HO2.out HB2.out ?hs HR2.out ?hl ?_; (case hs => exact HB2.out.size); (case hl => omega); intro v3 w3 ho3 hb3 hg3 hat3; have HO3 := Aside0.mk ho3; have HB3 := Aside0.mk hb3; have HX3 := Aside0.mk (cells3_keep hg3 HLW2.out HOU.out HX2.out); have HLW3 : Aside0 (gb < w3.heap.size) := ⟨Nat.lt_of_lt_of_le HLW2.out hg3.size⟩; have HOU3 := Aside0.mk (ne_of_hat HOU.out hat3 HLW2.out); clear ho3 hb3 hg3 hat3)
            | (refine appendReadStepAt (w0 := W) W.heap.size (by rfl) (.tmp 24) (.tmp 30) 25 5 .u8 1 (by rfl) Tryd.underlying25 infoU8 (by decide) _ (hyb w (rsR (ls.take j)) ++ varL x) A4 sz c4 (lowL sz (v : Int)) (by rfl) (by rfl) HO4.out HB4.out ?hs HR4.out ?hl ?_; (case hs => exact HB4.out.size); (case hl => rw [List.length_append, HL.out]; omega); intro v5 w5 ho5 hb5 hg5 hat5; have HO5 := Aside0.mk ho5; have HB5 := Aside0.mk hb5; have HX5 := Aside0.mk (cells3_keep hg5 HLW4.out HOU3.out HX4.out); clear ho5 hb5 hg5 hat5)
            | fail "no arm"))
        go_wp2_with (fail)
        go_roundg (gk - 1)
        case measure => have := HK.out; omega
        case rel =>
          refine ⟨j + 1, by omega, by go_num, ⟨?_⟩, HB5, ⟨by have := HK.out; omega⟩⟩
          rw [HTK.out, hyb_snoc, HRR.out, ← List.append_assoc]; exact HO5.out
      · obtain ⟨K, hK⟩ : ∃ K, m / 8 = K := ⟨_, rfl⟩
        have hpk : bytesLo (upTo (bitsLo w l) (m * w)) ((m * w + 7) / 8) = packLo w l := by
          rw [← HLL.out]
          refine packLo_upTo w l ?_
          rw [HLL.out, show m = 8 * K by omega, Nat.mul_assoc]; omega
        have HRR : Aside0 ((rR (rdr ls j)).bytes w = varL (2 * K + 1) ++ packLo w l) := ⟨by rw [hrr, if_neg z]; simp only [R.bytes, HLL.out, hK]⟩
        have q5 : ((m : Int) == 0) = false := by rw [beq_eq_false_iff_ne]; omega
        have hKI : (m : Int) / 8 = (K : Int) := by omega
        have hKt : (m : Int).tdiv 8 = (K : Int) := by rw [Int.tdiv_eq_ediv_of_nonneg (by omega)]; exact hKI
        have hKw : IntKind.i64.wrap (K : Int) = (K : Int) := IntWalk.i64_in _ (by omega)
        have hKw2 : IntKind.u64.wrap (K : Int) = (K : Int) := IntWalk.u64_in _ (by omega)
        obtain ⟨x2, hx2⟩ : ∃ x2, 2 * K = x2 := ⟨_, rfl⟩
        have hxI : (K : Int) * 2 = (x2 : Int) := by omega
        have hxw : IntKind.u64.wrap (x2 : Int) = (x2 : Int) := IntWalk.u64_in _ (by omega)
        obtain ⟨x, hx⟩ : ∃ x, 2 * K + 1 = x := ⟨_, rfl⟩
        have hor : bits BinOp.or IntKind.u64 (x2 : Int) 1 = (x : Int) := by
          rw [show (1 : Int) = ((1 : Nat) : Int) from rfl, u64_or_nat _ _ (by omega) (by omega)]
          congr 1
          rw [← hx, ← hx2]
          have := Nat.two_pow_add_eq_or_of_lt (i := 1) (b := 1) (by decide) K
          rw [Nat.pow_one] at this
          exact this.symm
        rw [hx] at HRR
        have hK9 : K ≤ 100000 := by omega
        have HVA := Aside0.mk fun W1 => varint_calls x W1 (by omega)
        obtain ⟨M, hM⟩ : ∃ M, (packLo w l).length = M := ⟨_, rfl⟩
        have hM9 : M ≤ 400000 := by
          rw [← hM]; unfold packLo; rw [bytesLo_length, HLL.out]
          have := Nat.mul_le_mul hm9 hw; omega
        have HPL : Aside0 (∀ W1, (Kd.int .u64).C W1 A' m l → Calls Tryd.prog 37 #[.int .i64 w, .slice A' m c'] W1 fun e w' => ∃ v, e = .returned v ∧ Own w' W1.heap.size 5 .u8 v (packLo w l) ∧ Below W1.heap.size W1 w') := ⟨fun W1 h => by
          have := packLow_calls A' m c' w l W1 h hle (by omega) HUL.out (by omega)
          rw [hpk] at this; exact this⟩
        obtain ⟨L, hL⟩ : ∃ L, (varL x).length = L := ⟨_, rfl⟩
        have hL5 := varL_len5 x (by omega)
        have HL := Aside0.mk hL
        have HM := Aside0.mk hM
        rw [hL] at hL5
        clear hrr hL hx z hpk hM hx2 hK
        go_wp2_with (fail)
        have HX : Aside0 ((wr.alloc (.cells #[.int .u64 v, .int .i64 kn, .slice A' m c'] 52)).drew.cell? ⟨wr.heap.size, 0, none⟩ = some (.int .u64 v) ∧ (wr.alloc (.cells #[.int .u64 v, .int .i64 kn, .slice A' m c'] 52)).drew.cell? ⟨wr.heap.size, 1, none⟩ = some (.int .i64 kn) ∧ (wr.alloc (.cells #[.int .u64 v, .int .i64 kn, .slice A' m c'] 52)).drew.cell? ⟨wr.heap.size, 2, none⟩ = some (.slice A' m c')) := ⟨(Blk.new wr #[.int .u64 v, .int .i64 kn, .slice A' m c'] 52).cell rfl, (Blk.new wr #[.int .u64 v, .int .i64 kn, .slice A' m c'] 52).cell rfl, (Blk.new wr #[.int .u64 v, .int .i64 kn, .slice A' m c'] 52).cell rfl⟩
        have HLW : Aside0 (wr.heap.size < (wr.alloc (.cells #[.int .u64 v, .int .i64 kn, .slice A' m c'] 52)).drew.heap.size) := ⟨by show wr.heap.size < (wr.alloc _).heap.size; simp⟩
        have HOd : Aside0 (Own (wr.alloc (.cells #[.int .u64 v, .int .i64 kn, .slice A' m c'] 52)).drew W.heap.size 5 .u8 u5 (hyb w (rsR (ls.take j)))) := ⟨HOA.out.drewN 1⟩
        have HBd : Aside0 (Below W.heap.size W (wr.alloc (.cells #[.int .u64 v, .int .i64 kn, .slice A' m c'] 52)).drew) := ⟨HAL.out.drew⟩
        generalize wr.alloc (.cells #[.int .u64 v, .int .i64 kn, .slice A' m c'] 52) = wa at *
        obtain ⟨gb, hgb⟩ : ∃ gb, wr.heap.size = gb := ⟨_, rfl⟩
        rw [hgb] at HX HLW HOU ⊢
        clear HAL HOA hgb
        go_region_held3 (fun (w9 : World) => w9.cell? ⟨gb, 0, none⟩ = some (.int .u64 v) ∧ w9.cell? ⟨gb, 1, none⟩ = some (.int .i64 kn) ∧ w9.cell? ⟨gb, 2, none⟩ = some (.slice A' m c'))
          (first | exact HX5.out | exact HX4.out | exact HX3.out | exact HX2.out | exact HX.out)
          ((first
            | (go_at_call 36; go_loud (with_reducible refine (HVA.out _).mono ?_); rintro e w2 ⟨v2, rfl, ho, hb⟩; obtain ⟨A2, c2, rfl, hc2, hr2⟩ := ho.read; rw [HL.out] at hc2 hr2; rw [HL.out]; have HR2 := Aside0.mk hr2; have HO2 := Aside0.mk (HOd.out.below hb); have HB2 := Aside0.mk (HBd.out.trans (hb.mono HBd.out.size)); have HX2 := Aside0.mk (cells3_below hb HLW.out HX.out); have HLW2 : Aside0 (gb < w2.heap.size) := ⟨Nat.lt_of_lt_of_le HLW.out hb.size⟩; clear ho hb hr2)
            | (go_at_call 37; go_loud (with_reducible refine (HPL.out _ (HCQ.out _ HB3.out)).mono ?_); rintro e w4 ⟨v4, rfl, ho, hb⟩; obtain ⟨A4, c4, rfl, hc4, hr4⟩ := ho.read; rw [HM.out] at hc4 hr4; rw [HM.out]; have HR4 := Aside0.mk hr4; have HO4 := Aside0.mk (HO3.out.below hb); have HB4 := Aside0.mk (HB3.out.trans (hb.mono HB3.out.size)); have HX4 := Aside0.mk (cells3_below hb HLW3.out HX3.out); have HLW4 : Aside0 (gb < w4.heap.size) := ⟨Nat.lt_of_lt_of_le HLW3.out hb.size⟩; clear ho hb hr4)
            | (refine appendReadStepAt (w0 := W) W.heap.size (by rfl) (.tmp 32) (.tmp 40) 25 5 .u8 1 (by rfl) Tryd.underlying25 infoU8 (by decide) _ (hyb w (rsR (ls.take j))) A2 L c2 (varL x) (by rfl) (by rfl) HO2.out HB2.out ?hs HR2.out ?hl ?_; (case hs => exact HB2.out.size); (case hl => omega); intro v3 w3 ho3 hb3 hg3 hat3; have HO3 := Aside0.mk ho3; have HB3 := Aside0.mk hb3; have HX3 := Aside0.mk (cells3_keep hg3 HLW2.out HOU.out HX2.out); have HLW3 : Aside0 (gb < w3.heap.size) := ⟨Nat.lt_of_lt_of_le HLW2.out hg3.size⟩; have HOU3 := Aside0.mk (ne_of_hat HOU.out hat3 HLW2.out); clear ho3 hb3 hg3 hat3)
            | (refine appendReadStepAt (w0 := W) W.heap.size (by rfl) (.tmp 41) (.tmp 45) 25 5 .u8 1 (by rfl) Tryd.underlying25 infoU8 (by decide) _ (hyb w (rsR (ls.take j)) ++ varL x) A4 M c4 (packLo w l) (by rfl) (by rfl) HO4.out HB4.out ?hs HR4.out ?hl ?_; (case hs => exact HB4.out.size); (case hl => rw [List.length_append, HL.out]; omega); intro v5 w5 ho5 hb5 hg5 hat5; have HO5 := Aside0.mk ho5; have HB5 := Aside0.mk hb5; have HX5 := Aside0.mk (cells3_keep hg5 HLW4.out HOU3.out HX4.out); clear ho5 hb5 hg5 hat5)
            | fail "no arm"))
        go_wp2_with (fail)
        go_roundg (gk - 1)
        case measure => have := HK.out; omega
        case rel =>
          refine ⟨j + 1, by omega, by go_num, ⟨?_⟩, HB5, ⟨by have := HK.out; omega⟩⟩
          rw [HTK.out, hyb_snoc, HRR.out, ← List.append_assoc]; exact HO5.out
    · obtain rfl : j = n := by omega
      have cjb : decide ((j : Int) < j) = false := decide_eq_false (by omega)
      go_wp2_with (fail)
      go_ret
      have := HO.out
      rw [← HLN.out, List.take_length] at this
      exact ⟨_, rfl, this, HB.out⟩
end Go.Proofs.YtoopljlbiifmfaaDoor.Rhc
