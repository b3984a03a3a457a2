import Derived.Test.YtoopljlbiifmfaaDoorRub
/-! Runs that come in: their bytes and their values. -/
namespace Go.Proofs.YtoopljlbiifmfaaDoor.Rhb
open Go.Proofs.YtoopljlbiifmfaaDoor.Rub Go.Proofs.YtoopljlbiifmfaaDoor.Rus Go.Proofs.YtoopljlbiifmfaaDoor.Rin Go.Proofs.YtoopljlbiifmfaaDoor.Uva Go.Proofs.YtoopljlbiifmfaaDoor.Rle Go.Proofs.YtoopljlbiifmfaaDoor.Run Go.Proofs.YtoopljlbiifmfaaDoor.Rlp Go.Proofs.YtoopljlbiifmfaaDoor.Rlb Go.Proofs.YtoopljlbiifmfaaDoor.Buf Go.Proofs.YtoopljlbiifmfaaDoor.Fit Go.Proofs.YtoopljlbiifmfaaDoor.Bit Go.Proofs.YtoopljlbiifmfaaDoor.Wrd Go.Proofs.YtoopljlbiifmfaaDoor.Spl Go.Proofs.YtoopljlbiifmfaaDoor.Str Go.Proofs.YtoopljlbiifmfaaDoor.Flt Go.Proofs.YtoopljlbiifmfaaDoor.Owe Go.Proofs.YtoopljlbiifmfaaDoor.Num Go.Proofs.YtoopljlbiifmfaaDoor.Le Go.Proofs.YtoopljlbiifmfaaDoor.Lst Go.Proofs.YtoopljlbiifmfaaDoor.Aid Go.RowKit Go.Proofs.YtoopljlbiifmfaaDoorW.PrintWords Go.Proofs.YtoopljlbiifmfaaDoorW.PrintLast Go.Proofs.YtoopljlbiifmfaaDoorW.PrintMore
set_option linter.unusedVariables false
set_option linter.unusedSimpArgs false
/-- the run of a run that came in -/
def rR (r : RunT) : R := if r.2.2.length = 0 then .rep r.1.toNat r.2.1.toNat else .grp r.2.2
def rsR (ls : List RunT) : List R := ls.map rR
theorem rsR_take (ls : List RunT) (j : Nat) (hj : j < ls.length) : rsR (ls.take (j + 1)) = rsR (ls.take j) ++ [rR (rdr ls j)] := by
  rw [take_run ls j hj]; simp [rsR]
theorem vals_le (r : RunT) : (rR r).vals.length ≤ r.2.1.toNat + r.2.2.length := by
  unfold rR
  by_cases h : r.2.2.length = 0
  · rw [if_pos h]; simp [R.vals]
  · rw [if_neg h]; simp [R.vals]
theorem hybV_le (ls : List RunT) : (hybV (rsR ls)).length ≤ total ls := by
  induction ls with
  | nil => simp [hybV, rsR, total]
  | cons r ls ih =>
    have h1 : hybV (rsR (r :: ls)) = (rR r).vals ++ hybV (rsR ls) := rfl
    have h2 : total (r :: ls) = (r.2.1.toNat + r.2.2.length) + total ls := by simp [total]
    have := vals_le r
    rw [h1, h2, List.length_append]; omega
def wfRuns (ls : List RunT) : Prop := ∀ r ∈ ls, (Lit.int .u64 r.1).wf = true ∧ (Lit.int .i64 r.2.1).wf = true ∧ ∀ x ∈ r.2.2, (Lit.int .u64 x).wf = true
theorem rsR_ok (w : Nat) (ls : List RunT) (h : areP w ls) (hwf : wfRuns ls) : hybOk w (rsR ls) := by
  intro r hr
  simp only [rsR, List.mem_map] at hr
  obtain ⟨q, hq, rfl⟩ := hr
  have hk := h.1 q hq
  have hw := hwf q hq
  have hv := u64_of_wf hw.1
  unfold u64B at hv
  unfold rR
  by_cases c : q.2.2.length = 0
  · rw [if_pos c]
    have h5 := hk.2.2.2.2.1 c
    have h2 := hk.2.1
    refine ⟨by omega, ?_⟩
    have h6 : ((q.1.toNat : Nat) : Int) < ((2 ^ w : Nat) : Int) := by rw [Int.toNat_of_nonneg hv.1]; push_cast; exact h5.2
    exact_mod_cast h6
  · rw [if_neg c]
    exact ⟨by omega, hk.2.2.2.1, fun x hx => ⟨(u64_of_wf (hw.2.2 x hx)).1, hk.2.2.2.2.2 x hx⟩⟩
section
variable {P : Program} {ops : Array Oper} {rest : List Oper} {o : Oper} {a : Act} {Q : Exit → Act → World → Prop}
/-- append(v, y), and a block that is not v's own is as it was -/
theorem appendOwnNe {w0 W : World} (base : Nat) (hgd : o.guard = none) (s x : Operand) (t e : TypeId) (k : IntKind) (bytes : Nat)
    (ho : o.op = .call { callee := .builtin .append, args := #[s, x], argTypes := #[t, t] })
    (ht : P.underlying t = some (.slice e)) (hinfo : (P.info? e).map (fun i => (i.zero, i.size, i.bytes)) = some (some (.int k 0), 1, bytes)) (hb0 : 0 < bytes)
    (v : Value) (xs : List Int) (y : Int) (gb : Nat) (hs : a.eval s = v) (hx : a.eval x = .slice (some ⟨W.heap.size, 0, none⟩) 1 1)
    (HO : Own W base e k v xs) (HB : Below base w0 W) (hbase : base ≤ W.heap.size) (hl : (xs.length + 1) * bytes ≤ 140737488355328) (hne : v.ownBlock = none ∨ v.ownBlock ≠ some gb) (hlt : gb < W.heap.size)
    (h : ∀ v1 w1, Own w1 base e k v1 (xs ++ [y]) → Below base w0 w1 → w1.cell? ⟨gb, 0, none⟩ = W.cell? ⟨gb, 0, none⟩ → (v1.ownBlock = none ∨ v1.ownBlock ≠ some gb) → gb < w1.heap.size → wpList P ops Q rest (a.put o.dst v1) w1) :
    wpList P ops Q (o :: rest) a (W.alloc (.cells #[.int k y] e)) :=
  print_append_num base hgd s x t e k bytes ho ht hinfo hb0 v xs y hs hx HO.out HB hbase hl fun v1 w1 ho hb hg hat => by
    have hn : some gb ≠ v.ownBlock := by
      rcases hne with h | h
      · rw [h]; simp
      · exact fun e => h e.symm
    refine h v1 w1 ⟨ho⟩ hb (World.cell?_of_block (hg.block gb hlt hn)) ?_ (Nat.lt_of_lt_of_le hlt hg.size)
    rcases hat with h | ⟨b, h, hb2⟩
    · rw [h]; exact hne
    · rw [h]; exact .inr (by rintro e; injection e with e; omega)
end
set_option maxHeartbeats 8000000 in
set_option maxRecDepth 100000 in
theorem runValues_calls (t : Nat) (w : Nat) (A : Option Addr) (n c : Nat) (ls : List RunT) (W : World) (hC : (runK t).C W A n ls) (hc : n ≤ c) (ha : areP w ls) (hwf : wfRuns ls) :
    Calls Tryd.prog 15 #[.slice A n c] W fun e w' => ∃ v, e = .returned v ∧ Own w' W.heap.size 32 .u64 v (hybV (rsR ls)) ∧ Below W.heap.size W w' := by
  have HLN : Aside0 (ls.length = n) := ⟨hC.1⟩
  have hn9 : n ≤ 100000 := by have := ha.2.2; rw [hC.1] at this; exact this
  have HC := Aside0.mk hC
  have HWF := Aside0.mk hwf
  have HA := Aside0.mk ha
  have HV9 : Aside0 (∀ j, (hybV (rsR (ls.take j))).length ≤ 100000) := ⟨fun j => by have := hybV_le (ls.take j); have := total_le ls j; have := ha.2.1; omega⟩
  have HO0 : Aside0 (Own W W.heap.size 32 .u64 (.slice none 0 0) (hybV (rsR (ls.take 0)))) := ⟨Own.nil _ _ _ _⟩
  have HB0 : Aside0 (Below W.heap.size W W) := ⟨Below.refl _ _⟩
  clear hC ha hwf
  go_enter Tryd.func15, Tryd.ntmps15
  go_wp2_with (fail)
  go_loopg [3, 8] n (fun kq v3 v8 w' => ∃ (j : Nat), j ≤ n ∧ v8 = .int .i64 j ∧ Aside0 (Own w' W.heap.size 32 .u64 v3 (hybV (rsR (ls.take j)))) ∧ Aside0 (Below W.heap.size W w') ∧ Aside0 (n - j ≤ kq))
  case atStart => exact ⟨0, by omega, rfl, HO0, HB0, ⟨by omega⟩⟩
  case round =>
    clear HO0 HB0
    obtain ⟨j, hj, rfl, HO, HB, HK⟩ := hrel
    by_cases cj : j < n
    · have cjb : decide ((j : Int) < n) = true := decide_eq_true (by omega)
      have cjn : decide (j < n) = true := decide_eq_true (by omega)
      obtain ⟨gk0, rfl⟩ : ∃ gk0, gk = gk0 + 1 := ⟨gk - 1, by have := HK.out; omega⟩
      obtain ⟨ad, A', c', ead, g0, g1, g2, hle, hCl⟩ := at_run (Kd.C_below HC.out HB.out) j cj
      have hmem : rdr ls j ∈ ls := rdr_mem (by rw [HLN.out]; exact cj)
      have hok := HA.out.1 _ hmem
      have hv64 := u64_of_wf (HWF.out _ hmem).1
      unfold u64B at hv64
      have htk := rsR_take ls j (by rw [HLN.out]; exact cj)
      have hv1 := HV9.out (j + 1)
      have hv0 := HV9.out j
      rw [htk, hybV_snoc, List.length_append] at hv1
      have HTK := Aside0.mk htk
      have hok2 := hok.2.1
      have hok3 := hok.2.2.1
      obtain ⟨kn, hkn⟩ : ∃ kn : Nat, (rdr ls j).2.1 = (kn : Int) := ⟨(rdr ls j).2.1.toNat, by omega⟩
      obtain ⟨v, hv⟩ : ∃ v : Nat, (rdr ls j).1 = (v : Int) := ⟨(rdr ls j).1.toNat, by omega⟩
      obtain ⟨l, hl⟩ : ∃ l, (rdr ls j).2.2 = l := ⟨_, rfl⟩
      obtain ⟨m, hm⟩ : ∃ m, l.length = m := ⟨_, rfl⟩
      have hrr : rR (rdr ls j) = if m = 0 then R.rep v kn else R.grp l := by
        unfold rR; rw [hkn, hv, hl, hm]; rfl
      rw [hl, hm] at g2 hle hCl
      rw [hv] at g0
      rw [hkn] at g1 hok3
      have hm9 : m ≤ 100000 := by have := hok.1; rw [hl, hm] at this; exact this
      have HLL := Aside0.mk hm
      have HAL : Aside0 (Below W.heap.size W (wr.alloc (.cells #[.int .u64 v, .int .i64 kn, .slice A' m c'] 52))) := ⟨HB.out.alloc HB.out.size _⟩
      have HOA : Aside0 (Own (wr.alloc (.cells #[.int .u64 v, .int .i64 kn, .slice A' m c'] 52)) W.heap.size 32 .u64 u3 (hybV (rsR (ls.take j)))) := ⟨HO.out.alloc _⟩
      have HCL := Aside0.mk (Kd.C_alloc hCl (.cells #[.int .u64 v, .int .i64 kn, .slice A' m c'] 52))
      clear htk hok hok2 hmem hv hkn hl hm hCl hv64
      subst ead
      by_cases z : m = 0
      · have HRR : Aside0 (rR (rdr ls j) = R.rep v kn) := ⟨by rw [hrr, if_pos z]⟩
        have q5 : decide (0 < (m : Int)) = false := decide_eq_false (by omega)
        have q52 : decide (0 < m) = false := decide_eq_false (by omega)
        have hkv : kn ≤ 100000 := by omega
        have HBK : Aside0 ((⟨wr.heap.size, 0, none⟩ : Addr).block = wr.heap.size) := ⟨rfl⟩
        clear z hrr
        go_wp2_with (fail)
        have HOd : Aside0 (Own (wr.alloc (.cells #[.int .u64 v, .int .i64 kn, .slice A' m c'] 52)) W.heap.size 32 .u64 u3 (hybV (rsR (ls.take j)) ++ List.replicate 0 (v : Int))) := ⟨by rw [List.replicate_zero, List.append_nil]; exact HOA.out⟩
        have x0 : (wr.alloc (.cells #[.int .u64 v, .int .i64 kn, .slice A' m c'] 52)).cell? ⟨wr.heap.size, 0, none⟩ = some (.int .u64 v) := (Blk.new wr #[.int .u64 v, .int .i64 kn, .slice A' m c'] 52).cell rfl
        have HOL : Aside0 (u3.ownBlock = none ∨ u3.ownBlock ≠ some wr.heap.size) := ⟨by
          cases hv : u3.ownBlock with
          | none => exact .inl rfl
          | some k => exact .inr (by have := own_lt HO.out.out k hv; rintro hb; injection hb with hb; omega)⟩
        have HLW : Aside0 (wr.heap.size < (wr.alloc (.cells #[.int .u64 v, .int .i64 kn, .slice A' m c'] 52)).heap.size) := ⟨by simp⟩
        obtain ⟨gb, hgb⟩ : ∃ gb, wr.heap.size = gb := ⟨_, rfl⟩
        rw [hgb] at x0 HOL HLW ⊢
        generalize wr.alloc (.cells #[.int .u64 v, .int .i64 kn, .slice A' m c'] 52) = wa at *
        clear HCL HOA hgb HBK
        have X0 := Aside0.mk x0
        clear x0
        go_loopg [3, 22] kn (fun kq v3 v22 w' => ∃ (i : Nat), i ≤ kn ∧ v22 = .int .i64 i ∧ Aside0 (Own w' W.heap.size 32 .u64 v3 (hybV (rsR (ls.take j)) ++ List.replicate i (v : Int))) ∧ Aside0 (Below W.heap.size W w') ∧ Aside0 (w'.cell? ⟨gb, 0, none⟩ = some (.int .u64 v)) ∧ Aside0 (v3.ownBlock = none ∨ v3.ownBlock ≠ some gb) ∧ Aside0 (gb < w'.heap.size) ∧ Aside0 (kn - i ≤ kq))
        case atStart => exact ⟨0, by omega, rfl, HOd, HAL, X0, HOL, HLW, ⟨by omega⟩⟩
        case round =>
          clear HO HB HOd HAL X0 HOL HLW
          obtain ⟨i, hi, rfl, HO, HB, HX, HOL, HLW, HK2⟩ := hrel
          by_cases ci : i < kn
          · have cib : decide ((i : Int) < (kn : Int)) = true := decide_eq_true (by omega)
            have cib2 : decide (i < kn) = true := decide_eq_true ci
            have x0 := HX.out
            go_wp2_with (first
              | (at_builtin; go_loud (refine appendOwnNe (w0 := W) W.heap.size rfl (.tmp 24) (.tmp 27) 27 32 .u64 8 rfl Tryd.underlying27 infoU64 (by decide) u3 (hybV (rsR (ls.take j)) ++ List.replicate i (v : Int)) (v : Int) gb rfl rfl HO.out HB.out ?hb ?hl HOL.out HLW.out ?_); (case hb => exact HB.out.size); (case hl => rw [List.length_append, List.length_replicate]; omega); intro v1 w1 ho hb hx hol hlw; have HO1 := Aside0.mk ho; have HB1 := Aside0.mk hb; have HX1 := Aside0.mk (hx.trans HX.out); have HOL1 := Aside0.mk hol; have HLW1 := Aside0.mk hlw; clear ho hb hx hol hlw))
            go_roundg (gk - 1)
            case measure => have := HK2.out; omega
            case rel =>
              refine ⟨i + 1, by omega, by go_num, ⟨?_⟩, HB1, HX1, HOL1, HLW1, ⟨by have := HK2.out; omega⟩⟩
              rw [List.replicate_succ', ← List.append_assoc]; exact HO1.out
          · obtain rfl : i = kn := by omega
            have cib : decide ((i : Int) < (i : Int)) = false := decide_eq_false (by omega)
            go_wp2_with (fail)
            go_roundg gk0
            case measure => omega
            case rel =>
              refine ⟨j + 1, by omega, by go_num, ⟨?_⟩, HB, ⟨by have := HK.out; omega⟩⟩
              rw [HTK.out, HRR.out, hybV_snoc]; exact HO.out
      · have HRR : Aside0 (rR (rdr ls j) = R.grp l) := ⟨by rw [hrr, if_neg z]⟩
        have q5 : decide (0 < (m : Int)) = true := decide_eq_true (by omega)
        have q52 : decide (0 < m) = true := decide_eq_true (by omega)
        clear hrr
        go_wp2_with (first
          | (at_builtin; go_loud (refine appendRead (w0 := W) W.heap.size rfl (.tmp 16) (.tmp 18) 27 32 .u64 8 rfl Tryd.underlying27 infoU64 (by decide) u3 (hybV (rsR (ls.take j))) A' m c' l rfl rfl HOA.out HAL.out ?hb HCL.out ?hl ?_); (case hb => exact HAL.out.size); (case hl => omega); intro v5 w5 ho hb hg; have HO5 := Aside0.mk ho; have HB5 := Aside0.mk hb; clear ho hb hg))
        go_roundg gk0
        case measure => omega
        case rel =>
          refine ⟨j + 1, by omega, by go_num, ⟨?_⟩, HB5, ⟨by have := HK.out; omega⟩⟩
          rw [HTK.out, HRR.out, hybV_snoc]; exact HO5.out
    · obtain rfl : j = n := by omega
      have cjb : decide ((j : Int) < j) = false := decide_eq_false (by omega)
      go_wp2_with (fail)
      go_ret
      have := HO.out
      rw [← HLN.out, List.take_length] at this
      exact ⟨_, rfl, this, HB.out⟩
set_option maxHeartbeats 4000000 in
theorem enLevels_calls (A : Option Addr) (n c : Nat) (l : List Int) (w : World) (hC : (Kd.int .u64).C w A n l) (hc : n ≤ c) (hn : n ≤ 2147483647) (hh : bytesB l = true) :
    Calls Tryd.prog 23 #[.slice A n c] w fun e w' => ∃ v, e = .returned v ∧ Own w' w.heap.size 5 .u8 v l ∧ Below w.heap.size w w' := by
  have HLN : Aside0 (l.length = n) := ⟨hC.1⟩
  have HC := Aside0.mk hC
  have HH := Aside0.mk hh
  clear hC hh
  go_enter Tryd.func23, Tryd.ntmps23
  go_wp2_with (fail)
  go_loopg [3, 5, 8] n (fun kq v3 v5 v8 w' => ∃ (j : Nat), j ≤ n ∧ v8 = .int .i64 j ∧ Aside0 (Own w' w.heap.size 5 .u8 v3 (l.take j)) ∧ Aside0 (Below w.heap.size w w') ∧ Aside0 (n - j ≤ kq))
  case atStart => exact ⟨0, by omega, rfl, ⟨Own.nil _ _ _ _⟩, ⟨Below.refl _ _⟩, ⟨by omega⟩⟩
  case round =>
    obtain ⟨j, hj, rfl, HO, HB, HK⟩ := hrel
    by_cases cj : j < n
    · have cjb : decide ((j : Int) < n) = true := decide_eq_true (by omega)
      obtain ⟨ad, ead, hcell⟩ := Kd.at_int (Kd.C_below HC.out HB.out) (j : Int) (by omega) (by omega)
      rw [Int.toNat_natCast] at hcell
      obtain ⟨y, hy, hy8⟩ := byteN l HH.out j
      rw [hy] at hcell
      have hym : (y : Int) % 256 = (y : Int) := by omega
      have HTK : Aside0 (l.take (j + 1) = l.take j ++ [(y : Int)]) := ⟨by rw [List.take_succ_eq_append_getElem (by rw [HLN.out]; exact cj), ← hy, rd_nat _ _ (by rw [HLN.out]; exact cj)]⟩
      have hln : (l.take j).length ≤ 2147483647 := by rw [List.length_take]; omega
      have HLT := Aside0.mk hln
      clear hy hln
      subst ead
      go_wp2_with (first
        | (at_builtin; refine appendOwn (w0 := w) w.heap.size rfl (.tmp 12) (.tmp 15) 25 5 .u8 1 rfl Tryd.underlying25 infoU8 (by decide) u3 (l.take j) (y : Int) rfl rfl HO.out HB.out ?hb ?hl ?_; (case hb => exact HB.out.size); (case hl => have := HLT.out; omega); intro v1 w1 ho hb hg; have HO1 := Aside0.mk ho; have HB1 := Aside0.mk hb; clear ho hb hg))
      go_roundg (gk - 1)
      case measure => have := HK.out; omega
      case rel =>
        refine ⟨j + 1, by omega, by go_num, ⟨?_⟩, HB1, ⟨by have := HK.out; omega⟩⟩
        rw [HTK.out]; exact HO1.out
    · obtain rfl : j = n := by omega
      have cjb : decide ((j : Int) < j) = false := decide_eq_false (by omega)
      go_wp2_with (fail)
      go_ret
      have := HO.out
      rw [← HLN.out, List.take_length] at this
      exact ⟨_, rfl, this, HB.out⟩
end Go.Proofs.YtoopljlbiifmfaaDoor.Rhb
