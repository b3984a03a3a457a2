import Derived.Test.YtkefklemcoehmaaLpf
import Derived.Deep.Slices
import Derived.OpenShut
/-! Numbers of 96 bits: arrays of three words. -/
namespace Go.Proofs.Ytkefklemcoehmaa.Tri
open Go.Proofs.Ytkefklemcoehmaa.Lpf Go.Proofs.Ytkefklemcoehmaa.Lsf Go.Proofs.Ytkefklemcoehmaa.Wrd Go.Proofs.Ytkefklemcoehmaa.Sim Go.Proofs.Ytkefklemcoehmaa.Spl Go.Proofs.Ytkefklemcoehmaa.Str Go.Proofs.Ytkefklemcoehmaa.Flt Go.Proofs.Ytkefklemcoehmaa.Owe Go.Proofs.Ytkefklemcoehmaa.Num Go.Proofs.Ytkefklemcoehmaa.Le Go.Proofs.Ytkefklemcoehmaa.Lst Go.Proofs.Ytkefklemcoehmaa.Aid Go.RowKit Go.Proofs.YtkefklemcoehmaaW.PrintWords Go.Proofs.YtkefklemcoehmaaW.PrintLast Go.Proofs.YtkefklemcoehmaaW.PrintMore
set_option linter.unusedVariables false
set_option linter.unusedSimpArgs false
abbrev T3 := Int × Int × Int
def cells3 (x : T3) : List Value := [.int .u32 x.1, .int .u32 x.2.1, .int .u32 x.2.2]
def tri : Kd T3 := Kd.pair (Kd.int .u32) (Kd.pair (Kd.int .u32) (Kd.int .u32))
theorem tri_sz : tri.sz = 3 := rfl
theorem tri_K {w : World} {x : T3} {cs : List Value} : tri.K w x cs ↔ cs = cells3 x := by
  constructor
  · rintro ⟨c0, c1, rfl, h0, c2, c3, rfl, h1, h2⟩
    have h0 : c0 = [.int .u32 x.1] := h0
    have h1 : c2 = [.int .u32 x.2.1] := h1
    have h2 : c3 = [.int .u32 x.2.2] := h2
    rw [h0, h1, h2]; rfl
  · rintro rfl
    exact ⟨[.int .u32 x.1], _, rfl, rfl, [.int .u32 x.2.1], _, rfl, rfl, rfl⟩
theorem tri_M {w : World} {base : Nat} {ok : Nat → Prop} {x : T3} : tri.M w base ok x (cells3 x) :=
  ⟨[.int .u32 x.1], _, rfl, rfl, [.int .u32 x.2.1], _, rfl, rfl, rfl⟩
def rd3 (ls : List T3) (i : Nat) : T3 := ls.getD i (0, 0, 0)
theorem at_tri {w : World} {A : Option Addr} {n : Nat} {ls : List T3} (h : tri.C w A n ls) (i : Nat) (h1 : i < n) :
    ∃ ad, A = some ad ∧ w.cell? (ad.add (i * 3)) = some (.int .u32 (rd3 ls i).1) ∧ w.cell? ⟨(ad.add (i * 3)).block, (ad.add (i * 3)).off + 1, none⟩ = some (.int .u32 (rd3 ls i).2.1) ∧ w.cell? ⟨(ad.add (i * 3)).block, (ad.add (i * 3)).off + 2, none⟩ = some (.int .u32 (rd3 ls i).2.2) := by
  obtain ⟨ad, cs, e, hl, hK, hc⟩ := Kd.C_get h (0, 0, 0) (i : Int) (by omega) (by omega)
  rw [Int.toNat_natCast] at hK hc
  rw [tri_K] at hK
  subst hK
  have h1 := hc 1 _ rfl
  have h2 := hc 2 _ rfl
  rw [add_field _ _ _ (by omega)] at h1 h2
  exact ⟨ad, e, hc 0 _ rfl, h1, h2⟩
def u96L (ls : List T3) : Prop := ∀ x ∈ ls, u32B x.1 ∧ u32B x.2.1 ∧ u32B x.2.2
theorem rd3_mem {ls : List T3} {i : Nat} (h : i < ls.length) : rd3 ls i ∈ ls := by
  unfold rd3; rw [List.getD_eq_getElem?_getD, List.getElem?_eq_getElem h]; exact List.getElem_mem h
theorem take_tri (ls : List T3) (i : Nat) (h : i < ls.length) : ls.take (i + 1) = ls.take i ++ [rd3 ls i] := by
  rw [List.take_succ_eq_append_getElem h]
  simp [rd3, List.getD_eq_getElem?_getD, h]
theorem info3 : (Try.prog.info? 52).map (fun i => (i.zero, i.size, i.bytes)) = some (some (.agg #[.int .u32 0, .int .u32 0, .int .u32 0]), 3, 12) := by kernel_rfl
theorem info3' : (Try.prog.info? 25).map (fun i => (i.zero, i.size, i.bytes)) = some (some (.agg #[.int .u32 0, .int .u32 0, .int .u32 0]), 3, 12) := by kernel_rfl
/-- a slice of numbers of 96 bits of the call's own -/
structure OwnX (e : Nat) (w : World) (base : Nat) (v : Value) (ls : List T3) : Prop where
  mk :: (out : tri.R e w base (fun _ => True) v ls)
section
variable {P : Program} {ops : Array Oper} {rest : List Oper} {o : Oper} {a : Act} {Q : Exit → Act → World → Prop}
theorem appendTri {w0 W : World} (base : Nat) (hgd : o.guard = none) (s x : Operand) (t e : TypeId) (ho : o.op = .call { callee := .builtin .append, args := #[s, x], argTypes := #[t, t] })
    (ht : P.underlying t = some (.slice e)) (hinfo : (P.info? e).map (fun i => (i.zero, i.size, i.bytes)) = some (some (.agg #[.int .u32 0, .int .u32 0, .int .u32 0]), 3, 12))
    (v : Value) (xs : List T3) (y0 y1 y2 : Int) (hs : a.eval s = v) (hx : a.eval x = .slice (some ⟨W.heap.size, 0, none⟩) 1 1) (HO : OwnX e W base v xs) (HB : Below base w0 W) (hbase : base ≤ W.heap.size) (hl : xs.length ≤ 1000000)
    (h : ∀ v1 w1, OwnX e w1 base v1 (xs ++ [(y0, y1, y2)]) → Below base w0 w1 → W.grownBy w1 v.ownBlock → wpList P ops Q rest (a.put o.dst v1) w1) :
    wpList P ops Q (o :: rest) a (W.alloc (.cells #[.int .u32 y0, .int .u32 y1, .int .u32 y2] e)) := by
  have := Kd.R_append (P := P) (ops := ops) (rest := rest) (o := o) (a := a) (Q := Q) tri (w0 := w0) (W := W) base hgd s x t e (.agg #[.int .u32 0, .int .u32 0, .int .u32 0]) 12 ho ht hinfo rfl (show 0 < 3 by omega) (by omega) v xs (y0, y1, y2) (cells3 (y0, y1, y2)) (fun _ => True) (fun _ => False) hs hx tri_M (fun _ h => h.elim) (fun _ _ => trivial) HO.out HB hbase (by omega)
    (fun v1 w1 ho hb hg _ => h v1 w1 ⟨ho⟩ hb hg)
  exact this
end
def tri4 (y0 y1 y2 : Int) : List Int := put4 (put4 (put4 (List.replicate 12 0) 0 y0) 4 y1) 8 y2
def triB (x : T3) : List Int := enLowL 4 [x.1, x.2.1, x.2.2]
theorem tri4_eq (y0 y1 y2 : Int) : tri4 y0 y1 y2 = triB (y0, y1, y2) := by
  simp [tri4, triB, enLowL, put4, lowL, List.range_succ, List.replicate]
def trisB (ls : List T3) : List Int := ls.flatMap triB
theorem triB_length (x : T3) : (triB x).length = 12 := by simp [triB, enLowL, lowL]
theorem trisB_length (ls : List T3) : (trisB ls).length = 12 * ls.length := by
  unfold trisB
  induction ls with
  | nil => rfl
  | cons x xs ih => rw [List.flatMap_cons, List.length_append, ih, triB_length, List.length_cons]; omega
theorem trisB_take (ls : List T3) (j : Nat) (hj : j < ls.length) : trisB (ls.take (j + 1)) = trisB (ls.take j) ++ triB (rd3 ls j) := by
  rw [take_tri ls j hj]; simp [trisB]
set_option maxHeartbeats 4000000 in
set_option maxRecDepth 100000 in
theorem appendInt96_calls (w0 : World) (base : Nat) (v : Value) (xs : List Int) (y0 y1 y2 : Int) (w : World) (HO : Own w base 5 .u8 v xs) (HB : Below base w0 w) (hbase : base ≤ w.heap.size) (hx : xs.length ≤ 4294967296)
    (h0 : u32B y0) (h1 : u32B y1) (h2 : u32B y2) :
    Calls Try.prog 36 #[v, .agg #[.int .u32 y0, .int .u32 y1, .int .u32 y2]] w fun e w' => ∃ v1, e = .returned v1 ∧ Own w' base 5 .u8 v1 (xs ++ triB (y0, y1, y2)) ∧ Below base w0 w' := by
  have HO0 := Aside0.mk HO
  have HB0 := Aside0.mk HB
  obtain ⟨h00, h01⟩ := h0
  obtain ⟨h10, h11⟩ := h1
  obtain ⟨h20, h21⟩ := h2
  clear HO HB
  go_enter Try.func36, Try.ntmps36
  obtain ⟨wa, hwa⟩ : ∃ wa, w.alloc (.cells #[.int .u32 y0, .int .u32 y1, .int .u32 y2] 52) = wa := ⟨_, rfl⟩
  have hsa : wa.heap.size = w.heap.size + 1 := by rw [← hwa]; exact Array.size_push _
  have HY : Aside0 ((Kd.int .u32).C wa (some ⟨w.heap.size, 0, none⟩) 3 [y0, y1, y2]) := ⟨by rw [← hwa]; exact rowC (t := 52) ⟨Blk.new w #[.int .u32 y0, .int .u32 y1, .int .u32 y2] 52⟩ rfl (by omega)⟩
  have HOa : Aside0 (Own wa base 5 .u8 v xs) := ⟨by rw [← hwa]; exact HO0.out.alloc _⟩
  have HBa : Aside0 (Below base w0 wa) := ⟨by rw [← hwa]; exact HB0.out.alloc hbase _⟩
  have HSA := Aside0.mk hsa
  clear HO0 HB0 hsa
  go_wp2_with (fail)
  obtain ⟨wb, hwb⟩ : ∃ wb, wa.alloc (.cells #[.int .u8 0, .int .u8 0, .int .u8 0, .int .u8 0, .int .u8 0, .int .u8 0, .int .u8 0, .int .u8 0, .int .u8 0, .int .u8 0, .int .u8 0, .int .u8 0] 92) = wb := ⟨_, rfl⟩
  have HA1 : Aside0 (Below wa.heap.size wa wb) := ⟨by rw [← hwb]; exact (Below.refl _ _).alloc (Nat.le_refl _) _⟩
  have HR1 : Aside0 (Row wb wa.heap.size 92 .u8 (List.replicate 12 0)) := ⟨by rw [← hwb]; exact ⟨Blk.new wa #[.int .u8 0, .int .u8 0, .int .u8 0, .int .u8 0, .int .u8 0, .int .u8 0, .int .u8 0, .int .u8 0, .int .u8 0, .int .u8 0, .int .u8 0, .int .u8 0] 92⟩⟩
  have HO1 : Aside0 (Own wb base 5 .u8 v xs) := ⟨by rw [← hwb]; exact HOa.out.alloc _⟩
  have HB1 : Aside0 (Below base w0 wb) := ⟨by rw [← hwb]; exact HBa.out.alloc (by have := HSA.out; omega) _⟩
  have HSB1 : Aside0 (base ≤ wb.heap.size) := ⟨by rw [← hwb]; have : (wa.alloc (.cells #[.int .u8 0, .int .u8 0, .int .u8 0, .int .u8 0, .int .u8 0, .int .u8 0, .int .u8 0, .int .u8 0, .int .u8 0, .int .u8 0, .int .u8 0, .int .u8 0] 92)).heap.size = wa.heap.size + 1 := Array.size_push _; have := HSA.out; omega⟩
  rw [hwb]
  clear hwb hwa HBa
  have hcell : ∀ W, Below wa.heap.size wa W → ∀ i : Nat, i < 3 → W.cell? ⟨w.heap.size, i, none⟩ = some (.int .u32 (rd [y0, y1, y2] (i : Nat))) := fun W hW i hi => by
    obtain ⟨ad, ead, hc⟩ := Kd.at_int (Kd.C_below HY.out hW) (i : Int) (by omega) (by omega)
    injection ead with ead; subst ead
    rw [Int.toNat_natCast, Addr.add_mid, Nat.zero_add] at hc
    exact hc
  have x0 := hcell wb HA1.out 0 (by omega)
  change _ = some (Value.int .u32 y0) at x0
  have HCALL1 := Aside0.mk fun nq => pqplain_lePutUint32.calls wa.heap.size 0 4 12 92 (List.replicate 12 0) y0 (wb.drewN nq) (HR1.out.drewN nq) (by omega) (by simp [put4_length]) h00 h01
  go_wp2_with (fail)
  refine region_tail 3 (by kernel_rfl) (by kernel_rfl) ?_
  simp only [List.take_succ_cons, List.take_zero, List.drop_succ_cons, List.drop_zero]
  repeat (quiet_step ((fail)))
  refine wpQuiet_nil ?_
  rintro _ ⟨nq1, rfl⟩
  go_wp2_with (first
    | (go_at_call 39; (with_reducible refine (HCALL1.out nq1).mono ?_); rintro e wc1 ⟨rfl, hg, hrow⟩; have HG1 := Aside0.mk hg; have HR2 := Aside0.mk hrow; clear hg hrow))
  have HA2 : Aside0 (Below wa.heap.size wa wc1) := ⟨(HA1.out.trans ((drewN_below wb nq1).mono HA1.out.size)).grown HG1.out (by have := HA1.out.size; exact this) (fun k hk => by injection hk with hk; omega)⟩
  have HO2 : Aside0 (Own wc1 base 5 .u8 v xs) := ⟨(HO1.out.drewN nq1).grown HG1.out (by right; intro he; have := own_lt HOa.out.out _ he; omega)⟩
  have HB2 : Aside0 (Below base w0 wc1) := ⟨(HB1.out.trans ((drewN_below wb nq1).mono HSB1.out)).grown HG1.out HSB1.out (fun k hk => by injection hk with hk; have := HSA.out; omega)⟩
  have HSB2 : Aside0 (base ≤ wc1.heap.size) := ⟨Nat.le_trans HSB1.out HG1.out.size⟩
  clear x0 HCALL1
  have x1 := hcell wc1 HA2.out 1 (by omega)
  change _ = some (Value.int .u32 y1) at x1
  have HCALL2 := Aside0.mk fun nq => pqplain_lePutUint32.calls wa.heap.size 4 4 8 92 (put4 (List.replicate 12 0) 0 y0) y1 (wc1.drewN nq) (HR2.out.drewN nq) (by omega) (by simp [put4_length]) h10 h11
  go_wp2_with (fail)
  refine region_tail 3 (by kernel_rfl) (by kernel_rfl) ?_
  simp only [List.take_succ_cons, List.take_zero, List.drop_succ_cons, List.drop_zero]
  repeat (quiet_step ((fail)))
  refine wpQuiet_nil ?_
  rintro _ ⟨nq2, rfl⟩
  go_wp2_with (first
    | (go_at_call 39; (with_reducible refine (HCALL2.out nq2).mono ?_); rintro e wc2 ⟨rfl, hg, hrow⟩; have HG2 := Aside0.mk hg; have HR3 := Aside0.mk hrow; clear hg hrow))
  have HA3 : Aside0 (Below wa.heap.size wa wc2) := ⟨(HA2.out.trans ((drewN_below wc1 nq2).mono HA2.out.size)).grown HG2.out (by have := HA2.out.size; exact this) (fun k hk => by injection hk with hk; omega)⟩
  have HO3 : Aside0 (Own wc2 base 5 .u8 v xs) := ⟨(HO2.out.drewN nq2).grown HG2.out (by right; intro he; have := own_lt HOa.out.out _ he; omega)⟩
  have HB3 : Aside0 (Below base w0 wc2) := ⟨(HB2.out.trans ((drewN_below wc1 nq2).mono HSB2.out)).grown HG2.out HSB2.out (fun k hk => by injection hk with hk; have := HSA.out; omega)⟩
  have HSB3 : Aside0 (base ≤ wc2.heap.size) := ⟨Nat.le_trans HSB2.out HG2.out.size⟩
  clear x1 HCALL2
  have x2 := hcell wc2 HA3.out 2 (by omega)
  change _ = some (Value.int .u32 y2) at x2
  have HCALL3 := Aside0.mk fun nq => pqplain_lePutUint32.calls wa.heap.size 8 4 4 92 (put4 (put4 (List.replicate 12 0) 0 y0) 4 y1) y2 (wc2.drewN nq) (HR3.out.drewN nq) (by omega) (by simp [put4_length]) h20 h21
  go_wp2_with (fail)
  refine region_tail 3 (by kernel_rfl) (by kernel_rfl) ?_
  simp only [List.take_succ_cons, List.take_zero, List.drop_succ_cons, List.drop_zero]
  repeat (quiet_step ((fail)))
  refine wpQuiet_nil ?_
  rintro _ ⟨nq3, rfl⟩
  go_wp2_with (first
    | (go_at_call 39; (with_reducible refine (HCALL3.out nq3).mono ?_); rintro e wc3 ⟨rfl, hg, hrow⟩; have HG3 := Aside0.mk hg; have HR4 := Aside0.mk hrow; clear hg hrow; have HA4 : Aside0 (Below wa.heap.size wa wc3) := ⟨(HA3.out.trans ((drewN_below wc2 nq3).mono HA3.out.size)).grown HG3.out (by have := HA3.out.size; exact this) (fun k hk => by injection hk with hk; omega)⟩; have HO4 : Aside0 (Own wc3 base 5 .u8 v xs) := ⟨(HO3.out.drewN nq3).grown HG3.out (by right; intro he; have := own_lt HOa.out.out _ he; omega)⟩; have HB4 : Aside0 (Below base w0 wc3) := ⟨(HB3.out.trans ((drewN_below wc2 nq3).mono HSB3.out)).grown HG3.out HSB3.out (fun k hk => by injection hk with hk; have := HSA.out; omega)⟩; have HSB4 : Aside0 (base ≤ wc3.heap.size) := ⟨Nat.le_trans HSB3.out HG3.out.size⟩; have HRC : Aside0 ((Kd.int .u8).C wc3 (some ⟨wa.heap.size, 0, none⟩) 12 (triB (y0, y1, y2))) := ⟨by have := rowC HR4.out (n := 12) (by simp [tri4, put4_length]) (by omega); rw [← tri4_eq]; exact this⟩)
    | (at_builtin; refine appendRead (w0 := w0) base rfl (.tmp 19) (.tmp 20) 23 5 .u8 1 rfl Try.underlying23 infoU8 (by decide) _ xs (some ⟨wa.heap.size, 0, none⟩) 12 12 (triB (y0, y1, y2)) rfl rfl HO4.out HB4.out HSB4.out HRC.out ?hl ?_; (case hl => omega); intro v4 w4 ho hb hg; have HO5 := Aside0.mk ho; have HB5 := Aside0.mk hb; clear ho hb hg))
  go_ret
  exact ⟨_, rfl, HO5.out, HB5.out⟩
set_option maxHeartbeats 4000000 in
set_option maxRecDepth 100000 in
theorem plEncodeInt96_calls (p : Option Addr) (A : Option Addr) (n c : Nat) (ls : List T3) (w : World) (hC : tri.C w A n ls) (hc : n ≤ c) (hn : n ≤ 100000) (hu : u96L ls) :
    Calls Try.prog 21 #[.pointer p, .slice none 0 0, .slice A n c] w fun e w' => ∃ v, e = .returned (.tuple #[v, .nilIface]) ∧ Own w' w.heap.size 5 .u8 v (trisB ls) ∧ Below w.heap.size w w' := by
  have HLN : Aside0 (ls.length = n) := ⟨hC.1⟩
  have HC := Aside0.mk hC
  have HU := Aside0.mk hu
  obtain ⟨i8, h8⟩ := h8
  obtain ⟨cutz, _⟩ := cutHi (P := Try.prog) 23 5 Try.underlying23 h8.1 none 0 0 .i64 0 0 rfl (by omega) (by omega)
  clear hC hu
  go_enter Try.func21, Try.ntmps21
  go_wp2_with (fail)
  go_loopg [1, 14] n (fun kq v1 v14 w' => ∃ (j : Nat), j ≤ n ∧ v14 = .int .i64 j ∧ Aside0 (Own w' w.heap.size 5 .u8 v1 (trisB (ls.take j))) ∧ Aside0 (Below w.heap.size w w') ∧ Aside0 (n - j ≤ kq))
  case atStart => exact ⟨0, by omega, rfl, ⟨Own.nil _ _ _ _⟩, ⟨Below.refl _ _⟩, ⟨by omega⟩⟩
  case round =>
    obtain ⟨j, hj, rfl, HO, HB, HK⟩ := hrel
    by_cases cj : j < n
    · have cjb : decide ((j : Int) < n) = true := decide_eq_true (by omega)
      obtain ⟨ad, ead, x0, x1, x2⟩ := at_tri (Kd.C_below HC.out HB.out) j cj
      have HUJ := Aside0.mk (HU.out _ (rd3_mem (by rw [HLN.out]; exact cj)))
      obtain ⟨y0, hy0⟩ : ∃ y, (rd3 ls j).1 = y := ⟨_, rfl⟩
      obtain ⟨y1, hy1⟩ : ∃ y, (rd3 ls j).2.1 = y := ⟨_, rfl⟩
      obtain ⟨y2, hy2⟩ : ∃ y, (rd3 ls j).2.2 = y := ⟨_, rfl⟩
      rw [hy0] at x0 HUJ
      rw [hy1] at x1 HUJ
      rw [hy2] at x2 HUJ
      have HQ : Aside0 (rd3 ls j = (y0, y1, y2)) := ⟨by rw [← hy0, ← hy1, ← hy2]⟩
      have HT := Aside0.mk (trisB_take ls j (by rw [HLN.out]; exact cj))
      rw [HQ.out] at HT
      have HTL : Aside0 ((trisB (ls.take j)).length ≤ 4294967296) := ⟨by rw [trisB_length, List.length_take]; omega⟩
      have HOA : Aside0 (Own (wr.alloc (.cells #[.int .u32 y0, .int .u32 y1, .int .u32 y2] 52)) w.heap.size 5 .u8 u1 (trisB (ls.take j))) := ⟨HO.out.alloc _⟩
      have HBA : Aside0 (Below w.heap.size w (wr.alloc (.cells #[.int .u32 y0, .int .u32 y1, .int .u32 y2] 52))) := ⟨HB.out.alloc HB.out.size _⟩
      have HCALL := Aside0.mk (appendInt96_calls w w.heap.size u1 _ y0 y1 y2 _ HOA.out HBA.out HBA.out.size HTL.out HUJ.out.1 HUJ.out.2.1 HUJ.out.2.2)
      clear hy0 hy1 hy2
      subst ead
      go_wp2_with (first
        | (go_at_call 36; (with_reducible refine HCALL.out.mono ?_); rintro e w2 ⟨v2, rfl, ho2, hb2⟩; have HO2 := Aside0.mk ho2; have HB2 := Aside0.mk hb2; clear ho2 hb2))
      go_roundg (gk - 1)
      case measure => have := HK.out; omega
      case rel => exact ⟨j + 1, by omega, by go_num, ⟨by rw [HT.out]; exact HO2.out⟩, HB2, ⟨by have := HK.out; omega⟩⟩
    · obtain rfl : j = n := by omega
      have cjb : decide ((j : Int) < j) = false := decide_eq_false (by omega)
      have HTA : Aside0 (trisB (ls.take j) = trisB ls) := ⟨by rw [← HLN.out, List.take_length]⟩
      go_wp2_with (fail)
      go_ret2
      exact ⟨_, rfl, by rw [← HTA.out]; exact HO.out, HB.out⟩
theorem OwnX.read {e : Nat} {w : World} {base : Nat} {v : Value} {ls : List T3} (h : OwnX e w base v ls) : ∃ A c, v = .slice A ls.length c ∧ ls.length ≤ c ∧ tri.C w A ls.length ls := by
  exact Kd.R_reads h.out
set_option maxHeartbeats 4000000 in
set_option maxRecDepth 100000 in
theorem encodeInt96s_calls (A : Option Addr) (n c : Nat) (ls : List T3) (w : World) (hC : tri.C w A n ls) (hc : n ≤ c) (hn : n ≤ 100000) (hu : u96L ls) :
    Calls Try.prog 9 #[.slice A n c] w fun e w' => ∃ v, e = .returned (.tuple #[v, .bool true]) ∧ Own w' w.heap.size 5 .u8 v (trisB ls) ∧ Below w.heap.size w w' := by
  have HLN : Aside0 (ls.length = n) := ⟨hC.1⟩
  have HC := Aside0.mk hC
  have HU := Aside0.mk hu
  clear hC hu
  go_enter Try.func9, Try.ntmps9
  go_wp2_with (fail)
  go_loopg [4, 11] n (fun kq v4 v11 w' => ∃ (j : Nat), j ≤ n ∧ v11 = .int .i64 j ∧ Aside0 (OwnX 52 w' w.heap.size v4 (ls.take j)) ∧ Aside0 (Below w.heap.size w w') ∧ Aside0 (n - j ≤ kq))
  case atStart => exact ⟨0, by omega, rfl, ⟨⟨Kd.R_nil _ _ _ _ _⟩⟩, ⟨Below.refl _ _⟩, ⟨by omega⟩⟩
  case round =>
    obtain ⟨j, hj, rfl, HO, HB, HK⟩ := hrel
    by_cases cj : j < n
    · have cjb : decide ((j : Int) < n) = true := decide_eq_true (by omega)
      obtain ⟨ad, ead, x0, x1, x2⟩ := at_tri (Kd.C_below HC.out HB.out) j cj
      obtain ⟨y0, hy0⟩ : ∃ y, (rd3 ls j).1 = y := ⟨_, rfl⟩
      obtain ⟨y1, hy1⟩ : ∃ y, (rd3 ls j).2.1 = y := ⟨_, rfl⟩
      obtain ⟨y2, hy2⟩ : ∃ y, (rd3 ls j).2.2 = y := ⟨_, rfl⟩
      rw [hy0] at x0
      rw [hy1] at x1
      rw [hy2] at x2
      have b0 := World.block_lt_of_cell? wr _ x0
      have HQ : Aside0 (rd3 ls j = (y0, y1, y2)) := ⟨by rw [← hy0, ← hy1, ← hy2]⟩
      clear hy0 hy1 hy2
      have HBA : Aside0 (Below wr.heap.size wr (wr.alloc (.cells #[.int .u32 y0, .int .u32 y1, .int .u32 y2] 25))) := ⟨(Below.refl _ _).alloc (Nat.le_refl _) _⟩
      have HOA : Aside0 (OwnX 52 (wr.alloc (.cells #[.int .u32 y0, .int .u32 y1, .int .u32 y2] 25)) w.heap.size u4 (ls.take j)) := ⟨⟨Kd.R_below HO.out.out HBA.out⟩⟩
      have HBB : Aside0 (Below w.heap.size w (wr.alloc (.cells #[.int .u32 y0, .int .u32 y1, .int .u32 y2] 25))) := ⟨HB.out.trans (HBA.out.mono HB.out.size)⟩
      have HSZ : Aside0 ((wr.alloc (.cells #[.int .u32 y0, .int .u32 y1, .int .u32 y2] 25)).heap.size = wr.heap.size + 1) := ⟨Array.size_push _⟩
      subst ead
      go_wp2_with (first
        | (at_builtin; refine appendTri (w0 := w) (W := wr.alloc (.cells #[.int .u32 y0, .int .u32 y1, .int .u32 y2] 25)) w.heap.size ?hgd (.tmp 15) (.tmp 17) 51 52 ?ho ?ht ?hinfo u4 (ls.take j) y0 y1 y2 ?hs ?hx ?HO ?HB ?hbase ?hl ?_; (case hgd => rfl); (case ho => rfl); (case ht => exact Try.underlying51); (case hinfo => exact info3); (case hs => rfl); (case hx => exact congrArg (fun z => Value.slice (some ⟨z, 0, none⟩) 1 1) HSZ.out.symm); (case HO => exact HOA.out); (case HB => exact HBB.out); (case hbase => exact HBB.out.size); (case hl => rw [List.length_take]; omega); intro v1 w1 ho hb hg; have HO1 := Aside0.mk ho; have HB1 := Aside0.mk hb; clear ho hb hg))
      go_roundg (gk - 1)
      case measure => have := HK.out; omega
      case rel => exact ⟨j + 1, by omega, by go_num, ⟨by rw [take_tri _ _ (by rw [HLN.out]; exact cj), HQ.out]; exact HO1.out⟩, HB1, ⟨by have := HK.out; omega⟩⟩
    · obtain rfl : j = n := by omega
      have cjb : decide ((j : Int) < j) = false := decide_eq_false (by omega)
      obtain ⟨A1, c1, rfl, hc1, hr1⟩ := HO.out.read
      rw [← HLN.out, List.take_length, HLN.out] at hr1 hc1 ⊢
      have HB9 : Aside0 (Below w.heap.size w (wr.alloc (.cells #[] 58))) := ⟨HB.out.alloc HB.out.size _⟩
      have HCALL := Aside0.mk fun p => plEncodeInt96_calls p A1 j c1 ls (wr.alloc (.cells #[] 58)) (Kd.C_alloc hr1 _) hc1 hn HU.out
      clear hr1
      go_wp2_with (first
        | (go_at_call 21; (with_reducible refine (HCALL.out _).mono ?_); rintro e w2 ⟨v2, rfl, ho2, hb2⟩; have HO2 := Aside0.mk (Own.lower ho2 HB9.out.size); have HB2 := Aside0.mk (HB9.out.trans (hb2.mono HB9.out.size)); clear ho2 hb2)
        | go_quiet (fail))
      go_ret2
      exact ⟨_, rfl, HO2.out.drewN _, HB2.out.trans ((drewN_below _ _).mono HB2.out.size)⟩
end Go.Proofs.Ytkefklemcoehmaa.Tri
