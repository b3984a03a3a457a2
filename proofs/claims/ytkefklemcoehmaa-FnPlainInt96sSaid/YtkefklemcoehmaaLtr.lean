import Derived.Test.YtkefklemcoehmaaTrd
import Derived.Laws.StructEq
/-! Numbers of 96 bits: equality, what is written is read, and the law. -/
namespace Go.Proofs.Ytkefklemcoehmaa.Ltr
open Go.Proofs.Ytkefklemcoehmaa.Trd Go.Proofs.Ytkefklemcoehmaa.Tri Go.Proofs.Ytkefklemcoehmaa.Lpf Go.Proofs.Ytkefklemcoehmaa.Lsf Go.Proofs.Ytkefklemcoehmaa.Pln Go.Proofs.Ytkefklemcoehmaa.Wrd Go.Proofs.Ytkefklemcoehmaa.Sim Go.Proofs.Ytkefklemcoehmaa.Spl Go.Proofs.Ytkefklemcoehmaa.Str Go.Proofs.Ytkefklemcoehmaa.Flt Go.Proofs.Ytkefklemcoehmaa.Owe Go.Proofs.Ytkefklemcoehmaa.Num Go.Proofs.Ytkefklemcoehmaa.Le Go.Proofs.Ytkefklemcoehmaa.Lst Go.Proofs.Ytkefklemcoehmaa.Aid Go.RowKit Go.Proofs.YtkefklemcoehmaaW.PrintWords Go.Proofs.YtkefklemcoehmaaW.PrintLast Go.Proofs.YtkefklemcoehmaaW.PrintMore
set_option linter.unusedVariables false
set_option linter.unusedSimpArgs false
structure IsTris (w : World) (a : Option Addr) (len cap : Nat) (ls : List T3) : Prop where
  C : tri.C w a len ls
  le : len ≤ cap
  wf : ∀ x ∈ ls, (Lit.int .u32 x.1).wf = true ∧ (Lit.int .u32 x.2.1).wf = true ∧ (Lit.int .u32 x.2.2).wf = true
theorem openTris {H : Type} {enc : TypeId × Value → H} {P : Program} {w : World} {base : Nat} {held : Bool} {t e q : TypeId} {fuel : Nat} {a : Option Addr} {len cap : Nat} {x : DataW H × List MemPlace} (ht : P.underlying t = some (.slice e)) (he : P.underlying e = some (.array 3 q)) (hq : P.underlying q = some (.int .u32))
    (ce : P.cellsOf e = 3) (cq : P.cellsOf q = 1) (h : DataW.trod enc P w base (fun _ => true) held fuel t [.slice a len cap] = some x) : ∃ ls, IsTris w a len cap ls := by
  rcases Go.Deep.open_slice ht h with ⟨h0, _⟩ | ⟨a', len', cap', m, n, D, Pl, h0, hb, hl, hm, hmm, _, hx⟩
  · simp at h0
    obtain ⟨rfl, rfl, rfl⟩ := h0
    exact ⟨[], ⟨⟨rfl, by omega, fun h => absurd h (by omega)⟩, Nat.le_refl _, by simp⟩⟩
  · simp at h0
    obtain ⟨rfl, rfl, rfl⟩ := h0
    simp only [if_true] at hmm
    subst hmm
    simp only [maxLen] at hm
    obtain ⟨F, hF⟩ := Go.Deep.choose_lt (α := T3) (n := m) (p := fun i y => (∀ c u, (cells3 y)[c]? = some u → w.cell? (a'.add (i * 3 + c)) = some u) ∧ (Lit.int .u32 y.1).wf = true ∧ (Lit.int .u32 y.2.1).wf = true ∧ (Lit.int .u32 y.2.2).wf = true) (fun i hi => by
      obtain ⟨cs, hcs, ht3⟩ := hx i hi
      rw [ce] at hcs
      obtain ⟨_, hlen, hcell⟩ := World.cells?_some hcs
      obtain ⟨xs, k, _, _, _, hxl, hel⟩ := DataW.trod_array he ht3
      rw [cq] at hel
      match cs, hlen with
      | [c0, c1, c2], _ =>
      match xs, hxl with
      | [x0, x1, x2], _ =>
      have g0 := hel 0 (by omega)
      have g1 := hel 1 (by omega)
      have g2 := hel 2 (by omega)
      simp at g0 g1 g2
      obtain ⟨z0, e0, _, f0⟩ := DataW.trod_int hq g0
      obtain ⟨z1, e1, _, f1⟩ := DataW.trod_int hq g1
      obtain ⟨z2, e2, _, f2⟩ := DataW.trod_int hq g2
      simp at e0 e1 e2
      subst e0 e1 e2
      refine ⟨(z0, z1, z2), fun c u hu => ?_, f0, f1, f2⟩
      have hc : c < 3 := (List.getElem?_eq_some_iff.1 hu).1
      have := hcell c hc
      rw [Addr.add_add] at this
      rw [this]
      exact hu)
    refine ⟨(List.range len).map F, ⟨⟨by simp, by omega, fun _ => ⟨_, rfl, fun j p hj => ?_⟩⟩, hl, ?_⟩⟩
    · have hjl : j < len := by
        have := (List.getElem?_eq_some_iff.1 hj).1
        simpa using this
      have hp : F j = p := by
        rw [List.getElem?_map, List.getElem?_range hjl] at hj
        simpa using hj
      subst hp
      exact ⟨cells3 (F j), rfl, tri_K.2 rfl, (hF j (by omega)).1⟩
    · intro y hy
      simp only [List.mem_map, List.mem_range] at hy
      obtain ⟨r, hr, rfl⟩ := hy
      exact (hF r (by omega)).2
theorem eq3 (w : World) (d : Nat) (a b c : Int) : (Op.equalIn (d + 2) 25 (.agg #[.int .u32 a, .int .u32 b, .int .u32 c]) (.agg #[.int .u32 a, .int .u32 b, .int .u32 c])).run Try.prog w = .ok true w := by
  have hel : ∀ d x, (Op.equalIn (d+1) 24 (.int .u32 x) (.int .u32 x)).run Try.prog w = .ok true w := fun d x => by
    rw [run_equalIn_int w d 24 .u32 .u32 x x Try.underlying24]; simp
  have hs : (sizeOf 24).run Try.prog w = .ok 1 w := by
    obtain ⟨i, hi, hz⟩ := Option.map_eq_some_iff.1 (show (Try.prog.info? 24).map (fun i => i.size) = some 1 by kernel_rfl)
    simp [sizeOf, typeInfo, hi, hz]
  have hp : ∀ (xs : Array Value) (off : Nat) v, xs[off]? = some v → (part 24 xs off).run Try.prog w = .ok v w := fun xs off v hx => by
    simp [part, isAgg, run_underlying Try.underlying24, hx]
  rw [Op.equalIn]
  simp only [Sem.run_bind, run_underlying Try.underlying25, Result.andThen_ok, hs, Std.Legacy.Range.forIn_eq_forIn_range', Std.Legacy.Range.size, Nat.sub_zero, Nat.add_one_sub_one, Nat.div_one]
  simp [List.range'_succ, Sem.run_bind, hp #[.int .u32 a, .int .u32 b, .int .u32 c] 0 (.int .u32 a) rfl, hp #[.int .u32 a, .int .u32 b, .int .u32 c] 1 (.int .u32 b) rfl, hp #[.int .u32 a, .int .u32 b, .int .u32 c] 2 (.int .u32 c) rfl, hel]
theorem neq3 (w : World) (a b c : Int) : (binOp .neq 25 (.agg #[.int .u32 a, .int .u32 b, .int .u32 c]) (.agg #[.int .u32 a, .int .u32 b, .int .u32 c])).run Try.prog w = .ok (.bool false) w := by
  rw [run_neq_struct, eq3 w 9998]; rfl
set_option maxHeartbeats 4000000 in
set_option maxRecDepth 100000 in
theorem sameTris_calls (A0 A1 : Option Addr) (n c0 c1 : Nat) (ls : List T3) (w : World) (h0 : tri.C w A0 n ls) (h1 : tri.C w A1 n ls) (hn : n ≤ 2147483647) :
    Calls Try.prog 12 #[.slice A0 n c0, .slice A1 n c1] w fun e w' => e = .returned (.bool true) ∧ Drawn0 w w' := by
  have H0 := Aside0.mk h0
  have H1 := Aside0.mk h1
  clear h0 h1
  go_enter Try.func12, Try.ntmps12
  go_wp2_with (fail)
  go_loopg [5, 13] n (fun kq v5 v13 w' => ∃ (j : Nat), j ≤ n ∧ v13 = .int .i64 j ∧ Aside0 (Drawn0 w w') ∧ Aside0 (n - j ≤ kq))
  case atStart => exact ⟨0, by omega, rfl, ⟨Drawn0.refl _⟩, ⟨by omega⟩⟩
  case round =>
    obtain ⟨j, hj, rfl, HD, HK⟩ := hrel
    by_cases cj : j < n
    · have cjb : decide ((j : Int) < n) = true := decide_eq_true (by omega)
      obtain ⟨ad, ead, x0, x1, x2⟩ := at_tri (Kd.C_below H0.out HD.out.below) j cj
      obtain ⟨bd, ebd, z0, z1, z2⟩ := at_tri (Kd.C_below H1.out HD.out.below) j cj
      obtain ⟨y0, hy0⟩ : ∃ y, (rd3 ls j).1 = y := ⟨_, rfl⟩
      obtain ⟨y1, hy1⟩ : ∃ y, (rd3 ls j).2.1 = y := ⟨_, rfl⟩
      obtain ⟨y2, hy2⟩ : ∃ y, (rd3 ls j).2.2 = y := ⟨_, rfl⟩
      rw [hy0] at x0 z0
      rw [hy1] at x1 z1
      rw [hy2] at x2 z2
      clear hy0 hy1 hy2
      subst ead ebd
      have hne := fun W => neq3 W y0 y1 y2
      have qi1 : (j < n) = True := eq_true cj
      have qi2 : ((j : Int) < (n : Int)) = True := eq_true (by omega)
      have qi3 : (0 ≤ (j : Int)) = True := eq_true (by omega)
      go_wp2_with (fail)
      go_quiet (fail)
      go_wp2_with (fail)
      go_roundg (gk - 1)
      case measure => have := HK.out; omega
      case rel => exact ⟨j + 1, by omega, by go_num, ⟨drawnTrans HD.out ⟨⟨_, rfl⟩⟩⟩, ⟨by have := HK.out; omega⟩⟩
    · obtain rfl : j = n := by omega
      have cjb : decide ((j : Int) < j) = false := decide_eq_false (by omega)
      go_wp2_with (fail)
      go_ret
      exact ⟨rfl, HD.out⟩
theorem trisB_getD (ls : List T3) (i : Nat) (hi : i < 12 * ls.length) : rd (trisB ls) (i : Nat) = rd (enLowL 4 [(rd3 ls (i / 12)).1, (rd3 ls (i / 12)).2.1, (rd3 ls (i / 12)).2.2]) (i % 12 : Nat) := by
  induction ls generalizing i with
  | nil => simp at hi
  | cons x xs ih =>
    have e : trisB (x :: xs) = triB x ++ trisB xs := rfl
    rw [e]
    unfold rd at ih ⊢
    simp only [Int.toNat_natCast, List.getD_eq_getElem?_getD] at ih ⊢
    by_cases h : i < 12
    · rw [List.getElem?_append_left (by rw [triB_length]; exact h), Nat.div_eq_of_lt h, Nat.mod_eq_of_lt h]
      rfl
    · rw [List.getElem?_append_right (by rw [triB_length]; omega), triB_length]
      rw [List.length_cons] at hi
      rw [ih (i - 12) (by omega)]
      have e1 : i / 12 = (i - 12) / 12 + 1 := by omega
      have e2 : (i - 12) % 12 = i % 12 := by omega
      rw [e1, e2]
      simp [rd3]
theorem wd4_tris (ls : List T3) (j k : Nat) (hj : j < ls.length) (hk : k < 3) (y : Int) (hy : [(rd3 ls j).1, (rd3 ls j).2.1, (rd3 ls j).2.2].getD k 0 = y) (h0 : 0 ≤ y) (h1 : y < 4294967296) : wd4 (trisB ls) (3 * j + k) = y := by
  have g : ∀ c : Nat, c < 4 → rd (trisB ls) ((4 * (3 * j + k) + c : Nat)) = y / 256 ^ c % 256 := fun c hc => by
    rw [trisB_getD ls _ (by omega), show (4 * (3 * j + k) + c) / 12 = j by omega, show (4 * (3 * j + k) + c) % 12 = 4 * k + c by omega]
    rw [rd_enLowL 4 (by omega) _ _ (by simp; omega), show (4 * k + c) / 4 = k by omega, show (4 * k + c) % 4 = c by omega]
    have : rd [(rd3 ls j).1, (rd3 ls j).2.1, (rd3 ls j).2.2] (k : Nat) = y := by
      unfold rd; rw [Int.toNat_natCast]; exact hy
    rw [this]
  have g0 := g 0 (by omega)
  have g1 := g 1 (by omega)
  have g2 := g 2 (by omega)
  have g3 := g 3 (by omega)
  rw [wd4_rd]
  have := le4_bytes y h0 h1
  simp only [Nat.add_zero] at g0
  rw [g0, g1, g2, g3]
  simpa using this
theorem decs3_tris (ls : List T3) (n : Nat) (hn : ls.length = n) (hu : u96L ls) : decs3 (trisB ls) n = ls := by
  apply List.ext_getElem
  · rw [decs3_length, hn]
  · intro j h1 h2
    have hb := hu _ (rd3_mem h2)
    have e : rd3 ls j = ls[j] := by simp [rd3, List.getD_eq_getElem?_getD, h2]
    have w0 := wd4_tris ls j 0 h2 (by omega) _ rfl hb.1.1 hb.1.2
    have w1 := wd4_tris ls j 1 h2 (by omega) _ rfl hb.2.1.1 hb.2.1.2
    have w2 := wd4_tris ls j 2 h2 (by omega) _ rfl hb.2.2.1 hb.2.2.2
    simp only [decs3, List.getElem_map, List.getElem_range, dec3]
    rw [← e]
    simp only [Nat.add_zero] at w0
    rw [w0, w1, w2]
    rfl
theorem trisB_bytes (ls : List T3) : bytesB (trisB ls) = true := by
  apply bytesB_of
  intro x hx
  simp only [trisB, List.mem_flatMap, triB] at hx
  obtain ⟨y, _, hx⟩ := hx
  simp only [enLowL, List.mem_flatMap, lowL, List.mem_map] at hx
  obtain ⟨z, _, i, _, rfl⟩ := hx
  exact ⟨Int.emod_nonneg _ (by decide), Int.emod_lt_of_pos _ (by decide)⟩
set_option maxHeartbeats 8000000 in
set_option maxRecDepth 100000 in
theorem plainInt96sLaw (a0 : Option Addr) (len0 cap0 : Nat) (z0 : List T3) (W : World) (w0 : IsTris W a0 len0 cap0 z0) :
    Calls Try.prog 3 #[.slice a0 len0 cap0] W fun e w' => e = .returned (.bool true) ∧ Below W.heap.size W w' := by
  have hc := w0.le
  have HLN : Aside0 (z0.length = len0) := ⟨w0.C.1⟩
  have HC := Aside0.mk w0.C
  have HU : Aside0 (u96L z0) := ⟨fun x hx => ⟨u32_of_wf (w0.wf x hx).1, u32_of_wf (w0.wf x hx).2.1, u32_of_wf (w0.wf x hx).2.2⟩⟩
  clear w0
  by_cases h1 : 2147483647 < len0
  · have q1 : decide (2147483647 < (len0 : Int)) = true := decide_eq_true (by omega)
    go_enter Try.func3, Try.ntmps3
    go_wp2
    go_ret
    exact ⟨rfl, Below.refl _ _⟩
  have q1 : decide (2147483647 < (len0 : Int)) = false := decide_eq_false (by omega)
  by_cases h2 : 100000 < len0
  · have q2 : decide (100000 < (len0 : Int)) = true := decide_eq_true (by omega)
    go_enter Try.func3, Try.ntmps3
    go_wp2
    go_ret
    exact ⟨rfl, Below.refl _ _⟩
  have q2 : decide (100000 < (len0 : Int)) = false := decide_eq_false (by omega)
  go_enter Try.func3, Try.ntmps3
  go_wp2_with (fail)
  go_loopg [3, 18] len0 (fun kq v3 v18 w' => ∃ (j : Nat), j ≤ len0 ∧ v18 = .int .i64 j ∧ Aside0 (Own w' W.heap.size 5 .u8 v3 (trisB (z0.take j))) ∧ Aside0 (Below W.heap.size W w') ∧ Aside0 (len0 - j ≤ kq))
  case atStart => exact ⟨0, by omega, rfl, ⟨Own.nil _ _ _ _⟩, ⟨Below.refl _ _⟩, ⟨by omega⟩⟩
  case round =>
    obtain ⟨j, hj, rfl, HO, HB, HK⟩ := hrel
    by_cases cj : j < len0
    · have cjb : decide ((j : Int) < len0) = true := decide_eq_true (by omega)
      obtain ⟨ad, ead, x0, x1, x2⟩ := at_tri (Kd.C_below HC.out HB.out) j cj
      have HUJ := Aside0.mk (HU.out _ (rd3_mem (by rw [HLN.out]; exact cj)))
      obtain ⟨y0, hy0⟩ : ∃ y, (rd3 z0 j).1 = y := ⟨_, rfl⟩
      obtain ⟨y1, hy1⟩ : ∃ y, (rd3 z0 j).2.1 = y := ⟨_, rfl⟩
      obtain ⟨y2, hy2⟩ : ∃ y, (rd3 z0 j).2.2 = y := ⟨_, rfl⟩
      rw [hy0] at x0 HUJ
      rw [hy1] at x1 HUJ
      rw [hy2] at x2 HUJ
      have HT := Aside0.mk (trisB_take z0 j (by rw [HLN.out]; exact cj))
      rw [show rd3 z0 j = (y0, y1, y2) by rw [← hy0, ← hy1, ← hy2]] at HT
      have HTL : Aside0 ((trisB (z0.take j)).length ≤ 1200000) := ⟨by rw [trisB_length, List.length_take]; omega⟩
      have HU3 : Aside0 (u32L [y0, y1, y2]) := ⟨by
        intro x hx
        simp only [List.mem_cons, List.not_mem_nil, or_false] at hx
        rcases hx with rfl | rfl | rfl
        · exact HUJ.out.1
        · exact HUJ.out.2.1
        · exact HUJ.out.2.2⟩
      have HWF3 : Aside0 (∀ x ∈ [y0, y1, y2], (Lit.int .u32 x).wf = true) := ⟨fun x hx => by have := HU3.out x hx; unfold u32B at this; simp [Lit.wf, IntKind.min, IntKind.max, IntKind.signed, IntKind.bits]; omega⟩
      obtain ⟨wa, hwa⟩ : ∃ wa, wr.alloc (.cells #[.int .u32 y0, .int .u32 y1, .int .u32 y2] 25) = wa := ⟨_, rfl⟩
      have HRA : Aside0 ((Kd.int .u32).C wa (some ⟨wr.heap.size, 0, none⟩) 3 [y0, y1, y2]) := ⟨by rw [← hwa]; exact rowC (t := 25) ⟨Blk.new wr #[.int .u32 y0, .int .u32 y1, .int .u32 y2] 25⟩ rfl (by omega)⟩
      have HOA : Aside0 (Own wa W.heap.size 5 .u8 u3 (trisB (z0.take j))) := ⟨by rw [← hwa]; exact HO.out.alloc _⟩
      have HBA : Aside0 (Below W.heap.size W wa) := ⟨by rw [← hwa]; exact HB.out.alloc HB.out.size _⟩
      have HWI : Aside0 (Calls Try.prog 8 #[.int .i64 32, .slice (some ⟨wr.heap.size, 0, none⟩) 3 3] wa fun e w' => ∃ v, e = .returned v ∧ Own w' wa.heap.size 47 .u64 v [y0, y1, y2] ∧ Below wa.heap.size wa w') := ⟨by
        have := wide_uint32_calls (some ⟨wr.heap.size, 0, none⟩) 3 3 [y0, y1, y2] wa HRA.out (by omega) (by omega) HWF3.out
        rw [wide32_u32 HU3.out] at this
        exact this⟩
      have HEN : Aside0 (∀ (A1 : Option Addr) (c1 : Nat) (w1 : World), (Kd.int .u64).C w1 A1 3 [y0, y1, y2] → 3 ≤ c1 → Calls Try.prog 7 #[.int .i64 4, .slice A1 3 c1] w1 fun e w' => ∃ v, e = .returned v ∧ Own w' w1.heap.size 5 .u8 v (triB (y0, y1, y2)) ∧ Below w1.heap.size w1 w') :=
        ⟨fun A1 c1 w1 h h' => enLow_calls 4 A1 3 c1 [y0, y1, y2] (by omega) w1 h h' (by omega) (fun x hx => by have := HU3.out x hx; unfold u32B at this; unfold u64B; omega)⟩
      clear hy0 hy1 hy2
      subst ead
      go_wp2_with (first
        | (go_at_call 8; (with_reducible refine HWI.out.mono ?_); rintro e w1 ⟨v1, rfl, ho, hb⟩; obtain ⟨A1, c1, rfl, hc1, hr1⟩ := ho.read; simp only [List.length_cons, List.length_nil, Nat.zero_add, Nat.reduceAdd] at hc1 hr1; simp only [List.length_cons, List.length_nil, Nat.zero_add, Nat.reduceAdd]; have HR1 := Aside0.mk hr1; have HO1 : Aside0 (Own w1 W.heap.size 5 .u8 u3 (trisB (z0.take j))) := ⟨HOA.out.below hb⟩; have HB1 := Aside0.mk (HBA.out.trans (hb.mono HBA.out.size)); clear ho hb hr1)
        | (go_at_call 7; (with_reducible refine (HEN.out A1 c1 w1 HR1.out hc1).mono ?_); rintro e w2 ⟨v2, rfl, ho, hb⟩; obtain ⟨A2, c2, rfl, hc2, hr2⟩ := ho.read; rw [triB_length] at hc2 hr2; rw [triB_length]; have HR2 := Aside0.mk hr2; have HO2 : Aside0 (Own w2 W.heap.size 5 .u8 u3 (trisB (z0.take j))) := ⟨HO1.out.below hb⟩; have HB2 := Aside0.mk (HB1.out.trans (hb.mono HB1.out.size)); clear ho hb hr2)
        | (at_builtin; refine appendRead (w0 := W) W.heap.size rfl (.tmp 22) (.tmp 25) 23 5 .u8 1 rfl Try.underlying23 infoU8 (by decide) _ (trisB (z0.take j)) A2 12 c2 (triB (y0, y1, y2)) rfl rfl HO2.out HB2.out HB2.out.size HR2.out ?hl ?_; (case hl => have := HTL.out; omega); intro v3 w3 ho hb hg; have HO3 := Aside0.mk ho; have HB3 := Aside0.mk hb; clear ho hb hg))
      go_roundg (gk - 1)
      case measure => have := HK.out; omega
      case rel => exact ⟨j + 1, by omega, by go_num, ⟨by rw [HT.out]; exact HO3.out⟩, HB3, ⟨by have := HK.out; omega⟩⟩
    · obtain rfl : j = len0 := by omega
      have cjb : decide ((j : Int) < j) = false := decide_eq_false (by omega)
      have HTA : Aside0 (trisB (z0.take j) = trisB z0) := ⟨by rw [← HLN.out, List.take_length]⟩
      rw [HTA.out] at HO
      obtain ⟨N, hN⟩ : ∃ N, 12 * j = N := ⟨_, rfl⟩
      have HN : Aside0 (N = 12 * j) := ⟨hN.symm⟩
      have HXL : Aside0 ((trisB z0).length = N) := ⟨by rw [trisB_length, HLN.out, hN]⟩
      obtain ⟨A3, c3, rfl, hc3, hr3⟩ := HO.out.read
      rw [HXL.out] at hc3 hr3 ⊢
      have HR3 := Aside0.mk hr3
      have HXS : Aside0 (decs3 (trisB z0) j = z0) := ⟨decs3_tris z0 j HLN.out HU.out⟩
      have HXB : Aside0 (bytesB (trisB z0) = true) := ⟨trisB_bytes z0⟩
      obtain ⟨X, hX⟩ : ∃ X, trisB z0 = X := ⟨_, rfl⟩
      have HXQ := Aside0.mk hX
      rw [hX] at HXL HXS HXB HR3
      clear hN hr3 hX HTA
      go_wp2_with (first
        | (go_at_call 9; (with_reducible refine (encodeInt96s_calls a0 j cap0 z0 wr (Kd.C_below HC.out HB.out) hc (by omega) HU.out).mono ?_); rintro e w4 ⟨v4, rfl, ho, hb⟩; rw [HXQ.out] at ho; obtain ⟨A4, c4, rfl, hc4, hr4⟩ := ho.read; rw [HXL.out] at hc4 hr4; rw [HXL.out]; have HR4 := Aside0.mk hr4; have HR34 := Aside0.mk (Kd.C_below HR3.out hb); have HB4 := Aside0.mk (HB.out.trans (hb.mono HB.out.size)); clear ho hb hr4)
        | (go_at_call 10; (with_reducible refine (decodeInt96s_calls A3 N c3 j X w4 HR34.out hc3 HN.out (by omega) HXB.out).mono ?_); rintro e w5 ⟨v5, rfl, ho, hb⟩; rw [HXS.out] at ho; obtain ⟨A5, c5, rfl, hc5, hr5⟩ := ho.read; rw [HLN.out] at hc5 hr5; rw [HLN.out]; have HR5 := Aside0.mk hr5; have HR35 := Aside0.mk (Kd.C_below HR34.out hb); have HR45 := Aside0.mk (Kd.C_below HR4.out hb); have HB5 := Aside0.mk (HB4.out.trans (hb.mono HB4.out.size)); clear ho hb hr5)
        | (go_at_call 11; (with_reducible refine (enBytes_calls A4 A3 N c4 c3 X w5 HR45.out HR35.out).mono ?_); rintro e w6 ⟨rfl, ⟨nd, rfl⟩⟩; have HB6 := Aside0.mk (HB5.out.trans ((drewN_below w5 nd).mono HB5.out.size)))
        | (go_at_call 12; (with_reducible refine (sameTris_calls A5 a0 j c5 cap0 z0 _ (Kd.C_drewN HR5.out _) (Kd.C_below HC.out HB6.out) (by omega)).mono ?_); rintro e w7 ⟨rfl, ⟨nd2, rfl⟩⟩; have HB7 := Aside0.mk (HB6.out.trans ((drewN_below _ nd2).mono HB6.out.size))))
      go_ret
      exact ⟨rfl, by have := HB7.out; rw [World.drewN_drewN] at this; exact this⟩
end Go.Proofs.Ytkefklemcoehmaa.Ltr
