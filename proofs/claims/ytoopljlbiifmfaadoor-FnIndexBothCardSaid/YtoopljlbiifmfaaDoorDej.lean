import Derived.Test.YtoopljlbiifmfaaDoorDei
/-! Numbers of 32 bits in runs: the decoder's walk, whole. -/
namespace Go.Proofs.YtoopljlbiifmfaaDoor.Dej
open Go.Proofs.YtoopljlbiifmfaaDoor.Dei Go.Proofs.YtoopljlbiifmfaaDoor.Uni Go.Proofs.YtoopljlbiifmfaaDoor.Dec Go.Proofs.YtoopljlbiifmfaaDoor.Uva Go.Proofs.YtoopljlbiifmfaaDoor.Rle Go.Proofs.YtoopljlbiifmfaaDoor.Run Go.Proofs.YtoopljlbiifmfaaDoor.Rlp Go.Proofs.YtoopljlbiifmfaaDoor.Rlb Go.Proofs.YtoopljlbiifmfaaDoor.Buf Go.Proofs.YtoopljlbiifmfaaDoor.Fit Go.Proofs.YtoopljlbiifmfaaDoor.Bit Go.Proofs.YtoopljlbiifmfaaDoor.Wrd Go.Proofs.YtoopljlbiifmfaaDoor.Spl Go.Proofs.YtoopljlbiifmfaaDoor.Str Go.Proofs.YtoopljlbiifmfaaDoor.Flt Go.Proofs.YtoopljlbiifmfaaDoor.Owe Go.Proofs.YtoopljlbiifmfaaDoor.Num Go.Proofs.YtoopljlbiifmfaaDoor.Le Go.Proofs.YtoopljlbiifmfaaDoor.Lst Go.Proofs.YtoopljlbiifmfaaDoor.Aid Go.RowKit Go.Proofs.YtoopljlbiifmfaaDoorW.PrintWords Go.Proofs.YtoopljlbiifmfaaDoorW.PrintLast Go.Proofs.YtoopljlbiifmfaaDoorW.PrintMore
set_option linter.unusedVariables false
set_option linter.unusedSimpArgs false
theorem _root_.Go.Proofs.YtoopljlbiifmfaaDoor.Dei.RowN.below {w w' : World} {g M B : Nat} (h : RowN w g M) (hb : Below B w w') (hg : g < B) : RowN w' g M := by
  obtain ⟨zs, hr, hl⟩ := h.out
  exact ⟨zs, hr.below hb hg, hl⟩
theorem _root_.Go.Proofs.YtoopljlbiifmfaaDoor.Dei.RowN.grown {w w' : World} {g M : Nat} {row : Option Nat} (h : RowN w g M) (hg : w.grownBy w' row) (hne : some g ≠ row) : RowN w' g M := by
  obtain ⟨zs, hr, hl⟩ := h.out
  exact ⟨zs, hr.grown hg hne, hl⟩
theorem _root_.Go.Proofs.YtoopljlbiifmfaaDoor.Dei.RowN.drewN {w : World} {g M : Nat} (h : RowN w g M) (n : Nat) : RowN (w.drewN n) g M := by
  obtain ⟨zs, hr, hl⟩ := h.out
  exact ⟨zs, hr.drewN n, hl⟩
theorem _root_.Go.Proofs.YtoopljlbiifmfaaDoor.Dei.RowN.lt {w : World} {g M : Nat} (h : RowN w g M) : g < w.heap.size := by
  obtain ⟨zs, hr, hl⟩ := h.out
  exact hr.lt
theorem _root_.Go.Proofs.YtoopljlbiifmfaaDoor.Dei.RowN.ne_own {w : World} {g M base : Nat} {v : Value} {xs : List Int} (h : RowN w g M) (ho : Own w base 21 .i32 v xs) : some g ≠ v.ownBlock := by
  obtain ⟨zs, hr, hl⟩ := h.out
  exact own_ne_row ho hr tne8
theorem _root_.Go.Proofs.YtoopljlbiifmfaaDoor.Dei.RowN.ne_front {w : World} {g M gd C : Nat} {xs : List Int} (h : RowN w g M) (ho : Front w gd C 21 .i32 xs) : gd ≠ g := by
  obtain ⟨zs, hr, hl⟩ := h.out
  exact front_ne_row ho hr tne8
theorem grownRow (w : World) (g : Nat) (cs : Array Value) : w.grownBy (w.setRow g cs) (some g) :=
  ⟨rfl, rfl, rfl, by simp [World.setRow], fun k _ hk => setRow_other w g k cs (fun e => hk (by rw [e]))⟩
section
variable {P : Program} {ops : Array Oper} {rest : List Oper} {o : Oper} {a : Act} {Q : Exit → Act → World → Prop} {w : World}
theorem wpList_copy_row (hgd : o.guard = none) (d s : Operand) (dT sT : TypeId)
    (ho : o.op = .call { callee := .builtin .copy, args := #[d, s], argTypes := #[dT, sT] }) (elem : TypeId) (hu : P.underlying dT = some (.slice elem)) (hsz : (P.info? elem).map (·.size) = some 1)
    (g n C : Nat) (ad : Addr) (sLen sCap : Nat) (hd : a.eval d = .slice (some ⟨g, 0, none⟩) n C) (hs : a.eval s = .slice (some ad) sLen sCap)
    (t : Nat) (k : IntKind) (ys xs : List Int) (hR : Row w g t k ys) (hn : xs.length = Nat.min sLen n) (hsrc : ∀ j v, (nums k xs)[j]? = some v → w.cell? (ad.add j) = some v) (hfit : xs.length ≤ ys.length)
    (h : ∀ w1, Row w1 g t k (xs ++ ys.drop xs.length) → w.grownBy w1 (some g) → wpList P ops Q rest (a.put o.dst (goInt (nums k xs).length)) w1) :
    wpList P ops Q (o :: rest) a w := by
  refine wpList_copy_own hgd d s dT sT ho elem hu hsz g 0 n C ad sLen sCap hd hs (nums k ys).toArray t hR.out.out (nums k xs) (by simpa [nums] using hn) hsrc (by simpa [nums] using hfit) (nums_one _ _) ?_
  refine h _ ⟨⟨?_⟩⟩ (grownRow _ _ _)
  have e : ((nums k ys).toArray.toList.take 0 ++ (nums k xs ++ (nums k ys).toArray.toList.drop (0 + (nums k xs).length))) = nums k (xs ++ ys.drop xs.length) := by simp [nums, List.map_drop]
  rw [e]
  exact setRow_heap w g _ _ t _ hR.out.out
end
theorem resizeRN_calls (base gb n C : Nat) (size : Nat) (w : World) (hR : RowN w gb C) (hn : n ≤ C) (hC9 : C ≤ 4294967296) (hbg : base ≤ gb) (hs0 : 0 < size) (hs9 : size ≤ 1073741824) :
    Calls Tryd.prog 83 #[.slice (some ⟨gb, 0, none⟩) n C, .int .i64 ((size : Nat) : Int)] w fun e w' => ∃ g M, e = .returned (.slice (some ⟨g, 0, none⟩) size M) ∧ RowN w' g M ∧ size ≤ M ∧ M ≤ 4294967296 ∧ base ≤ g ∧ Below w.heap.size w w' := by
  obtain ⟨ys, hr, hl⟩ := hR.out
  exact resizeR_calls base gb n C ys size w hr hl hn hC9 hbg hs0 hs9
theorem hyb_app (w : Nat) (a c : List R) : hyb w (a ++ c) = hyb w a ++ hyb w c := by simp [hyb]
theorem hybV_app (a c : List R) : hybV (a ++ c) = hybV a ++ hybV c := by simp [hybV]
theorem le4_lowA (sz v : Nat) (h4 : sz ≤ 4) (hv : v < 256 ^ sz) : le4L (lowL sz (v : Int) ++ List.replicate (4 - sz) 0) = (v : Int) := by
  by_cases h : 1 ≤ sz
  · exact le4_low sz v h h4 hv
  · obtain rfl : sz = 0 := by omega
    obtain rfl : v = 0 := by simpa using hv
    rfl
set_option maxHeartbeats 16000000 in
set_option maxRecDepth 100000 in
theorem decodeInt32A_calls (A : Option Addr) (N c : Nat) (b : Nat) (bs : List Int) (rs : List R) (w : World) (hC : (Kd.int .u8).C w A N bs) (hb : bs = hyb b rs) (hc : N ≤ c) (hc9 : c ≤ 9223372036854775807) (hn : N ≤ 2000000) (hw1 : 1 ≤ b ∨ ∀ r ∈ rs, ∃ v k, r = R.rep v k) (hw8 : b ≤ 32) (hok : hybOk b rs) (hV : (hybV rs).length ≤ 1000000) :
    Calls Tryd.prog 66 #[.slice none 0 0, .slice A N c, .int .u64 b] w fun e w' => ∃ v, e = .returned (.tuple #[v, .nilIface]) ∧ Own w' w.heap.size 21 .i32 v (i32L (hybV rs)) ∧ Below w.heap.size w w' := by
  have HLN : Aside0 (bs.length = N) := ⟨hC.1⟩
  have HC := Aside0.mk hC
  have HBB := Aside0.mk hb
  have HOK := Aside0.mk hok
  have HW1 := Aside0.mk hw1
  clear hw1
  have HVL := Aside0.mk hV
  have qw8 : decide (32 < (b : Int)) = false := decide_eq_false (by omega)
  have qw82 : decide (32 < b) = false := decide_eq_false (by omega)
  obtain ⟨i8, h8⟩ := h8
  obtain ⟨i32, h32⟩ : ∃ i, (Tryd.prog.info? 21) = some i ∧ i.size = 1 := Option.map_eq_some_iff.1 (show (Tryd.prog.info? 21).map (fun i => i.size) = some 1 by kernel_rfl)
  have hmk : ∀ W : World, (Instr.makeSlice 25 (.int .i64 (32 : Int)) (.int .i64 (32 : Int))).run Tryd.prog W = .ok (.slice (some ⟨W.heap.size, 0, none⟩) 32 32) (W.alloc (.cells (madeCells #[.int .u8 0] 32) 5)) := make1 (P := Tryd.prog) 25 5 (.int .u8 0) 1 Tryd.underlying25 infoU8 rfl 32 32 (Nat.le_refl _) (by omega) (by omega)
  clear hC hb hok hV
  go_enter Tryd.func66, Tryd.ntmps66
  go_wp2_with (fail)
  have HO0 : Aside0 (Own (w.alloc (.cells (madeCells #[.int .u8 0] 32) 5)) w.heap.size 21 .i32 (.slice none 0 0) (i32L (hybV []))) := ⟨Own.nil _ _ _ _⟩
  have HB0 : Aside0 (Below w.heap.size w (w.alloc (.cells (madeCells #[.int .u8 0] 32) 5))) := ⟨(Below.refl _ _).alloc (Nat.le_refl _) _⟩
  have HR0 : Aside0 (RowN (w.alloc (.cells (madeCells #[.int .u8 0] 32) 5)) w.heap.size 32) := ⟨⟨_, madeRow w 5 .u8 32, by simp⟩⟩
  generalize w.alloc (.cells (madeCells #[.int .u8 0] 32) 5) = wm at *
  clear hmk
  go_loopg [0, 8, 9] rs.length (fun kq v0 v8 v9 w' => ∃ (ra rb : List R) (i gb nb Cb : Nat), Aside0 (rs = ra ++ rb) ∧ v9 = .int .i64 i ∧ v8 = .slice (some ⟨gb, 0, none⟩) nb Cb ∧ nb ≤ Cb ∧ Cb ≤ 4294967296 ∧ w.heap.size ≤ gb ∧ Aside0 ((hyb b ra).length = i) ∧ Aside0 (Own w' w.heap.size 21 .i32 v0 (i32L (hybV ra))) ∧ Aside0 (Below w.heap.size w w') ∧ Aside0 (RowN w' gb Cb) ∧ Aside0 (rb.length ≤ kq))
  case atStart => exact ⟨[], rs, 0, w.heap.size, 32, 32, ⟨rfl⟩, rfl, rfl, by omega, by omega, by omega, ⟨rfl⟩, HO0, HB0, HR0, ⟨Nat.le_refl _⟩⟩
  case round =>
    clear HO0 HB0 HR0
    obtain ⟨ra, rb, i, gb, nb, Cb, HR, rfl, rfl, hnb, hCb, hgb, HI, HO, HB, HRN, HK⟩ := hrel
    have hvl : (hybV ra).length + (hybV rb).length ≤ 1000000 := by
      have h := HVL.out
      rw [HR.out, hybV_app, List.length_append] at h; exact h
    cases rb with
    | nil =>
      have hiN : i = N := by
        have h := HLN.out
        rw [HBB.out, HR.out, List.append_nil, HI.out] at h; exact h
      subst hiN
      have cib : decide ((i : Int) < i) = false := decide_eq_false (by omega)
      go_wp2_with (fail)
      go_ret2
      refine ⟨_, rfl, ?_, HB.out⟩
      rw [HR.out, List.append_nil]; exact HO.out
    | cons r rb =>
      have hdr : bs.drop i = r.bytes b ++ hyb b rb := by
        rw [HBB.out, HR.out, hyb_app, List.drop_left' HI.out]; rfl
      have hrok : r.ok b := HOK.out r (by rw [HR.out]; simp)
      have hlen : i + ((r.bytes b).length + (hyb b rb).length) = N := by
        have h := HLN.out
        rw [HBB.out, HR.out, hyb_app, List.length_append, HI.out] at h
        have h2 : hyb b (r :: rb) = r.bytes b ++ hyb b rb := rfl
        rw [h2, List.length_append] at h; exact h
      have hvc : (hybV (r :: rb)).length = r.vals.length + (hybV rb).length := by
        have h2 : hybV (r :: rb) = r.vals ++ hybV rb := rfl
        rw [h2, List.length_append]
      rw [hvc] at hvl
      have HRS2 : Aside0 (rs = ra ++ [r] ++ rb) := ⟨by rw [HR.out]; simp⟩
      have hCr := Kd.C_below HC.out HB.out
      obtain ⟨A1, cut1, hC1⟩ := cutLo (P := Tryd.prog) 25 5 Tryd.underlying25 h8.1 h8.2 A N c .i64 (i : Int) i rfl (by omega) hc
      have hCd := hC1 (Kd.int .u8) wr bs rfl hCr
      obtain ⟨A0, c0, rfl, hc0, _⟩ := HO.out.read
      obtain ⟨n0, hn0⟩ : ∃ n0, (hybV ra).length = n0 := ⟨_, rfl⟩
      have HN0 := Aside0.mk hn0
      have HRL := Aside0.mk HRN.out.lt
      have HKr := Aside0.mk (show rb.length + 1 ≤ gk from HK.out)
      cases r with
      | rep v k =>
        obtain ⟨hk0, hvb⟩ := hrok
        have hby : (R.rep v k).bytes b = varL (2 * k) ++ lowL ((b + 7) / 8) (v : Int) := rfl
        have hvk : (R.rep v k).vals.length = k := by simp [R.vals]
        have hpw := pow_ceil v b hvb
        obtain ⟨sz, hsz⟩ : ∃ sz, (b + 7) / 8 = sz := ⟨_, rfl⟩
        have hsz4 : sz ≤ 4 := by omega
        rw [hsz] at hby hpw
        have HBC := Aside0.mk fun W => byteCount_calls b W (by omega)
        rw [hsz] at HBC
        rw [hvk] at hvl
        rw [hby, List.append_assoc] at hdr
        rw [hby, List.length_append, lowL_length] at hlen
        obtain ⟨x, hx⟩ : ∃ x, 2 * k = x := ⟨_, rfl⟩
        rw [hx] at hdr hlen
        have HUV := Aside0.mk (uvarint_calls A1 (N - i) (c - i) (bs.drop i) (lowL sz (v : Int) ++ hyb b rb) x wr hCd (by omega) (by omega) hdr (by omega))
        have hL5 := varL_len5 x (by omega)
        have hL0 := varL_pos x
        obtain ⟨L, hL⟩ : ∃ L, (varL x).length = L := ⟨_, rfl⟩
        rw [hL] at HUV hL5 hL0 hlen
        obtain ⟨J, hJ⟩ : ∃ J, i + L = J := ⟨_, rfl⟩
        have hJI : (i : Int) + (L : Int) = (J : Int) := by omega
        obtain ⟨Y, hY⟩ : ∃ Y, J + sz = Y := ⟨_, rfl⟩
        have hYI : (J : Int) + (sz : Int) = (Y : Int) := by omega
        have hmid : (bs.take Y).drop J = lowL sz (v : Int) := by
          rw [List.drop_take, show Y - J = sz by omega, ← hJ, ← List.drop_drop, hdr, List.drop_left' hL, List.take_left' (lowL_length _ _)]
        obtain ⟨A2, cut3, hC3⟩ := cutMid (P := Tryd.prog) 25 5 Tryd.underlying25 h8.1 h8.2 A N c .i64 .i64 (J : Int) (Y : Int) J Y rfl rfl (by omega) (by omega) hc
        rw [show Y - J = sz by omega] at cut3 hC3
        have HC3 : Aside0 (∀ W, (Kd.int .u8).C W A N bs → (Kd.int .u8).C W A2 sz (lowL sz (v : Int))) := ⟨fun W h => by rw [← hmid]; exact hC3 _ W bs rfl h⟩
        have qi : decide ((i : Int) < (N : Int)) = true := decide_eq_true (by omega)
        have qL0 : ((L : Int) == 0) = false := by rw [beq_eq_false_iff_ne]; omega
        have qLn : decide ((L : Int) < 0) = false := decide_eq_false (by omega)
        have hx2 : (x : Int) / 2 = (k : Int) := by omega
        have hxm : (x : Int) % 2 = 0 := by omega
        have qand : bits .and .u64 (x : Int) 1 = 0 := by
          rw [show (1 : Int) = ((2 ^ 1 - 1 : Nat) : Int) by decide, and64 x 1 (by omega) (by omega)]; omega
        have qk0 : ((k : Int) == 0) = false := by rw [beq_eq_false_iff_ne]; omega
        have qk9 : decide (2147483647 < (k : Int)) = false := decide_eq_false (by omega)
        have qk92 : decide (2147483647 < k) = false := decide_eq_false (by omega)
        have qYN : decide ((N : Int) < (Y : Int)) = false := decide_eq_false (by omega)
        have hkn : n0 + k ≤ 1000000 := by omega
        have HX := Aside0.mk hx
        have HHD := Aside0.mk hby
        have HLL := Aside0.mk hL
        have HPW := Aside0.mk hpw
        clear hdr hCr hC1 hCd hn0 hx hL hby hvk hmid hC3 hvb hpw hsz
        go_wp2_with (first
          | (go_at_call 80; (with_reducible refine HUV.out.mono ?_); rintro e w1 ⟨rfl, rfl⟩)
          | (go_at_call 82; (with_reducible refine (HBC.out _).mono ?_); rintro e w1 ⟨rfl, rfl⟩))
        have HZA : Aside0 (Row (wr.alloc (Obj.cells #[.int .u8 0, .int .u8 0, .int .u8 0, .int .u8 0] 112)) wr.heap.size 112 .u8 (List.replicate 4 0)) := ⟨⟨Blk.new wr _ _⟩⟩
        have HBA : Aside0 (Below wr.heap.size wr (wr.alloc (Obj.cells #[.int .u8 0, .int .u8 0, .int .u8 0, .int .u8 0] 112))) := ⟨(Below.refl _ _).alloc (Nat.le_refl _) _⟩
        generalize wr.alloc (Obj.cells #[.int .u8 0, .int .u8 0, .int .u8 0, .int .u8 0] 112) = wa at *
        obtain ⟨g4, hg4⟩ : ∃ g4, wr.heap.size = g4 := ⟨_, rfl⟩
        have HG4 := Aside0.mk hg4
        rw [hg4] at HZA HBA HRL ⊢
        have HBW : Aside0 (Below w.heap.size w wa) := ⟨HB.out.trans (HBA.out.mono (by rw [← hg4]; exact HB.out.size))⟩
        clear hg4
        refine region_tail 5 (by kernel_rfl) (by kernel_rfl) ?_
        simp only [List.take_succ_cons, List.take_zero, List.drop_succ_cons, List.drop_zero]
        repeat (quiet_step ((fail)))
        refine wpQuiet_nil ?_
        rintro _ ⟨nq, rfl⟩
        refine wpList_copy_splice ?hgd (.tmp 119) (.tmp 123) 25 25 ?ho0 5 Tryd.underlying25 ?h1 (some ⟨g4, 0, none⟩) A2 4 4 sz (c - J) ?hd ?hs g4 0 (nums .u8 (List.replicate 4 0)) 112 (HZA.out.drewN nq).out.out (nums .u8 (lowL sz (v : Int))) ?hn ?hp ?hf ?ho g4 wr (HBA.out.trans ((drewN_below wa nq).mono (by have := HBA.out.size; have := HG4.out; omega))) (Nat.le_refl _) ?_
        case hgd => rfl
        case ho0 => rfl
        case h1 => kernel_rfl
        case hd => rfl
        case hs => rfl
        case hn => rw [show (nums .u8 (lowL sz (v : Int))).length = sz by unfold nums; rw [List.length_map, lowL_length]]; exact (Nat.min_eq_left hsz4).symm
        case hp => exact fun hpos => ⟨rfl, copySrc (HC3.out _ (Kd.C_below HC.out (HBW.out.trans ((drewN_below wa nq).mono HBW.out.size)))) (by simpa [nums] using hpos)⟩
        case hf => rw [show (nums .u8 (lowL sz (v : Int))).length = sz by unfold nums; rw [List.length_map, lowL_length]]; simp [nums]; omega
        case ho => exact nums_one _ _
        intro w2 hw2 hb2
        have HY2 : Aside0 (Row w2 g4 112 .u8 (lowL sz (v : Int) ++ List.replicate (4 - sz) 0)) := ⟨by
          have h := rowSplice hw2
          rw [lowL_length] at h; exact h⟩
        have hyl : (lowL sz (v : Int) ++ List.replicate (4 - sz) 0).length = 4 := by rw [List.length_append, lowL_length, List.length_replicate]; omega
        have hyb : bytesB (lowL sz (v : Int) ++ List.replicate (4 - sz) 0) = true := bytesB_of fun x hx => by
          rcases List.mem_append.1 hx with h | h
          · simp only [lowL, List.mem_map] at h
            obtain ⟨i, _, rfl⟩ := h
            exact ⟨by omega, by omega⟩
          · have := List.eq_of_mem_replicate h
            rw [this]; unfold byt; omega
        have HLE := Aside0.mk (pqrle_leUint32.calls' (some ⟨g4, 0, none⟩) 4 4 _ w2 (rowC HY2.out hyl (by omega)) (by omega) (by omega) hyb)
        rw [le4_lowA sz v hsz4 HPW.out] at HLE
        have hb2w : Below wr.heap.size wr w2 := by rw [HG4.out]; exact hb2
        have HO2 := Aside0.mk (HO.out.below hb2w)
        have HBW2 := Aside0.mk (HB.out.trans (hb2w.mono HB.out.size))
        have HR2 := Aside0.mk (HRN.out.below hb2 HRL.out)
        obtain ⟨y, hy⟩ : ∃ y, IntKind.i32.wrap (v : Int) = y := ⟨_, rfl⟩
        have HY := Aside0.mk hy
        have HAP := Aside0.mk fun nd => appendRepeat_calls w w.heap.size _ (i32L (hybV ra)) y k (w2.drewN nd) (HO2.out.drewN nd) (HBW2.out.trans ((drewN_below w2 nd).mono HBW2.out.size)) (by have := HBW2.out.size; exact this) (by rw [i32L_length, HN0.out]; omega)
        clear hw2 hb2 hyl hyb hb2w
        go_wp2_with (first
          | (go_at_call 56; (with_reducible refine HLE.out.mono ?_); rintro e w3 ⟨rfl, ⟨nd, rfl⟩⟩)
          | (go_at_call 96; (with_reducible refine (HAP.out _).mono ?_); rintro e w4 ⟨v4, rfl, ho, hb, hs, hg⟩; have HR4 := Aside0.mk ((HR2.out.drewN nd).grown hg ((HR2.out.drewN nd).ne_own (HO2.out.drewN nd))); have HO4 := Aside0.mk ho; have HB4 := Aside0.mk hb; clear ho hb hs hg))
        go_roundg (gk - 1)
        case measure => have := HKr.out; omega
        case rel =>
          refine ⟨ra ++ [R.rep v k], rb, Y, gb, nb, Cb, HRS2, by go_num, rfl, hnb, hCb, hgb, ⟨by rw [hyb_snoc, HHD.out, List.length_append, HI.out, List.length_append, HX.out, HLL.out, lowL_length]; omega⟩, ⟨?_⟩, HB4, HR4, ⟨by have := HKr.out; omega⟩⟩
          rw [hybV_snoc, i32L_app]
          have e : i32L (R.rep v k).vals = List.replicate k y := by simp [R.vals, i32L, ← HY.out]
          rw [e]; exact HO4.out
      | grp l =>
        have hw1 : 1 ≤ b := by
          rcases HW1.out with h | h
          · exact h
          · obtain ⟨v, k, e⟩ := h (R.grp l) (by rw [HRS2.out]; simp)
            cases e
        obtain ⟨hl0, hl8, hlf⟩ := hrok
        obtain ⟨K, hK⟩ : ∃ K, l.length / 8 = K := ⟨_, rfl⟩
        have hlK : l.length = 8 * K := by omega
        obtain ⟨m, hm⟩ : ∃ m, K * b = m := ⟨_, rfl⟩
        have hm32 : m ≤ 32 * K := by rw [← hm, Nat.mul_comm]; exact Nat.mul_le_mul_right K hw8
        have hK0 : 0 < K := by omega
        have hm0 : 0 < m := by rw [← hm]; exact Nat.mul_pos hK0 (by omega)
        have hmI : (K : Int) * (b : Int) = (m : Int) := by rw [← hm]; push_cast; rfl
        have hpl : (packLo b l).length = m := by
          unfold packLo; rw [bytesLo_length, hlK, Nat.mul_assoc, hm]; omega
        have hby : (R.grp l).bytes b = varL (2 * K + 1) ++ packLo b l := by
          simp only [R.bytes, hK]
        have hvk : (R.grp l).vals.length = 8 * K := hlK
        rw [hvk] at hvl
        rw [hby, List.append_assoc] at hdr
        rw [hby, List.length_append, hpl] at hlen
        obtain ⟨x, hx⟩ : ∃ x, 2 * K + 1 = x := ⟨_, rfl⟩
        rw [hx] at hdr hlen
        have HUV := Aside0.mk (uvarint_calls A1 (N - i) (c - i) (bs.drop i) (packLo b l ++ hyb b rb) x wr hCd (by omega) (by omega) hdr (by omega))
        have hL5 := varL_len5 x (by omega)
        have hL0 := varL_pos x
        obtain ⟨L, hL⟩ : ∃ L, (varL x).length = L := ⟨_, rfl⟩
        rw [hL] at HUV hL5 hL0 hlen
        obtain ⟨J, hJ⟩ : ∃ J, i + L = J := ⟨_, rfl⟩
        have hJI : (i : Int) + (L : Int) = (J : Int) := by omega
        have hmid : (bs.take (J + m)).drop J = packLo b l := by
          rw [List.drop_take, show J + m - J = m by omega, ← hJ, ← List.drop_drop, hdr, List.drop_left' hL, ← hpl]
          simp
        have qi : decide ((i : Int) < (N : Int)) = true := decide_eq_true (by omega)
        have qL0 : ((L : Int) == 0) = false := by rw [beq_eq_false_iff_ne]; omega
        have qLn : decide ((L : Int) < 0) = false := decide_eq_false (by omega)
        have hx2 : (x : Int) / 2 = (K : Int) := by omega
        have hxm : (x : Int) % 2 = 1 := by omega
        have qand : bits .and .u64 (x : Int) 1 = 1 := by
          rw [show (1 : Int) = ((2 ^ 1 - 1 : Nat) : Int) by decide, and64 x 1 (by omega) (by omega)]; omega
        have qk0 : ((K : Int) == 0) = false := by rw [beq_eq_false_iff_ne]; omega
        have qk9 : decide (2147483647 < (K : Int)) = false := decide_eq_false (by omega)
        have qk92 : decide (2147483647 < K) = false := decide_eq_false (by omega)
        obtain ⟨K8, hK8⟩ : ∃ K8, 8 * K = K8 := ⟨_, rfl⟩
        have hK8I : (8 : Int) * (K : Int) = (K8 : Int) := by omega
        obtain ⟨Y, hY⟩ : ∃ Y, J + m = Y := ⟨_, rfl⟩
        have hYI : (J : Int) + (m : Int) = (Y : Int) := by omega
        obtain ⟨A2, cut3, hC3⟩ := cutMid (P := Tryd.prog) 25 5 Tryd.underlying25 h8.1 h8.2 A N c .i64 .i64 (J : Int) (Y : Int) J Y rfl rfl (by omega) (by omega) hc
        rw [show Y - J = m by omega] at cut3 hC3
        rw [hY] at hmid
        have HC3 : Aside0 (∀ W, (Kd.int .u8).C W A N bs → (Kd.int .u8).C W A2 m (packLo b l)) := ⟨fun W h => by rw [← hmid]; exact hC3 _ W bs rfl h⟩
        obtain ⟨cc, hcc⟩ : ∃ cc, c - J = cc := ⟨_, rfl⟩
        rw [hcc] at cut3
        have hmcc : m ≤ cc := by omega
        have hcc9 : cc ≤ 9223372036854775807 := by omega
        obtain ⟨S, hS⟩ : ∃ S, n0 + K8 = S := ⟨_, rfl⟩
        have hSI : (n0 : Int) + (K8 : Int) = (S : Int) := by omega
        have HRS := Aside0.mk (resize32_calls w.heap.size _ (i32L (hybV ra)) S wr HO.out HB.out.size (by rw [i32L_length]; omega) (by omega) (by omega))
        rw [i32L_length, hn0] at HRS hc0
        have hpb : bytesB (packLo b l) = true := bytesB_of fun x hx => by
          simp only [packLo, bytesLo, List.mem_map] at hx
          obtain ⟨q, _, rfl⟩ := hx
          have := byteLo_lt (bitsLo b l) q
          exact ⟨by omega, by omega⟩
        have HFL : Aside0 (∀ (W : World) (g M : Nat) (A3 : Option Addr) (n3 c3 : Nat), Front W g M 21 .i32 (i32L (hybV ra)) → S ≤ M → ReadKeep W g .u8 A3 m (packLo b l) → m ≤ n3 → n3 ≤ 9223372036854775807 → Calls Tryd.prog 95 #[.slice (some ⟨g, n0, none⟩) (S - n0) (M - n0), .slice A3 n3 c3, .int .u64 b] W fun e w' => e = .returned (.tuple #[]) ∧ Front w' g M 21 .i32 (i32L (hybV ra) ++ i32L l) ∧ W.grownBy w' (some g)) := ⟨fun W g M A3 n3 c3 hf hM hA hmn hn9 => by
          have := unpackInt32_calls g M 21 (S - n0) (M - n0) (i32L (hybV ra)) A3 n3 c3 m b (packLo b l) W hf (by rw [i32L_length]; omega) (by omega) hA hmn hn9 hpb (by omega) (by rw [← hm, ← Nat.mul_assoc]; exact Nat.mul_le_mul_right b (by omega)) (by omega)
          rw [i32L_length, hn0, show S - n0 = 8 * K by omega, unp_valsI b l K hw1 hlK hlf] at this
          rw [show S - n0 = 8 * K by omega]
          exact this⟩
        have HX := Aside0.mk hx
        have HHD := Aside0.mk hby
        have HLL := Aside0.mk hL
        have HPL := Aside0.mk hpl
        have HLK := Aside0.mk hlK
        have HMP := Aside0.mk hm0
        rw [i32L_length, hn0] at ⊢
        rw [hn0] at hvl
        clear hdr hCr hC1 hCd hn0 hx hL hby hvk hl0 hl8 hlf hK hpl hmid hpb hC3 hlK hm hcc
        by_cases cap : m + 16 ≤ cc
        · have qcap : decide (16 ≤ (cc : Int) - (m : Int)) = true := decide_eq_true (by omega)
          have cut4 := cutAny (P := Tryd.prog) 25 5 Tryd.underlying25 h8.1 h8.2 A2 m cc cc (Nat.le_refl _)
          go_wp2_with (first
            | (go_at_call 80; (with_reducible refine HUV.out.mono ?_); rintro e w1 ⟨rfl, rfl⟩)
            | (go_at_call 94; (with_reducible refine HRS.out.mono ?_); rintro e w2 ⟨g, M, rfl, hf, h1, h2, h3, h4, hb2⟩; have HF2 := Aside0.mk hf; have HB2 := Aside0.mk (HB.out.trans (hb2.mono HB.out.size)); have HR2 := Aside0.mk (HRN.out.below hb2 HRL.out); have HGL := Aside0.mk hf.lt; have cut2 := cutFrom0 (P := Tryd.prog) 43 21 Tryd.underlying43 h32.1 h32.2 g S M n0 (by omega) h1 (by omega); clear hf hb2)
            | (go_at_call 95; (refine (HFL.out w2 g M A2 cc cc HF2.out h1 (fun W2 hW2 => HC3.out W2 (readKeep_of HC.out HB2.out h3 W2 hW2)) hmcc hcc9).mono ?_); rintro e w5 ⟨rfl, hf, hg⟩; have HF5 := Aside0.mk hf; have HB5 := Aside0.mk (HB2.out.grown hg HB2.out.size (fun j hj => by injection hj with hj; omega)); have HRN5 := Aside0.mk (HR2.out.grown hg (by intro e; injection e with e; exact HR2.out.ne_front HF2.out e.symm)); clear hf hg))
          go_roundg (gk - 1)
          case measure => have := HKr.out; omega
          case rel =>
            refine ⟨ra ++ [R.grp l], rb, Y, gb, nb, Cb, HRS2, by go_num, rfl, by omega, by omega, by omega, ⟨by rw [hyb_snoc, HHD.out, List.length_append, HI.out, List.length_append, HX.out, HLL.out, HPL.out]; omega⟩, ⟨?_⟩, ⟨?_⟩, HRN5, ⟨by have := HKr.out; omega⟩⟩
            · rw [hybV_snoc, i32L_app]
              have h := HF5.out.toOwn (base := w.heap.size) h3 h2
              rw [List.length_append, i32L_length, i32L_length, HN0.out, HLK.out, hK8, hS] at h
              exact h
            · exact HB5.out
        · have qcap : decide (16 ≤ (cc : Int) - (m : Int)) = false := decide_eq_false (by omega)
          go_wp2_with (first
            | (go_at_call 80; (with_reducible refine HUV.out.mono ?_); rintro e w1 ⟨rfl, rfl⟩)
            | (go_at_call 94; (with_reducible refine HRS.out.mono ?_); rintro e w2 ⟨g, M, rfl, hf, h1, h2, h3, h4, hb2⟩; have HF2 := Aside0.mk hf; have HB2 := Aside0.mk (HB.out.trans (hb2.mono HB.out.size)); have HR2 := Aside0.mk (HRN.out.below hb2 HRL.out); have HGL := Aside0.mk hf.lt; have cut2 := cutFrom0 (P := Tryd.prog) 43 21 Tryd.underlying43 h32.1 h32.2 g S M n0 (by omega) h1 (by omega); clear hf hb2)
            | (go_at_call 83; (refine (resizeRN_calls w.heap.size gb nb Cb (m + 16) w2 HR2.out hnb hCb hgb (by omega) (by omega)).mono ?_); rintro e w3 ⟨g3, M3, rfl, hr3, h5, h6, h7, hb3⟩; have HR3 := Aside0.mk hr3; have HB3 := Aside0.mk (HB2.out.trans (hb3.mono HB2.out.size)); have HF3 := Aside0.mk (HF2.out.below hb3 HGL.out); obtain ⟨zs, hz, hzl⟩ := hr3.out; obtain ⟨ad2, ead2, hsrc⟩ := copySrc (HC3.out w3 (Kd.C_below HC.out HB3.out)) (by rw [HPL.out]; exact HMP.out); subst ead2; have HZ3 := Aside0.mk hz; have HZL := Aside0.mk hzl; have HSRC := Aside0.mk hsrc; clear hr3 hb3 hz hzl hsrc)
            | ((refine wpList_copy_row (by rfl) (.tmp 94) (.tmp 95) 25 25 (by rfl) 5 Tryd.underlying25 ?h1 g3 (m + 16) M3 ad2 m cc (by rfl) (by rfl) 5 .u8 zs (packLo b l) HZ3.out ?hn HSRC.out ?hf ?_); (case h1 => kernel_rfl); (case hn => rw [HPL.out]; exact (Nat.min_eq_left (by omega)).symm); (case hf => rw [HPL.out, HZL.out]; omega); intro w4 hr4 hg4; have HR4 := Aside0.mk hr4; have HRN4 : Aside0 (RowN w4 g3 M3) := ⟨⟨_, hr4, by rw [List.length_append, List.length_drop, HPL.out, HZL.out]; omega⟩⟩; have HF4 : Aside0 (Front w4 g M 21 .i32 (i32L (hybV ra))) := ⟨by obtain ⟨cs, hbk, hrest⟩ := HF3.out.out; exact ⟨cs, ⟨(hg4.block g HF3.out.lt (by intro e; injection e with e; exact HR3.out.ne_front HF3.out e)).trans hbk.out⟩, hrest⟩⟩; have HB4 := Aside0.mk (HB3.out.grown hg4 HB3.out.size (fun j hj => by injection hj with hj; omega)); clear hr4 hg4)
            | (go_at_call 95; (refine (HFL.out w4 g M (some ⟨g3, 0, none⟩) (m + 16) M3 HF4.out h1 (fun W2 hW2 => by have hne : some g3 ≠ some g := (by intro e; injection e with e; exact HRN4.out.ne_front HF4.out e.symm); have h := row_takeC (HR4.out.grown hW2 hne) m (by rw [List.length_append, HPL.out]; omega) (by omega); rw [List.take_left' HPL.out] at h; exact h) (by omega) (by omega)).mono ?_); rintro e w5 ⟨rfl, hf, hg⟩; have HF5 := Aside0.mk hf; have HB5 := Aside0.mk (HB4.out.grown hg HB4.out.size (fun j hj => by injection hj with hj; omega)); have HRN5 := Aside0.mk (HRN4.out.grown hg (by intro e; injection e with e; exact HRN4.out.ne_front HF4.out e.symm)); clear hf hg))
          go_roundg (gk - 1)
          case measure => have := HKr.out; omega
          case rel =>
            refine ⟨ra ++ [R.grp l], rb, Y, g3, m + 16, M3, HRS2, by go_num, rfl, by omega, by omega, by omega, ⟨by rw [hyb_snoc, HHD.out, List.length_append, HI.out, List.length_append, HX.out, HLL.out, HPL.out]; omega⟩, ⟨?_⟩, ⟨?_⟩, HRN5, ⟨by have := HKr.out; omega⟩⟩
            · rw [hybV_snoc, i32L_app]
              have h := HF5.out.toOwn (base := w.heap.size) h3 h2
              rw [List.length_append, i32L_length, i32L_length, HN0.out, HLK.out, hK8, hS] at h
              exact h
            · exact HB5.out
theorem decodeInt32_calls (A : Option Addr) (N c : Nat) (b : Nat) (bs : List Int) (rs : List R) (w : World) (hC : (Kd.int .u8).C w A N bs) (hb : bs = hyb b rs) (hc : N ≤ c) (hc9 : c ≤ 9223372036854775807) (hn : N ≤ 2000000) (hw1 : 1 ≤ b) (hw8 : b ≤ 32) (hok : hybOk b rs) (hV : (hybV rs).length ≤ 1000000) :
    Calls Tryd.prog 66 #[.slice none 0 0, .slice A N c, .int .u64 b] w fun e w' => ∃ v, e = .returned (.tuple #[v, .nilIface]) ∧ Own w' w.heap.size 21 .i32 v (i32L (hybV rs)) ∧ Below w.heap.size w w' :=
  decodeInt32A_calls A N c b bs rs w hC hb hc hc9 hn (.inl hw1) hw8 hok hV
end Go.Proofs.YtoopljlbiifmfaaDoor.Dej
