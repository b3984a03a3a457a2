import Derived.Test.YtoopljlbiifmfaaDoorUva
/-! Runs of bytes: the decoder's walk. -/
namespace Go.Proofs.YtoopljlbiifmfaaDoor.Dec
open Go.Proofs.YtoopljlbiifmfaaDoor.Uva Go.Proofs.YtoopljlbiifmfaaDoor.Rle Go.Proofs.YtoopljlbiifmfaaDoor.Run Go.Proofs.YtoopljlbiifmfaaDoor.Rlp Go.Proofs.YtoopljlbiifmfaaDoor.Rlb Go.Proofs.YtoopljlbiifmfaaDoor.Buf Go.Proofs.YtoopljlbiifmfaaDoor.Fit Go.Proofs.YtoopljlbiifmfaaDoor.Bit Go.Proofs.YtoopljlbiifmfaaDoor.Wrd Go.Proofs.YtoopljlbiifmfaaDoor.Spl Go.Proofs.YtoopljlbiifmfaaDoor.Str Go.Proofs.YtoopljlbiifmfaaDoor.Flt Go.Proofs.YtoopljlbiifmfaaDoor.Owe Go.Proofs.YtoopljlbiifmfaaDoor.Num Go.Proofs.YtoopljlbiifmfaaDoor.Le Go.Proofs.YtoopljlbiifmfaaDoor.Lst Go.Proofs.YtoopljlbiifmfaaDoor.Aid Go.RowKit Go.Proofs.YtoopljlbiifmfaaDoorW.PrintWords Go.Proofs.YtoopljlbiifmfaaDoorW.PrintLast Go.Proofs.YtoopljlbiifmfaaDoorW.PrintMore
set_option linter.unusedVariables false
set_option linter.unusedSimpArgs false
theorem grp_vals (b : Nat) (l : List Int) (K : Nat) (hb : 0 < b) (hl : l.length = 8 * K) (hf : fitL b l) : ((List.range (8 * K)).map fun k => (valLo (packLo b l) b (k * b) : Int)) = l := by
  apply List.ext_getElem
  · simp [hl]
  · intro k h1 h2
    have := valLo_pack b l k hb h2 (by rw [hl, Nat.mul_assoc]; omega) hf
    rw [rd_nat _ _ h2] at this
    simp only [List.getElem_map, List.getElem_range]
    exact this
theorem Front.alloc {w : World} {g C t : Nat} {k : IntKind} {xs : List Int} (h : Front w g C t k xs) (o : Obj) : Front (w.alloc o) g C t k xs := by
  obtain ⟨cs, hb, hr⟩ := h.out
  exact ⟨cs, hb.alloc o, hr⟩
theorem dv (X b mk q : Nat) (hX : X < 18446744073709551616) (hb : b ≤ 8) (hmk : 2 ^ b - 1 = mk) : bits .and .u64 ((X : Int) / 2 ^ (q * b)) (mk : Int) % 256 = ((X / 2 ^ (q * b) % 2 ^ b : Nat) : Int) := by
  have e : (X : Int) / 2 ^ (q * b) = ((X / 2 ^ (q * b) : Nat) : Int) := by push_cast; rfl
  rw [e, ← hmk, and64 _ b (Nat.lt_of_le_of_lt (Nat.div_le_self _ _) hX) hb]
  have h1 := Nat.mod_lt (X / 2 ^ (q * b)) (Nat.two_pow_pos b)
  have h2 := two_pow_le hb
  have h3 : (2 : Nat) ^ 8 = 256 := by decide
  omega
theorem grownOfBelow {w w' : World} {B : Nat} (h : Below B w w') (hB : w.heap.size = B) (row : Option Nat) : w.grownBy w' row := ⟨h.os, h.tape, h.output, h.size, fun k hk _ => h.block k (by omega)⟩
theorem splice_nums (k : IntKind) (M : Nat) (xs : List Int) : splice (nums k (List.replicate M 0)) 0 (nums k xs) = nums k (xs ++ List.replicate (M - xs.length) 0) := by
  simp [splice, nums]
section
variable {P : Program} {ops : Array Oper} {rest : List Oper} {o : Oper} {a : Act} {Q : Exit → Act → World → Prop}
/-- append(v, ys...) where there is room: behind 'at_builtin' -/
theorem appendFront {W : World} (hgd : o.guard = none) (s x : Operand) (t e : TypeId) (k : IntKind) (bytes : Nat)
    (ho : o.op = .call { callee := .builtin .append, args := #[s, x], argTypes := #[t, t] })
    (ht : P.underlying t = some (.slice e)) (hinfo : (P.info? e).map (fun i => (i.zero, i.size, i.bytes)) = some (some (.int k 0), 1, bytes))
    (g C off n c : Nat) (xs : List Int) (ad : Addr) (m cc : Nat) (ys : List Int) (hs : a.eval s = .slice (some ⟨g, off, none⟩) n c) (hx : a.eval x = .slice (some ad) m cc)
    (hF : Front W g C e k xs) (hon : off + n = xs.length) (hC : (Kd.int k).C W (some ad) m ys) (hroom : n + m ≤ c) (hcC : off + c ≤ C) (hb : (n + m) * bytes ≤ 140737488355328) (hm9 : n + m ≤ 140737488355328)
    (h : ∀ w1, Front w1 g C e k (xs ++ ys) → W.grownBy w1 (some g) → wpList P ops Q rest (a.put o.dst (.slice (some ⟨g, off, none⟩) (n + m) c)) w1) :
    wpList P ops Q (o :: rest) a W := by
  obtain ⟨i0, hi, hzz⟩ := Option.map_eq_some_iff.1 hinfo
  simp only [Prod.mk.injEq] at hzz
  obtain ⟨hz0, hz1, hz2⟩ := hzz
  have hm : ys.length = m := hC.1
  have hlo : (nums k (xs.drop off)).length = n := by simp [nums]; omega
  refine wpList_append_arg W hgd s x t ho e i0 (.int k 0) 1 bytes ht hi hz0 hz1 hz2 rfl (by omega) g off n c (nums k (xs.drop off)) hs (by rw [hlo]; omega) (fun j u hj => ?_) ad m cc (nums k ys) hx (by simp [nums, hm]) (C_cells hC) (by intro u hu; simp [nums] at hu; obtain ⟨q, _, rfl⟩ := hu; rfl) (fun _ j hj => ?_) (by simp only [maxLen]; omega) hb (fun _ => ?_) (fun hbad => absurd hroom (by omega))
  · have hjl : j < n := by
      have := (List.getElem?_eq_some_iff.1 hj).1
      omega
    have := hF.at' (off + j) (by omega)
    rw [this]
    simp [nums, show off + j < xs.length by omega] at hj
    rw [← hj, rd_nat _ _ (by omega)]
  · have hjl : j < ys.length := by simpa [nums] using hj
    obtain ⟨v, hv⟩ := hF.cell (off + n * 1 + j) (by omega)
    exact ⟨by rw [hv]; rfl, hF.free _⟩
  · obtain ⟨h1, h2⟩ := Front.pushes ys hF (by have := hF.le; omega) (off + n * 1) (by omega)
    exact h _ h1 h2
end
set_option maxHeartbeats 4000000 in
theorem byteCount_calls (x : Nat) (w : World) (hx : x ≤ 4294967296) :
    Calls Tryd.prog 82 #[.int .u64 x] w fun e w' => e = .returned (.int .i64 (((x + 7) / 8 : Nat) : Int)) ∧ w = w' := by
  have q : ((x : Int) + 7) / 8 = (((x + 7) / 8 : Nat) : Int) := by omega
  obtain ⟨y, hy⟩ : ∃ y, (x + 7) / 8 = y := ⟨_, rfl⟩
  rw [hy] at q ⊢
  have hy9 : y ≤ 4294967296 := by omega
  go_enter Tryd.func82, Tryd.ntmps82
  go_wp2_with (fail)
  go_ret
  exact ⟨rfl, rfl⟩
def vals8 (b : Nat) (bs : List Int) (r : Nat) : List Int := (List.range (8 * r)).map fun k => (valLo bs b (k * b) : Int)
theorem vals8_succ (b : Nat) (bs : List Int) (r : Nat) : vals8 b bs (r + 1) = vals8 b bs r ++ [(valLo bs b ((8 * r + 0) * b) : Int), (valLo bs b ((8 * r + 1) * b) : Int), (valLo bs b ((8 * r + 2) * b) : Int), (valLo bs b ((8 * r + 3) * b) : Int), (valLo bs b ((8 * r + 4) * b) : Int), (valLo bs b ((8 * r + 5) * b) : Int), (valLo bs b ((8 * r + 6) * b) : Int), (valLo bs b ((8 * r + 7) * b) : Int)] := by
  unfold vals8
  rw [show 8 * (r + 1) = 8 * r + 1 + 1 + 1 + 1 + 1 + 1 + 1 + 1 by omega]
  simp [List.range_succ]
set_option maxHeartbeats 8000000 in
set_option maxRecDepth 100000 in
theorem unpackBytes_calls (g C n c : Nat) (xs : List Int) (A : Option Addr) (m mc : Nat) (b K : Nat) (bs : List Int) (w0 : World) (hF : Front w0 g C 5 .u8 xs) (hA : ReadKeep w0 g .u8 A m bs) (hm : m ≤ mc) (hm9 : m ≤ 2147483647)
    (hw1 : 1 ≤ b) (hw8 : b ≤ 8) (hu : bytesB bs = true) (hK : K * b = m) (hn : n = 8 * K) (hnc : n ≤ c) (hcC : xs.length + c ≤ C) (hc9 : C ≤ 9223372036854775807) (hK9 : K ≤ 134217728) :
    Calls Tryd.prog 117 #[.slice (some ⟨g, xs.length, none⟩) n c, .slice A m mc, .int .u64 ((8 * K : Nat) : Int), .int .u64 b] w0 fun e w' => e = .returned (.tuple #[]) ∧ Front w' g C 5 .u8 (xs ++ vals8 b bs K) ∧ w0.grownBy w' (some g) := by
  have HF := Aside0.mk hF
  have HA := Aside0.mk hA
  have HLM : Aside0 (bs.length = m) := ⟨(hA w0 (grownRefl _ _)).1⟩
  have HU := Aside0.mk hu
  have HKB := Aside0.mk hK
  obtain ⟨o, ho⟩ : ∃ o, xs.length = o := ⟨_, rfl⟩
  have HO := Aside0.mk ho
  rw [ho] at hcC ⊢
  obtain ⟨mk, hmk⟩ : ∃ mk, 2 ^ b - 1 = mk := ⟨_, rfl⟩
  have hmI := mask64 b hw8
  rw [hmk] at hmI
  have HMK := Aside0.mk hmk
  obtain ⟨i8, h8⟩ := h8
  obtain ⟨K8, hK8⟩ : ∃ K8, 8 * K = K8 := ⟨_, rfl⟩
  rw [hK8] at hn ⊢
  obtain ⟨cutz, _⟩ := cutHi (P := Tryd.prog) 25 5 Tryd.underlying25 h8.1 (some ⟨g, o, none⟩) n c .i64 0 0 rfl (by omega) hnc
  have HBC := Aside0.mk fun W => byteCount_calls (8 * b) W (by omega)
  rw [show (8 * b + 7) / 8 = b by omega, show ((8 * b : Nat) : Int) = 8 * (b : Int) by omega] at HBC
  have hFlt := hF.lt
  clear hF hA hu ho hmk hK
  go_enter Tryd.func117, Tryd.ntmps117
  go_wp2_with (first
    | (go_at_call 82; (with_reducible refine (HBC.out _).mono ?_); rintro e w1 ⟨rfl, rfl⟩))
  go_loopg [0, 2, 10] K (fun kq v0 v2 v10 w' => ∃ (r q s : Nat), r ≤ K ∧ 8 * r + q = K8 ∧ v0 = .slice (some ⟨g, o, none⟩) (8 * r) c ∧ v2 = .int .u64 q ∧ v10 = .int .i64 s ∧ Aside0 (s = r * b) ∧ Aside0 (Front w' g C 5 .u8 (xs ++ vals8 b bs r)) ∧ Aside0 (w0.grownBy w' (some g)) ∧ Aside0 (K - r ≤ kq))
  case atStart => exact ⟨0, K8, 0, by omega, by omega, rfl, rfl, rfl, ⟨by simp⟩, ⟨by simp [vals8]; exact HF.out⟩, ⟨grownRefl _ _⟩, ⟨by omega⟩⟩
  case round =>
    obtain ⟨r, q, s, hr, hq, rfl, rfl, rfl, HS, HR, HG, HK⟩ := hrel
    by_cases cr : r < K
    · have qq : decide (0 < (q : Int)) = true := decide_eq_true (by omega)
      have qq2 : decide (0 < q) = true := decide_eq_true (by omega)
      have hsb : s + b ≤ m := by rw [HS.out, ← Nat.succ_mul, ← HKB.out]; exact Nat.mul_le_mul_right b cr
      obtain ⟨A1, cut1, hC1⟩ := cutMid (P := Tryd.prog) 25 5 Tryd.underlying25 h8.1 h8.2 A m mc .i64 .i64 (s : Int) ((s : Int) + (b : Int)) s (s + b) rfl (by omega) (by omega) hsb hm
      rw [show s + b - s = b by omega] at cut1 hC1
      have hdt : (bs.take (s + b)).drop s = (bs.drop s).take b := by rw [List.drop_take]; congr 1; omega
      have HC1 : Aside0 (∀ W, (Kd.int .u8).C W A m bs → (Kd.int .u8).C W A1 b ((bs.drop s).take b)) := ⟨fun W h => by rw [← hdt]; exact hC1 _ W bs rfl h⟩
      have HCL : Aside0 (((bs.drop s).take b).length = b) := ⟨by rw [List.length_take, List.length_drop, HLM.out]; omega⟩
      have HLV : Aside0 ((xs ++ vals8 b bs r).length = o + 8 * r) := ⟨by rw [List.length_append, HO.out]; simp [vals8]⟩
      clear hC1 hdt
      go_wp2_with (fail)
      have HZA : Aside0 (Row (wr.alloc (Obj.cells #[.int .u8 0, .int .u8 0, .int .u8 0, .int .u8 0, .int .u8 0, .int .u8 0, .int .u8 0, .int .u8 0] 155)) wr.heap.size 155 .u8 (List.replicate 8 0)) := ⟨⟨Blk.new wr _ _⟩⟩
      have HBA : Aside0 (Below wr.heap.size wr (wr.alloc (Obj.cells #[.int .u8 0, .int .u8 0, .int .u8 0, .int .u8 0, .int .u8 0, .int .u8 0, .int .u8 0, .int .u8 0] 155))) := ⟨(Below.refl _ _).alloc (Nat.le_refl _) _⟩
      have HRA : Aside0 (Front (wr.alloc (Obj.cells #[.int .u8 0, .int .u8 0, .int .u8 0, .int .u8 0, .int .u8 0, .int .u8 0, .int .u8 0, .int .u8 0] 155)) g C 5 .u8 (xs ++ vals8 b bs r)) := ⟨HR.out.below HBA.out HR.out.lt⟩
      generalize wr.alloc (Obj.cells #[.int .u8 0, .int .u8 0, .int .u8 0, .int .u8 0, .int .u8 0, .int .u8 0, .int .u8 0, .int .u8 0] 155) = wa at *
      obtain ⟨gb, hgb⟩ : ∃ gb, wr.heap.size = gb := ⟨_, rfl⟩
      have HGB := Aside0.mk hgb
      have hggb : g < gb := by rw [← hgb]; exact HR.out.lt
      rw [hgb] at HZA HBA ⊢
      have HGA : Aside0 (w0.grownBy wa (some g)) := ⟨HG.out.trans (grownOfBelow HBA.out hgb _)⟩
      obtain ⟨ys, hys⟩ : ∃ ys, (bs.drop s).take b ++ List.replicate (8 - b) 0 = ys := ⟨_, rfl⟩
      have HYS := Aside0.mk hys
      have hyb0 : bytesB ys = true := by
        rw [← hys]
        exact bytesB_of fun x hx => by
          rcases List.mem_append.1 hx with h | h
          · exact bytesB_mem (bytesB_take (bytesB_drop HU.out _) _) x h
          · have := List.eq_of_mem_replicate h
            rw [this]; unfold byt; omega
      have hx8 := wd8_u64 ys hyb0 0
      unfold wd8 at hx8
      rw [Nat.mul_zero, List.drop_zero] at hx8
      obtain ⟨X, hX⟩ : ∃ X : Nat, le8L ys = (X : Int) := ⟨(le8L ys).toNat, by omega⟩
      have hX9 : X < 18446744073709551616 := by omega
      have HEX : Aside0 (∀ q, q < 8 → X / 2 ^ (q * b) % 2 ^ b = valLo bs b ((8 * r + q) * b)) := ⟨fun q hq => by
        refine unpk bs HU.out b r q X hw1 hw8 hq (by rw [HLM.out, ← HS.out]; exact hsb) ?_
        rw [← HS.out, hys]; exact hX⟩
      have HE0 : Aside0 (bits .and .u64 (X : Int) (mk : Int) % 256 = (valLo bs b ((8 * r + 0) * b) : Int)) := ⟨by have h := dv X b mk 0 hX9 hw8 HMK.out; rw [HEX.out 0 (by omega)] at h; simpa using h⟩
      have HE1 : Aside0 (bits .and .u64 ((X : Int) / 2 ^ b) (mk : Int) % 256 = (valLo bs b ((8 * r + 1) * b) : Int)) := ⟨by have h := dv X b mk 1 hX9 hw8 HMK.out; rw [HEX.out 1 (by omega), Nat.one_mul] at h; exact h⟩
      have HE2 : Aside0 (bits .and .u64 ((X : Int) / 2 ^ (2 * b)) (mk : Int) % 256 = (valLo bs b ((8 * r + 2) * b) : Int)) := ⟨by have h := dv X b mk 2 hX9 hw8 HMK.out; rw [HEX.out 2 (by omega)] at h; exact h⟩
      have HE3 : Aside0 (bits .and .u64 ((X : Int) / 2 ^ (3 * b)) (mk : Int) % 256 = (valLo bs b ((8 * r + 3) * b) : Int)) := ⟨by have h := dv X b mk 3 hX9 hw8 HMK.out; rw [HEX.out 3 (by omega)] at h; exact h⟩
      have HE4 : Aside0 (bits .and .u64 ((X : Int) / 2 ^ (4 * b)) (mk : Int) % 256 = (valLo bs b ((8 * r + 4) * b) : Int)) := ⟨by have h := dv X b mk 4 hX9 hw8 HMK.out; rw [HEX.out 4 (by omega)] at h; exact h⟩
      have HE5 : Aside0 (bits .and .u64 ((X : Int) / 2 ^ (5 * b)) (mk : Int) % 256 = (valLo bs b ((8 * r + 5) * b) : Int)) := ⟨by have h := dv X b mk 5 hX9 hw8 HMK.out; rw [HEX.out 5 (by omega)] at h; exact h⟩
      have HE6 : Aside0 (bits .and .u64 ((X : Int) / 2 ^ (6 * b)) (mk : Int) % 256 = (valLo bs b ((8 * r + 6) * b) : Int)) := ⟨by have h := dv X b mk 6 hX9 hw8 HMK.out; rw [HEX.out 6 (by omega)] at h; exact h⟩
      have HE7 : Aside0 (bits .and .u64 ((X : Int) / 2 ^ (7 * b)) (mk : Int) % 256 = (valLo bs b ((8 * r + 7) * b) : Int)) := ⟨by have h := dv X b mk 7 hX9 hw8 HMK.out; rw [HEX.out 7 (by omega)] at h; exact h⟩
      have HV8 := Aside0.mk (vals8_succ b bs r)
      generalize valLo bs b ((8 * r + 0) * b) = y0 at HE0 HV8
      generalize valLo bs b ((8 * r + 1) * b) = y1 at HE1 HV8
      generalize valLo bs b ((8 * r + 2) * b) = y2 at HE2 HV8
      generalize valLo bs b ((8 * r + 3) * b) = y3 at HE3 HV8
      generalize valLo bs b ((8 * r + 4) * b) = y4 at HE4 HV8
      generalize valLo bs b ((8 * r + 5) * b) = y5 at HE5 HV8
      generalize valLo bs b ((8 * r + 6) * b) = y6 at HE6 HV8
      generalize valLo bs b ((8 * r + 7) * b) = y7 at HE7 HV8
      have HX := Aside0.mk hX
      clear hgb hys hX hx8 hyb0
      refine region_tail 5 (by kernel_rfl) (by kernel_rfl) ?_
      simp only [List.take_succ_cons, List.take_zero, List.drop_succ_cons, List.drop_zero]
      repeat (quiet_step ((fail)))
      refine wpQuiet_nil ?_
      rintro _ ⟨nq, rfl⟩
      refine wpList_copy_splice ?hgd (.tmp 30) (.tmp 34) 25 25 ?ho0 5 Tryd.underlying25 ?h1 (some ⟨gb, 0, none⟩) A1 8 8 b (mc - s) ?hd ?hs gb 0 (nums .u8 (List.replicate 8 0)) 155 (HZA.out.drewN nq).out.out (nums .u8 ((bs.drop s).take b)) ?hn ?hp ?hf ?ho gb wr (HBA.out.trans ((drewN_below wa nq).mono (by have := HBA.out.size; have := HGB.out; omega))) (Nat.le_refl _) ?_
      case hgd => rfl
      case ho0 => rfl
      case h1 => kernel_rfl
      case hd => rfl
      case hs => rfl
      case hn => rw [show (nums .u8 ((bs.drop s).take b)).length = b by unfold nums; rw [List.length_map, HCL.out]]; exact (Nat.min_eq_left hw8).symm
      case hp => exact fun hpos => ⟨rfl, copySrc (HC1.out _ (HA.out _ (grownDrewN HGA.out nq))) (by rw [HCL.out]; exact hw1)⟩
      case hf => rw [show (nums .u8 ((bs.drop s).take b)).length = b by unfold nums; rw [List.length_map, HCL.out]]; simp [nums]; omega
      case ho => exact nums_one _ _
      intro w2 hw2 hb2
      have HY2 : Aside0 (Row w2 gb 155 .u8 ys) := ⟨⟨⟨by
        have h := hw2
        rw [splice_nums, HCL.out, HYS.out] at h
        exact h⟩⟩⟩
      have hyl : ys.length = 8 := by rw [← HYS.out, List.length_append, HCL.out, List.length_replicate]; omega
      have hyb : bytesB ys = true := by
        rw [← HYS.out]
        exact bytesB_of fun x hx => by
          rcases List.mem_append.1 hx with h | h
          · exact bytesB_mem (bytesB_take (bytesB_drop HU.out _) _) x h
          · have := List.eq_of_mem_replicate h
            rw [this]; unfold byt; omega
      have HLE := Aside0.mk (pqrle_leUint64.calls' (some ⟨gb, 0, none⟩) 8 8 ys w2 (rowC HY2.out hyl (by omega)) (by omega) (by omega) hyb)
      rw [HX.out] at HLE
      have HG2 : Aside0 (w0.grownBy w2 (some g)) := ⟨HG.out.trans (grownOfBelow hb2 HGB.out _)⟩
      have HF2 : Aside0 (Front w2 g C 5 .u8 (xs ++ vals8 b bs r)) := ⟨HR.out.below hb2 (by omega)⟩
      clear hw2 hb2 hyl hyb
      go_wp2_with (first
        | (go_at_call 90; (with_reducible refine HLE.out.mono ?_); rintro e w3 ⟨rfl, ⟨nq3, rfl⟩⟩)
        | (at_builtin; rw [HE0.out, HE1.out, HE2.out, HE3.out, HE4.out, HE5.out, HE6.out, HE7.out]; (refine appendFront rfl (.tmp 38) (.tmp 95) 25 5 .u8 1 rfl Tryd.underlying25 infoU8 g C o (8 * r) c (xs ++ vals8 b bs r) ⟨(w2.drewN nq3).heap.size, 0, none⟩ 8 8 [(y0 : Int), (y1 : Int), (y2 : Int), (y3 : Int), (y4 : Int), (y5 : Int), (y6 : Int), (y7 : Int)] rfl rfl ?hF ?hon ?hC ?hroom ?hcC ?hb ?hm9 ?_); (case hF => exact Front.alloc (HF2.out.drewN nq3) _); (case hon => exact HLV.out.symm); (case hC => exact rowC ⟨Blk.new _ _ _⟩ rfl (by omega)); (case hroom => omega); (case hcC => exact hcC); (case hb => omega); (case hm9 => omega); intro w4 hf hg; have HF4 := Aside0.mk hf; have HG4 := Aside0.mk (HG2.out.trans (grownOfBelow ((drewN_below w2 nq3).alloc (Nat.le_refl _) _) rfl _ |>.trans hg)); clear hf hg))
      go_roundg (gk - 1)
      case measure => have := HK.out; omega
      case rel =>
        refine ⟨r + 1, q - 8, s + b, by omega, by omega, rfl, by go_num, by go_num, ⟨by rw [HS.out, Nat.succ_mul]⟩, ⟨?_⟩, HG4, ⟨by have := HK.out; omega⟩⟩
        rw [HV8.out, ← List.append_assoc]; exact HF4.out
    · obtain rfl : r = K := by omega
      have qq : decide (0 < (q : Int)) = false := decide_eq_false (by omega)
      have qq2 : decide (0 < q) = false := decide_eq_false (by omega)
      go_wp2_with (fail)
      go_end0
      exact ⟨rfl, HR.out, HG.out⟩
set_option maxHeartbeats 4000000 in
theorem unpackBytes2_calls (g C n c : Nat) (xs : List Int) (A : Option Addr) (m mc : Nat) (b K : Nat) (bs : List Int) (w0 : World) (hF : Front w0 g C 5 .u8 xs) (hA : ReadKeep w0 g .u8 A m bs) (hm : m ≤ mc) (hm9 : m ≤ 2147483647)
    (hw1 : 1 ≤ b) (hw8 : b ≤ 8) (hu : bytesB bs = true) (hK : K * b = m) (hn : n = 8 * K) (hnc : n ≤ c) (hcC : xs.length + c ≤ C) (hc9 : C ≤ 9223372036854775807) (hK9 : K ≤ 134217728) :
    Calls Tryd.prog 86 #[.slice (some ⟨g, xs.length, none⟩) n c, .slice A m mc, .int .u64 ((8 * K : Nat) : Int), .int .u64 b] w0 fun e w' => e = .returned (.tuple #[]) ∧ Front w' g C 5 .u8 (xs ++ vals8 b bs K) ∧ w0.grownBy w' (some g) := by
  have HCALL := Aside0.mk (unpackBytes_calls g C n c xs A m mc b K bs w0 hF hA hm hm9 hw1 hw8 hu hK hn hnc hcC hc9 hK9)
  obtain ⟨K8, hK8⟩ : ∃ K8, 8 * K = K8 := ⟨_, rfl⟩
  rw [hK8] at HCALL hn ⊢
  subst hn
  clear hF hA hu hK8
  go_enter Tryd.func86, Tryd.ntmps86
  go_wp2_with (first
    | (go_at_call 117; (with_reducible refine HCALL.out.mono ?_); rintro e w2 ⟨rfl, hf, hg⟩; have HF2 := Aside0.mk hf; have HG2 := Aside0.mk hg; clear hf hg))
  go_end0
  exact ⟨rfl, HF2.out, HG2.out⟩
theorem hyb_app (w : Nat) (a c : List R) : hyb w (a ++ c) = hyb w a ++ hyb w c := by simp [hyb]
theorem hybV_app (a c : List R) : hybV (a ++ c) = hybV a ++ hybV c := by simp [hybV]
set_option maxHeartbeats 16000000 in
set_option maxRecDepth 100000 in
theorem decodeBytes_calls (A : Option Addr) (N c : Nat) (b : Nat) (bs : List Int) (rs : List R) (w : World) (hC : (Kd.int .u8).C w A N bs) (hb : bs = hyb b rs) (hc : N ≤ c) (hn : N ≤ 1000000) (hw1 : 1 ≤ b) (hw8 : b ≤ 8) (hok : hybOk b rs) (hV : (hybV rs).length ≤ 1000000) :
    Calls Tryd.prog 59 #[.slice none 0 0, .slice A N c, .int .u64 b] w fun e w' => ∃ v, e = .returned (.tuple #[v, .nilIface]) ∧ Own w' w.heap.size 5 .u8 v (hybV rs) ∧ Below w.heap.size w w' := by
  have HLN : Aside0 (bs.length = N) := ⟨hC.1⟩
  have HC := Aside0.mk hC
  have HBB := Aside0.mk hb
  have HOK := Aside0.mk hok
  have HVL := Aside0.mk hV
  have qw8 : decide (8 < (b : Int)) = false := decide_eq_false (by omega)
  have qw82 : decide (8 < b) = false := decide_eq_false (by omega)
  have qw0 : ((b : Int) != 0) = true := by rw [bne_iff_ne]; omega
  obtain ⟨i8, h8⟩ := h8
  have HO0 : Aside0 (Own w w.heap.size 5 .u8 (.slice none 0 0) (hybV [])) := ⟨Own.nil _ _ _ _⟩
  have HB0 : Aside0 (Below w.heap.size w w) := ⟨Below.refl _ _⟩
  clear hC hb hok hV
  go_enter Tryd.func59, Tryd.ntmps59
  go_wp2_with (fail)
  go_loopg [0, 8] rs.length (fun kq v0 v8 w' => ∃ (ra rb : List R) (i : Nat), Aside0 (rs = ra ++ rb) ∧ v8 = .int .i64 i ∧ Aside0 ((hyb b ra).length = i) ∧ Aside0 (Own w' w.heap.size 5 .u8 v0 (hybV ra)) ∧ Aside0 (Below w.heap.size w w') ∧ Aside0 (rb.length ≤ kq))
  case atStart => exact ⟨[], rs, 0, ⟨rfl⟩, rfl, ⟨rfl⟩, HO0, HB0, ⟨Nat.le_refl _⟩⟩
  case round =>
    clear HO0 HB0
    obtain ⟨ra, rb, i, HR, rfl, HI, HO, HB, HK⟩ := hrel
    have hvl : (hybV ra).length + (hybV rb).length ≤ 1000000 := by
      have h := HVL.out
      rw [HR.out, hybV_app, List.length_append] at h; exact h
    cases rb with
    | nil =>
      have hiN : i = N := by
        have h := HLN.out
        rw [HBB.out, HR.out, List.append_nil, HI.out] at h; exact h
      subst hiN
      have cib : decide ((i : Int) < i) = false := decide_eq_false (by omega)
      go_wp2_with (fail)
      go_ret2
      refine ⟨_, rfl, ?_, HB.out⟩
      rw [HR.out, List.append_nil]; exact HO.out
    | cons r rb =>
      have hdr : bs.drop i = r.bytes b ++ hyb b rb := by
        rw [HBB.out, HR.out, hyb_app, List.drop_left' HI.out]; rfl
      have hrok : r.ok b := HOK.out r (by rw [HR.out]; simp)
      have hlen : i + ((r.bytes b).length + (hyb b rb).length) = N := by
        have h := HLN.out
        rw [HBB.out, HR.out, hyb_app, List.length_append, HI.out] at h
        have h2 : hyb b (r :: rb) = r.bytes b ++ hyb b rb := rfl
        rw [h2, List.length_append] at h; exact h
      have hvc : (hybV (r :: rb)).length = r.vals.length + (hybV rb).length := by
        have h2 : hybV (r :: rb) = r.vals ++ hybV rb := rfl
        rw [h2, List.length_append]
      rw [hvc] at hvl
      have HRS2 : Aside0 (rs = ra ++ [r] ++ rb) := ⟨by rw [HR.out]; simp⟩
      have hCr := Kd.C_below HC.out HB.out
      obtain ⟨A1, cut1, hC1⟩ := cutLo (P := Tryd.prog) 25 5 Tryd.underlying25 h8.1 h8.2 A N c .i64 (i : Int) i rfl (by omega) hc
      have hCd := hC1 (Kd.int .u8) wr bs rfl hCr
      obtain ⟨A0, c0, rfl, hc0, _⟩ := HO.out.read
      obtain ⟨n0, hn0⟩ : ∃ n0, (hybV ra).length = n0 := ⟨_, rfl⟩
      have HN0 := Aside0.mk hn0
      have HKr := Aside0.mk (show rb.length + 1 ≤ gk from HK.out)
      cases r with
      | rep v k =>
        obtain ⟨hk0, hvb⟩ := hrok
        have hby : (R.rep v k).bytes b = varL (2 * k) ++ [(v : Int)] := by
          have h1 := two_pow_le hw8
          have h2 : (2 : Nat) ^ 8 = 256 := by decide
          have e : (b + 7) / 8 = 1 := by omega
          simp only [R.bytes, e]
          congr 1
          simp [lowL]; omega
        have hvk : (R.rep v k).vals.length = k := by simp [R.vals]
        rw [hvk] at hvl
        rw [hby, List.append_assoc] at hdr
        rw [hby, List.length_append, List.length_singleton] at hlen
        obtain ⟨x, hx⟩ : ∃ x, 2 * k = x := ⟨_, rfl⟩
        rw [hx] at hdr hlen
        have HUV := Aside0.mk (uvarint_calls A1 (N - i) (c - i) (bs.drop i) ([(v : Int)] ++ hyb b rb) x wr hCd (by omega) (by omega) hdr (by omega))
        have hL5 := varL_len5 x (by omega)
        have hL0 := varL_pos x
        obtain ⟨L, hL⟩ : ∃ L, (varL x).length = L := ⟨_, rfl⟩
        have hat : rd bs (i + L : Nat) = (v : Int) := by
          rw [← rd_drop, hdr, rd_append, if_neg (by omega), hL, Nat.sub_self]; rfl
        rw [hL] at HUV hL5 hL0 hlen
        obtain ⟨J, hJ⟩ : ∃ J, i + L = J := ⟨_, rfl⟩
        have hJI : (i : Int) + (L : Int) = (J : Int) := by omega
        rw [hJ] at hat
        obtain ⟨ad, ead, hcell⟩ := Kd.at_int hCr (J : Int) (by omega) (by omega)
        rw [Int.toNat_natCast, hat] at hcell
        have qi : decide ((i : Int) < (N : Int)) = true := decide_eq_true (by omega)
        have qL0 : ((L : Int) == 0) = false := by rw [beq_eq_false_iff_ne]; omega
        have qLn : decide ((L : Int) < 0) = false := decide_eq_false (by omega)
        have hx2 : (x : Int) / 2 = (k : Int) := by omega
        have hxm : (x : Int) % 2 = 0 := by omega
        have qand : bits .and .u64 (x : Int) 1 = 0 := by
          rw [show (1 : Int) = ((2 ^ 1 - 1 : Nat) : Int) by decide, and64 x 1 (by omega) (by omega)]; omega
        have qk0 : ((k : Int) == 0) = false := by rw [beq_eq_false_iff_ne]; omega
        have qk9 : decide (2147483647 < (k : Int)) = false := decide_eq_false (by omega)
        have qk92 : decide (2147483647 < k) = false := decide_eq_false (by omega)
        have qJN : decide ((N : Int) < (J : Int) + 1) = false := decide_eq_false (by omega)
        obtain ⟨S, hS⟩ : ∃ S, n0 + k = S := ⟨_, rfl⟩
        have hSI : (n0 : Int) + (k : Int) = (S : Int) := by omega
        have HRS := Aside0.mk (resize_calls w.heap.size _ (hybV ra) S wr HO.out HB.out.size (by omega) (by omega) (by omega))
        rw [hn0] at HRS hc0
        have HFL : Aside0 (∀ (W : World) (g M : Nat), Front W g M 5 .u8 (hybV ra) → S ≤ M → Calls Tryd.prog 84 #[.slice (some ⟨g, n0, none⟩) (S - n0) (M - n0), .int .u8 v] W fun e w' => e = .returned (.tuple #[]) ∧ Front w' g M 5 .u8 (hybV ra ++ List.replicate k (v : Int)) ∧ W.grownBy w' (some g)) := ⟨fun W g M hf hM => by
          have := fill_calls g M 5 (S - n0) (M - n0) (hybV ra) v W hf (by omega) (by omega)
          rw [hn0, show S - n0 = k by omega] at this
          rw [show S - n0 = k by omega]
          exact this⟩
        have HX := Aside0.mk hx
        have HHD := Aside0.mk hby
        have HLL := Aside0.mk hL
        rw [hn0] at hvl ⊢
        clear hdr hCr hC1 hCd hn0 hat hx hL hby hvk
        subst ead
        go_wp2_with (first
          | (go_at_call 80; (with_reducible refine HUV.out.mono ?_); rintro e w1 ⟨rfl, rfl⟩)
          | (go_at_call 83; (with_reducible refine HRS.out.mono ?_); rintro e w2 ⟨g, M, rfl, hf, h1, h2, h3, h4, hb2⟩; have HF2 := Aside0.mk hf; have HB2 := Aside0.mk hb2; have cut2 := cutFrom0 (P := Tryd.prog) 25 5 Tryd.underlying25 h8.1 h8.2 g S M n0 (by omega) h1 (by omega); clear hf hb2)
          | (go_at_call 84; (with_reducible refine (HFL.out _ g M HF2.out h1).mono ?_); rintro e w3 ⟨rfl, hf, hg⟩; have HF3 := Aside0.mk hf; have HG3 := Aside0.mk hg; clear hf hg))
        go_roundg (gk - 1)
        case measure => have := HKr.out; omega
        case rel =>
          refine ⟨ra ++ [R.rep v k], rb, J + 1, HRS2, by go_num, ⟨by rw [hyb_snoc, HHD.out, List.length_append, HI.out, List.length_append, HX.out, HLL.out]; simp; omega⟩, ⟨?_⟩, ⟨?_⟩, ⟨by have := HKr.out; omega⟩⟩
          · rw [hybV_snoc]
            have h := HF3.out.toOwn (base := w.heap.size) h3 h2
            rw [List.length_append, HN0.out, List.length_replicate, hS] at h
            exact h
          · exact (HB.out.trans (HB2.out.mono HB.out.size)).grown HG3.out (by have := HB.out.size; have := HB2.out.size; omega) (fun j hj => by injection hj with hj; omega)
      | grp l =>
        obtain ⟨hl0, hl8, hlf⟩ := hrok
        obtain ⟨K, hK⟩ : ∃ K, l.length / 8 = K := ⟨_, rfl⟩
        have hlK : l.length = 8 * K := by omega
        obtain ⟨m, hm⟩ : ∃ m, K * b = m := ⟨_, rfl⟩
        have hm8 : m ≤ 8 * K := by rw [← hm, Nat.mul_comm]; exact Nat.mul_le_mul_right K hw8
        have hpl : (packLo b l).length = m := by
          unfold packLo; rw [bytesLo_length, hlK, Nat.mul_assoc, hm]; omega
        have hby : (R.grp l).bytes b = varL (2 * K + 1) ++ packLo b l := by
          simp only [R.bytes, hK]
        have hvk : (R.grp l).vals.length = 8 * K := hlK
        rw [hvk] at hvl
        rw [hby, List.append_assoc] at hdr
        rw [hby, List.length_append, hpl] at hlen
        obtain ⟨x, hx⟩ : ∃ x, 2 * K + 1 = x := ⟨_, rfl⟩
        rw [hx] at hdr hlen
        have HUV := Aside0.mk (uvarint_calls A1 (N - i) (c - i) (bs.drop i) (packLo b l ++ hyb b rb) x wr hCd (by omega) (by omega) hdr (by omega))
        have hL5 := varL_len5 x (by omega)
        have hL0 := varL_pos x
        obtain ⟨L, hL⟩ : ∃ L, (varL x).length = L := ⟨_, rfl⟩
        rw [hL] at HUV hL5 hL0 hlen
        obtain ⟨J, hJ⟩ : ∃ J, i + L = J := ⟨_, rfl⟩
        have hJI : (i : Int) + (L : Int) = (J : Int) := by omega
        have hmid : (bs.take (J + m)).drop J = packLo b l := by
          rw [List.drop_take, show J + m - J = m by omega, ← hJ, ← List.drop_drop, hdr, List.drop_left' hL, ← hpl]
          simp
        have qi : decide ((i : Int) < (N : Int)) = true := decide_eq_true (by omega)
        have qL0 : ((L : Int) == 0) = false := by rw [beq_eq_false_iff_ne]; omega
        have qLn : decide ((L : Int) < 0) = false := decide_eq_false (by omega)
        have hx2 : (x : Int) / 2 = (K : Int) := by omega
        have hxm : (x : Int) % 2 = 1 := by omega
        have qand : bits .and .u64 (x : Int) 1 = 1 := by
          rw [show (1 : Int) = ((2 ^ 1 - 1 : Nat) : Int) by decide, and64 x 1 (by omega) (by omega)]; omega
        have qk0 : ((K : Int) == 0) = false := by rw [beq_eq_false_iff_ne]; omega
        have qk9 : decide (2147483647 < (K : Int)) = false := decide_eq_false (by omega)
        have qk92 : decide (2147483647 < K) = false := decide_eq_false (by omega)
        obtain ⟨K8, hK8⟩ : ∃ K8, 8 * K = K8 := ⟨_, rfl⟩
        have hK0 : 0 < K := by omega
        have hK8I : (K : Int) * 8 = (K8 : Int) := by omega
        obtain ⟨Z, hZ⟩ : ∃ Z, K8 * b = Z := ⟨_, rfl⟩
        have hZI : (K8 : Int) * (b : Int) = (Z : Int) := by rw [← hZ]; push_cast; rfl
        have hZm : Z = 8 * m := by rw [← hZ, ← hK8, Nat.mul_assoc, hm]
        have hZ9 : Z ≤ 8000000 := by omega
        have HBC := Aside0.mk fun W => byteCount_calls Z W (by omega)
        rw [show (Z + 7) / 8 = m by omega] at HBC
        obtain ⟨Y, hY⟩ : ∃ Y, J + m = Y := ⟨_, rfl⟩
        have hYI : (J : Int) + (m : Int) = (Y : Int) := by omega
        have qYN : decide ((N : Int) < (Y : Int)) = false := decide_eq_false (by omega)
        obtain ⟨A2, cut3, hC3⟩ := cutMid (P := Tryd.prog) 25 5 Tryd.underlying25 h8.1 h8.2 A N c .i64 .i64 (J : Int) (Y : Int) J Y rfl rfl (by omega) (by omega) hc
        rw [show Y - J = m by omega] at cut3 hC3
        rw [hY] at hmid
        have HC3 : Aside0 (∀ W, (Kd.int .u8).C W A N bs → (Kd.int .u8).C W A2 m (packLo b l)) := ⟨fun W h => by rw [← hmid]; exact hC3 _ W bs rfl h⟩
        obtain ⟨S, hS⟩ : ∃ S, n0 + K8 = S := ⟨_, rfl⟩
        have hSI : (n0 : Int) + (K8 : Int) = (S : Int) := by omega
        have HRS := Aside0.mk (resize_calls w.heap.size _ (hybV ra) S wr HO.out HB.out.size (by omega) (by omega) (by omega))
        rw [hn0] at HRS hc0
        have hpb : bytesB (packLo b l) = true := bytesB_of fun x hx => by
          simp only [packLo, bytesLo, List.mem_map] at hx
          obtain ⟨q, _, rfl⟩ := hx
          have := byteLo_lt (bitsLo b l) q
          exact ⟨by omega, by omega⟩
        have HFL : Aside0 (∀ (W : World) (g M : Nat), Front W g M 5 .u8 (hybV ra) → S ≤ M → M ≤ 9223372036854775807 → Below w.heap.size w W → w.heap.size ≤ g → Calls Tryd.prog 86 #[.slice (some ⟨g, n0, none⟩) (S - n0) (M - n0), .slice A2 m (c - J), .int .u64 (K8 : Int), .int .u64 b] W fun e w' => e = .returned (.tuple #[]) ∧ Front w' g M 5 .u8 (hybV ra ++ l) ∧ W.grownBy w' (some g)) := ⟨fun W g M hf hM hM9 hbW hg => by
          have := unpackBytes2_calls g M (S - n0) (M - n0) (hybV ra) A2 m (c - J) b K (packLo b l) W hf (fun W2 hW2 => HC3.out W2 (readKeep_of HC.out hbW hg W2 hW2)) (by omega) (by omega) hw1 hw8 hpb hm (by omega) (by omega) (by omega) hM9 (by omega)
          rw [hn0, hK8] at this
          unfold vals8 at this
          rw [grp_vals b l K hw1 hlK hlf] at this
          exact this⟩
        have HX := Aside0.mk hx
        have HHD := Aside0.mk hby
        have HLL := Aside0.mk hL
        have HPL := Aside0.mk hpl
        have HLK := Aside0.mk hlK
        rw [hn0] at hvl ⊢
        clear hdr hCr hC1 hCd hn0 hx hL hby hvk hl0 hl8 hlf hK hpl hmid hZ hpb hC3 hlK hm8 hm hZm
        go_wp2_with (first
          | (go_at_call 80; (with_reducible refine HUV.out.mono ?_); rintro e w1 ⟨rfl, rfl⟩)
          | (go_at_call 82; (with_reducible refine (HBC.out _).mono ?_); rintro e w1 ⟨rfl, rfl⟩)
          | (go_at_call 83; (with_reducible refine HRS.out.mono ?_); rintro e w2 ⟨g, M, rfl, hf, h1, h2, h3, h4, hb2⟩; have HF2 := Aside0.mk hf; have HB2 := Aside0.mk hb2; have cut2 := cutFrom0 (P := Tryd.prog) 25 5 Tryd.underlying25 h8.1 h8.2 g S M n0 (by omega) h1 (by omega); clear hf hb2))
        have HB3 : Aside0 (Below w.heap.size w w2.drew) := ⟨(HB.out.trans (HB2.out.mono HB.out.size)).drew⟩
        have HF2d : Aside0 (Front w2.drew g M 5 .u8 (hybV ra)) := ⟨HF2.out.drewN 1⟩
        go_region_held3 (fun (w9 : World) => True) (trivial)
          ((first
            | (go_at_call 86; (with_reducible refine (HFL.out w2.drew g M HF2d.out h1 h2 HB3.out h3).mono ?_); rintro e w3 ⟨rfl, hf, hg⟩; have HF3 := Aside0.mk hf; have HG3 := Aside0.mk hg; clear hf hg)
            | fail "no arm"))
        go_wp2_with (fail)
        go_roundg (gk - 1)
        case measure => have := HKr.out; omega
        case rel =>
          refine ⟨ra ++ [R.grp l], rb, Y, HRS2, by go_num, ⟨by rw [hyb_snoc, HHD.out, List.length_append, HI.out, List.length_append, HX.out, HLL.out, HPL.out]; omega⟩, ⟨?_⟩, ⟨?_⟩, ⟨by have := HKr.out; omega⟩⟩
          · rw [hybV_snoc]
            have h := HF3.out.toOwn (base := w.heap.size) h3 h2
            rw [List.length_append, HN0.out, HLK.out, hK8, hS] at h
            exact h
          · exact HB3.out.grown HG3.out (by have h1 := HB.out.size; have h2 := HB2.out.size; show w.heap.size ≤ w2.heap.size; omega) (fun j hj => by injection hj with hj; omega)
end Go.Proofs.YtoopljlbiifmfaaDoor.Dec
