import Derived.Test.YtigmcdpjlkgocaaDoorMdm
import Derived.Test.YtigmcdpjlkgocaaDoorDbz
import Derived.Test.YtigmcdpjlkgocaaDoorFoz
/-! Lengths of texts: the statements' writer. -/
namespace Go.Proofs.YtigmcdpjlkgocaaDoor.Dlq
open Go.Proofs.YtigmcdpjlkgocaaDoor.Dls Go.Proofs.YtigmcdpjlkgocaaDoor.Dby Go.Proofs.YtigmcdpjlkgocaaDoor.Dbp Go.Proofs.YtigmcdpjlkgocaaDoor.Dfm Go.Proofs.YtigmcdpjlkgocaaDoor.Dle Go.Proofs.YtigmcdpjlkgocaaDoor.Dib Go.Proofs.YtigmcdpjlkgocaaDoor.Dew Go.Proofs.YtigmcdpjlkgocaaDoor.Dtx Go.Proofs.YtigmcdpjlkgocaaDoor.Ddc Go.Proofs.YtigmcdpjlkgocaaDoor.Dct Go.Proofs.YtigmcdpjlkgocaaDoor.Dst Go.Proofs.YtigmcdpjlkgocaaDoor.Deo Go.Proofs.YtigmcdpjlkgocaaDoor.Den Go.Proofs.YtigmcdpjlkgocaaDoor.Deb Go.Proofs.YtigmcdpjlkgocaaDoor.Dml Go.Proofs.YtigmcdpjlkgocaaDoor.Dhd Go.Proofs.YtigmcdpjlkgocaaDoor.Dgr Go.Proofs.YtigmcdpjlkgocaaDoor.Dpu Go.Proofs.YtigmcdpjlkgocaaDoor.Dds Go.Proofs.YtigmcdpjlkgocaaDoor.Pak Go.Proofs.YtigmcdpjlkgocaaDoor.Buf Go.Proofs.YtigmcdpjlkgocaaDoor.Fit Go.Proofs.YtigmcdpjlkgocaaDoor.Bit Go.Proofs.YtigmcdpjlkgocaaDoor.Wrd Go.Proofs.YtigmcdpjlkgocaaDoor.Spl Go.Proofs.YtigmcdpjlkgocaaDoor.Str Go.Proofs.YtigmcdpjlkgocaaDoor.Flt Go.Proofs.YtigmcdpjlkgocaaDoor.Owe Go.Proofs.YtigmcdpjlkgocaaDoor.Num Go.Proofs.YtigmcdpjlkgocaaDoor.Le Go.Proofs.YtigmcdpjlkgocaaDoor.Lst Go.Proofs.YtigmcdpjlkgocaaDoor.Aid Go.RowKit Go.Proofs.YtigmcdpjlkgocaaDoorW.PrintWords Go.Proofs.YtigmcdpjlkgocaaDoorW.PrintLast Go.Proofs.YtigmcdpjlkgocaaDoorW.PrintMore
set_option linter.unusedVariables false
set_option linter.unusedSimpArgs false
theorem infoI64l : (Tryd.prog.info? 2).map (fun i => (i.zero, i.size, i.bytes)) = some (some (.int .i64 0), 1, 8) := by kernel_rfl
theorem lenL_take (ls : List (List Int)) (j : Nat) (hj : j < ls.length) : lenL (ls.take (j + 1)) = lenL (ls.take j) ++ [((ls.getD j []).length : Int)] := by
  unfold lenL
  rw [List.take_succ_eq_append_getElem hj, List.map_append]
  simp [List.getD_eq_getElem?_getD, hj]
set_option maxHeartbeats 4000000 in
theorem lengths_calls (t : Nat) (A : Option Addr) (n c : Nat) (ls : List (List Int)) (w : World) (hC : (Kd.slice t (Kd.int .u8)).C w A n ls) (hc : n ≤ c) (hn : n ≤ 100000) :
    Calls Tryd.prog 46 #[.slice A n c] w fun e w' => ∃ v, e = .returned v ∧ Own w' w.heap.size 2 .i64 v (lenL ls) ∧ Below w.heap.size w w' := by
  have HLN : Aside0 (ls.length = n) := ⟨hC.1⟩
  have HC := Aside0.mk hC
  have HE0 : Aside0 (Own w w.heap.size 2 .i64 (.slice none 0 0) (lenL (ls.take 0))) := ⟨Own.nil _ _ _ _⟩
  clear hC
  go_enter Tryd.func46, Tryd.ntmps46
  go_wp2_with (fail)
  go_loopg [3, 5, 8] n (fun kq v3 v5 v8 w' => ∃ (j : Nat), j ≤ n ∧ v8 = .int .i64 j ∧ Aside0 (Own w' w.heap.size 2 .i64 v3 (lenL (ls.take j))) ∧ Aside0 (Below w.heap.size w w') ∧ Aside0 (n - j ≤ kq))
  case atStart => exact ⟨0, by omega, rfl, HE0, ⟨Below.refl _ _⟩, ⟨by omega⟩⟩
  case round =>
    clear HE0
    obtain ⟨j, hj, rfl, HO, HB, HK⟩ := hrel
    by_cases cj : j < n
    · have cjb : decide ((j : Int) < n) = true := decide_eq_true (by omega)
      have cjn : decide (j < n) = true := decide_eq_true cj
      obtain ⟨ad, A', c', ead, hcell, hle, _⟩ := at_list (Kd.C_below HC.out HB.out) j cj
      have HT := Aside0.mk (lenL_take ls j (by rw [HLN.out]; exact cj))
      obtain ⟨m, hm⟩ : ∃ m, (ls.getD j []).length = m := ⟨_, rfl⟩
      rw [hm] at hcell hle HT
      have HL : Aside0 ((lenL (ls.take j)).length = j) := ⟨by rw [lenL_length, List.length_take, HLN.out]; omega⟩
      clear hm
      subst ead
      go_wp2_with (first
        | (at_builtin; refine appendOwn (w0 := w) w.heap.size rfl (.tmp 12) (.tmp 15) 22 2 .i64 8 rfl Tryd.underlying22 infoI64l (by decide) u3 (lenL (ls.take j)) m rfl rfl HO.out HB.out ?hb ?hl ?_; (case hb => exact HB.out.size); (case hl => rw [HL.out]; omega); intro v2 w2 ho hb hg; have HO2 := Aside0.mk ho; have HB2 := Aside0.mk hb; clear ho hb hg))
      go_roundg (gk - 1)
      case measure => have := HK.out; omega
      case rel => exact ⟨j + 1, by omega, by go_num, ⟨by rw [HT.out]; exact HO2.out⟩, HB2, ⟨by have := HK.out; omega⟩⟩
    · obtain rfl : j = n := by omega
      have cjb : decide ((j : Int) < j) = false := decide_eq_false (by omega)
      have HTA : Aside0 (ls.take j = ls) := ⟨by rw [← HLN.out, List.take_length]⟩
      rw [HTA.out] at HO
      go_wp2_with (fail)
      go_ret
      exact ⟨_, rfl, HO.out, HB.out⟩
set_option maxHeartbeats 4000000 in
theorem joined_calls (t : Nat) (A : Option Addr) (n c : Nat) (ls : List (List Int)) (w : World) (hC : (Kd.slice t (Kd.int .u8)).C w A n ls) (hc : n ≤ c) (hn : n ≤ 100000) (hs : sumLen ls ≤ 100000) :
    Calls Tryd.prog 47 #[.slice A n c] w fun e w' => ∃ v, e = .returned v ∧ Own w' w.heap.size 5 .u8 v (joinL ls) ∧ Below w.heap.size w w' := by
  have HLN : Aside0 (ls.length = n) := ⟨hC.1⟩
  have HC := Aside0.mk hC
  have HS := Aside0.mk hs
  have HSM := Aside0.mk (sumLen_le ls)
  have HE0 : Aside0 (Own w w.heap.size 5 .u8 (.slice none 0 0) (joinL (ls.take 0))) := ⟨Own.nil _ _ _ _⟩
  clear hC hs
  go_enter Tryd.func47, Tryd.ntmps47
  go_wp2_with (fail)
  go_loopg [3, 5, 8] n (fun kq v3 v5 v8 w' => ∃ (j : Nat), j ≤ n ∧ v8 = .int .i64 j ∧ Aside0 (Own w' w.heap.size 5 .u8 v3 (joinL (ls.take j))) ∧ Aside0 (Below w.heap.size w w') ∧ Aside0 (n - j ≤ kq))
  case atStart => exact ⟨0, by omega, rfl, HE0, ⟨Below.refl _ _⟩, ⟨by omega⟩⟩
  case round =>
    clear HE0
    obtain ⟨j, hj, rfl, HO, HB, HK⟩ := hrel
    by_cases cj : j < n
    · have cjb : decide ((j : Int) < n) = true := decide_eq_true (by omega)
      have cjn : decide (j < n) = true := decide_eq_true cj
      obtain ⟨ad, A', c', ead, hcell, hle, hCl⟩ := at_list (Kd.C_below HC.out HB.out) j cj
      have HT := Aside0.mk (joinL_take ls j (by rw [HLN.out]; exact cj))
      have hst := sumLen_take ls j (by rw [HLN.out]; exact cj)
      have hq9 := HSM.out (j + 1)
      have hsz : (joinL (ls.take j)).length + (ls.getD j []).length ≤ 100000 := by rw [joinL_length]; have := HS.out; omega
      obtain ⟨l, hl⟩ : ∃ l, ls.getD j [] = l := ⟨_, rfl⟩
      rw [hl] at hcell hle HT hCl hsz
      obtain ⟨m, hm⟩ : ∃ m, l.length = m := ⟨_, rfl⟩
      rw [hm] at hcell hle hCl hsz
      have HCL := Aside0.mk hCl
      have HSZ := Aside0.mk hsz
      clear hl hm hCl hst hq9 hsz
      subst ead
      go_wp2_with (first
        | (at_builtin; refine appendRead (w0 := w) w.heap.size rfl (.tmp 12) (.tmp 13) 29 5 .u8 1 rfl Tryd.underlying29 infoU8 (by decide) u3 (joinL (ls.take j)) A' m c' l rfl rfl HO.out HB.out HB.out.size HCL.out ?hl ?_; (case hl => have := HSZ.out; omega); intro v2 w2 ho hb hg; have HO2 := Aside0.mk ho; have HB2 := Aside0.mk hb; clear ho hb hg))
      go_roundg (gk - 1)
      case measure => have := HK.out; omega
      case rel => exact ⟨j + 1, by omega, by go_num, ⟨by rw [HT.out]; exact HO2.out⟩, HB2, ⟨by have := HK.out; omega⟩⟩
    · obtain rfl : j = n := by omega
      have cjb : decide ((j : Int) < j) = false := decide_eq_false (by omega)
      have HTA : Aside0 (ls.take j = ls) := ⟨by rw [← HLN.out, List.take_length]⟩
      rw [HTA.out] at HO
      go_wp2_with (fail)
      go_ret
      exact ⟨_, rfl, HO.out, HB.out⟩
theorem hdG_len (B P T : Nat) (f : Int) (hB : B ≤ 65536) (hP : P ≤ 65536) (hT : T ≤ 200000) (h0 : -9223372036854775808 ≤ f) (h1 : f ≤ 9223372036854775807) : (hdG B P T f).length ≤ 40 := by
  unfold hdG
  have a := varL_len10 B (by omega)
  have b := varL_len10 P (by omega)
  have c := varL_len10 T (by omega)
  have d := varL_len10 (zz f) (zz_lt f h0 h1)
  simp only [List.length_append]; omega
set_option maxHeartbeats 16000000 in
set_option maxRecDepth 100000 in
theorem lengthBytes_calls (t : Nat) (B P S : Nat) (Am : Option Addr) (nm cm : Nat) (mr : List Int) (A : Option Addr) (n c : Nat) (ls : List (List Int)) (W : World) (hC : (Kd.slice t (Kd.int .u8)).C W A n ls) (hc : n ≤ c) (hn : n ≤ 100000) (hs : sumLen ls ≤ 100000)
    (hM : (Kd.int .i64).C W Am nm mr) (hcm : nm ≤ cm) (hnm : nm ≤ 100) (hmr : ∀ x ∈ mr, 0 ≤ x ∧ x ≤ 64) (hB : B = P * S) (hB1 : 128 ≤ B) (hB9 : B ≤ 1024) (hBm : B % 128 = 0) (hS : S % 32 = 0) (hP : 0 < P) (hP9 : P ≤ 32) :
    Calls Tryd.prog 22 #[.slice A n c, .agg #[.int .i64 B, .int .i64 P, .slice Am nm cm]] W fun e w' => ∃ v X bs, e = .returned v ∧ Own w' W.heap.size 5 .u8 v X ∧ NumStr (lenL ls) X (joinL ls) B P S bs ∧ X.length ≤ 2000000 ∧ Below W.heap.size W w' := by
  have HLN : Aside0 (ls.length = n) := ⟨hC.1⟩
  have HC := Aside0.mk hC
  have HM := Aside0.mk hM
  have HBD : Aside0 (∀ x ∈ lenL ls, -2147483648 ≤ x ∧ x ≤ 2147483647) := ⟨fun x hx => by have := lenL_bd ls hs x hx; omega⟩
  have HLL : Aside0 ((lenL ls).length = n) := ⟨by rw [lenL_length]; exact hC.1⟩
  obtain ⟨M, hM0⟩ : ∃ M, (joinL ls).length = M := ⟨_, rfl⟩
  have HJL := Aside0.mk hM0
  have hM9 : M ≤ 100000 := by rw [← hM0, joinL_length]; exact hs
  obtain ⟨x0, x1, x2⟩ := form_cells W B P Am nm cm
  have hlt0 : W.heap.size < (W.alloc (.cells #[.int .i64 B, .int .i64 P, .slice Am nm cm] 25)).heap.size := by simp
  have hB0 : Aside0 (Below W.heap.size W (W.alloc (.cells #[.int .i64 B, .int .i64 P, .slice Am nm cm] 25))) := ⟨(Below.refl _ _).alloc (Nat.le_refl _) _⟩
  have HXA : Aside0 (∀ W1, Below (W.alloc (.cells #[.int .i64 B, .int .i64 P, .slice Am nm cm] 25)).heap.size (W.alloc (.cells #[.int .i64 B, .int .i64 P, .slice Am nm cm] 25)) W1 → W1.cell? ⟨W.heap.size, 0, none⟩ = some (.int .i64 B) ∧ W1.cell? ⟨W.heap.size, 1, none⟩ = some (.int .i64 P) ∧ W1.cell? ⟨W.heap.size, 2, none⟩ = some (.slice Am nm cm)) := ⟨fun W1 h => ⟨(h.cell hlt0).trans x0, (h.cell hlt0).trans x1, (h.cell hlt0).trans x2⟩⟩
  have HOW : Aside0 (∀ w4, Below (W.alloc (.cells #[.int .i64 B, .int .i64 P, .slice Am nm cm] 25)).heap.size (W.alloc (.cells #[.int .i64 B, .int .i64 P, .slice Am nm cm] 25)) w4 → Below W.heap.size W w4) := ⟨fun w4 h => hB0.out.trans (h.mono (Nat.le_of_lt hlt0))⟩
  have HBd : Aside0 (Below (W.alloc (.cells #[.int .i64 B, .int .i64 P, .slice Am nm cm] 25)).heap.size (W.alloc (.cells #[.int .i64 B, .int .i64 P, .slice Am nm cm] 25)) (W.alloc (.cells #[.int .i64 B, .int .i64 P, .slice Am nm cm] 25)).drew) := ⟨(Below.refl _ _).drew⟩
  have HDL := Aside0.mk fun W1 h => lengths_calls t A n c ls W1 h hc hn
  have HJN := Aside0.mk fun W1 h => joined_calls t A n c ls W1 h hc hn hs
  have HDB := Aside0.mk fun (A6 : Option Addr) (c6 : Nat) (W1 : World) (h : (Kd.int .i64).C W1 A6 n (lenL ls)) (hc6 : n ≤ c6) (hb1 : Below W.heap.size W W1) => deltaBytes32_calls B P S Am nm cm mr A6 n c6 (lenL ls) W1 h hc6 hn HBD.out (Kd.C_below HM.out hb1) hcm hnm hmr hB hB1 hB9 hS hP hP9
  have HBS := Aside0.mk hB
  have HBm := Aside0.mk hBm
  have HSm := Aside0.mk hS
  clear hC hM hs hM0 hmr hB hBm hS
  go_enter Tryd.func22, Tryd.ntmps22
  go_wp2_with (fail)
  go_region_held3 (fun (w9 : World) => w9.cell? ⟨W.heap.size, 0, none⟩ = some (.int .i64 B) ∧ w9.cell? ⟨W.heap.size, 1, none⟩ = some (.int .i64 P) ∧ w9.cell? ⟨W.heap.size, 2, none⟩ = some (.slice Am nm cm))
    (first | exact HXA.out _ HB7.out | exact HXA.out _ HB6.out | exact HXA.out _ HB5.out | exact HXA.out _ HB4.out | exact HXA.out _ HBd.out)
    ((first
      | (go_at_call 46; (with_reducible refine (HDL.out _ (Kd.C_below HC.out (HOW.out _ HBd.out))).mono ?_); rintro e w4 ⟨v4, rfl, ho, hb⟩; obtain ⟨A4, c4, rfl, hc4, hr4⟩ := ho.read; rw [HLL.out] at hc4 hr4; rw [HLL.out]; have HR4 := Aside0.mk hr4; have HB4 := Aside0.mk (HBd.out.trans (hb.mono HBd.out.size)); clear ho hb hr4)
      | (go_at_call 14; (with_reducible refine (HDB.out A4 c4 _ HR4.out hc4 (HOW.out _ HB4.out)).mono ?_); rintro e w5 ⟨v5, bs, rfl, ho, hok, hv, hl, hb⟩; have HB5 := Aside0.mk (HB4.out.trans (hb.mono HB4.out.size)); have HO5 := Aside0.mk ho; have HOK := Aside0.mk hok; have HVV := Aside0.mk hv; have HLE := Aside0.mk hl; have HB45 := Aside0.mk hb; have HX9 : Aside0 ((hdG B P n (fstI (lenL ls)) ++ blksB bs).length ≤ 1000040) := (Aside0.mk (by have h1 := hdG_len B P n (fstI (lenL ls)) (by omega) (by omega) (by omega) (by have := (fstI_bd HBD.out).1; omega) (by have := (fstI_bd HBD.out).2; omega); rw [List.length_append]; omega)); clear ho hb hok hv hl)
      | (go_at_call 47; (with_reducible refine (HJN.out _ (Kd.C_below HC.out (HOW.out _ HB5.out))).mono ?_); rintro e w6 ⟨v6, rfl, ho, hb⟩; obtain ⟨A6, c6, rfl, hc6, hr6⟩ := ho.read; rw [HJL.out] at hc6 hr6; rw [HJL.out]; have HR6 := Aside0.mk hr6; have HB6 := Aside0.mk (HB5.out.trans (hb.mono HB5.out.size)); have HO6 := Aside0.mk (HO5.out.below hb); have HB46 := Aside0.mk (HB45.out.trans (hb.mono HB45.out.size)); clear ho hb hr6)
      | (refine appendReadStep (w0 := w4) w4.heap.size (by rfl) (.tmp 8) (.tmp 10) 29 5 .u8 1 (by rfl) Tryd.underlying29 infoU8 (by decide) v5 _ A6 M c6 (joinL ls) (by rfl) (by rfl) HO6.out HB46.out HB46.out.size HR6.out ?hl ?_; (case hl => have := HX9.out; omega); intro v7 w7 ho hb hg; have HO7 := Aside0.mk ho; have HB7 := Aside0.mk (HB4.out.trans (hb.mono HB4.out.size)); clear ho hb hg)
      | fail "no arm"))
  go_wp2_with (fail)
  go_ret
  refine ⟨v7, _, bs, rfl, Own.lower HO7.out (HOW.out _ HB4.out).size, ⟨by rw [HLL.out, List.append_assoc], HBS.out, HBm.out, HSm.out, hP, by omega, by omega, by rw [HLL.out]; exact HOK.out, by rw [HLL.out]; exact HVV.out, HBD.out⟩, ?_, HOW.out _ HB7.out⟩
  have h1 := HX9.out
  rw [List.length_append, HJL.out]
  omega
theorem lengthBytesS_calls (t : Nat) (B P S : Nat) (Am : Option Addr) (nm cm : Nat) (mr : List Int) (A : Option Addr) (n c : Nat) (ls : List (List Int)) (W : World) (hC : (Kd.slice t (Kd.int .u8)).C W A n ls) (hc : n ≤ c) (hn : n ≤ 100000) (hs : sumLen ls ≤ 100000)
    (hM : (Kd.int .i64).C W Am nm mr) (hcm : nm ≤ cm) (hnm : nm ≤ 100) (hmr : ∀ x ∈ mr, 0 ≤ x ∧ x ≤ 64) (hB : B = P * S) (hB1 : 128 ≤ B) (hB9 : B ≤ 1024) (hBm : B % 128 = 0) (hS : S % 32 = 0) (hP : 0 < P) (hP9 : P ≤ 32) :
    Calls Tryd.prog 22 #[.slice A n c, .agg #[.int .i64 B, .int .i64 P, .slice Am nm cm]] W fun e w' => ∃ v X, e = .returned v ∧ Own w' W.heap.size 5 .u8 v X ∧ LenStr ls X B P S ∧ X.length ≤ 5000000 ∧ Below W.heap.size W w' := by
  refine (lengthBytes_calls t B P S Am nm cm mr A n c ls W hC hc hn hs hM hcm hnm hmr hB hB1 hB9 hBm hS hP hP9).mono ?_
  rintro e w' ⟨v, X, bs, e1, ho, hX, hl, hb⟩
  exact ⟨v, X, e1, ho, ⟨bs, hX⟩, by omega, hb⟩
end Go.Proofs.YtigmcdpjlkgocaaDoor.Dlq
