import Derived.Test.YtkefklemcoehmaaGreatDoorTxt
/-! What breaks off is refused: plain numbers and texts; the law of it. -/
namespace Go.Proofs.YtkefklemcoehmaaGreatDoor.Cut
open Go.Proofs.YtkefklemcoehmaaGreatDoor.Txt Go.Proofs.YtkefklemcoehmaaGreatDoor.Imd Go.Proofs.YtkefklemcoehmaaGreatDoor.Pln Go.Proofs.YtkefklemcoehmaaGreatDoor.Wrd Go.Proofs.YtkefklemcoehmaaGreatDoor.Spl Go.Proofs.YtkefklemcoehmaaGreatDoor.Str Go.Proofs.YtkefklemcoehmaaGreatDoor.Flt Go.Proofs.YtkefklemcoehmaaGreatDoor.Owe Go.Proofs.YtkefklemcoehmaaGreatDoor.Num Go.Proofs.YtkefklemcoehmaaGreatDoor.Le Go.Proofs.YtkefklemcoehmaaGreatDoor.Lst Go.Proofs.YtkefklemcoehmaaGreatDoor.Aid Go.RowKit Go.Proofs.YtkefklemcoehmaaGreatDoorW.PrintWords Go.Proofs.YtkefklemcoehmaaGreatDoorW.PrintLast Go.Proofs.YtkefklemcoehmaaGreatDoorW.PrintMore
set_option linter.unusedVariables false
set_option linter.unusedSimpArgs false
set_option maxHeartbeats 4000000 in
theorem tooShort_calls (n : Int) (u0 : TypeId) (e0 : Value) (w : World) (hE : w.cell? ⟨0, 0, none⟩ = some (.iface u0 e0)) :
    Calls Tryz.prog 34 #[.int .i64 n] w fun e w' => e = .returned (.iface u0 e0) ∧ w = w' := by
  go_enter Tryz.func34, Tryz.ntmps34
  go_wp2_with (fail)
  go_ret
  exact ⟨rfl, rfl⟩
set_option maxHeartbeats 4000000 in
theorem newErr_calls (s : ByteArray) (w : World) :
    Calls Tryz.prog 64 #[.string s] w fun e w' => ∃ u v, e = .returned (.iface u v) ∧ Below w.heap.size w w' := by
  go_enter Tryz.func64, Tryz.ntmps64
  go_wp2_with (fail)
  go_ret
  exact ⟨_, _, rfl, (Below.refl _ _).alloc (Nat.le_refl _) _⟩
set_option maxHeartbeats 4000000 in
theorem badSize_calls (s : ByteArray) (hs : s.size ≤ 100) (w : World) :
    Calls Tryz.prog 44 #[.string s] w fun e w' => ∃ u v, e = .returned (.iface u v) ∧ Below w.heap.size w w' := by
  have hs1 : ¬ 9223372036854775807 < 14 + s.size := by omega
  have hs2 : ¬ 9223372036854775807 < 14 + s.size + 24 := by omega
  go_enter Tryz.func44, Tryz.ntmps44
  go_wp2_with (first
    | (go_at_call 64; (with_reducible refine (newErr_calls _ w).mono ?_); rintro e w2 ⟨u, v, rfl, hb⟩; have HB2 := Aside0.mk hb; clear hb))
  go_ret
  exact ⟨_, _, rfl, HB2.out⟩
set_option maxHeartbeats 4000000 in
theorem plDecodeInt32Bad_calls (p : Option Addr) (A : Option Addr) (N c : Nat) (w : World) (hN : N % 4 ≠ 0) (hN2 : N ≤ 1000000) :
    Calls Tryz.prog 16 #[.pointer p, .slice none 0 0, .slice A N c] w fun e w' => ∃ u v, e = .returned (.tuple #[.slice none 0 0, .iface u v]) ∧ Below w.heap.size w w' := by
  have q1 : ((N : Int) % 4 != 0) = true := by simpa using (show (N : Int) % 4 ≠ 0 by omega)
  have q2 : decide ((N : Int) % 4 = 0) = false := decide_eq_false (by omega)
  have q3 : ¬ (N : Int) % 4 = 0 := by omega
  clear hN
  go_enter Tryz.func16, Tryz.ntmps16
  go_wp2_with (first
    | (go_at_call 44; (with_reducible refine (badSize_calls _ (by decide) w).mono ?_); rintro e w2 ⟨u, v, rfl, hb⟩; have HB2 := Aside0.mk hb; clear hb))
  go_ret2
  exact ⟨_, _, rfl, HB2.out⟩
set_option maxHeartbeats 4000000 in
theorem decodeInt32sBad_calls (A : Option Addr) (N c : Nat) (bs : List Int) (w : World) (hC : (Kd.int .u8).C w A N bs) (hc : N ≤ c) (hN : N % 4 ≠ 0) (hN2 : N ≤ 1000000) :
    Calls Tryz.prog 8 #[.string ⟨#[112, 108, 97, 105, 110]⟩, .int .i64 0, .slice A N c] w fun e w' => ∃ v, e = .returned (.tuple #[v, .bool false]) ∧ Below w.heap.size w w' := by
  have HLN : Aside0 (bs.length = N) := ⟨hC.1⟩
  have HC2 : Aside0 ((Kd.int .u8).C (w.alloc (.cells #[] 5)) A N bs) := ⟨Kd.C_alloc hC _⟩
  have HE := Aside0.mk (Own.empty w w.heap.size 5 .u8 (Nat.le_refl _))
  have HEB : Aside0 (Below w.heap.size w (w.alloc (.cells #[] 5))) := ⟨(Below.refl _ _).alloc (Nat.le_refl _) _⟩
  have HN := Aside0.mk hN
  clear hC hN
  go_enter Tryz.func8, Tryz.ntmps8
  go_wp2_with (first
    | (at_builtin; refine appendRead (w0 := w) w.heap.size rfl (.tmp 11) (.tmp 12) 25 5 .u8 1 rfl Tryz.underlying25 infoU8 (by decide) _ [] A N c bs rfl rfl HE.out HEB.out ?hb HC2.out ?hl ?_; (case hb => exact HEB.out.size); (case hl => simp; omega); intro v1 w1 ho hb hg; rw [List.nil_append] at ho; obtain ⟨A1, c1, rfl, hc1, hr1⟩ := ho.read; rw [HLN.out] at hc1 hr1; rw [HLN.out]; have HB1 := Aside0.mk hb; have HBA : Aside0 (Below w.heap.size w (w1.alloc (.cells #[] 44))) := ⟨hb.alloc hb.size _⟩; clear ho hb hg hr1)
    | (go_at_call 16; (with_reducible refine (plDecodeInt32Bad_calls _ A1 N c1 _ HN.out hN2).mono ?_); rintro e w2 ⟨u2, v2, rfl, hb⟩; have HB2 := Aside0.mk (HBA.out.trans (hb.mono HBA.out.size)); clear hb)
    | go_quiet (fail))
  go_ret2
  exact ⟨_, rfl, HB2.out.trans ((drewN_below _ _).mono HB2.out.size)⟩
set_option maxHeartbeats 4000000 in
theorem plDecodeInt64Bad_calls (p : Option Addr) (A : Option Addr) (N c : Nat) (w : World) (hN : N % 8 ≠ 0) (hN2 : N ≤ 1000000) :
    Calls Tryz.prog 22 #[.pointer p, .slice none 0 0, .slice A N c] w fun e w' => ∃ u v, e = .returned (.tuple #[.slice none 0 0, .iface u v]) ∧ Below w.heap.size w w' := by
  have q1 : ((N : Int) % 8 != 0) = true := by simpa using (show (N : Int) % 8 ≠ 0 by omega)
  have q2 : decide ((N : Int) % 8 = 0) = false := decide_eq_false (by omega)
  have q3 : ¬ (N : Int) % 8 = 0 := by omega
  clear hN
  go_enter Tryz.func22, Tryz.ntmps22
  go_wp2_with (first
    | (go_at_call 44; (with_reducible refine (badSize_calls _ (by decide) w).mono ?_); rintro e w2 ⟨u, v, rfl, hb⟩; have HB2 := Aside0.mk hb; clear hb))
  go_ret2
  exact ⟨_, _, rfl, HB2.out⟩
set_option maxHeartbeats 4000000 in
theorem decodeInt64sBad_calls (A : Option Addr) (N c : Nat) (bs : List Int) (w : World) (hC : (Kd.int .u8).C w A N bs) (hc : N ≤ c) (hN : N % 8 ≠ 0) (hN2 : N ≤ 1000000) :
    Calls Tryz.prog 9 #[.string ⟨#[112, 108, 97, 105, 110]⟩, .slice A N c] w fun e w' => ∃ v, e = .returned (.tuple #[v, .bool false]) ∧ Below w.heap.size w w' := by
  have HLN : Aside0 (bs.length = N) := ⟨hC.1⟩
  have HC2 : Aside0 ((Kd.int .u8).C (w.alloc (.cells #[] 5)) A N bs) := ⟨Kd.C_alloc hC _⟩
  have HE := Aside0.mk (Own.empty w w.heap.size 5 .u8 (Nat.le_refl _))
  have HEB : Aside0 (Below w.heap.size w (w.alloc (.cells #[] 5))) := ⟨(Below.refl _ _).alloc (Nat.le_refl _) _⟩
  have HN := Aside0.mk hN
  clear hC hN
  go_enter Tryz.func9, Tryz.ntmps9
  go_wp2_with (first
    | (at_builtin; refine appendRead (w0 := w) w.heap.size rfl (.tmp 9) (.tmp 10) 25 5 .u8 1 rfl Tryz.underlying25 infoU8 (by decide) _ [] A N c bs rfl rfl HE.out HEB.out ?hb HC2.out ?hl ?_; (case hb => exact HEB.out.size); (case hl => simp; omega); intro v1 w1 ho hb hg; rw [List.nil_append] at ho; obtain ⟨A1, c1, rfl, hc1, hr1⟩ := ho.read; rw [HLN.out] at hc1 hr1; rw [HLN.out]; have HB1 := Aside0.mk hb; have HBA : Aside0 (Below w.heap.size w (w1.alloc (.cells #[] 44))) := ⟨hb.alloc hb.size _⟩; clear ho hb hg hr1)
    | (go_at_call 22; (with_reducible refine (plDecodeInt64Bad_calls _ A1 N c1 _ HN.out hN2).mono ?_); rintro e w2 ⟨u2, v2, rfl, hb⟩; have HB2 := Aside0.mk (HBA.out.trans (hb.mono HBA.out.size)); clear hb)
    | go_quiet (fail))
  go_ret2
  exact ⟨_, rfl, HB2.out.trans ((drewN_below _ _).mono HB2.out.size)⟩
set_option maxHeartbeats 4000000 in
theorem plDecodeTextsCut_calls (p : Option Addr) (A : Option Addr) (N c k : Nat) (ls : List (List Int)) (tl : List Int) (u0 : TypeId) (e0 : Value) (w : World) (hE : w.cell? ⟨0, 0, none⟩ = some (.iface u0 e0)) (ht0 : 0 < tl.length) (ht4 : tl.length < 4) (htb : bytesB tl = true) (hC : (Kd.int .u8).C w A N (textsB ls ++ tl)) (hc : N ≤ c) (hk : ls.length = k) (hs : k + sumLen ls ≤ 100000) (hb : ∀ l ∈ ls, bytesB l = true) :
    Calls Tryz.prog 13 #[.pointer p, .slice none 0 0, .slice A N c, .slice none 0 0] w fun e w' => ∃ v u, e = .returned (.tuple #[v, u, .iface u0 e0]) ∧ Below w.heap.size w w' := by
  have HLN : Aside0 ((textsB ls ++ tl).length = N) := ⟨hC.1⟩
  have HTT : Aside0 ((textsB ls).length + tl.length = N) := ⟨by rw [← List.length_append]; exact hC.1⟩
  have HE := Aside0.mk hE
  have HEL := Aside0.mk (World.block_lt_of_cell? w _ hE)
  have HT0 := Aside0.mk ht0
  have HT4 := Aside0.mk ht4
  have HC := Aside0.mk hC
  have HKL := Aside0.mk hk
  have HSM := Aside0.mk (sumLen_le ls)
  have HLE := Aside0.mk (textsB_le ls)
  have HBY : Aside0 (bytesB (textsB ls ++ tl) = true) := ⟨bytesB_of fun x hx => by
    rcases List.mem_append.1 hx with hx | hx
    · exact bytesB_mem (textsB_bytes hb) x hx
    · exact bytesB_mem htb x hx⟩
  have hN : N ≤ 500000 := by have := HTT.out; rw [textsB_length] at this; omega
  have HSS : Aside0 (k + sumLen ls ≤ 100000) := ⟨hs⟩
  have hk9 : k ≤ 100000 := by omega
  obtain ⟨i8, h8⟩ := h8
  obtain ⟨i32, h32⟩ : ∃ i, (Tryz.prog.info? 37) = some i ∧ i.size = 1 := Option.map_eq_some_iff.1 (show (Tryz.prog.info? 37).map (fun i => i.size) = some 1 by kernel_rfl)
  obtain ⟨cutz, _⟩ := cutHi (P := Tryz.prog) 25 5 Tryz.underlying25 h8.1 none 0 0 .i64 0 0 rfl (by omega) (by omega)
  obtain ⟨cuty, _⟩ := cutHi (P := Tryz.prog) 38 37 Tryz.underlying38 h32.1 none 0 0 .i64 0 0 rfl (by omega) (by omega)
  clear hC hk hb hs hE ht0 ht4 htb
  go_enter Tryz.func13, Tryz.ntmps13
  go_wp2_with (first | go_quiet (fail))
  have HB0 : Aside0 (Below w.heap.size w (w.drewN nq)) := ⟨drewN_below w nq⟩
  generalize w.drewN nq = wq at *
  go_loopg [1, 3, 11, 12] k (fun kq v1 v3 v11 v12 w' => ∃ (j o : Nat), j ≤ k ∧ v11 = .int .i64 o ∧ o ≤ N ∧ Aside0 (o = (textsB (ls.take j)).length) ∧ Aside0 (Own w' w.heap.size 5 .u8 v1 (joinL (ls.take j))) ∧ Aside0 (Own w' w.heap.size 37 .u32 v3 (offsL ls j)) ∧ Aside0 (Below w.heap.size w w') ∧ Aside0 (k - j ≤ kq))
  case atStart => exact ⟨0, 0, by omega, rfl, by omega, ⟨by simp [textsB]⟩, ⟨Own.nil _ _ _ _⟩, ⟨Own.nil _ _ _ _⟩, HB0, ⟨by omega⟩⟩
  case round =>
    clear HB0
    obtain ⟨j, o, hj, rfl, ho, HQ, HO, HP, HB, HK⟩ := hrel
    by_cases cj : j < k
    · obtain ⟨m, hm⟩ : ∃ m, (ls.getD j []).length = m := ⟨_, rfl⟩
      have h1 := textsB_mono ls j (by rw [HKL.out]; exact cj)
      have h2 := HLE.out (j + 1)
      rw [← h1, ← HQ.out, hm] at h2
      have htt := HTT.out
      have ht0 := HT0.out
      have h2N : o + 4 + m ≤ N := by omega
      have hdrop := texts_drop ls j (by rw [HKL.out]; exact cj) tl
      have hcut := texts_cut ls j (by rw [HKL.out]; exact cj) tl
      rw [← HQ.out, hm] at hdrop
      rw [← HQ.out, hm] at hcut
      have hle : le4L ((textsB ls ++ tl).drop o) = m := by rw [hdrop]; exact le4_low _ _ (by omega) (by omega)
      have c1 : decide ((o : Int) < N) = true := decide_eq_true (by omega)
      have c2 : decide ((N : Int) - o < 4) = false := decide_eq_false (by omega)
      have c3 : decide ((N : Int) - 4 < m) = false := decide_eq_false (by omega)
      obtain ⟨A1, cut1, hC1⟩ := cutLo (P := Tryz.prog) 25 5 Tryz.underlying25 h8.1 h8.2 A N c .i64 (o : Int) o rfl (by omega) hc
      have HBL := Aside0.mk (byteLength_calls A1 (N - o) (c - o) _ wr (hC1 _ _ _ rfl (Kd.C_below HC.out HB.out)) (by omega) (by omega) (bytesB_drop HBY.out o))
      rw [hle] at HBL
      obtain ⟨A2, cut2, hC2⟩ := cutMid (P := Tryz.prog) 25 5 Tryz.underlying25 h8.1 h8.2 A N c .i64 .i64 ((o : Int) + 4) ((o : Int) + 4 + m) (o + 4) (o + 4 + m) (by omega) (by omega) (by omega) (by omega) hc
      rw [show o + 4 + m - (o + 4) = m by omega] at cut2 hC2
      have HC2 : Aside0 (∀ W, Below w.heap.size w W → (Kd.int .u8).C W A2 m (ls.getD j [])) := ⟨fun W hW => by have := hC2 (Kd.int .u8) W _ rfl (Kd.C_below HC.out hW); rw [hcut] at this; exact this⟩
      have HJ := Aside0.mk (joinL_take ls j (by rw [HKL.out]; exact cj))
      obtain ⟨l, hl⟩ : ∃ l, ls.getD j [] = l := ⟨_, rfl⟩
      rw [hl] at HC2 HJ
      obtain ⟨q, hq⟩ : ∃ q, (joinL (ls.take j)).length = q := ⟨_, rfl⟩
      have hq9 : q + m ≤ 100000 := by
        have h3 := HSM.out (j + 1)
        have h4 := HSS.out
        rw [sumLen_take ls j (by rw [HKL.out]; exact cj), hm, ← joinL_length, hq] at h3
        omega
      have HQQ := Aside0.mk hq
      have HQS : Aside0 (sumLen (ls.take j) = q) := ⟨by rw [← joinL_length]; exact hq⟩
      have qw : IntKind.u32.wrap (q : Int) = (q : Int) := by rw [IntKind.wrap_u32]; omega
      have HOF : Aside0 ((offsL ls j).length = j) := ⟨offsL_length _ _⟩
      have HT1 : Aside0 (o + 4 + m = (textsB (ls.take (j + 1))).length) := ⟨by rw [HQ.out, ← hm]; exact h1⟩
      obtain ⟨Av, cv, rfl, hcv, _⟩ := HO.out.read
      rw [hq] at HO
      clear hj h1 hdrop hcut hle hC1 hC2 hl hq hm h2 htt ht0
      rw [HQQ.out]
      go_wp2_with (first
        | (go_at_call 35; (with_reducible refine HBL.out.mono ?_); rintro e w2 ⟨rfl, ⟨nd, rfl⟩⟩; have HO2 := Aside0.mk (HO.out.drewN nd); have HP2 := Aside0.mk (HP.out.drewN nd); have HB2 := Aside0.mk (HB.out.trans ((drewN_below wr nd).mono HB.out.size)))
        | (at_builtin; refine appendOwn (w0 := w) w.heap.size rfl (.tmp 47) (.tmp 51) 38 37 .u32 4 rfl Tryz.underlying38 infoU32 (by decide) u3 (offsL ls j) q rfl rfl HP2.out HB2.out ?hb ?hl ?_; (case hb => exact HB2.out.size); (case hl => rw [HOF.out]; omega); intro v3 w3 ho hb hg; have HO3 := Aside0.mk (HO2.out.grown hg (own_types HO2.out HP2.out tne1)); have HP3 := Aside0.mk ho; have HB3 := Aside0.mk hb; clear ho hb hg)
        | (at_builtin; refine appendRead (w0 := w) w.heap.size rfl (.tmp 53) (.tmp 59) 25 5 .u8 1 rfl Tryz.underlying25 infoU8 (by decide) _ (joinL (ls.take j)) A2 m (c - (o + 4)) l rfl rfl HO3.out HB3.out HB3.out.size (HC2.out _ HB3.out) ?hl ?_; (case hl => have := HQQ.out; omega); intro v4 w4 ho hb hg; have HP4 := Aside0.mk (HP3.out.grown hg (own_types HP3.out HO3.out (Ne.symm tne1))); have HO4 := Aside0.mk ho; have HB4 := Aside0.mk hb; clear ho hb hg))
      go_roundg (gk - 1)
      case measure => have := HK.out; omega
      case rel =>
        refine ⟨j + 1, o + 4 + m, by omega, by go_num, by omega, HT1, ⟨?_⟩, ⟨?_⟩, HB4, ⟨by have := HK.out; omega⟩⟩
        · rw [HJ.out]; exact HO4.out
        · rw [offsL_succ, HQS.out]; exact HP4.out
    · obtain rfl : j = k := by omega
      have HTA : Aside0 (ls.take j = ls) := ⟨by rw [← HKL.out, List.take_length]⟩
      rw [HTA.out] at HQ HO
      have htt := HTT.out
      have ht0 := HT0.out
      have ht4 := HT4.out
      have hoN : o = (textsB ls).length := HQ.out
      have c1 : decide ((o : Int) < N) = true := decide_eq_true (by omega)
      have c1n : decide (o < N) = true := decide_eq_true (by omega)
      have c2 : decide ((N : Int) - o < 4) = true := decide_eq_true (by omega)
      have hE := (HB.out.cell (p := ⟨0, 0, none⟩) HEL.out).trans HE.out
      obtain ⟨Av, cv, rfl, hcv, _⟩ := HO.out.read
      obtain ⟨Aw, cw, rfl, hcw, _⟩ := HP.out.read
      clear hj hoN htt ht0 ht4
      go_wp2_with (first
        | (go_at_call 34; (with_reducible refine (tooShort_calls _ u0 e0 wr hE).mono ?_); rintro e w2 ⟨rfl, rfl⟩))
      go_ret3
      exact ⟨_, _, rfl, HB.out⟩
set_option maxHeartbeats 4000000 in
theorem decodeTextsCut_calls (A : Option Addr) (N c n : Nat) (ls : List (List Int)) (tl : List Int) (u0 : TypeId) (e0 : Value) (w : World) (hE : w.cell? ⟨0, 0, none⟩ = some (.iface u0 e0)) (ht0 : 0 < tl.length) (ht4 : tl.length < 4) (htb : bytesB tl = true) (hC : (Kd.int .u8).C w A N (textsB ls ++ tl)) (hc : N ≤ c) (hn : ls.length = n) (hs : n + sumLen ls ≤ 100000) (hb : ∀ l ∈ ls, bytesB l = true) :
    Calls Tryz.prog 7 #[.string ⟨#[112, 108, 97, 105, 110]⟩, .slice A N c] w fun e w' => ∃ v, e = .returned (.tuple #[v, .bool false]) ∧ Below w.heap.size w w' := by
  have HTL : Aside0 ((textsB ls ++ tl).length = N) := ⟨hC.1⟩
  have HBY := Aside0.mk hb
  have HSS := Aside0.mk hs
  have HLN := Aside0.mk hn
  have HT0 := Aside0.mk ht0
  have HT4 := Aside0.mk ht4
  have HTB := Aside0.mk htb
  have HE0 := Aside0.mk hE
  have HEL := Aside0.mk (World.block_lt_of_cell? w _ hE)
  have hN : N ≤ 500004 := by have := hC.1; rw [List.length_append, textsB_length] at this; omega
  have HC2 : Aside0 ((Kd.int .u8).C (w.alloc (.cells #[] 5)) A N (textsB ls ++ tl)) := ⟨Kd.C_alloc hC _⟩
  have HE := Aside0.mk (Own.empty w w.heap.size 5 .u8 (Nat.le_refl _))
  have HEB : Aside0 (Below w.heap.size w (w.alloc (.cells #[] 5))) := ⟨(Below.refl _ _).alloc (Nat.le_refl _) _⟩
  clear hC hb hs hn ht0 ht4 htb hE
  go_enter Tryz.func7, Tryz.ntmps7
  go_wp2_with (first
    | (at_builtin; refine appendRead (w0 := w) w.heap.size rfl (.tmp 12) (.tmp 13) 25 5 .u8 1 rfl Tryz.underlying25 infoU8 (by decide) _ [] A N c (textsB ls ++ tl) rfl rfl HE.out HEB.out ?hb HC2.out ?hl ?_; (case hb => exact HEB.out.size); (case hl => simp; omega); intro v1 w1 ho hb hg; rw [List.nil_append] at ho; obtain ⟨A1, c1, rfl, hc1, hr1⟩ := ho.read; rw [HTL.out] at hc1 hr1; rw [HTL.out]; have HR1 := Aside0.mk hr1; have HB1 := Aside0.mk hb; have HBA : Aside0 (Below w.heap.size w (w1.alloc (.cells #[] 44))) := ⟨hb.alloc hb.size _⟩; clear ho hb hg hr1)
    | (go_at_call 13; (with_reducible refine (plDecodeTextsCut_calls _ A1 N c1 n ls tl u0 e0 _ ((HBA.out.cell (p := ⟨0, 0, none⟩) HEL.out).trans HE0.out) HT0.out HT4.out HTB.out (Kd.C_alloc HR1.out _) hc1 HLN.out HSS.out HBY.out).mono ?_); rintro e w2 ⟨v2, u2, rfl, hb⟩; have HB2 := Aside0.mk (HBA.out.trans (hb.mono HBA.out.size)); clear hb))
  go_ret2
  exact ⟨_, rfl, HB2.out⟩
end Go.Proofs.YtkefklemcoehmaaGreatDoor.Cut
