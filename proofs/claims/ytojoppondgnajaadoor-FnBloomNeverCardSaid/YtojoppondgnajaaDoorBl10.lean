import Derived.Test.YtojoppondgnajaaDoorBl9
namespace Go.Proofs.YtojoppondgnajaaDoor.Bl
open Go.Proofs.YtojoppondgnajaaDoor.Aid Go.RowKit Go.Proofs.YtojoppondgnajaaDoorW.PrintWords Go.Proofs.YtojoppondgnajaaDoorW.PrintLast Go.Proofs.YtojoppondgnajaaDoorW.PrintMore
set_option linter.unusedVariables false
set_option linter.unusedSimpArgs false
theorem bitB_setBit (l : List Int) (q r : Int) (hq0 : 0 ≤ q) (hr0 : 0 ≤ r) (hq : q.toNat / 8 < l.length) : bitB (setBit l q) r = (bitB l r || decide (r = q)) := by
  obtain ⟨a, rfl⟩ := Int.eq_ofNat_of_zero_le hq0
  obtain ⟨b, rfl⟩ := Int.eq_ofNat_of_zero_le hr0
  unfold bitB setBit
  simp only [Int.toNat_natCast] at *
  rw [rd_set _ _ _ _ hq]
  by_cases e : b / 8 = a / 8
  · rw [if_pos e, bit_orBit, e]
    congr 1
    rw [decide_eq_decide]; omega
  · rw [if_neg e, decide_eq_false (by omega), Bool.or_false]
theorem bitB_setBits (l : List Int) (x : Int) (hx : u64B x) (B : Nat) (hB : 0 < B) (hl : l.length = 32 * B) (k : Nat) (hk : k ≤ 8) (r : Int) (hr0 : 0 ≤ r) :
    bitB (setBits x B l k) r = (bitB l r || decide (∃ i, i < k ∧ r = placeI x B i)) := by
  induction k with
  | zero => simp [setBits]
  | succ k ih =>
    have hp := placeI_bd x B k hx hB (by omega)
    show bitB (setBit (setBits x B l k) (placeI x B k)) r = _
    rw [bitB_setBit _ _ _ hp.1 hr0 (by rw [setBits_length]; omega), ih (by omega), Bool.or_assoc]
    congr 1
    rw [Bool.eq_iff_iff]
    simp only [Bool.or_eq_true, decide_eq_true_eq]
    constructor
    · rintro (⟨i, hi, e⟩ | e)
      · exact ⟨i, by omega, e⟩
      · exact ⟨k, by omega, e⟩
    · rintro ⟨i, hi, e⟩
      by_cases h : i = k
      · subst h; exact .inr e
      · exact .inl ⟨i, by omega, e⟩
theorem hasB_mono (l l' : List Int) (x : Int) (hx : u64B x) (B : Nat) (hB : 0 < B) (h : ∀ r : Int, 0 ≤ r → bitB l r = true → bitB l' r = true) (hh : hasB l x B 8 = true) : hasB l' x B 8 = true := by
  unfold hasB at *
  rw [List.all_eq_true] at *
  intro i hi
  exact h _ (placeI_bd x B i hx hB (List.mem_range.1 hi)).1 (hh i hi)
theorem hasB_insS (l : List Int) (x : Int) (hx : u64B x) (B : Nat) (hB : 0 < B) (hl : l.length = 32 * B) : hasB (insS B l x) x B 8 = true := by
  unfold hasB insS
  rw [List.all_eq_true]
  intro i hi
  have hi := List.mem_range.1 hi
  rw [bitB_setBits l x hx B hB hl 8 (Nat.le_refl _) _ (placeI_bd x B i hx hB hi).1, Bool.or_eq_true]
  exact .inr (decide_eq_true ⟨i, hi, rfl⟩)
theorem hasB_keep (l : List Int) (y x : Int) (hy : u64B y) (hx : u64B x) (B : Nat) (hB : 0 < B) (hl : l.length = 32 * B) (h : hasB l y B 8 = true) : hasB (insS B l x) y B 8 = true :=
  hasB_mono l _ y hy B hB (fun r hr0 hr => by
    unfold insS
    rw [bitB_setBits l x hx B hB hl 8 (Nat.le_refl _) r hr0, hr, Bool.true_or]) h
theorem hasB_found (B : Nat) (hB : 0 < B) (hs : List Int) : ∀ (l : List Int), l.length = 32 * B → u64L hs → ∀ x, u64B x → (hasB l x B 8 = true ∨ x ∈ hs) → hasB (insertS l B hs) x B 8 = true := by
  induction hs with
  | nil => intro l _ _ x _ h; rcases h with h | h
           · exact h
           · cases h
  | cons y hs ih =>
    intro l hl hh x hx h
    have hy := hh y (by simp)
    have hlen : (insS B l y).length = 32 * B := by rw [← hl]; exact setBits_length _ _ _ _
    show hasB (insertS (insS B l y) B hs) x B 8 = true
    refine ih _ hlen (fun z hz => hh z (by simp [hz])) x hx ?_
    rcases h with h | h
    · exact .inl (hasB_keep l x y hx hy B hB hl h)
    · rcases List.mem_cons.1 h with rfl | h
      · exact .inl (hasB_insS l x hx B hB hl)
      · exact .inr h
theorem fil_insertS {l : List Int} (hf : Fil l) (B : Nat) (hB : 0 < B) (hl : l.length = 32 * B) {hs : List Int} (hh : u64L hs) : Fil (insertS l B hs) :=
  ⟨insertS_bytes hf.b hB hl hh, by rw [insertS_length]; exact hf.n0, by rw [insertS_length]; exact hf.n32, by rw [insertS_length]; exact hf.le⟩
theorem check_found {l : List Int} (hf : Fil l) (B : Nat) (hB : 0 < B) (hl : l.length = 32 * B) {hs : List Int} (hh : u64L hs) {x : Int} (hx : x ∈ hs) : checkB (insertS l B hs) x = true := by
  rw [check_has _ (fil_insertS hf B hB hl hh) x (hh x hx), insertS_length, show l.length / 32 = B by omega]
  exact hasB_found B hB hs l hl hh x (hh x hx) (.inr hx)
theorem fil_zero (B : Nat) (hB : 0 < B) (hB2 : B ≤ 1024) : Fil (List.replicate (32 * B) 0) :=
  ⟨bytesB_of fun x hx => by rw [List.eq_of_mem_replicate hx]; exact ⟨by omega, by omega⟩, by simp; omega, by simp, by simp; omega⟩
theorem check_zero (B : Nat) (hB : 0 < B) (hB2 : B ≤ 1024) (x : Int) (hx : u64B x) : checkB (List.replicate (32 * B) 0) x = false := by
  rw [check_has _ (fil_zero B hB hB2) x hx]
  refine hasB_false (k := 0) (by decide) ?_
  unfold bitB rd
  rw [Int.toNat_natCast, List.getD_eq_getElem?_getD, List.getElem?_replicate]
  split <;> simp [bitN]
theorem mask_bd (a : Int) (j m : Nat) (hj : j ≤ 62) (hm : m = 2^j - 1) : 0 ≤ Go.bits .and .i64 a m ∧ Go.bits .and .i64 a m < 2^j := by
  unfold Go.bits
  simp only [BitVec.ofInt_natCast, BitVec.toNat_and, BitVec.toNat_ofNat]
  have h1 : m < 2^j := by have := Nat.two_pow_pos j; omega
  have h2 : (2:Nat)^j ≤ 2^62 := Nat.pow_le_pow_right (by decide) hj
  have h3 : m % 2 ^ IntKind.i64.bits = m := Nat.mod_eq_of_lt (by show m < 2^64; omega)
  have h4 : (BitVec.ofInt IntKind.i64.bits a).toNat &&& (m % 2^IntKind.i64.bits) < 2^j := by rw [h3]; exact Nat.and_lt_two_pow _ h1
  generalize (BitVec.ofInt IntKind.i64.bits a).toNat &&& (m % 2^IntKind.i64.bits) = n at *
  have h5 : (n : Int) < 2^j := by exact_mod_cast h4
  have h6 : ((2:Int)^j) ≤ 2^62 := by exact_mod_cast h2
  rw [IntWalk.i64_in _ (by omega)]
  omega

set_option maxHeartbeats 4000000 in
theorem foundLaw (a0 : Option Addr) (len0 cap0 : Nat) (z0 : List Int) (a1 : Option Addr) (len1 cap1 : Nat) (z1 : List Int) (W : World) (w0 : IsRow .u8 W a0 len0 cap0 z0) (y0 : len0 * 1 ≤ 140737488351232) (w1 : IsRow .u64 W a1 len1 cap1 z1) (y1 : len1 * 8 ≤ 140737488351232) (hL : Laid W) :
    Calls Tryd.prog 5 #[.slice a0 len0 cap0, .slice a1 len1 cap1] W fun e w' => e = .returned (.bool true) ∧ Below W.heap.size W w' := by
  obtain ⟨hS, hW0⟩ := of_laid hL
  obtain ⟨l, hlen0, hr1, hm1, hw1, hc1⟩ := ReadsInt.ofRowC w0
  obtain ⟨hs, hlen1, hr2, hm2, hw2, hc2⟩ := ReadsInt.ofRowC w1
  have hC := Kd.C_of_reads (d := (0 : Int)) (h1 := fun _ => rfl) hr1
  have hCH := Kd.C_of_reads (d := (0 : Int)) (h1 := fun _ => rfl) hr2
  have hb : bytesB l = true := bytesB_of fun x hx => byt_of_wf (hw1 x hx)
  have hh : u64L hs := fun x hx => u64_of_wf (hw2 x hx)
  have HC : Aside0 ((Kd.int .u8).C W a0 len0 l) := ⟨by rw [hlen0]; exact hC⟩
  have HCH : Aside0 ((Kd.int .u64).C W a1 len1 hs) := ⟨by rw [hlen1]; exact hCH⟩
  have HS := Aside0.mk hS
  have HW0 := Aside0.mk hW0
  have HBY := Aside0.mk hb
  have HH := Aside0.mk hh
  rw [← hlen0] at hc1
  rw [← hlen1] at hc2
  have HLN : Aside0 (l.length = len0) := ⟨hlen0.symm⟩
  have HLM : Aside0 (hs.length = len1) := ⟨hlen1.symm⟩
  clear w0 w1 hL hS hW0 hr1 hr2 hm1 hm2 hw1 hw2 hC hCH hb hh hlen0 hlen1
  by_cases h1 : 2147483647 < len0
  · have q1 : decide (2147483647 < (len0 : Int)) = true := decide_eq_true (by omega)
    go_enter Tryd.func5, Tryd.ntmps5
    go_wp2
    go_ret
    exact ⟨rfl, Below.refl _ _⟩
  have q1 : decide (2147483647 < (len0 : Int)) = false := decide_eq_false (by omega)
  by_cases h2 : 2147483647 < len1
  · have q2 : decide (2147483647 < (len1 : Int)) = true := decide_eq_true (by omega)
    go_enter Tryd.func5, Tryd.ntmps5
    go_wp2
    go_ret
    exact ⟨rfl, Below.refl _ _⟩
  have q2 : decide (2147483647 < (len1 : Int)) = false := decide_eq_false (by omega)
  have hv := isFilter_val l (by have := HLN.out; omega)
  by_cases h3 : 0 < l.length ∧ l.length % 32 = 0 ∧ l.length ≤ 100000
  · rw [decide_eq_true h3] at hv
    have HL : Aside0 (∀ W' : World, Below W.heap.size W W' → Calls Tryd.prog 7 #[.slice a0 len0 cap0] W' fun e w' => e = .returned (.bool true) ∧ Drawn0 W' w') := ⟨fun W' hb => by
      have := PFnBloomInsert.spec_IsFilter.calls a0 cap0 l true W' (by rw [HLN.out]; exact Kd.C_below HC.out hb) (by rw [HLN.out]; exact hc1) hv
      rwa [HLN.out] at this⟩
    have HF : Aside0 (Fil l) := ⟨⟨HBY.out, h3.1, h3.2.1, h3.2.2⟩⟩
    obtain ⟨B, hB⟩ : ∃ B, len0 = 32 * B := ⟨len0 / 32, by have := HLN.out; omega⟩
    have hB1 : 0 < B ∧ B < 65536 := by have := HLN.out; omega
    have HB := Aside0.mk hB
    have HE : Aside0 (insertB l hs = insertS l B hs) := ⟨by rw [insertB_eq l HF.out hs HH.out, show l.length / 32 = B by have := HLN.out; omega]⟩
    have HFOUND : Aside0 (∀ x ∈ hs, checkB (insertS l B hs) x = true) := ⟨fun x hx => check_found HF.out B hB1.1 (by rw [HLN.out]; exact hB) HH.out hx⟩
    have HFX : Aside0 (Fil (insertS l B hs)) := ⟨fil_insertS HF.out B hB1.1 (by rw [HLN.out]; exact hB) HH.out⟩
    have HLX : Aside0 ((insertS l B hs).length = len0) := ⟨by rw [insertS_length]; exact HLN.out⟩
    obtain ⟨X, hX⟩ : ∃ X, insertS l B hs = X := ⟨_, rfl⟩
    rw [hX] at HFOUND HFX HLX
    rw [hX] at HE
    have HX := Aside0.mk hX
    clear hv hB h3 hX
    by_cases h4 : 1000 < len1
    · have q4 : decide (1000 < (len1 : Int)) = true := decide_eq_true (by omega)
      go_enter Tryd.func5, Tryd.ntmps5
      go_wp2_with (first
        | (go_at_call 7; (with_reducible refine (HL.out W (Below.refl _ _)).mono ?_); rintro e w' ⟨rfl, ⟨nd, rfl⟩⟩))
      go_ret
      exact ⟨rfl, drewN_below W nd⟩
    have q4 : decide (1000 < (len1 : Int)) = false := decide_eq_false (by omega)
    go_enter Tryd.func5, Tryd.ntmps5
    go_wp2_with (first
      | (go_at_call 7; (with_reducible refine (HL.out W (Below.refl _ _)).mono ?_); rintro e w' ⟨rfl, ⟨nd, rfl⟩⟩; have HB0 := Aside0.mk (drewN_below W nd))
      | (go_at_call 12; (with_reducible refine (implInsert_calls a0 len0 cap0 l a1 len1 cap1 hs (W.drewN nd) (HS.out.below HB0.out HW0.out) (Nat.lt_of_lt_of_le HW0.out HB0.out.size) (Kd.C_below HC.out HB0.out) hc1 HF.out (Kd.C_below HCH.out HB0.out) hc2 (by omega) HH.out).mono ?_); rintro e w3 ⟨v3, rfl, ho, hb⟩; rw [HE.out] at ho; obtain ⟨A3, c3, rfl, hc3, hr3⟩ := ho.read; rw [HLX.out] at hc3 hr3; rw [HLX.out]; have HR3 := Aside0.mk hr3; have HB3 := Aside0.mk (HB0.out.trans (hb.mono HB0.out.size)); clear ho hb hr3))
    go_loopg [7, 29] len1 (fun kq v7 v29 w' => ∃ k : Nat, k ≤ len1 ∧ v29 = .int .i64 k ∧ Aside0 (Below W.heap.size W w') ∧ Aside0 ((Kd.int .u8).C w' A3 len0 X) ∧ Aside0 (len1 - k ≤ kq))
    case atStart => exact ⟨0, by omega, rfl, HB3, HR3, ⟨by omega⟩⟩
    case round =>
      clear HB3 HR3
      obtain ⟨k, hk, rfl, HB3, HR3, HK⟩ := hrel
      by_cases ck : k < len1
      · have ckb : decide ((k : Int) < len1) = true := decide_eq_true (by omega)
        obtain ⟨ad, ead, hcell⟩ := Kd.at_int (Kd.C_below HCH.out HB3.out) (k : Int) (by omega) (by omega)
        rw [Int.toNat_natCast] at hcell
        obtain ⟨y, hy⟩ : ∃ y, rd hs (k : Int) = y := ⟨_, rfl⟩
        rw [hy] at hcell
        have hym : y ∈ hs := by rw [← hy]; exact rd_mem (by rw [HLM.out]; exact ck)
        have HCALL := Aside0.mk (implCheck_calls A3 len0 c3 X y (HH.out y hym) wr (HS.out.below HB3.out HW0.out) (Nat.lt_of_lt_of_le HW0.out HB3.out.size) HR3.out hc3 HFX.out)
        rw [HFOUND.out y hym] at HCALL
        clear hy hym
        subst ead
        go_wp2_with (first
          | (go_at_call 8; (with_reducible refine HCALL.out.mono ?_); rintro e w4 ⟨rfl, hb⟩; have HB4 := Aside0.mk hb; clear hb))
        go_roundg (gk - 1)
        case measure => have := HK.out; omega
        case rel => exact ⟨k + 1, by omega, by go_num, ⟨HB3.out.trans (HB4.out.mono HB3.out.size)⟩, ⟨Kd.C_below HR3.out HB4.out⟩, ⟨by have := HK.out; omega⟩⟩
      · obtain rfl : k = len1 := by omega
        have ckb : decide ((k : Int) < k) = false := decide_eq_false (by omega)
        go_wp2_with (fail)
        go_ret
        exact ⟨rfl, HB3.out⟩
  · rw [decide_eq_false h3] at hv
    have HL : Aside0 (Calls Tryd.prog 7 #[.slice a0 len0 cap0] W fun e w' => e = .returned (.bool false) ∧ Drawn0 W w') := ⟨by
      have := PFnBloomInsert.spec_IsFilter.calls a0 cap0 l false W (by rw [HLN.out]; exact HC.out) (by rw [HLN.out]; exact hc1) hv
      rwa [HLN.out] at this⟩
    clear hv h3
    go_enter Tryd.func5, Tryd.ntmps5
    go_wp2_with (first
      | (go_at_call 7; (with_reducible refine HL.out.mono ?_); rintro e w' ⟨rfl, ⟨nd, rfl⟩⟩))
    go_ret
    exact ⟨rfl, drewN_below W nd⟩
theorem u64_zero : (Lit.int .u64 0).wf = true := by decide +kernel
set_option maxHeartbeats 4000000 in
theorem neverLaw (a : Int) (x : Int) (W : World) (w0 : (Lit.int .i64 a).wf = true) (w1 : (Lit.int .u64 x).wf = true) (hL : Laid W) :
    Calls Tryd.prog 6 #[.int .i64 a, .int .u64 x] W fun e w' => e = .returned (.bool true) ∧ Below W.heap.size W w' := by
  obtain ⟨hS, hW0⟩ := of_laid hL
  have hx := u64_of_wf w1
  obtain ⟨m0, m1⟩ := mask_bd a 10 1023 (by decide) (by decide)
  have e1023 : ((1023 : Nat) : Int) = 1023 := rfl
  rw [e1023] at m0 m1
  obtain ⟨k, hk⟩ : ∃ k : Nat, Go.bits .and .i64 a 1023 = (k : Int) := ⟨(Go.bits .and .i64 a 1023).toNat, by omega⟩
  rw [hk] at m0 m1
  have hk9 : k < 1024 := by omega
  obtain ⟨n, hn⟩ : ∃ n, 32 * (1 + k) = n := ⟨_, rfl⟩
  have hni : 32 * (1 + (k : Int)) = (n : Int) := by omega
  have hmk : ∀ W : World, (Instr.makeSlice 22 (.int .i64 (32 * (1 + (k : Int)))) (.int .i64 (32 * (1 + (k : Int))))).run Tryd.prog W = .ok (.slice (some ⟨W.heap.size, 0, none⟩) n n) (W.alloc (.cells (madeCells #[.int .u8 0] n) 5)) := by
    rw [hni]; exact print_make (P := Tryd.prog) 22 5 .u8 1 Tryd.underlying22 info5 (by decide) n (by omega)
  have HROW := Aside0.mk (madeRow W 5 .u8 n)
  have HB0 : Aside0 (Below W.heap.size W (W.alloc (.cells (madeCells #[.int .u8 0] n) 5))) := ⟨(Below.refl _ _).alloc (Nat.le_refl _) _⟩
  have HS := Aside0.mk hS
  have HW0 := Aside0.mk hW0
  have HX := Aside0.mk hx
  have hnB : n = 32 * (k + 1) := by omega
  have HF : Aside0 (Fil (List.replicate n 0)) := ⟨by rw [hnB]; exact fil_zero (k + 1) (by omega) (by omega)⟩
  have HZ : Aside0 (checkB (List.replicate n 0) x = false) := ⟨by rw [hnB]; exact check_zero (k + 1) (by omega) (by omega) x hx⟩
  have HXL : Aside0 (u64L [x]) := ⟨fun y hy => by rw [List.mem_singleton.1 hy]; exact hx⟩
  have HLN : Aside0 ((List.replicate n (0 : Int)).length = n) := ⟨by simp⟩
  have HFX : Aside0 (Fil (insertS (List.replicate n 0) (k + 1) [x])) := ⟨fil_insertS HF.out (k + 1) (by omega) (by rw [HLN.out]; exact hnB) HXL.out⟩
  have HFOUND : Aside0 (checkB (insertS (List.replicate n 0) (k + 1) [x]) x = true) := ⟨check_found HF.out (k + 1) (by omega) (by rw [HLN.out]; exact hnB) HXL.out (by simp)⟩
  have HE : Aside0 (insertB (List.replicate n 0) [x] = insertS (List.replicate n 0) (k + 1) [x]) := ⟨by rw [insertB_eq _ HF.out [x] HXL.out, HLN.out, show n / 32 = k + 1 by omega]⟩
  have HLX : Aside0 ((insertS (List.replicate n 0) (k + 1) [x]).length = n) := ⟨by rw [insertS_length]; exact HLN.out⟩
  have HCZ : Aside0 ((Kd.int .u8).C (W.alloc (.cells (madeCells #[.int .u8 0] n) 5)) (some ⟨W.heap.size, 0, none⟩) n (List.replicate n 0)) := ⟨rowC HROW.out (by simp) (by omega)⟩
  obtain ⟨Z, hZ⟩ : ∃ Z, List.replicate n (0 : Int) = Z := ⟨_, rfl⟩
  rw [hZ] at HF HZ HFX HFOUND HE HLX HCZ HLN
  obtain ⟨X, hX⟩ : ∃ X, insertS Z (k + 1) [x] = X := ⟨_, rfl⟩
  rw [hX] at HFX HFOUND HE HLX
  clear hS hW0 hx hL w0 w1 HROW hnB hn hni m0 m1 hZ hX
  go_enter Tryd.func6, Tryd.ntmps6
  go_wp2_with (first
    | (go_at_call_of 8 (Value.slice (some ⟨W.heap.size, 0, none⟩) n n); (with_reducible refine (implCheck_calls (some ⟨W.heap.size, 0, none⟩) n n Z x HX.out _ (HS.out.below HB0.out HW0.out) (Nat.lt_of_lt_of_le HW0.out HB0.out.size) HCZ.out (Nat.le_refl _) HF.out).mono ?_); rintro e w1 ⟨he, hb⟩; rw [HZ.out] at he; subst he; have HB1 := Aside0.mk (HB0.out.trans (hb.mono HB0.out.size)); have HCZ1 := Aside0.mk (Kd.C_below HCZ.out hb); have HONE : Aside0 (Row (w1.alloc (.cells #[.int .u64 x] 23)) w1.heap.size 23 .u64 [x]) := ⟨⟨Blk.new w1 #[.int .u64 x] 23⟩⟩; have HB2 : Aside0 (Below W.heap.size W (w1.alloc (.cells #[.int .u64 x] 23))) := ⟨HB1.out.alloc HB1.out.size _⟩; have HCZ2 : Aside0 ((Kd.int .u8).C (w1.alloc (.cells #[.int .u64 x] 23)) (some ⟨W.heap.size, 0, none⟩) n Z) := ⟨Kd.C_alloc HCZ1.out _⟩; clear hb)
    | (go_at_call 12; (with_reducible refine (implInsert_calls (some ⟨W.heap.size, 0, none⟩) n n Z (some ⟨w1.heap.size, 0, none⟩) 1 1 [x] _ (HS.out.below HB2.out HW0.out) (Nat.lt_of_lt_of_le HW0.out HB2.out.size) HCZ2.out (Nat.le_refl _) HF.out (rowC HONE.out rfl (by omega)) (Nat.le_refl _) (by omega) HXL.out).mono ?_); rintro e w3 ⟨v3, rfl, ho, hb⟩; rw [HE.out] at ho; obtain ⟨A3, c3, rfl, hc3, hr3⟩ := ho.read; rw [HLX.out] at hc3 hr3; rw [HLX.out]; have HR3 := Aside0.mk hr3; have HB3 := Aside0.mk (HB2.out.trans (hb.mono HB2.out.size)); clear ho hb hr3)
    | (go_at_call_of 8 (Value.slice A3 n c3); (with_reducible refine (implCheck_calls A3 n c3 X x HX.out w3 (HS.out.below HB3.out HW0.out) (Nat.lt_of_lt_of_le HW0.out HB3.out.size) HR3.out hc3 HFX.out).mono ?_); rintro e w4 ⟨he, hb⟩; rw [HFOUND.out] at he; subst he; have HB4 := Aside0.mk (HB3.out.trans (hb.mono HB3.out.size)); clear hb))
  go_ret
  exact ⟨rfl, HB4.out⟩
end Go.Proofs.YtojoppondgnajaaDoor.Bl
