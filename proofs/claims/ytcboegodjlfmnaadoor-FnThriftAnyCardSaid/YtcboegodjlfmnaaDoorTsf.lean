import Derived.Test.YtcboegodjlfmnaaDoorMth
import Derived.Test.YtcboegodjlfmnaaDoorTpw
/-! The reader of the specification: fields. -/
namespace Go.Proofs.YtcboegodjlfmnaaDoor.Tsf
open Go.Proofs.YtcboegodjlfmnaaDoor.Tse Go.Proofs.YtcboegodjlfmnaaDoor.Tsd Go.Proofs.YtcboegodjlfmnaaDoor.Tpv Go.Proofs.YtcboegodjlfmnaaDoor.Tsc Go.Proofs.YtcboegodjlfmnaaDoor.Tsb Go.Proofs.YtcboegodjlfmnaaDoor.Tzm Go.Proofs.YtcboegodjlfmnaaDoor.Tzl Go.Proofs.YtcboegodjlfmnaaDoor.Trh Go.Proofs.YtcboegodjlfmnaaDoor.Trn Go.Proofs.YtcboegodjlfmnaaDoor.Trm Go.Proofs.YtcboegodjlfmnaaDoor.Tuv Go.Proofs.YtcboegodjlfmnaaDoor.Tpa Go.Proofs.YtcboegodjlfmnaaDoor.Duv Go.Proofs.YtcboegodjlfmnaaDoor.Dpu Go.Proofs.YtcboegodjlfmnaaDoor.Pak Go.Proofs.YtcboegodjlfmnaaDoor.Buf Go.Proofs.YtcboegodjlfmnaaDoor.Fit Go.Proofs.YtcboegodjlfmnaaDoor.Bit Go.Proofs.YtcboegodjlfmnaaDoor.Wrd Go.Proofs.YtcboegodjlfmnaaDoor.Spl Go.Proofs.YtcboegodjlfmnaaDoor.Str Go.Proofs.YtcboegodjlfmnaaDoor.Flt Go.Proofs.YtcboegodjlfmnaaDoor.Owe Go.Proofs.YtcboegodjlfmnaaDoor.Num Go.Proofs.YtcboegodjlfmnaaDoor.Le Go.Proofs.YtcboegodjlfmnaaDoor.Lst Go.Proofs.YtcboegodjlfmnaaDoor.Aid Go.RowKit Go.Proofs.YtcboegodjlfmnaaDoorW.PrintWords Go.Proofs.YtcboegodjlfmnaaDoorW.PrintLast Go.Proofs.YtcboegodjlfmnaaDoorW.PrintMore
set_option linter.unusedVariables false
set_option linter.unusedSimpArgs false
theorem Does.bind {α β : Type} {p : Psr α} {f : α → Psr β} {bs : List Int} {o s o1 s1 o2 s2 : Nat} {a : α} {v : β} (h : Does p bs o s a o1 s1) (k : Does (f a) bs o1 s1 v o2 s2) : Does (bindP p f) bs o s v o2 s2 :=
  ⟨fun γ q => by rw [bindP_assoc, h.out, k.out], fun hs => by have h1 := h.up hs; have h2 := k.up (by rw [h1]; exact hs); rw [h2, h1]⟩
/-- what has been told has been read -/
theorem Does.okay {α : Type} {p : Psr α} {bs : List Int} {o s o' : Nat} {v : α} (h : Does p bs o s v o' 0) : s = 0 ∧ p (bs.drop o) = .ok v (bs.drop o') := by
  have hs : s = 0 := by
    rcases Nat.eq_zero_or_pos s with c | c
    · exact c
    · have := h.up (by omega); omega
  subst hs
  have h1 := h.out α retP
  refine ⟨rfl, ?_⟩
  have e : bindP p retP (bs.drop o) = p (bs.drop o) := by
    unfold bindP
    cases p (bs.drop o) <;> rfl
  rw [← e]
  exact h1
/-- what a field's head is, behind its first byte -/
def fhG (last b : Int) : Psr (Int × Int) := if b = 0 then retP (0, 0) else if b < 16 then bindP (zigP 32768) fun id => if id ≤ last then opnP else retP (id, b) else if 32767 < last + b / 16 then opnP else retP (last + b / 16, b % 16)
/-- what is to be read behind a field's head -/
def fldK (p : Int → Psr N) : Nat → Int × Int → Psr F
  | 0, h => if h.1 = 0 then retP .nil else opnP
  | m + 1, h => if h.1 = 0 then retP .nil else bindP (fvP p h.2) fun x => bindP (fieldsP p m h.1) fun tl => retP (.cons x.d h.1 x.ls x.fs tl)
theorem fields_eq (p : Int → Psr N) (m : Nat) (last : Int) : fieldsP p m last = bindP byteP fun b => bindP (fhG last b) (fldK p m) := by
  have e : fieldsP p m last = bindP (fhP last) (fldK p m) := by cases m <;> rfl
  rw [e]
  show bindP (bindP byteP (fhG last)) (fldK p m) = _
  rw [bindP_assoc]
theorem fld_byte {P : Psr F} {bs : List Int} {o s o1 s1 o2 s2 m : Nat} {p : Int → Psr N} {last b : Int} {h : F → F} (r : Runs P bs o s (fieldsP p m last) h o1 s1) (d : Does byteP bs o1 s1 b o2 s2) : Runs P bs o s (bindP (fhG last b) (fldK p m)) h o2 s2 := by
  rw [fields_eq] at r
  exact Runs.does (q := fun b => bindP (fhG last b) (fldK p m)) r d
theorem fld_end {P : Psr F} {bs : List Int} {o s o1 s1 o2 s2 m : Nat} {p : Int → Psr N} {last : Int} {D : F} (r : Runs P bs o s (fieldsP p m last) (fun tl => D.app tl) o1 s1) (d : Does byteP bs o1 s1 0 o2 s2) : Does P bs o s D o2 s2 := by
  have r2 := fld_byte r d
  have e : bindP (fhG last 0) (fldK p m) = retP F.nil := by
    show bindP (retP (0, 0)) (fldK p m) = _
    rw [bindP_ret]
    cases m <;> rfl
  rw [e] at r2
  have := r2.ret
  rw [F.app_nil] at this
  exact this
/-- a field's head has been read, its number is id and its type is ty -/
structure FldS (P : Psr F) (bs : List Int) (o s : Nat) (p : Int → Psr N) (i : Nat) (D : F) (id ty : Int) (o4 s4 : Nat) : Prop where
  mk :: (next : ∀ (x : N) (o6 s6 : Nat), Does (fvP p ty) bs o4 s4 x o6 s6 → Runs P bs o s (fieldsP p (100 - (i + 1)) id) (fun tl => (D.snoc x.d id x.ls x.fs).app tl) o6 s6 ∧ (s6 = 0 → 0 ≤ id ∧ id ≤ 32767 ∧ i + 1 ≤ 100))
theorem fld_dead {P : Psr F} {bs : List Int} {o s : Nat} {p : Int → Psr N} {i : Nat} {D : F} {id ty : Int} {o3 s3 : Nat} {γ : Type} {Q : Psr γ} {h : γ → F} (r : Runs P bs o s Q h o3 s3) (hq : s3 = 0 → Q = opnP) : FldS P bs o s p i D id ty o3 (opS s3) := by
  refine ⟨fun x o6 s6 d => ?_⟩
  have hs6 : s6 = opS s3 := d.up (opS_ne s3)
  refine ⟨?_, fun h => absurd (hs6 ▸ h) (opS_ne s3)⟩
  rw [hs6]
  by_cases c : s3 = 0
  · rw [hq c] at r
    exact r.opn _ _ _ _ opS_0 opS_n
  · rw [opS_n c]
    exact r.dead c _ _ _
theorem fld_live {P : Psr F} {bs : List Int} {o s : Nat} {p : Int → Psr N} {i : Nat} {D : F} {id ty : Int} {o3 s3 : Nat} (r : Runs P bs o s (bindP (retP (id, ty)) (fldK p (100 - i))) (fun tl => D.app tl) o3 s3) (hi : i < 100) (h0 : 0 < id) (h1 : id ≤ 32767) : FldS P bs o s p i D id ty o3 s3 := by
  rw [bindP_ret, show 100 - i = (100 - (i + 1)) + 1 by omega] at r
  have r2 : Runs P bs o s (if id = 0 then retP F.nil else bindP (fvP p ty) fun x => bindP (fieldsP p (100 - (i + 1)) id) fun tl => retP (.cons x.d id x.ls x.fs tl)) (fun tl => D.app tl) o3 s3 := r
  rw [if_neg (by omega)] at r2
  exact ⟨fun x o6 s6 d => ⟨Runs.field (h := fun x => x) r2 d, fun _ => by omega⟩⟩
theorem fld_full (p : Int → Psr N) (id ty : Int) (h : id ≠ 0) : bindP (retP (id, ty)) (fldK p 0) = opnP := by
  rw [bindP_ret]
  show (if id = 0 then retP F.nil else opnP) = opnP
  rw [if_neg h]
theorem fld_big {P : Psr F} {bs : List Int} {o s o1 s1 o2 s2 i : Nat} {p : Int → Psr N} {last b id ty : Int} {D : F} (r : Runs P bs o s (fieldsP p (100 - i) last) (fun tl => D.app tl) o1 s1) (d : Does byteP bs o1 s1 b o2 s2) (hl : 0 ≤ last) (hb : 16 ≤ b) (hid : id = last + b / 16) (hty : ty = b % 16) (hi : i ≤ 100) :
    (¬ (32767 < id ∨ i = 100) → FldS P bs o s p i D id ty o2 s2) ∧ ((32767 < id ∨ i = 100) → FldS P bs o s p i D id ty o2 (opS s2)) := by
  have r2 := fld_byte r d
  unfold fhG at r2
  rw [if_neg (by omega), if_neg (by omega), ← hid, ← hty] at r2
  refine ⟨fun h => ?_, fun h => ?_⟩
  · rw [if_neg (by omega)] at r2
    exact fld_live r2 (by omega) (by omega) (by omega)
  · refine fld_dead r2 fun _ => ?_
    by_cases c : 32767 < id
    · rw [if_pos c]; rfl
    · rw [if_neg c, show 100 - i = 0 by omega]
      exact fld_full _ _ _ (by omega)
theorem fld_small {P : Psr F} {bs : List Int} {o s o1 s1 o2 s2 o3 s3 i : Nat} {p : Int → Psr N} {last b id ty : Int} {D : F} (r : Runs P bs o s (fieldsP p (100 - i) last) (fun tl => D.app tl) o1 s1) (d : Does byteP bs o1 s1 b o2 s2) (hl : 0 ≤ last) (hb0 : b ≠ 0) (hb : b < 16) (hty : ty = b) (hi : i ≤ 100) (dz : Does (zigP 32768) bs o2 s2 id o3 s3) :
    (¬ (id ≤ last ∨ 32767 < id ∨ i = 100) → FldS P bs o s p i D id ty o3 s3) ∧ ((id ≤ last ∨ 32767 < id ∨ i = 100) → FldS P bs o s p i D id ty o3 (opS s3)) := by
  have r2 := fld_byte r d
  unfold fhG at r2
  rw [if_neg hb0, if_pos hb, bindP_assoc] at r2
  have r3 := Runs.does (q := fun id => bindP (if id ≤ last then opnP else retP (id, b)) (fldK p (100 - i))) r2 dz
  rw [← hty] at r3
  refine ⟨fun h => ?_, fun h => ?_⟩
  · rw [if_neg (by omega)] at r3
    exact fld_live r3 (by omega) (by omega) (by omega)
  · refine fld_dead r3 fun h0 => ?_
    subst h0
    have hz := Tpw.zig_bd (Does.okay dz).2
    by_cases c : id ≤ last
    · rw [if_pos c]; rfl
    · rw [if_neg c, show 100 - i = 0 by omega]
      exact fld_full _ _ _ (by omega)
/-- a truth as a field -/
def truthN (ty : Int) : N := ⟨⟨ty, decide (ty = 1), 0, 0, [], 0, 0⟩, .nil, .nil⟩
theorem fv_truth (p : Int → Psr N) (ty : Int) (h : ty = 1 ∨ ty = 2) (bs : List Int) (o s : Nat) : Does (fvP p ty) bs o s (truthN ty) o s := by
  have e : fvP p ty = retP (truthN ty) := by unfold fvP; rw [if_pos h]; rfl
  rw [e]
  exact Does.ret _ _ _ _
theorem truth_in (w : World) (Pb : Nat → Prop) (ty : Int) : (truthN ty).In flT w Pb [.int .i64 ty, .bool (decide (ty = 1)), .int .i64 0, .int .u64 0, .slice none 0 0, .int .i64 0, .int .i64 0, .slice none 0 0, .slice none 0 0] :=
  ⟨⟨.slice none 0 0, .slice none 0 0, .slice none 0 0, [], [], rfl, bytesAt_nil _ _, lies_nil _ _, rfl, lies_nil _ _, rfl⟩⟩
theorem hand15 (y : Nat) (h : y < 256) : bits .and .u8 (y : Int) 15 = ((y % 16 : Nat) : Int) := by
  rw [show (15 : Int) = ((2 ^ 4 - 1 : Nat) : Int) by decide, u8_and_nat _ _ (by omega) (by decide), Nat.and_two_pow_sub_one_eq_mod]
/-- the reader has gone on, and the row stands -/
theorem lrow_go {w w1 w2 : World} {g : Nat} {rc rc2 : Array Value} {rt : TypeId} {σ : Fl} {fld : Bool} {te : TypeId} {base : Nat} {v : Value} {D : F} {cs : List Value} (h : LRow w w1 (some g) rc rt 0 σ fld te base v D cs) (hg : g < w.heap.size) (hb : w.heap.size ≤ base) (hw : w1.grownBy w2 (some g)) (hrb : Blk w2 g rc2 rt) : LRow w w2 (some g) rc2 rt 0 σ fld te base v D cs := by
  have l1 := hw.size
  have l2 := h.sz
  refine ⟨h.grown.trans hw, fun g' e => Option.some.inj e ▸ hrb, own_move h.row fun b hb' => hw.block b (own_lt h.row hb').2 (fun e => by have := own_lt h.row hb'; have := Option.some.inj e; omega), ?_, by omega⟩
  refine F.In.move ?_ ?_ h.els
  · rintro b (⟨h5, h6⟩ | ⟨h5, h6, h7⟩)
    · exact absurd h5 (Nat.not_lt_zero _)
    · exact hw.block b h6 (fun e => by have := Option.some.inj e; omega)
  · rintro b (⟨h5, h6⟩ | ⟨h5, h6, h7⟩)
    · exact absurd h5 (Nat.not_lt_zero _)
    · exact .inr ⟨h5, by omega, h7⟩
set_option maxHeartbeats 8000000 in
set_option maxRecDepth 100000 in
theorem fields_calls (g : Nat) (A : Option Addr) (n c : Nat) (bs : List Int) (k : Nat) (hk : k ≤ 100) (hth : TH g A n c bs k) (hn : n ≤ 2147483647) (hb : bytesB bs = true) (o s : Nat) (w : World) (hR : Sr w g A n c o s) (hC : (Kd.int .u8).C w A n bs) :
    Calls Tryd.prog 58 #[gP g, .int .i64 (k : Int)] w fun e w' => LOut (fieldsP (thP k) 100 0) 101 true bs o s w w' g A n c e := by
  have HR := Aside0.mk hR
  have HC := Aside0.mk hC
  have HT := Aside0.mk hth
  have HBB := Aside0.mk hb
  have HG := Aside0.mk hR.blk.lt
  have HGL : Aside0 (∀ g', some g = some g' → g' < w.heap.size) := ⟨fun g' e => Option.some.inj e ▸ HG.out⟩
  have qk : IntKind.i64.wrap ((k : Int) - 1) = (k : Int) - 1 := IntWalk.i64_in _ (by omega)
  clear hR hC hth hb
  go_enter Tryd.func58, Tryd.ntmps58
  go_wp2_with (fail)
  go_loopg [4, 5, 6, 7, 8, 9] 102 (fun kq v4 v5 v6 v7 v8 v9 w' => ∃ (i cl o1 s1 : Nat) (last : Int) (D : F) (Al : Option Addr) (cs : List Value), i ≤ 101 ∧ v5 = .slice Al i cl ∧ v6 = .int .i64 last ∧ Aside0 (s1 = 0 → 0 ≤ last ∧ last ≤ 32767 ∧ i ≤ 100) ∧ Aside0 (D.len = i) ∧ Aside0 (Runs (fieldsP (thP k) 100 0) bs o s (fieldsP (thP k) (100 - i) last) (fun tl => D.app tl) o1 s1) ∧ Aside0 (LRow w w' (some g) #[.slice A n c, .int .i64 (o1 : Int), .int .i64 (s1 : Int)] 91 0 flT true 48 w.heap.size (.slice Al i cl) D cs) ∧ Aside0 (Sr w' g A n c o1 s1) ∧ Aside0 (102 - i ≤ kq))
  case atStart => exact ⟨0, 0, o, s, 0, .nil, none, [], Nat.zero_le _, rfl, rfl, ⟨fun _ => by omega⟩, ⟨rfl⟩, ⟨Runs.start _ bs o s⟩, ⟨lrow0 HR.out.blk⟩, ⟨HR.out⟩, ⟨by omega⟩⟩
  case round =>
    obtain ⟨i, cl, o1, s1, last, D, Al, cs, hi, rfl, rfl, HLA, HDl, HRN, HL, HS, HK⟩ := hrel
    have d2 := HS.out.blk.cell (j := 2) rfl
    by_cases c2 : s1 = 0
    case neg =>
      have q2 : ((s1 : Int) == 0) = false := by rw [beq_eq_false_iff_ne]; omega
      have HFIN := Aside0.mk (lrow_out HL.out HDl.out hi HS.out (HRN.out.dead c2 (retP D) (fun x => x) o1).ret)
      clear c2
      go_wp2_with (fail)
      go_ret
      exact HFIN.out
    case pos =>
      have HLB := Aside0.mk (HLA.out c2)
      have HBY := Aside0.mk (byte_calls g A n c o1 s1 bs _ HS.out (grownC HC.out HL.out.grown HS.out.apart) hn HBB.out)
      subst c2
      go_upto_region 5 with (first
        | (go_at_call 52; (with_reducible refine HBY.out.mono ?_); rintro e w2 HQ; obtain ⟨v, o2, s2, rfl, hv, hd, hw⟩ := HQ.out; obtain ⟨y, rfl⟩ := Int.eq_ofNat_of_zero_le hv.1; have HD2 := Aside0.mk hd; have HW2 := Aside0.mk hw; have hy := hv.2; clear HQ hd hw hv))
      by_cases cy : y = 0
      case pos =>
        subst cy
        have HFIN := Aside0.mk (lrow_out (lrow_go HL.out HG.out (Nat.le_refl _) HW2.out.grown HW2.out.rd.blk) HDl.out hi HW2.out.rd (fld_end HRN.out HD2.out))
        go_wp2_with (fail)
        go_ret
        exact HFIN.out
      case neg =>
        have qy0 : ((y : Int) == 0) = false := by rw [beq_eq_false_iff_ne]; omega
        have qy00 : (y == 0) = false := by rw [beq_eq_false_iff_ne]; omega
        have hl0 := HLB.out.1
        have hl1 := HLB.out.2.1
        have hi1 := HLB.out.2.2
        have HOP2 := Aside0.mk (open_calls g A n c o2 s2 _ HW2.out.rd)
        have HZG := Aside0.mk (zigzag_calls g A n c o2 s2 bs 16 32768 (.inr (.inl ⟨rfl, rfl⟩)) _ HW2.out.rd (grownC (grownC HC.out HL.out.grown HS.out.apart) HW2.out.grown HS.out.apart) hn HBB.out)
        obtain ⟨q, hq⟩ : ∃ q, y / 16 = q := ⟨_, rfl⟩
        have qq : (y : Int) / 16 = (q : Int) := by omega
        have qwq : IntKind.i64.wrap (q : Int) = q := IntWalk.i64_in _ (by omega)
        have hy2 : y < 256 := by omega
        have hand := hand15 y hy2
        obtain ⟨t, ht⟩ : ∃ t, y % 16 = t := ⟨_, rfl⟩
        rw [ht] at hand
        have qwt : IntKind.i64.wrap (t : Int) = t := IntWalk.i64_in _ (by omega)
        have ht16 : t < 16 := by omega
        have hlen : i < 101 := by omega
        by_cases c16 : y < 16
        · have qq0 : ((q : Int) == 0) = true := by rw [beq_iff_eq]; omega
          have qq00 : (q == 0) = true := by rw [beq_iff_eq]; omega
          have qwl : IntKind.i64.wrap (last + q) = last + q := IntWalk.i64_in _ (by omega)
          have HSM := Aside0.mk fun (id : Int) (o3 s3 : Nat) dz => fld_small (id := id) (ty := (t : Int)) (o3 := o3) (s3 := s3) HRN.out HD2.out hl0 (by omega) (by omega) (by omega) hi1 dz
          clear cy hq ht
          go_upto_region 10 with (first
            | (go_at_call 53; (with_reducible refine HZG.out.mono ?_); rintro e w3 HQ; obtain ⟨id, o3, s3, rfl, hv, hd, hw⟩ := HQ.out; have HF := Aside0.mk (HSM.out id o3 s3 hd); have HW3 := Aside0.mk (HW2.out.trans hw); have HOP := Aside0.mk (open_calls g A n c o3 s3 _ hw.rd); clear HQ hd hw))
          by_cases b1 : id ≤ last <;> by_cases b2 : 32767 < id <;> by_cases b3 : i = 100
          all_goals first
            | have r1 : decide (id ≤ last) = true := decide_eq_true (by omega)
            | have r1 : decide (id ≤ last) = false := decide_eq_false (by omega)
          all_goals first
            | have r2 : decide (32767 < id) = true := decide_eq_true (by omega)
            | have r2 : decide (32767 < id) = false := decide_eq_false (by omega)
          all_goals first
            | have r3 : ((i : Int) == 100) = true := by rw [beq_iff_eq]; omega
            | have r3 : ((i : Int) == 100) = false := by rw [beq_eq_false_iff_ne]; omega
          all_goals
            have HB := Aside0.mk (And.intro (b1 : _) (And.intro (b2 : _) (b3 : _)))
            clear b1 b2 b3
            go_upto_region 13 with (first
              | (go_at_call 51; (with_reducible refine HOP.out.mono ?_); rintro e w4 ⟨rfl, hw4⟩; have HWW := Aside0.mk (HW3.out.trans hw4); have HFF := Aside0.mk (HF.out.2 (by have := HB.out; omega)); clear hw4))
          all_goals first
            | (obtain ⟨s4, hs4⟩ : ∃ s4, opS s3 = s4 := ⟨_, rfl⟩
               obtain ⟨o4, ho4⟩ : ∃ o4, o3 = o4 := ⟨_, rfl⟩
               rw [hs4, ho4] at HWW HFF
               have HWS := HWW
               have HFS := HFF
               clear HWW HFF hs4 ho4)
            | (have HFF := Aside0.mk (HF.out.1 (by have := HB.out; omega))
               obtain ⟨s4, hs4⟩ : ∃ s4, s3 = s4 := ⟨_, rfl⟩
               obtain ⟨o4, ho4⟩ : ∃ o4, o3 = o4 := ⟨_, rfl⟩
               have HWW := HW3
               rw [hs4, ho4] at HWW HFF
               have HWS := HWW
               have HFS := HFF
               clear HWW HFF hs4 ho4)
          all_goals rename World => wd
          all_goals
            by_cases t1 : t = 1
            · (have qt1 : ((t : Int) == 1) = true := by rw [beq_iff_eq]; omega
               have qt2 : ((t : Int) == 2) = false := by rw [beq_eq_false_iff_ne]; omega
               have HTI : Aside0 (∀ W Pb, (truthN (t : Int)).In flT W Pb [.int .i64 (t : Int), .bool true, .int .i64 0, .int .u64 0, .slice none 0 0, .int .i64 0, .int .i64 0, .slice none 0 0, .slice none 0 0]) := ⟨fun W Pb => by have h := truth_in W Pb (t : Int); rw [show decide ((t : Int) = 1) = true from decide_eq_true (by omega)] at h; exact h⟩
               have HRX := Aside0.mk (HFS.out.next (truthN (t : Int)) o4 s4 (fv_truth _ _ (by omega) bs o4 s4))
               clear t1
               go_wp2_with (first
                 | (at_builtin; refine appendCells (W := wd) w.heap.size rfl (.tmp 64) (.tmp 71) 25 48 10 128 rfl Tryd.underlying25 infoPart (by decide) (.slice Al i cl) i cs [.int .i64 id, .int .i64 (t : Int), .bool true, .int .i64 0, .int .u64 0, .slice none 0 0, .int .i64 0, .int .i64 0, .slice none 0 0, .slice none 0 0] rfl rfl rfl (by simp [Value.oneCell']) ?HO ?hb (by omega) (by unfold maxLen; omega) ?_; (case HO => exact own_move (HDl.out ▸ HL.out.row) (fun b hb => HWS.out.grown.block b (own_lt HL.out.row hb).2 (fun e => by have := own_lt HL.out.row hb; have := Option.some.inj e; have := HG.out; omega))); (case hb => have := HL.out.sz; have := HWS.out.grown.size; omega); intro v1 w9 ho hgr hor; obtain ⟨Al2, cl2, rfl⟩ := ownSlice ho; have HNX := Aside0.mk (HL.out.step (Nat.le_refl _) (Nat.zero_le _) HGL.out (x := truthN (t : Int)) (id := id) (Nat.le_refl _) (HTI.out _ _) HWS.out.grown (fun g' e => Option.some.inj e ▸ HWS.out.rd.blk) hgr (by rw [HDl.out]; exact ho) hor); clear ho hgr hor))
               go_roundg (gk - 1)
               all_goals first
                 | (have := HK.out; have := HLB.out; omega)
                 | (refine ⟨i + 1, cl2, o4, s4, id, D.snoc (truthN (t : Int)).d id (truthN (t : Int)).ls (truthN (t : Int)).fs, Al2, _, by have := HLB.out; omega, rfl, rfl, ⟨fun h => by have := HRX.out.2 h; omega⟩, ⟨by rw [F.len_snoc, HDl.out]⟩, ⟨HRX.out.1⟩, ⟨HNX.out⟩, ⟨HNX.out.rb g rfl, HS.out.apart, HWS.out.rd.le, HWS.out.rd.st⟩, ⟨by have := HK.out; omega⟩⟩))
            · by_cases t2 : t = 2
              · (have qt1 : ((t : Int) == 1) = false := by rw [beq_eq_false_iff_ne]; omega
                 have qt2 : ((t : Int) == 2) = true := by rw [beq_iff_eq]; omega
                 have HTI : Aside0 (∀ W Pb, (truthN (t : Int)).In flT W Pb [.int .i64 (t : Int), .bool false, .int .i64 0, .int .u64 0, .slice none 0 0, .int .i64 0, .int .i64 0, .slice none 0 0, .slice none 0 0]) := ⟨fun W Pb => by have h := truth_in W Pb (t : Int); rw [show decide ((t : Int) = 1) = false from decide_eq_false (by omega)] at h; exact h⟩
                 have HRX := Aside0.mk (HFS.out.next (truthN (t : Int)) o4 s4 (fv_truth _ _ (by omega) bs o4 s4))
                 clear t1 t2
                 go_wp2_with (first
                   | (at_builtin; refine appendCells (W := wd) w.heap.size rfl (.tmp 64) (.tmp 71) 25 48 10 128 rfl Tryd.underlying25 infoPart (by decide) (.slice Al i cl) i cs [.int .i64 id, .int .i64 (t : Int), .bool false, .int .i64 0, .int .u64 0, .slice none 0 0, .int .i64 0, .int .i64 0, .slice none 0 0, .slice none 0 0] rfl rfl rfl (by simp [Value.oneCell']) ?HO ?hb (by omega) (by unfold maxLen; omega) ?_; (case HO => exact own_move (HDl.out ▸ HL.out.row) (fun b hb => HWS.out.grown.block b (own_lt HL.out.row hb).2 (fun e => by have := own_lt HL.out.row hb; have := Option.some.inj e; have := HG.out; omega))); (case hb => have := HL.out.sz; have := HWS.out.grown.size; omega); intro v1 w9 ho hgr hor; obtain ⟨Al2, cl2, rfl⟩ := ownSlice ho; have HNX := Aside0.mk (HL.out.step (Nat.le_refl _) (Nat.zero_le _) HGL.out (x := truthN (t : Int)) (id := id) (Nat.le_refl _) (HTI.out _ _) HWS.out.grown (fun g' e => Option.some.inj e ▸ HWS.out.rd.blk) hgr (by rw [HDl.out]; exact ho) hor); clear ho hgr hor))
                 go_roundg (gk - 1)
                 all_goals first
                   | (have := HK.out; have := HLB.out; omega)
                   | (refine ⟨i + 1, cl2, o4, s4, id, D.snoc (truthN (t : Int)).d id (truthN (t : Int)).ls (truthN (t : Int)).fs, Al2, _, by have := HLB.out; omega, rfl, rfl, ⟨fun h => by have := HRX.out.2 h; omega⟩, ⟨by rw [F.len_snoc, HDl.out]⟩, ⟨HRX.out.1⟩, ⟨HNX.out⟩, ⟨HNX.out.rb g rfl, HS.out.apart, HWS.out.rd.le, HWS.out.rd.st⟩, ⟨by have := HK.out; omega⟩⟩))
              · (have qt1 : ((t : Int) == 1) = false := by rw [beq_eq_false_iff_ne]; omega
                 have qt2 : ((t : Int) == 2) = false := by rw [beq_eq_false_iff_ne]; omega
                 have HT12 : Aside0 (¬ ((t : Int) = 1 ∨ (t : Int) = 2)) := ⟨by omega⟩
                 clear t1 t2
                 go_wp2_with (first
                   | (go_at_call 56; (with_reducible refine (elem_calls g A n c o4 s4 bs t wd HWS.out.rd).mono ?_); rintro e w5 HQ; obtain ⟨v5, o5, s5, rfl, hv5, hd5, hw5⟩ := HQ.out; subst hv5; have HD5 := Aside0.mk hd5; have HW5 := Aside0.mk (HWS.out.trans hw5); have HTH := Aside0.mk (HT.out.out (t : Int) o5 s5 w5 hw5.rd (grownC (grownC HC.out HL.out.grown HS.out.apart) HW5.out.grown HS.out.apart)); clear HQ hd5 hw5)
                   | (go_at_call 39; (with_reducible refine HTH.out.mono ?_); rintro e w6 HZ; obtain ⟨x, xcs, o6, s6, rfl, hxin, hd6, hw6⟩ := HZ.out; obtain ⟨B5, m5, j5, B7, m7, j7, B8, m8, j8, hxe⟩ := openT hxin; rw [hxe]; have HXI := Aside0.mk hxin; have HXE := Aside0.mk hxe; have HW6 := Aside0.mk (HW5.out.trans hw6); have HRX := Aside0.mk (HFS.out.next x o6 s6 ((Does.bind HD5.out hd6).cong (fv_eq (thP k) (t : Int) HT12.out).symm)); clear HZ hxin hd6 hw6 hxe)
                   | (at_builtin; refine appendCells (W := w6) w.heap.size rfl (.tmp 49) (.tmp 59) 25 48 10 128 rfl Tryd.underlying25 infoPart (by decide) (.slice Al i cl) i cs [.int .i64 id, .int .i64 x.d.ty, .bool x.d.bo, .int .i64 x.d.n, .int .u64 (x.d.bits : Int), .slice B5 m5 j5, .int .i64 x.d.ky, .int .i64 x.d.el, .slice B7 m7 j7, .slice B8 m8 j8] rfl rfl rfl (by simp [Value.oneCell']) ?HO ?hb (by omega) (by unfold maxLen; omega) ?_; (case HO => exact own_move (HDl.out ▸ HL.out.row) (fun b hb => HW6.out.grown.block b (own_lt HL.out.row hb).2 (fun e => by have := own_lt HL.out.row hb; have := Option.some.inj e; have := HG.out; omega))); (case hb => have := HL.out.sz; have := HW6.out.grown.size; omega); intro v1 w9 ho hgr hor; obtain ⟨Al2, cl2, rfl⟩ := ownSlice ho; have HNX := Aside0.mk (HL.out.step (Nat.le_refl _) (Nat.zero_le _) HGL.out (x := x) (id := id) HW5.out.grown.size HXI.out HW6.out.grown (fun g' e => Option.some.inj e ▸ HW6.out.rd.blk) hgr (by rw [HDl.out, HXE.out]; exact ho) hor); clear ho hgr hor))
                 go_roundg (gk - 1)
                 all_goals first
                   | (have := HK.out; have := HLB.out; omega)
                   | (refine ⟨i + 1, cl2, o6, s6, id, D.snoc (x).d id (x).ls (x).fs, Al2, _, by have := HLB.out; omega, rfl, rfl, ⟨fun h => by have := HRX.out.2 h; omega⟩, ⟨by rw [F.len_snoc, HDl.out]⟩, ⟨HRX.out.1⟩, ⟨HNX.out⟩, ⟨HNX.out.rb g rfl, HS.out.apart, HW6.out.rd.le, HW6.out.rd.st⟩, ⟨by have := HK.out; omega⟩⟩))
        · have qq0 : ((q : Int) == 0) = false := by rw [beq_eq_false_iff_ne]; omega
          have qq00 : (q == 0) = false := by rw [beq_eq_false_iff_ne]; omega
          obtain ⟨id, hid⟩ : ∃ id, last + (q : Int) = id := ⟨_, rfl⟩
          have qwl : IntKind.i64.wrap (last + q) = id := by rw [IntWalk.i64_in _ (by omega), hid]
          have HF := Aside0.mk (fld_big (id := id) (ty := (t : Int)) HRN.out HD2.out hl0 (by omega) (by omega) (by omega) hi1)
          have r1 : decide (id ≤ last) = false := decide_eq_false (by omega)
          clear cy hq ht hid
          by_cases b2 : 32767 < id <;> by_cases b3 : i = 100
          all_goals first
            | have r2 : decide (32767 < id) = true := decide_eq_true (by omega)
            | have r2 : decide (32767 < id) = false := decide_eq_false (by omega)
          all_goals first
            | have r3 : ((i : Int) == 100) = true := by rw [beq_iff_eq]; omega
            | have r3 : ((i : Int) == 100) = false := by rw [beq_eq_false_iff_ne]; omega
          all_goals
            have HB := Aside0.mk (And.intro (b2 : _) (b3 : _))
            clear b2 b3
            go_upto_region 13 with (first
              | (go_at_call 51; (with_reducible refine HOP2.out.mono ?_); rintro e w4 ⟨rfl, hw4⟩; have HWW := Aside0.mk (HW2.out.trans hw4); have HFF := Aside0.mk (HF.out.2 (by have := HB.out; omega)); clear hw4))
          all_goals first
            | (obtain ⟨s4, hs4⟩ : ∃ s4, opS s2 = s4 := ⟨_, rfl⟩
               obtain ⟨o4, ho4⟩ : ∃ o4, o2 = o4 := ⟨_, rfl⟩
               rw [hs4, ho4] at HWW HFF
               have HWS := HWW
               have HFS := HFF
               clear HWW HFF hs4 ho4)
            | (have HFF := Aside0.mk (HF.out.1 (by have := HB.out; omega))
               obtain ⟨s4, hs4⟩ : ∃ s4, s2 = s4 := ⟨_, rfl⟩
               obtain ⟨o4, ho4⟩ : ∃ o4, o2 = o4 := ⟨_, rfl⟩
               have HWW := HW2
               rw [hs4, ho4] at HWW HFF
               have HWS := HWW
               have HFS := HFF
               clear HWW HFF hs4 ho4)
          all_goals rename World => wd
          all_goals
            by_cases t1 : t = 1
            · (have qt1 : ((t : Int) == 1) = true := by rw [beq_iff_eq]; omega
               have qt2 : ((t : Int) == 2) = false := by rw [beq_eq_false_iff_ne]; omega
               have HTI : Aside0 (∀ W Pb, (truthN (t : Int)).In flT W Pb [.int .i64 (t : Int), .bool true, .int .i64 0, .int .u64 0, .slice none 0 0, .int .i64 0, .int .i64 0, .slice none 0 0, .slice none 0 0]) := ⟨fun W Pb => by have h := truth_in W Pb (t : Int); rw [show decide ((t : Int) = 1) = true from decide_eq_true (by omega)] at h; exact h⟩
               have HRX := Aside0.mk (HFS.out.next (truthN (t : Int)) o4 s4 (fv_truth _ _ (by omega) bs o4 s4))
               clear t1
               go_wp2_with (first
                 | (at_builtin; refine appendCells (W := wd) w.heap.size rfl (.tmp 64) (.tmp 71) 25 48 10 128 rfl Tryd.underlying25 infoPart (by decide) (.slice Al i cl) i cs [.int .i64 id, .int .i64 (t : Int), .bool true, .int .i64 0, .int .u64 0, .slice none 0 0, .int .i64 0, .int .i64 0, .slice none 0 0, .slice none 0 0] rfl rfl rfl (by simp [Value.oneCell']) ?HO ?hb (by omega) (by unfold maxLen; omega) ?_; (case HO => exact own_move (HDl.out ▸ HL.out.row) (fun b hb => HWS.out.grown.block b (own_lt HL.out.row hb).2 (fun e => by have := own_lt HL.out.row hb; have := Option.some.inj e; have := HG.out; omega))); (case hb => have := HL.out.sz; have := HWS.out.grown.size; omega); intro v1 w9 ho hgr hor; obtain ⟨Al2, cl2, rfl⟩ := ownSlice ho; have HNX := Aside0.mk (HL.out.step (Nat.le_refl _) (Nat.zero_le _) HGL.out (x := truthN (t : Int)) (id := id) (Nat.le_refl _) (HTI.out _ _) HWS.out.grown (fun g' e => Option.some.inj e ▸ HWS.out.rd.blk) hgr (by rw [HDl.out]; exact ho) hor); clear ho hgr hor))
               go_roundg (gk - 1)
               all_goals first
                 | (have := HK.out; have := HLB.out; omega)
                 | (refine ⟨i + 1, cl2, o4, s4, id, D.snoc (truthN (t : Int)).d id (truthN (t : Int)).ls (truthN (t : Int)).fs, Al2, _, by have := HLB.out; omega, rfl, rfl, ⟨fun h => by have := HRX.out.2 h; omega⟩, ⟨by rw [F.len_snoc, HDl.out]⟩, ⟨HRX.out.1⟩, ⟨HNX.out⟩, ⟨HNX.out.rb g rfl, HS.out.apart, HWS.out.rd.le, HWS.out.rd.st⟩, ⟨by have := HK.out; omega⟩⟩))
            · by_cases t2 : t = 2
              · (have qt1 : ((t : Int) == 1) = false := by rw [beq_eq_false_iff_ne]; omega
                 have qt2 : ((t : Int) == 2) = true := by rw [beq_iff_eq]; omega
                 have HTI : Aside0 (∀ W Pb, (truthN (t : Int)).In flT W Pb [.int .i64 (t : Int), .bool false, .int .i64 0, .int .u64 0, .slice none 0 0, .int .i64 0, .int .i64 0, .slice none 0 0, .slice none 0 0]) := ⟨fun W Pb => by have h := truth_in W Pb (t : Int); rw [show decide ((t : Int) = 1) = false from decide_eq_false (by omega)] at h; exact h⟩
                 have HRX := Aside0.mk (HFS.out.next (truthN (t : Int)) o4 s4 (fv_truth _ _ (by omega) bs o4 s4))
                 clear t1 t2
                 go_wp2_with (first
                   | (at_builtin; refine appendCells (W := wd) w.heap.size rfl (.tmp 64) (.tmp 71) 25 48 10 128 rfl Tryd.underlying25 infoPart (by decide) (.slice Al i cl) i cs [.int .i64 id, .int .i64 (t : Int), .bool false, .int .i64 0, .int .u64 0, .slice none 0 0, .int .i64 0, .int .i64 0, .slice none 0 0, .slice none 0 0] rfl rfl rfl (by simp [Value.oneCell']) ?HO ?hb (by omega) (by unfold maxLen; omega) ?_; (case HO => exact own_move (HDl.out ▸ HL.out.row) (fun b hb => HWS.out.grown.block b (own_lt HL.out.row hb).2 (fun e => by have := own_lt HL.out.row hb; have := Option.some.inj e; have := HG.out; omega))); (case hb => have := HL.out.sz; have := HWS.out.grown.size; omega); intro v1 w9 ho hgr hor; obtain ⟨Al2, cl2, rfl⟩ := ownSlice ho; have HNX := Aside0.mk (HL.out.step (Nat.le_refl _) (Nat.zero_le _) HGL.out (x := truthN (t : Int)) (id := id) (Nat.le_refl _) (HTI.out _ _) HWS.out.grown (fun g' e => Option.some.inj e ▸ HWS.out.rd.blk) hgr (by rw [HDl.out]; exact ho) hor); clear ho hgr hor))
                 go_roundg (gk - 1)
                 all_goals first
                   | (have := HK.out; have := HLB.out; omega)
                   | (refine ⟨i + 1, cl2, o4, s4, id, D.snoc (truthN (t : Int)).d id (truthN (t : Int)).ls (truthN (t : Int)).fs, Al2, _, by have := HLB.out; omega, rfl, rfl, ⟨fun h => by have := HRX.out.2 h; omega⟩, ⟨by rw [F.len_snoc, HDl.out]⟩, ⟨HRX.out.1⟩, ⟨HNX.out⟩, ⟨HNX.out.rb g rfl, HS.out.apart, HWS.out.rd.le, HWS.out.rd.st⟩, ⟨by have := HK.out; omega⟩⟩))
              · (have qt1 : ((t : Int) == 1) = false := by rw [beq_eq_false_iff_ne]; omega
                 have qt2 : ((t : Int) == 2) = false := by rw [beq_eq_false_iff_ne]; omega
                 have HT12 : Aside0 (¬ ((t : Int) = 1 ∨ (t : Int) = 2)) := ⟨by omega⟩
                 clear t1 t2
                 go_wp2_with (first
                   | (go_at_call 56; (with_reducible refine (elem_calls g A n c o4 s4 bs t wd HWS.out.rd).mono ?_); rintro e w5 HQ; obtain ⟨v5, o5, s5, rfl, hv5, hd5, hw5⟩ := HQ.out; subst hv5; have HD5 := Aside0.mk hd5; have HW5 := Aside0.mk (HWS.out.trans hw5); have HTH := Aside0.mk (HT.out.out (t : Int) o5 s5 w5 hw5.rd (grownC (grownC HC.out HL.out.grown HS.out.apart) HW5.out.grown HS.out.apart)); clear HQ hd5 hw5)
                   | (go_at_call 39; (with_reducible refine HTH.out.mono ?_); rintro e w6 HZ; obtain ⟨x, xcs, o6, s6, rfl, hxin, hd6, hw6⟩ := HZ.out; obtain ⟨B5, m5, j5, B7, m7, j7, B8, m8, j8, hxe⟩ := openT hxin; rw [hxe]; have HXI := Aside0.mk hxin; have HXE := Aside0.mk hxe; have HW6 := Aside0.mk (HW5.out.trans hw6); have HRX := Aside0.mk (HFS.out.next x o6 s6 ((Does.bind HD5.out hd6).cong (fv_eq (thP k) (t : Int) HT12.out).symm)); clear HZ hxin hd6 hw6 hxe)
                   | (at_builtin; refine appendCells (W := w6) w.heap.size rfl (.tmp 49) (.tmp 59) 25 48 10 128 rfl Tryd.underlying25 infoPart (by decide) (.slice Al i cl) i cs [.int .i64 id, .int .i64 x.d.ty, .bool x.d.bo, .int .i64 x.d.n, .int .u64 (x.d.bits : Int), .slice B5 m5 j5, .int .i64 x.d.ky, .int .i64 x.d.el, .slice B7 m7 j7, .slice B8 m8 j8] rfl rfl rfl (by simp [Value.oneCell']) ?HO ?hb (by omega) (by unfold maxLen; omega) ?_; (case HO => exact own_move (HDl.out ▸ HL.out.row) (fun b hb => HW6.out.grown.block b (own_lt HL.out.row hb).2 (fun e => by have := own_lt HL.out.row hb; have := Option.some.inj e; have := HG.out; omega))); (case hb => have := HL.out.sz; have := HW6.out.grown.size; omega); intro v1 w9 ho hgr hor; obtain ⟨Al2, cl2, rfl⟩ := ownSlice ho; have HNX := Aside0.mk (HL.out.step (Nat.le_refl _) (Nat.zero_le _) HGL.out (x := x) (id := id) HW5.out.grown.size HXI.out HW6.out.grown (fun g' e => Option.some.inj e ▸ HW6.out.rd.blk) hgr (by rw [HDl.out, HXE.out]; exact ho) hor); clear ho hgr hor))
                 go_roundg (gk - 1)
                 all_goals first
                   | (have := HK.out; have := HLB.out; omega)
                   | (refine ⟨i + 1, cl2, o6, s6, id, D.snoc (x).d id (x).ls (x).fs, Al2, _, by have := HLB.out; omega, rfl, rfl, ⟨fun h => by have := HRX.out.2 h; omega⟩, ⟨by rw [F.len_snoc, HDl.out]⟩, ⟨HRX.out.1⟩, ⟨HNX.out⟩, ⟨HNX.out.rb g rfl, HS.out.apart, HW6.out.rd.le, HW6.out.rd.st⟩, ⟨by have := HK.out; omega⟩⟩))
end Go.Proofs.YtcboegodjlfmnaaDoor.Tsf
