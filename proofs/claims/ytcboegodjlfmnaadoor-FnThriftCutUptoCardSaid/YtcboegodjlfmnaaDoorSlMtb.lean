import Derived.Test.YtcboegodjlfmnaaDoorSlMta
namespace Go.Proofs.YtcboegodjlfmnaaDoor.Tpa
open Go.Proofs.YtcboegodjlfmnaaDoor.Dpu Go.Proofs.YtcboegodjlfmnaaDoor.Pak Go.Proofs.YtcboegodjlfmnaaDoor.Buf Go.Proofs.YtcboegodjlfmnaaDoor.Fit Go.Proofs.YtcboegodjlfmnaaDoor.Bit Go.Proofs.YtcboegodjlfmnaaDoor.Le Go.Proofs.YtcboegodjlfmnaaDoor.Num Go.Proofs.YtcboegodjlfmnaaDoor.Lst Go.Proofs.YtcboegodjlfmnaaDoor.Aid Go.RowKit Go.Proofs.YtcboegodjlfmnaaDoorW.PrintWords Go.Proofs.YtcboegodjlfmnaaDoorW.PrintLast Go.Proofs.YtcboegodjlfmnaaDoorW.PrintMore
set_option linter.unusedVariables false
set_option linter.unusedSimpArgs false
structure D where
  ty : Int
  bo : Bool
  n : Int
  bits : Nat
  bs : List Int
  ky : Int
  el : Int
inductive F where
  | nil
  | cons (d : D) (id : Int) (ls fs tl : F)
structure N where
  d : D
  ls : F
  fs : F
def F.len : F → Nat
  | .nil => 0
  | .cons _ _ _ _ tl => tl.len + 1
def F.snoc : F → D → Int → F → F → F
  | .nil, d, id, ls, fs => .cons d id ls fs .nil
  | .cons d' id' ls' fs' tl, d, id, ls, fs => .cons d' id' ls' fs' (tl.snoc d id ls fs)
def F.app : F → F → F
  | .nil, G => G
  | .cons d id ls fs tl, G => .cons d id ls fs (tl.app G)
theorem F.app_nil : ∀ A : F, A.app .nil = A
  | .nil => rfl
  | .cons d id ls fs tl => by show F.cons d id ls fs (tl.app .nil) = _; rw [F.app_nil tl]
theorem F.app_snoc : ∀ (A G : F) (d : D) (id : Int) (ls fs : F), A.app (.cons d id ls fs G) = (A.snoc d id ls fs).app G
  | .nil, G, d, id, ls, fs => rfl
  | .cons d' id' ls' fs' tl, G, d, id, ls, fs => by show F.cons d' id' ls' fs' (tl.app _) = .cons d' id' ls' fs' ((tl.snoc d id ls fs).app G); rw [F.app_snoc tl]
theorem F.len_snoc : ∀ (A : F) (d : D) (id : Int) (ls fs : F), (A.snoc d id ls fs).len = A.len + 1
  | .nil, d, id, ls, fs => rfl
  | .cons d' id' ls' fs' tl, d, id, ls, fs => by show (tl.snoc d id ls fs).len + 1 = tl.len + 1 + 1; rw [F.len_snoc tl]
inductive Res (α : Type) where
  | ok (a : α) (r : List Int)
  | cut
  | opn
abbrev Psr (α : Type) := List Int → Res α
def Res.bind {α β : Type} (x : Res α) (f : α → Psr β) : Res β :=
  match x with
  | .ok a r => f a r
  | .cut => .cut
  | .opn => .opn
def bindP {α β : Type} (p : Psr α) (f : α → Psr β) : Psr β := fun bs => (p bs).bind f
def retP {α : Type} (a : α) : Psr α := fun bs => .ok a bs
def opnP {α : Type} : Psr α := fun _ => .opn
def byteP : Psr Int := fun bs => match bs with
  | [] => .cut
  | b :: r => .ok b r
def takeP (n : Nat) : Psr (List Int) := fun bs => if n ≤ bs.length then .ok (bs.take n) (bs.drop n) else .cut
def Good {α : Type} (p : Psr α) : Prop := ∀ bs v r, p bs = .ok v r → ∃ x, bs = x ++ r ∧ (∀ r', p (x ++ r') = .ok v r') ∧ ∀ y z, x = y ++ z → z ≠ [] → p y = .cut
theorem good_ret {α : Type} (a : α) : Good (retP a) := by
  intro bs v r h
  injection h with h1 h2
  subst h1 h2
  exact ⟨[], rfl, fun _ => rfl, fun y z h hz => absurd (List.append_eq_nil_iff.1 h.symm).2 hz⟩
theorem good_opn {α : Type} : Good (opnP (α := α)) := by intro bs v r h; cases h
theorem good_byte : Good byteP := by
  intro bs v r h
  cases bs with
  | nil => cases h
  | cons b bs =>
    injection h with h1 h2
    subst h1 h2
    refine ⟨[b], rfl, fun _ => rfl, fun y z h hz => ?_⟩
    cases y with
    | nil => rfl
    | cons a y =>
      exfalso
      rw [List.cons_append] at h
      injection h with h1 h2
      exact hz (List.append_eq_nil_iff.1 h2.symm).2
theorem good_take (n : Nat) : Good (takeP n) := by
  intro bs v r h
  unfold takeP at h
  by_cases c : n ≤ bs.length
  · rw [if_pos c] at h
    injection h with h1 h2
    subst h1 h2
    have hl : (bs.take n).length = n := by rw [List.length_take]; omega
    refine ⟨bs.take n, (List.take_append_drop n bs).symm, fun r' => ?_, fun y z h hz => ?_⟩
    · unfold takeP
      rw [if_pos (by rw [List.length_append]; omega), List.take_left' hl, List.drop_left' hl]
    · unfold takeP
      rw [if_neg ?_]
      have h1 := congrArg List.length h
      rw [List.length_append, hl] at h1
      have h2 : 0 < z.length := List.length_pos_iff.2 hz
      omega
  · rw [if_neg c] at h; cases h
theorem good_bind {α β : Type} {p : Psr α} {f : α → Psr β} (hp : Good p) (hf : ∀ a, Good (f a)) : Good (bindP p f) := by
  intro bs v r h
  unfold bindP at h
  cases hc : p bs with
  | cut => rw [hc] at h; cases h
  | opn => rw [hc] at h; cases h
  | ok a r1 =>
    rw [hc] at h
    obtain ⟨x1, e1, h1, c1⟩ := hp bs a r1 hc
    obtain ⟨x2, e2, h2, c2⟩ := hf a r1 v r h
    refine ⟨x1 ++ x2, by rw [e1, e2, List.append_assoc], fun r' => ?_, fun y z he hz => ?_⟩
    · unfold bindP
      rw [List.append_assoc, h1]
      exact h2 r'
    · unfold bindP
      rcases List.append_eq_append_iff.1 he with ⟨w, hy, hx2⟩ | ⟨w, hx1, hz'⟩
      · subst hy
        rw [h1 w]
        exact c2 w z hx2 hz
      · by_cases hw : w = []
        · subst hw
          rw [List.append_nil] at hx1
          rw [List.nil_append] at hz'
          subst hx1 hz'
          have := h1 []
          rw [List.append_nil] at this
          rw [this]
          exact c2 [] z rfl hz
        · rw [c1 y w hx1 hw]; rfl
theorem good_ite {α : Type} {p q : Psr α} {c : Prop} [Decidable c] (hp : Good p) (hq : Good q) : Good (if c then p else q) := by
  by_cases h : c
  · rw [if_pos h]; exact hp
  · rw [if_neg h]; exact hq
def varP : Nat → Bool → Psr Nat
  | 0, _ => opnP
  | k + 1, f => bindP byteP fun b => if (k = 0 ∧ 1 < b) ∨ (f = false ∧ b = 0) then opnP else if b < 128 then retP b.toNat else bindP (varP k false) fun x => retP ((b - 128).toNat + 128 * x)
theorem good_var : ∀ k f, Good (varP k f)
  | 0, f => good_opn
  | k + 1, f => good_bind good_byte fun b => good_ite good_opn (good_ite (good_ret _) (good_bind (good_var k false) fun x => good_ret _))
def unzz (n : Nat) : Int := if n % 2 = 0 then ((n / 2 : Nat) : Int) else -((n / 2 : Nat) : Int) - 1
theorem unzz_zz (x : Int) : unzz (zz x) = x := by
  unfold unzz zz
  by_cases h : 0 ≤ x
  · rw [if_pos h, if_pos (by omega)]; omega
  · rw [if_neg h, if_neg (by omega)]; omega
def zigP (m : Int) : Psr Int := bindP (varP 10 true) fun n => if -m ≤ unzz n ∧ unzz n < m then retP (unzz n) else opnP
theorem good_zig (m : Int) : Good (zigP m) := good_bind (good_var _ _) fun n => good_ite (good_ret _) good_opn
def sizeP (m : Nat) : Psr Nat := bindP (varP 10 true) fun n => if m < n then opnP else retP n
theorem good_size (m : Nat) : Good (sizeP m) := good_bind (good_var _ _) fun n => good_ite good_opn (good_ret _)
def listP (p : Int → Psr N) : Int → Int → Nat → Psr F
  | _, _, 0 => retP .nil
  | ev, od, m + 1 => bindP (p ev) fun x => bindP (listP p od ev m) fun tl => retP (.cons x.d 0 x.ls x.fs tl)
theorem good_list {p : Int → Psr N} (hp : ∀ t, Good (p t)) : ∀ (m : Nat) ev od, Good (listP p ev od m)
  | 0, ev, od => good_ret _
  | m + 1, ev, od => good_bind (hp ev) fun x => good_bind (good_list hp m od ev) fun tl => good_ret _
def fhP (last : Int) : Psr (Int × Int) := bindP byteP fun b =>
  if b = 0 then retP (0, 0) else if b < 16 then bindP (zigP 32768) fun id => if id ≤ last then opnP else retP (id, b)
  else if 32767 < last + b / 16 then opnP else retP (last + b / 16, b % 16)
theorem good_fh (last : Int) : Good (fhP last) :=
  good_bind good_byte fun b => good_ite (good_ret _) (good_ite (good_bind (good_zig _) fun id => good_ite good_opn (good_ret _)) (good_ite good_opn (good_ret _)))
def fvP (p : Int → Psr N) (ty : Int) : Psr N :=
  if ty = 1 ∨ ty = 2 then retP ⟨⟨ty, decide (ty = 1), 0, 0, [], 0, 0⟩, .nil, .nil⟩ else if ty < 3 ∨ 12 < ty then opnP else p ty
theorem good_fv {p : Int → Psr N} (hp : ∀ t, Good (p t)) (ty : Int) : Good (fvP p ty) := good_ite (good_ret _) (good_ite good_opn (hp ty))
def fieldsP (p : Int → Psr N) : Nat → Int → Psr F
  | 0, last => bindP (fhP last) fun h => if h.1 = 0 then retP .nil else opnP
  | m + 1, last => bindP (fhP last) fun h => if h.1 = 0 then retP .nil else bindP (fvP p h.2) fun x => bindP (fieldsP p m h.1) fun tl => retP (.cons x.d h.1 x.ls x.fs tl)
theorem good_fields {p : Int → Psr N} (hp : ∀ t, Good (p t)) : ∀ (m : Nat) last, Good (fieldsP p m last)
  | 0, last => good_bind (good_fh _) fun h => good_ite (good_ret _) good_opn
  | m + 1, last => good_bind (good_fh _) fun h => good_ite (good_ret _) (good_bind (good_fv hp _) fun x => good_bind (good_fields hp m _) fun tl => good_ret _)
def s8 (b : Int) : Int := if b < 128 then b else b - 256
def leaf (ty n : Int) : N := ⟨⟨ty, false, n, 0, [], 0, 0⟩, .nil, .nil⟩
def eightN (l : List Int) : Nat := (le8L l).toNat
def lhP : Psr (Nat × Int) := bindP byteP fun b => if b % 16 < 3 ∨ 12 < b % 16 then opnP else if b / 16 = 15 then bindP (sizeP 1000) fun n => retP (n, b % 16) else retP ((b / 16).toNat, b % 16)
theorem good_lh : Good lhP := good_bind good_byte fun b => good_ite good_opn (good_ite (good_bind (good_size _) fun n => good_ret _) (good_ret _))
def mhP : Psr (Nat × Int × Int) := bindP (sizeP 500) fun n => if n = 0 then retP (0, 0, 0) else bindP byteP fun b => if b / 16 < 3 ∨ 12 < b / 16 ∨ b % 16 < 3 ∨ 12 < b % 16 then opnP else retP (n, b / 16, b % 16)
theorem good_mh : Good mhP := good_bind (good_size _) fun n => good_ite (good_ret _) (good_bind good_byte fun b => good_ite good_opn (good_ret _))
def thP : Nat → Int → Psr N
  | 0, _ => opnP
  | g + 1, ty =>
    if ty = 3 then bindP byteP fun b => retP (leaf 3 (s8 b))
    else if ty = 4 then bindP (zigP 32768) fun n => retP (leaf 4 n)
    else if ty = 5 then bindP (zigP 2147483648) fun n => retP (leaf 5 n)
    else if ty = 6 then bindP (zigP 9223372036854775808) fun n => retP (leaf 6 n)
    else if ty = 7 then bindP (takeP 8) fun l => retP ⟨⟨7, false, 0, eightN l, [], 0, 0⟩, .nil, .nil⟩
    else if ty = 8 then bindP (sizeP 10000) fun n => bindP (takeP n) fun l => retP ⟨⟨8, false, 0, 0, l, 0, 0⟩, .nil, .nil⟩
    else if ty = 9 ∨ ty = 10 then bindP lhP fun h => bindP (listP (thP g) h.2 h.2 h.1) fun ls => retP ⟨⟨ty, false, 0, 0, [], 0, h.2⟩, ls, .nil⟩
    else if ty = 11 then bindP mhP fun h => bindP (listP (thP g) h.2.1 h.2.2 (2 * h.1)) fun ls => retP ⟨⟨11, false, 0, 0, [], h.2.1, h.2.2⟩, ls, .nil⟩
    else if ty = 12 then bindP (fieldsP (thP g) 100 0) fun fs => retP ⟨⟨12, false, 0, 0, [], 0, 0⟩, .nil, fs⟩
    else opnP
theorem good_th : ∀ (g : Nat) (ty : Int), Good (thP g ty)
  | 0, ty => good_opn
  | g + 1, ty => by
    have ih := good_th g
    unfold thP
    refine good_ite (good_bind good_byte fun b => good_ret _) (good_ite (good_bind (good_zig _) fun n => good_ret _) (good_ite (good_bind (good_zig _) fun n => good_ret _)
      (good_ite (good_bind (good_zig _) fun n => good_ret _) (good_ite (good_bind (good_take _) fun n => good_ret _) (good_ite (good_bind (good_size _) fun n => good_bind (good_take _) fun l => good_ret _)
      (good_ite (good_bind good_lh fun h => good_bind (good_list ih _ _ _) fun ls => good_ret _) (good_ite (good_bind good_mh fun h => good_bind (good_list ih _ _ _) fun ls => good_ret _)
      (good_ite (good_bind (good_fields ih _ _) fun fs => good_ret _) good_opn))))))))
theorem bind_ok {α β : Type} {p : Psr α} {f : α → Psr β} {bs r : List Int} {v : β} (h : bindP p f bs = .ok v r) : ∃ a r1, p bs = .ok a r1 ∧ f a r1 = .ok v r := by
  unfold bindP at h
  cases hc : p bs with
  | cut => rw [hc] at h; cases h
  | opn => rw [hc] at h; cases h
  | ok a r1 => rw [hc] at h; exact ⟨a, r1, rfl, h⟩
theorem bind_cut {α β : Type} {p : Psr α} {f : α → Psr β} {bs : List Int} (h : bindP p f bs = .cut) : p bs = .cut ∨ ∃ a r1, p bs = .ok a r1 ∧ f a r1 = .cut := by
  unfold bindP at h
  cases hc : p bs with
  | cut => exact .inl rfl
  | opn => rw [hc] at h; cases h
  | ok a r1 => rw [hc] at h; exact .inr ⟨a, r1, rfl, h⟩
theorem good_suffix {α : Type} {p : Psr α} (hp : Good p) {bs r : List Int} {v : α} (h : p bs = .ok v r) : ∃ m, m ≤ bs.length ∧ r = bs.drop m ∧ r.length = bs.length - m := by
  obtain ⟨x, e, _, _⟩ := hp _ _ _ h
  subst e
  exact ⟨x.length, by rw [List.length_append]; omega, (List.drop_left' rfl).symm, by rw [List.length_append]; omega⟩
end Go.Proofs.YtcboegodjlfmnaaDoor.Tpa

namespace Go.Proofs.YtcboegodjlfmnaaDoor.Tpa
open Go.Proofs.YtcboegodjlfmnaaDoor.Dpu Go.Proofs.YtcboegodjlfmnaaDoor.Pak Go.Proofs.YtcboegodjlfmnaaDoor.Buf Go.Proofs.YtcboegodjlfmnaaDoor.Fit Go.Proofs.YtcboegodjlfmnaaDoor.Bit Go.Proofs.YtcboegodjlfmnaaDoor.Le Go.Proofs.YtcboegodjlfmnaaDoor.Num Go.Proofs.YtcboegodjlfmnaaDoor.Lst Go.Proofs.YtcboegodjlfmnaaDoor.Aid Go.RowKit Go.Proofs.YtcboegodjlfmnaaDoorW.PrintWords Go.Proofs.YtcboegodjlfmnaaDoorW.PrintLast Go.Proofs.YtcboegodjlfmnaaDoorW.PrintMore
set_option linter.unusedVariables false
set_option linter.unusedSimpArgs false
def headL (long : Bool) (n : Nat) (el : Int) : List Int := if n < 15 ∧ long = false then [(n : Int) * 16 + el] else (240 + el) :: varL n
def fheadL (long : Bool) (last id ty : Int) : List Int := if id - last < 16 ∧ long = false then [(id - last) * 16 + ty] else ty :: varL (zz id)
def bodyB (long : Bool) (d : D) (nl : Nat) (lsB fsB : List Int) : List Int :=
  if d.ty = 3 then [d.n % 256]
  else if d.ty = 4 ∨ d.ty = 5 ∨ d.ty = 6 then varL (zz d.n)
  else if d.ty = 7 then lowL 8 d.bits
  else if d.ty = 8 then varL d.bs.length ++ d.bs
  else if d.ty = 9 ∨ d.ty = 10 then headL long nl d.el ++ lsB
  else if d.ty = 11 then varL (nl / 2) ++ (if nl = 0 then [] else [d.ky * 16 + d.el]) ++ lsB
  else if d.ty = 12 then fsB ++ [0]
  else lsB
def F.byB (long : Bool) : F → Bool → Int → List Int
  | .nil, _, _ => []
  | .cons d id ls fs tl, fld, last => (if fld then fheadL long last id d.ty else []) ++ bodyB long d ls.len (ls.byB long false 0) (fs.byB long true 0) ++ tl.byB long fld id
def N.byB (long : Bool) (x : N) : List Int := bodyB long x.d x.ls.len (x.ls.byB long false 0) (x.fs.byB long true 0)
def okN (dd : Nat) (fld : Bool) (d : D) (ls fs : F) (okl : Nat → Int → Int → Prop) (okf : Nat → Prop) : Prop :=
  (d.ty = 1 ∧ fld = true ∧ d = ⟨1, true, 0, 0, [], 0, 0⟩ ∧ ls = .nil ∧ fs = .nil) ∨
  (d.ty = 2 ∧ fld = true ∧ d = ⟨2, false, 0, 0, [], 0, 0⟩ ∧ ls = .nil ∧ fs = .nil) ∨
  (d.ty = 3 ∧ -128 ≤ d.n ∧ d.n < 128 ∧ d = ⟨3, false, d.n, 0, [], 0, 0⟩ ∧ ls = .nil ∧ fs = .nil) ∨
  (d.ty = 4 ∧ -32768 ≤ d.n ∧ d.n < 32768 ∧ d = ⟨4, false, d.n, 0, [], 0, 0⟩ ∧ ls = .nil ∧ fs = .nil) ∨
  (d.ty = 5 ∧ -2147483648 ≤ d.n ∧ d.n < 2147483648 ∧ d = ⟨5, false, d.n, 0, [], 0, 0⟩ ∧ ls = .nil ∧ fs = .nil) ∨
  (d.ty = 6 ∧ -9223372036854775808 ≤ d.n ∧ d.n < 9223372036854775808 ∧ d = ⟨6, false, d.n, 0, [], 0, 0⟩ ∧ ls = .nil ∧ fs = .nil) ∨
  (d.ty = 7 ∧ d.bits < 18446744073709551616 ∧ d = ⟨7, false, 0, d.bits, [], 0, 0⟩ ∧ ls = .nil ∧ fs = .nil) ∨
  (d.ty = 8 ∧ d.bs.length ≤ 10000 ∧ bytesB d.bs = true ∧ d = ⟨8, false, 0, 0, d.bs, 0, 0⟩ ∧ ls = .nil ∧ fs = .nil) ∨
  ((d.ty = 9 ∨ d.ty = 10) ∧ d = ⟨d.ty, false, 0, 0, [], 0, d.el⟩ ∧ 3 ≤ d.el ∧ d.el ≤ 12 ∧ ls.len ≤ 1000 ∧ fs = .nil ∧ ∃ g, dd = g + 1 ∧ okl g d.el d.el) ∨
  (d.ty = 11 ∧ d = ⟨11, false, 0, 0, [], d.ky, d.el⟩ ∧ ls.len ≤ 1000 ∧ ls.len % 2 = 0 ∧ fs = .nil ∧ (∃ g, dd = g + 1 ∧ okl g d.ky d.el) ∧ (ls.len = 0 → d.ky = 0 ∧ d.el = 0) ∧ (ls.len ≠ 0 → 3 ≤ d.ky ∧ d.ky ≤ 12 ∧ 3 ≤ d.el ∧ d.el ≤ 12)) ∨
  (d.ty = 12 ∧ d = ⟨12, false, 0, 0, [], 0, 0⟩ ∧ fs.len ≤ 100 ∧ ls = .nil ∧ ∃ g, dd = g + 1 ∧ okf g)
def F.ok : F → Nat → Bool → Int → Int → Int → Prop
  | .nil, _, _, _, _, _ => True
  | .cons d id ls fs tl, dd, fld, ev, od, last => (if fld then last < id ∧ id ≤ 32767 else d.ty = ev ∧ id = 0) ∧ okN dd fld d ls fs (fun g ev od => ls.ok g false ev od 0) (fun g => fs.ok g true 0 0 0) ∧ tl.ok dd fld od ev id
def N.ok (x : N) (dd : Nat) (fld : Bool) : Prop := okN dd fld x.d x.ls x.fs (fun g ev od => x.ls.ok g false ev od 0) (fun g => x.fs.ok g true 0 0 0)
theorem bindP_ok {α β : Type} {p : Psr α} {f : α → Psr β} {bs r : List Int} {a : α} (h : p bs = .ok a r) : bindP p f bs = f a r := by
  unfold bindP; rw [h]; rfl
theorem var_varL : ∀ (k : Nat) (f : Bool) (n : Nat) (more : List Int), n < 128 ^ k * 2 → (f = false → 0 < n) → varP (k + 1) f (varL n ++ more) = .ok n more
  | k, f, n, more, hn, hf => by
    unfold varP
    by_cases c : n < 128
    · rw [varL_lo c]
      show (if (k = 0 ∧ (1 : Int) < n) ∨ (f = false ∧ (n : Int) = 0) then opnP else if (n : Int) < 128 then retP (n : Int).toNat else _) more = _
      rw [if_neg ?_, if_pos (by omega)]
      · rfl
      · rintro (⟨rfl, h⟩ | ⟨h1, h2⟩)
        · simp at hn; omega
        · have := hf h1; omega
    · rw [varL_hi c]
      show (if (k = 0 ∧ (1 : Int) < ((n % 128 + 128 : Nat) : Int)) ∨ (f = false ∧ ((n % 128 + 128 : Nat) : Int) = 0) then opnP else if ((n % 128 + 128 : Nat) : Int) < 128 then retP _ else bindP (varP k false) fun x => retP ((((n % 128 + 128 : Nat) : Int) - 128).toNat + 128 * x)) (varL (n / 128) ++ more) = _
      rw [if_neg ?_, if_neg (by omega)]
      · cases k with
        | zero => simp at hn; omega
        | succ k =>
          rw [bindP_ok (var_varL k false (n / 128) more ?_ (fun _ => by omega))]
          · show Res.ok _ _ = Res.ok _ _
            congr 1
            omega
          · have : 128 ^ (k + 1) * 2 = 128 * (128 ^ k * 2) := by rw [Nat.pow_succ]; omega
            omega
      · rintro (⟨rfl, h⟩ | ⟨h1, h2⟩)
        · simp at hn; omega
        · omega
theorem var10 (n : Nat) (more : List Int) (hn : n < 18446744073709551616) : varP 10 true (varL n ++ more) = .ok n more :=
  var_varL 9 true n more (by simpa using hn) (fun h => by cases h)
theorem zig_zz (m x : Int) (more : List Int) (h0 : -m ≤ x) (h1 : x < m) (hm : m ≤ 9223372036854775808) : zigP m (varL (zz x) ++ more) = .ok x more := by
  unfold zigP
  rw [bindP_ok (var10 (zz x) more (zz_lt x (by omega) (by omega))), unzz_zz, if_pos ⟨h0, h1⟩]; rfl
theorem size_var (m n : Nat) (more : List Int) (h : n ≤ m) (hm : m ≤ 1000000) : sizeP m (varL n ++ more) = .ok n more := by
  unfold sizeP
  rw [bindP_ok (var10 n more (by omega)), if_neg (by omega)]; rfl
theorem take_app (l more : List Int) (n : Nat) (h : l.length = n) : takeP n (l ++ more) = .ok l more := by
  unfold takeP
  rw [if_pos (by rw [List.length_append]; omega), List.take_left' h, List.drop_left' h]
theorem s8_byte (n : Int) (h0 : -128 ≤ n) (h1 : n < 128) : s8 (n % 256) = n := by
  unfold s8
  by_cases h : 0 ≤ n
  · rw [if_pos (by omega)]; omega
  · rw [if_neg (by omega)]; omega
theorem lh_head (long : Bool) (n : Nat) (el : Int) (more : List Int) (hn : n ≤ 1000) (h3 : 3 ≤ el) (h12 : el ≤ 12) : lhP (headL long n el ++ more) = .ok (n, el) more := by
  unfold lhP headL
  by_cases c : n < 15 ∧ long = false
  · rw [if_pos c]
    show (if ((n : Int) * 16 + el) % 16 < 3 ∨ 12 < ((n : Int) * 16 + el) % 16 then opnP else if ((n : Int) * 16 + el) / 16 = 15 then _ else retP (((((n : Int) * 16 + el) / 16).toNat, ((n : Int) * 16 + el) % 16) : Nat × Int)) more = _
    rw [if_neg (by omega), if_neg (by omega)]
    show Res.ok _ _ = Res.ok _ _
    rw [show (((n : Int) * 16 + el) / 16).toNat = n by omega, show ((n : Int) * 16 + el) % 16 = el by omega]
  · rw [if_neg c]
    show (if (240 + el) % 16 < 3 ∨ 12 < (240 + el) % 16 then opnP else if (240 + el) / 16 = 15 then bindP (sizeP 1000) fun n => retP (n, (240 + el) % 16) else _) (varL n ++ more) = _
    rw [if_neg (by omega), if_pos (by omega), bindP_ok (size_var 1000 n more hn (by omega))]
    show Res.ok _ _ = Res.ok _ _
    rw [show (240 + el) % 16 = el by omega]
theorem fh_head (long : Bool) (last id ty : Int) (more : List Int) (h0 : 0 ≤ last) (hl : last < id) (hi : id ≤ 32767) (h1 : 1 ≤ ty) (h12 : ty ≤ 12) : fhP last (fheadL long last id ty ++ more) = .ok (id, ty) more := by
  unfold fhP fheadL
  by_cases c : id - last < 16 ∧ long = false
  · rw [if_pos c]
    show (if (id - last) * 16 + ty = 0 then _ else if (id - last) * 16 + ty < 16 then _ else if 32767 < last + ((id - last) * 16 + ty) / 16 then opnP else retP ((last + ((id - last) * 16 + ty) / 16, ((id - last) * 16 + ty) % 16) : Int × Int)) more = _
    rw [if_neg (by omega), if_neg (by omega), if_neg (by omega)]
    show Res.ok _ _ = Res.ok _ _
    rw [show last + ((id - last) * 16 + ty) / 16 = id by omega, show ((id - last) * 16 + ty) % 16 = ty by omega]
  · rw [if_neg c]
    show (if ty = 0 then _ else if ty < 16 then bindP (zigP 32768) fun id => if id ≤ last then opnP else retP (id, ty) else _) (varL (zz id) ++ more) = _
    rw [if_neg (by omega), if_pos (by omega), bindP_ok (zig_zz 32768 id more (by omega) (by omega) (by omega)), if_neg (by omega)]; rfl
theorem eight_low (bits : Nat) (h : bits < 18446744073709551616) : eightN (lowL 8 bits) = bits := by
  have e : lowL 8 (bits : Int) = [(bits : Int) / 256 ^ 0 % 256, (bits : Int) / 256 ^ 1 % 256, (bits : Int) / 256 ^ 2 % 256, (bits : Int) / 256 ^ 3 % 256, (bits : Int) / 256 ^ 4 % 256, (bits : Int) / 256 ^ 5 % 256, (bits : Int) / 256 ^ 6 % 256, (bits : Int) / 256 ^ 7 % 256] := rfl
  unfold eightN
  rw [e]
  simp only [le8L, le4L, le4, rd, List.drop_succ_cons, List.drop_zero, List.getD_eq_getElem?_getD]
  simp
  omega
theorem okN_ty {dd : Nat} {fld : Bool} {d : D} {ls fs : F} {okl : Nat → Int → Int → Prop} {okf : Nat → Prop} (h : okN dd fld d ls fs okl okf) : 1 ≤ d.ty ∧ d.ty ≤ 12 ∧ (fld = false → 3 ≤ d.ty) := by
  rcases h with ⟨h, f, _⟩ | ⟨h, f, _⟩ | ⟨h, _⟩ | ⟨h, _⟩ | ⟨h, _⟩ | ⟨h, _⟩ | ⟨h, _⟩ | ⟨h, _⟩ | ⟨h, _⟩ | ⟨h, _⟩ | ⟨h, _⟩ <;> refine ⟨by omega, by omega, fun hf => ?_⟩ <;> first | omega | (rw [hf] at f; cases f)
theorem th_body (long : Bool) (dd : Nat) (fld : Bool) (d : D) (ls fs : F) (more : List Int) (h : N.ok ⟨d, ls, fs⟩ dd fld) (h3 : 3 ≤ d.ty)
    (hl : ∀ g ev od more, ls.ok g false ev od 0 → listP (thP (g + 1)) ev od ls.len (ls.byB long false 0 ++ more) = .ok ls more)
    (hf : ∀ g more, fs.ok g true 0 0 0 → fs.len ≤ 100 → fieldsP (thP (g + 1)) 100 0 (fs.byB long true 0 ++ [0] ++ more) = .ok fs more) :
    thP (dd + 1) d.ty (N.byB long ⟨d, ls, fs⟩ ++ more) = .ok ⟨d, ls, fs⟩ more := by
  unfold thP N.byB
  dsimp only
  unfold bodyB
  rcases h with ⟨h, _⟩ | ⟨h, _⟩ | ⟨h, b0, b1, hd, hls, hfs⟩ | ⟨h, b0, b1, hd, hls, hfs⟩ | ⟨h, b0, b1, hd, hls, hfs⟩ | ⟨h, b0, b1, hd, hls, hfs⟩ | ⟨h, b1, hd, hls, hfs⟩ | ⟨h, b1, b2, hd, hls, hfs⟩ | ⟨h, hd, e3, e12, hn, hfs, g, rfl, ho⟩ | ⟨h, hd, hn, h2, hfs, ⟨g, rfl, ho⟩, hz, hk⟩ | ⟨h, hd, hn, hls, g, rfl, ho⟩
  · exact absurd h3 (by dsimp only at h; omega)
  · exact absurd h3 (by dsimp only at h; omega)
  · dsimp only at h b0 b1 hd hls hfs
    subst hls hfs
    rw [if_pos h, if_pos h]
    show Res.ok (leaf 3 (s8 (d.n % 256))) more = _
    rw [s8_byte _ b0 b1, hd]; rfl
  · dsimp only at h b0 b1 hd hls hfs
    subst hls hfs
    rw [if_neg (by omega), if_pos h, if_neg (by omega), if_pos (by omega), bindP_ok (zig_zz _ _ _ b0 b1 (by omega)), hd]; rfl
  · dsimp only at h b0 b1 hd hls hfs
    subst hls hfs
    rw [if_neg (by omega), if_neg (by omega), if_pos h, if_neg (by omega), if_pos (by omega), bindP_ok (zig_zz _ _ _ b0 b1 (by omega)), hd]; rfl
  · dsimp only at h b0 b1 hd hls hfs
    subst hls hfs
    rw [if_neg (by omega), if_neg (by omega), if_neg (by omega), if_pos h, if_neg (by omega), if_pos (by omega), bindP_ok (zig_zz _ _ _ b0 b1 (by omega)), hd]; rfl
  · dsimp only at h b1 hd hls hfs
    subst hls hfs
    rw [if_neg (by omega), if_neg (by omega), if_neg (by omega), if_neg (by omega), if_pos h, if_neg (by omega), if_neg (by omega), if_pos h, bindP_ok (take_app _ more 8 (lowL_length ..)), eight_low _ b1, hd]; rfl
  · dsimp only at h b1 b2 hd hls hfs
    subst hls hfs
    rw [if_neg (by omega), if_neg (by omega), if_neg (by omega), if_neg (by omega), if_neg (by omega), if_pos h, if_neg (by omega), if_neg (by omega), if_neg (by omega), if_pos h, List.append_assoc, bindP_ok (size_var 10000 _ _ b1 (by omega)), bindP_ok (take_app _ more _ rfl), hd]; rfl
  · dsimp only at h hd e3 e12 hn hfs ho
    subst hfs
    rw [if_neg (by omega), if_neg (by omega), if_neg (by omega), if_neg (by omega), if_neg (by omega), if_neg (by omega), if_pos h, if_neg (by omega), if_neg (by omega), if_neg (by omega), if_neg (by omega), if_pos h, List.append_assoc, bindP_ok (lh_head long _ _ _ hn e3 e12), bindP_ok (hl g _ _ more ho)]
    rw [hd]; rfl
  · dsimp only at h hd hn h2 hfs ho hz hk
    subst hfs
    rw [if_neg (by omega), if_neg (by omega), if_neg (by omega), if_neg (by omega), if_neg (by omega), if_neg (by omega), if_neg (by omega), if_pos h, if_neg (by omega), if_neg (by omega), if_neg (by omega), if_neg (by omega), if_neg (by omega), if_pos h]
    by_cases c : ls.len = 0
    · rw [if_pos c, List.append_nil, c]
      have hlg := hl g d.ky d.el more ho
      rw [c] at hlg
      have hm : mhP (varL (0 / 2) ++ (ls.byB long false 0 ++ more)) = .ok (0, 0, 0) (ls.byB long false 0 ++ more) := by
        unfold mhP
        rw [bindP_ok (size_var 500 (0 / 2) _ (by omega) (by omega)), if_pos (by omega)]; rfl
      obtain ⟨k0, e0⟩ := hz c
      rw [k0, e0] at hlg
      rw [List.append_assoc, bindP_ok hm]
      dsimp only
      rw [show 2 * 0 = 0 from rfl, bindP_ok hlg, hd, k0, e0]; rfl
    · rw [if_neg c]
      obtain ⟨k3, k12, e3, e12⟩ := hk c
      have hlg := hl g d.ky d.el more ho
      have hm : mhP (varL (ls.len / 2) ++ ([d.ky * 16 + d.el] ++ (ls.byB long false 0 ++ more))) = .ok (ls.len / 2, d.ky, d.el) (ls.byB long false 0 ++ more) := by
        unfold mhP
        rw [bindP_ok (size_var 500 (ls.len / 2) _ (by omega) (by omega)), if_neg (by omega)]
        show (if (d.ky * 16 + d.el) / 16 < 3 ∨ 12 < (d.ky * 16 + d.el) / 16 ∨ (d.ky * 16 + d.el) % 16 < 3 ∨ 12 < (d.ky * 16 + d.el) % 16 then opnP else retP ((ls.len / 2, (d.ky * 16 + d.el) / 16, (d.ky * 16 + d.el) % 16) : Nat × Int × Int)) (ls.byB long false 0 ++ more) = _
        rw [if_neg (by omega)]
        show Res.ok _ _ = Res.ok _ _
        rw [show (d.ky * 16 + d.el) / 16 = d.ky by omega, show (d.ky * 16 + d.el) % 16 = d.el by omega]
      rw [List.append_assoc, List.append_assoc, bindP_ok hm]
      dsimp only
      rw [show 2 * (ls.len / 2) = ls.len by omega, bindP_ok hlg, hd]; rfl
  · dsimp only at h hd hn hls ho
    subst hls
    rw [if_neg (by omega), if_neg (by omega), if_neg (by omega), if_neg (by omega), if_neg (by omega), if_neg (by omega), if_neg (by omega), if_neg (by omega), if_pos h, if_neg (by omega), if_neg (by omega), if_neg (by omega), if_neg (by omega), if_neg (by omega), if_neg (by omega), if_pos h, bindP_ok (hf g more ho hn), hd]; rfl
theorem forest_reads (long : Bool) : ∀ (X : F),
    (∀ g ev od more, X.ok g false ev od 0 → listP (thP (g + 1)) ev od X.len (X.byB long false 0 ++ more) = .ok X more) ∧
    (∀ g last room more, 0 ≤ last → X.ok g true 0 0 last → X.len ≤ room → fieldsP (thP (g + 1)) room last (X.byB long true last ++ [0] ++ more) = .ok X more)
  | .nil => by
    refine ⟨fun g ev od more h => rfl, fun g last room more h0 h hr => ?_⟩
    have hf : fhP last (0 :: more) = .ok (0, 0) more := rfl
    cases room <;> (unfold fieldsP; rw [show F.byB long .nil true last ++ [0] ++ more = 0 :: more from rfl, bindP_ok hf]; rfl)
  | .cons d id ls fs tl => by
    have il := forest_reads long ls
    have iF := forest_reads long fs
    have it := forest_reads long tl
    have hb : ∀ (dd : Nat) (fld : Bool) (more : List Int), N.ok ⟨d, ls, fs⟩ dd fld → 3 ≤ d.ty → thP (dd + 1) d.ty (N.byB long ⟨d, ls, fs⟩ ++ more) = .ok ⟨d, ls, fs⟩ more :=
      fun dd fld more h h3 => th_body long dd fld d ls fs more h h3 il.1 (fun g more ho hn => iF.2 g 0 100 more (by omega) ho hn)
    refine ⟨fun g ev od more h => ?_, fun g last room more h0 h hr => ?_⟩
    · obtain ⟨h1, h2, h3⟩ := h
      rw [if_neg (by simp)] at h1
      obtain ⟨ht, rfl⟩ := h1
      show listP (thP (g + 1)) ev od (tl.len + 1) ([] ++ N.byB long ⟨d, ls, fs⟩ ++ F.byB long tl false 0 ++ more) = _
      unfold listP
      rw [List.nil_append, List.append_assoc, ← ht, bindP_ok (hb g false _ h2 ((okN_ty h2).2.2 rfl)), ht, bindP_ok (it.1 g od ev more h3)]; rfl
    · obtain ⟨h1, h2, h3⟩ := h
      rw [if_pos rfl] at h1
      obtain ⟨ht1, ht12, _⟩ := okN_ty h2
      cases room with
      | zero => exact absurd hr (by show ¬ (tl.len + 1 ≤ 0); omega)
      | succ room =>
        have hr' : tl.len ≤ room := by have : tl.len + 1 ≤ room + 1 := hr; omega
        show fieldsP (thP (g + 1)) (room + 1) last (fheadL long last id d.ty ++ N.byB long ⟨d, ls, fs⟩ ++ F.byB long tl true id ++ [0] ++ more) = _
        unfold fieldsP
        rw [List.append_assoc, List.append_assoc, List.append_assoc, bindP_ok (fh_head long last id d.ty _ h0 h1.1 h1.2 ht1 ht12)]
        dsimp only
        rw [if_neg (by omega)]
        have hv : fvP (thP (g + 1)) d.ty (N.byB long ⟨d, ls, fs⟩ ++ (F.byB long tl true id ++ ([0] ++ more))) = .ok ⟨d, ls, fs⟩ (F.byB long tl true id ++ ([0] ++ more)) := by
          unfold fvP
          by_cases c : d.ty = 1 ∨ d.ty = 2
          · rw [if_pos c]
            rcases h2 with ⟨h, _, hd, hls, hfs⟩ | ⟨h, _, hd, hls, hfs⟩ | ⟨h, _⟩ | ⟨h, _⟩ | ⟨h, _⟩ | ⟨h, _⟩ | ⟨h, _⟩ | ⟨h, _⟩ | ⟨h, _⟩ | ⟨h, _⟩ | ⟨h, _⟩
            · subst hls hfs; rw [hd]; rfl
            · subst hls hfs; rw [hd]; rfl
            all_goals (exfalso; omega)
          · rw [if_neg c, if_neg (by omega)]
            exact hb g true _ h2 (by omega)
        rw [bindP_ok hv]
        dsimp only
        have := it.2 g id room more (by omega) h3 hr'
        rw [List.append_assoc] at this
        rw [bindP_ok this]; rfl
theorem th_reads (long : Bool) (x : N) (dd : Nat) (fld : Bool) (more : List Int) (h : x.ok dd fld) (h3 : 3 ≤ x.d.ty) : thP (dd + 1) x.d.ty (x.byB long ++ more) = .ok x more := by
  obtain ⟨d, ls, fs⟩ := x
  exact th_body long dd fld d ls fs more h h3 (forest_reads long ls).1 (fun g more ho hn => (forest_reads long fs).2 g 0 100 more (by omega) ho hn)
theorem th_breaks (long : Bool) (x : N) (dd : Nat) (fld : Bool) (pre post : List Int) (h : x.ok dd fld) (h3 : 3 ≤ x.d.ty) (hp : x.byB long = pre ++ post) (hq : post ≠ []) : thP (dd + 1) x.d.ty pre = .cut := by
  have h1 := th_reads long x dd fld [] h h3
  obtain ⟨y, e, h2, h4⟩ := good_th _ _ _ _ _ h1
  rw [List.append_nil, List.append_nil] at e
  exact h4 pre post (by rw [← e, hp]) hq
end Go.Proofs.YtcboegodjlfmnaaDoor.Tpa

namespace Go.Proofs.YtcboegodjlfmnaaDoor.Tpa
set_option linter.unusedVariables false
set_option linter.unusedSimpArgs false
def Res.mapR {α β : Type} (f : α → β) : Res α → Res β
  | .ok a r => .ok (f a) r
  | .cut => .cut
  | .opn => .opn
theorem bind_ret {α β : Type} (q : Psr α) (f : α → β) (bs : List Int) : bindP q (fun a => retP (f a)) bs = (q bs).mapR f := by
  unfold bindP; cases q bs <;> rfl
theorem mapR_not {α β : Type} {f : α → β} {x : Res α} (h : x.mapR f ≠ .opn) : x ≠ .opn := by rintro rfl; exact h rfl
theorem mapR_nil (x : Res F) : x.mapR F.nil.app = x := by cases x <;> rfl
theorem bind_opn {α β : Type} {p : Psr α} {f : α → Psr β} {bs : List Int} (h : bindP p f bs ≠ .opn) : (p bs = .cut ∧ bindP p f bs = .cut) ∨ ∃ a r, p bs = .ok a r ∧ bindP p f bs = f a r := by
  unfold bindP at h ⊢
  cases hc : p bs with
  | cut => exact .inl ⟨rfl, rfl⟩
  | opn => rw [hc] at h; exact absurd rfl h
  | ok a r1 => exact .inr ⟨a, r1, rfl, rfl⟩
theorem list_cases {p : Int → Psr N} {ev od : Int} {m : Nat} {bs : List Int} (h : listP p ev od (m + 1) bs ≠ .opn) :
    (p ev bs = .cut ∧ listP p ev od (m + 1) bs = .cut) ∨ ∃ x r, p ev bs = .ok x r ∧ listP p od ev m r ≠ .opn ∧ ∀ D : F, (listP p ev od (m + 1) bs).mapR D.app = (listP p od ev m r).mapR (D.snoc x.d 0 x.ls x.fs).app := by
  rcases bind_opn h with h1 | ⟨x, r, h1, h2⟩
  · exact .inl h1
  · have e : listP p ev od (m + 1) bs = (listP p od ev m r).mapR fun tl => .cons x.d 0 x.ls x.fs tl := h2.trans (bind_ret _ _ _)
    refine .inr ⟨x, r, h1, ?_, fun D => ?_⟩
    · rw [e] at h; exact mapR_not h
    · rw [e]
      cases listP p od ev m r with
      | ok a r => show Res.ok (D.app (.cons x.d 0 x.ls x.fs a)) r = .ok _ r; rw [F.app_snoc]
      | cut => rfl
      | opn => rfl
theorem fields_cases {p : Int → Psr N} {m : Nat} {last : Int} {bs : List Int} (h : fieldsP p m last bs ≠ .opn) :
    (fhP last bs = .cut ∧ fieldsP p m last bs = .cut) ∨ (∃ ty r, fhP last bs = .ok (0, ty) r ∧ fieldsP p m last bs = .ok .nil r) ∨
    ∃ m' id ty r, m = m' + 1 ∧ id ≠ 0 ∧ fhP last bs = .ok (id, ty) r ∧ ((fvP p ty r = .cut ∧ fieldsP p m last bs = .cut) ∨ ∃ x r', fvP p ty r = .ok x r' ∧ fieldsP p m' id r' ≠ .opn ∧ ∀ D : F, (fieldsP p m last bs).mapR D.app = (fieldsP p m' id r').mapR (D.snoc x.d id x.ls x.fs).app) := by
  cases m with
  | zero =>
    rcases bind_opn h with h1 | ⟨⟨id, ty⟩, r, h1, h2⟩
    · exact .inl h1
    · by_cases c : id = 0
      · subst c
        rw [if_pos rfl] at h2
        exact .inr (.inl ⟨ty, r, h1, h2⟩)
      · rw [if_neg c] at h2
        exact absurd h2 h
  | succ m =>
    rcases bind_opn h with h1 | ⟨⟨id, ty⟩, r, h1, h2⟩
    · exact .inl h1
    · by_cases c : id = 0
      · subst c
        rw [if_pos rfl] at h2
        exact .inr (.inl ⟨ty, r, h1, h2⟩)
      · rw [if_neg c] at h2
        refine .inr (.inr ⟨m, id, ty, r, rfl, c, h1, ?_⟩)
        have h2' : fieldsP p (m + 1) last bs = bindP (fvP p ty) (fun x => bindP (fieldsP p m id) fun tl => retP (.cons x.d id x.ls x.fs tl)) r := h2
        rw [h2'] at h
        rcases bind_opn h with h3 | ⟨x, r', h3, h4⟩
        · exact .inl ⟨h3.1, h2'.trans h3.2⟩
        · have e : fieldsP p (m + 1) last bs = (fieldsP p m id r').mapR fun tl => .cons x.d id x.ls x.fs tl := (h2'.trans h4).trans (bind_ret _ _ _)
          refine .inr ⟨x, r', h3, ?_, fun D => ?_⟩
          · rw [h2'.symm, e] at h; exact mapR_not h
          · rw [e]
            cases fieldsP p m id r' with
            | ok a r => show Res.ok (D.app (.cons x.d id x.ls x.fs a)) r = .ok _ r; rw [F.app_snoc]
            | cut => rfl
            | opn => rfl
theorem th_list {k : Nat} {ty : Int} (h : ty = 9 ∨ ty = 10) (bs : List Int) : thP (k + 1) ty bs = bindP lhP (fun h => bindP (listP (thP k) h.2 h.2 h.1) fun ls => retP ⟨⟨ty, false, 0, 0, [], 0, h.2⟩, ls, .nil⟩) bs := by
  unfold thP
  rw [if_neg (by omega), if_neg (by omega), if_neg (by omega), if_neg (by omega), if_neg (by omega), if_neg (by omega), if_pos h]
theorem th_map {k : Nat} (bs : List Int) : thP (k + 1) 11 bs = bindP mhP (fun h => bindP (listP (thP k) h.2.1 h.2.2 (2 * h.1)) fun ls => retP ⟨⟨11, false, 0, 0, [], h.2.1, h.2.2⟩, ls, .nil⟩) bs := by
  unfold thP
  rw [if_neg (by omega), if_neg (by omega), if_neg (by omega), if_neg (by omega), if_neg (by omega), if_neg (by omega), if_neg (by omega), if_pos rfl]
theorem th_struct {k : Nat} (bs : List Int) : thP (k + 1) 12 bs = bindP (fieldsP (thP k) 100 0) (fun fs => retP ⟨⟨12, false, 0, 0, [], 0, 0⟩, .nil, fs⟩) bs := by
  unfold thP
  rw [if_neg (by omega), if_neg (by omega), if_neg (by omega), if_neg (by omega), if_neg (by omega), if_neg (by omega), if_neg (by omega), if_neg (by omega), if_pos rfl]
theorem list_top {k : Nat} {ty : Int} (h : ty = 9 ∨ ty = 10) {bs : List Int} (hn : thP (k + 1) ty bs ≠ .opn) :
    (lhP bs = .cut ∧ thP (k + 1) ty bs = .cut) ∨ ∃ m el r, lhP bs = .ok (m, el) r ∧ listP (thP k) el el m r ≠ .opn ∧ thP (k + 1) ty bs = (listP (thP k) el el m r).mapR fun ls => ⟨⟨ty, false, 0, 0, [], 0, el⟩, ls, .nil⟩ := by
  rw [th_list h] at hn ⊢
  rcases bind_opn hn with h1 | ⟨⟨m, el⟩, r, h1, h2⟩
  · exact .inl h1
  · have e : bindP (listP (thP k) el el m) (fun ls => retP (⟨⟨ty, false, 0, 0, [], 0, el⟩, ls, .nil⟩ : N)) r = _ := bind_ret _ _ _
    refine .inr ⟨m, el, r, h1, ?_, h2.trans e⟩
    rw [h2] at hn
    exact mapR_not (e ▸ hn)
theorem map_top {k : Nat} {bs : List Int} (hn : thP (k + 1) 11 bs ≠ .opn) :
    (mhP bs = .cut ∧ thP (k + 1) 11 bs = .cut) ∨ ∃ m ky el r, mhP bs = .ok (m, ky, el) r ∧ listP (thP k) ky el (2 * m) r ≠ .opn ∧ thP (k + 1) 11 bs = (listP (thP k) ky el (2 * m) r).mapR fun ls => ⟨⟨11, false, 0, 0, [], ky, el⟩, ls, .nil⟩ := by
  rw [th_map] at hn ⊢
  rcases bind_opn hn with h1 | ⟨⟨m, ky, el⟩, r, h1, h2⟩
  · exact .inl h1
  · have e : bindP (listP (thP k) ky el (2 * m)) (fun ls => retP (⟨⟨11, false, 0, 0, [], ky, el⟩, ls, .nil⟩ : N)) r = _ := bind_ret _ _ _
    refine .inr ⟨m, ky, el, r, h1, ?_, h2.trans e⟩
    rw [h2] at hn
    exact mapR_not (e ▸ hn)
theorem struct_top {k : Nat} {bs : List Int} (hn : thP (k + 1) 12 bs ≠ .opn) :
    fieldsP (thP k) 100 0 bs ≠ .opn ∧ thP (k + 1) 12 bs = (fieldsP (thP k) 100 0 bs).mapR fun fs => ⟨⟨12, false, 0, 0, [], 0, 0⟩, .nil, fs⟩ := by
  rw [th_struct] at hn ⊢
  rw [bind_ret] at hn ⊢
  exact ⟨mapR_not hn, rfl⟩
end Go.Proofs.YtcboegodjlfmnaaDoor.Tpa

namespace Go.Proofs.YtcboegodjlfmnaaDoor.Tpa
set_option linter.unusedVariables false
set_option linter.unusedSimpArgs false
def Fate {α : Type} (p : Psr α) (bs : List Int) (o s : Nat) : Res α := if s = 0 then p (bs.drop o) else if s = 1 then .cut else .opn
theorem fate_dead {α : Type} (p q : Psr α) (bs : List Int) (o o' s : Nat) (h : s ≠ 0) : Fate p bs o s = Fate q bs o' s := by
  unfold Fate; rw [if_neg h, if_neg h]
theorem bindP_assoc {α β γ : Type} (p : Psr α) (f : α → Psr β) (h : β → Psr γ) : bindP (bindP p f) h = bindP p fun a => bindP (f a) h := by
  funext bs
  unfold bindP
  cases p bs <;> rfl
structure Does {α : Type} (p : Psr α) (bs : List Int) (o s : Nat) (v : α) (o' s' : Nat) : Prop where
  mk :: (out : ∀ (β : Type) (f : α → Psr β), Fate (bindP p f) bs o s = Fate (f v) bs o' s') (up : s ≠ 0 → s' = s)
structure Runs {α γ : Type} (P : Psr α) (bs : List Int) (o0 s0 : Nat) (Q : Psr γ) (h : γ → α) (o s : Nat) : Prop where
  mk :: (out : ∀ (β : Type) (f : α → Psr β), Fate (bindP P f) bs o0 s0 = Fate (bindP Q fun x => f (h x)) bs o s) (up : s0 ≠ 0 → s = s0)
theorem Runs.does {α γ δ : Type} {P : Psr α} {bs : List Int} {o0 s0 : Nat} {p : Psr δ} {q : δ → Psr γ} {h : γ → α} {o s o' s' : Nat} {v : δ} (r : Runs P bs o0 s0 (bindP p q) h o s) (d : Does p bs o s v o' s') : Runs P bs o0 s0 (q v) h o' s' :=
  ⟨fun β f => by rw [r.out β f, bindP_assoc, d.out], fun hs => by have h1 := r.up hs; have h2 := d.up (by rw [h1]; exact hs); rw [h2, h1]⟩
theorem Runs.map {α γ δ : Type} {P : Psr α} {bs : List Int} {o0 s0 : Nat} {Q : Psr δ} {k : δ → γ} {h : γ → α} {o s : Nat} (r : Runs P bs o0 s0 (bindP Q fun x => retP (k x)) h o s) : Runs P bs o0 s0 Q (fun x => h (k x)) o s :=
  ⟨fun β f => by rw [r.out β f, bindP_assoc]; rfl, r.up⟩
theorem Runs.ret {α γ : Type} {P : Psr α} {bs : List Int} {o0 s0 : Nat} {a : γ} {h : γ → α} {o s : Nat} (r : Runs P bs o0 s0 (retP a) h o s) : Does P bs o0 s0 (h a) o s := ⟨fun β f => r.out β f, r.up⟩
theorem Runs.opn {α γ δ : Type} {P : Psr α} {bs : List Int} {o0 s0 : Nat} {h : γ → α} {o s : Nat} (r : Runs P bs o0 s0 opnP h o s) (Q' : Psr δ) (h' : δ → α) (o' s' : Nat) (h0 : s = 0 → s' = 2) (h1 : s ≠ 0 → s' = s) : Runs P bs o0 s0 Q' h' o' s' := by
  refine ⟨fun β f => ?_, fun hs => by have h2 := r.up hs; rw [h1 (by rw [h2]; exact hs), h2]⟩
  rw [r.out β f]
  by_cases c : s = 0
  · rw [h0 c, c]; rfl
  · rw [h1 c]; exact fate_dead _ _ _ _ _ _ c
theorem Does.ret {α : Type} (v : α) (bs : List Int) (o s : Nat) : Does (retP v) bs o s v o s := ⟨fun β f => rfl, fun _ => rfl⟩
theorem Runs.elem {α : Type} {P : Psr α} {bs : List Int} {o0 s0 o s : Nat} {p : Int → Psr N} {ev od : Int} {m : Nat} {h : F → α} {D : F} {x : N} {o' s' : Nat} (r : Runs P bs o0 s0 (listP p ev od (m + 1)) (fun tl => h (D.app tl)) o s) (d : Does (p ev) bs o s x o' s') : Runs P bs o0 s0 (listP p od ev m) (fun tl => h ((D.snoc x.d 0 x.ls x.fs).app tl)) o' s' := by
  have r2 : Runs P bs o0 s0 (bindP (p ev) fun x => bindP (listP p od ev m) fun tl => retP (.cons x.d 0 x.ls x.fs tl)) (fun tl => h (D.app tl)) o s := r
  have r3 := (r2.does d).map
  refine ⟨fun β f => ?_, r3.up⟩
  rw [r3.out β f]
  congr 2
  funext tl
  rw [F.app_snoc]
theorem Runs.field {α : Type} {P : Psr α} {bs : List Int} {o0 s0 o s : Nat} {p : Int → Psr N} {id : Int} {q : Psr N} {m : Nat} {h : F → α} {D : F} {x : N} {o' s' : Nat} (r : Runs P bs o0 s0 (bindP q fun x => bindP (fieldsP p m id) fun tl => retP (.cons x.d id x.ls x.fs tl)) (fun tl => h (D.app tl)) o s) (d : Does q bs o s x o' s') : Runs P bs o0 s0 (fieldsP p m id) (fun tl => h ((D.snoc x.d id x.ls x.fs).app tl)) o' s' := by
  have r3 := (r.does d).map
  refine ⟨fun β f => ?_, r3.up⟩
  rw [r3.out β f]
  congr 2
  funext tl
  rw [F.app_snoc]
end Go.Proofs.YtcboegodjlfmnaaDoor.Tpa
