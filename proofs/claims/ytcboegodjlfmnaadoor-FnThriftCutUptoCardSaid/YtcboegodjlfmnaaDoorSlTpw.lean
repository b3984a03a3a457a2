import Derived.Test.YtcboegodjlfmnaaDoorSlTpv
import Derived.Test.YtcboegodjlfmnaaDoorSlMtg
namespace Go.Proofs.YtcboegodjlfmnaaDoor.Tpw
open Go.Proofs.YtcboegodjlfmnaaDoor.Tap Go.Proofs.YtcboegodjlfmnaaDoor.Tzm Go.Proofs.YtcboegodjlfmnaaDoor.Tzl Go.Proofs.YtcboegodjlfmnaaDoor.Trh Go.Proofs.YtcboegodjlfmnaaDoor.Trn Go.Proofs.YtcboegodjlfmnaaDoor.Trm Go.Proofs.YtcboegodjlfmnaaDoor.Tuv Go.Proofs.YtcboegodjlfmnaaDoor.Tpa Go.Proofs.YtcboegodjlfmnaaDoor.Duv Go.Proofs.YtcboegodjlfmnaaDoor.Dpu Go.Proofs.YtcboegodjlfmnaaDoor.Pak Go.Proofs.YtcboegodjlfmnaaDoor.Buf Go.Proofs.YtcboegodjlfmnaaDoor.Fit Go.Proofs.YtcboegodjlfmnaaDoor.Bit Go.Proofs.YtcboegodjlfmnaaDoor.Wrd Go.Proofs.YtcboegodjlfmnaaDoor.Spl Go.Proofs.YtcboegodjlfmnaaDoor.Str Go.Proofs.YtcboegodjlfmnaaDoor.Flt Go.Proofs.YtcboegodjlfmnaaDoor.Owe Go.Proofs.YtcboegodjlfmnaaDoor.Num Go.Proofs.YtcboegodjlfmnaaDoor.Le Go.Proofs.YtcboegodjlfmnaaDoor.Lst Go.Proofs.YtcboegodjlfmnaaDoor.Aid Go.RowKit Go.Proofs.YtcboegodjlfmnaaDoorW.PrintWords Go.Proofs.YtcboegodjlfmnaaDoorW.PrintLast Go.Proofs.YtcboegodjlfmnaaDoorW.PrintMore Go.Proofs.YtcboegodjlfmnaaDoor.Tpv Go.Proofs.YtcboegodjlfmnaaDoor.Tzz
set_option linter.unusedVariables false
set_option linter.unusedSimpArgs false
theorem pv_all (x : N) : Pv x := plain_calls x (F.induct plain_calls x.ls) (F.induct plain_calls x.fs)
theorem zig_bd {m : Int} {bs r : List Int} {n : Int} (h : zigP m bs = .ok n r) : -m ≤ n ∧ n < m := by
  obtain ⟨a, r1, h1, h2⟩ := bind_ok h
  by_cases c : -m ≤ unzz a ∧ unzz a < m
  · rw [if_pos c] at h2
    injection h2 with h3 h4
    subst h3
    exact c
  · rw [if_neg c] at h2; cases h2
theorem size_bd {m : Nat} {bs r : List Int} {n : Nat} (h : sizeP m bs = .ok n r) : n ≤ m := by
  obtain ⟨a, r1, h1, h2⟩ := bind_ok h
  by_cases c : m < a
  · rw [if_pos c] at h2; cases h2
  · rw [if_neg c] at h2
    injection h2 with h3 h4
    subst h3
    omega
theorem byte_bd {bs r : List Int} {b : Int} (h : byteP bs = .ok b r) (hb : bytesB bs = true) : 0 ≤ b ∧ b < 256 := by
  cases bs with
  | nil => cases h
  | cons a l =>
    injection h with h1 h2
    subst h1
    have := bytesB_mem hb a (List.mem_cons_self ..)
    exact this
theorem rest_B {α : Type} {p : Psr α} (hp : Tpa.Good p) {bs r : List Int} {v : α} (h : p bs = .ok v r) (hb : bytesB bs = true) : bytesB r = true := by
  obtain ⟨m, _, rfl, _⟩ := good_suffix hp h
  exact bytesB_drop hb m
theorem leaf_wf (ty n : Int) (h : 3 ≤ ty ∧ ty ≤ 12) : NWf (leaf ty n) :=
  ⟨by show -128 ≤ ty ∧ ty < 128 ∧ (-128 : Int) ≤ 0 ∧ (0 : Int) < 128 ∧ (-128 : Int) ≤ 0 ∧ (0 : Int) < 128 ∧ 0 < 18446744073709551616 ∧ 0 ≤ 10000; omega, Nat.zero_le _, Nat.zero_le _, trivial, trivial⟩
theorem list_wf {p : Int → Psr N} (hp : ∀ t bs x r, p t bs = .ok x r → bytesB bs = true → NWf x) (hg : ∀ t, Tpa.Good (p t)) : ∀ (m : Nat) (ev od : Int) (bs : List Int) (X : F) (r : List Int), listP p ev od m bs = .ok X r → bytesB bs = true → F.wf X ∧ X.len = m
  | 0, ev, od, bs, X, r, h, hb => by
    injection h with h1 h2
    subst h1
    exact ⟨trivial, rfl⟩
  | m + 1, ev, od, bs, X, r, h, hb => by
    obtain ⟨x, r1, h1, h2⟩ := bind_ok h
    obtain ⟨tl, r2, h3, h4⟩ := bind_ok h2
    injection h4 with h5 h6
    subst h5
    have hx := hp _ _ _ _ h1 hb
    obtain ⟨i1, i2⟩ := list_wf hp hg m od ev r1 tl r2 h3 (rest_B (hg _) h1 hb)
    exact ⟨⟨hx.d, by omega, by omega, hx.nl, hx.nf, hx.ls, hx.fs, i1⟩, by show tl.len + 1 = m + 1; rw [i2]⟩
theorem fh_bd {last : Int} {bs r : List Int} {id ty : Int} (h : fhP last bs = .ok (id, ty) r) (hb : bytesB bs = true) (hl : 0 ≤ last) : id ≠ 0 → last < id ∧ id ≤ 32767 := by
  intro hn
  obtain ⟨b, r1, h1, h2⟩ := bind_ok h
  have hbb := byte_bd h1 hb
  by_cases c0 : b = 0
  · rw [if_pos c0] at h2
    injection h2 with h3 h4
    injection h3 with h5 h6
    exact absurd h5.symm hn
  · rw [if_neg c0] at h2
    by_cases c1 : b < 16
    · rw [if_pos c1] at h2
      obtain ⟨i, r3, h3, h4⟩ := bind_ok h2
      have := zig_bd h3
      by_cases c2 : i ≤ last
      · rw [if_pos c2] at h4; cases h4
      · rw [if_neg c2] at h4
        injection h4 with h5 h6
        injection h5 with h7 h8
        omega
    · rw [if_neg c1] at h2
      by_cases c2 : 32767 < last + b / 16
      · rw [if_pos c2] at h2; cases h2
      · rw [if_neg c2] at h2
        injection h2 with h5 h6
        injection h5 with h7 h8
        omega
theorem fv_wf {p : Int → Psr N} (hp : ∀ t bs x r, p t bs = .ok x r → bytesB bs = true → NWf x) (ty : Int) (bs : List Int) (x : N) (r : List Int) (h : fvP p ty bs = .ok x r) (hb : bytesB bs = true) : NWf x := by
  unfold fvP at h
  by_cases c : ty = 1 ∨ ty = 2
  · rw [if_pos c] at h
    injection h with h1 h2
    subst h1
    exact ⟨by show -128 ≤ ty ∧ ty < 128 ∧ (-128 : Int) ≤ 0 ∧ (0 : Int) < 128 ∧ (-128 : Int) ≤ 0 ∧ (0 : Int) < 128 ∧ 0 < 18446744073709551616 ∧ 0 ≤ 10000; omega, Nat.zero_le _, Nat.zero_le _, trivial, trivial⟩
  · rw [if_neg c] at h
    by_cases c2 : ty < 3 ∨ 12 < ty
    · rw [if_pos c2] at h; cases h
    · rw [if_neg c2] at h
      exact hp _ _ _ _ h hb
theorem fields_wf {p : Int → Psr N} (hp : ∀ t bs x r, p t bs = .ok x r → bytesB bs = true → NWf x) (hg : ∀ t, Tpa.Good (p t)) : ∀ (m : Nat) (last : Int) (bs : List Int) (X : F) (r : List Int), 0 ≤ last → fieldsP p m last bs = .ok X r → bytesB bs = true → F.wf X ∧ X.len ≤ m
  | 0, last, bs, X, r, hl, h, hb => by
    obtain ⟨hd, r1, h1, h2⟩ := bind_ok h
    by_cases c : hd.1 = 0
    · rw [if_pos c] at h2
      injection h2 with h3 h4
      subst h3
      exact ⟨trivial, Nat.le_refl _⟩
    · rw [if_neg c] at h2; cases h2
  | m + 1, last, bs, X, r, hl, h, hb => by
    obtain ⟨⟨id, ty⟩, r1, h1, h2⟩ := bind_ok h
    by_cases c : id = 0
    · rw [if_pos c] at h2
      injection h2 with h3 h4
      subst h3
      exact ⟨trivial, Nat.zero_le _⟩
    · rw [if_neg c] at h2
      obtain ⟨x, r2, h3, h4⟩ := bind_ok h2
      obtain ⟨tl, r3, h5, h6⟩ := bind_ok h4
      injection h6 with h7 h8
      subst h7
      have hid := fh_bd h1 hb hl c
      have hb1 := rest_B (good_fh last) h1 hb
      have hx := fv_wf hp _ _ _ _ h3 hb1
      obtain ⟨i1, i2⟩ := fields_wf hp hg m id r2 tl r3 (by omega) h5 (rest_B (good_fv hg _) h3 hb1)
      exact ⟨⟨hx.d, by show -32768 ≤ id; omega, by show id < 32768; omega, hx.nl, hx.nf, hx.ls, hx.fs, i1⟩, by show tl.len + 1 ≤ m + 1; omega⟩
theorem lh_bd {bs r : List Int} {n : Nat} {el : Int} (h : lhP bs = .ok (n, el) r) (hb : bytesB bs = true) : n ≤ 1000 ∧ 3 ≤ el ∧ el ≤ 12 := by
  obtain ⟨b, r1, h1, h2⟩ := bind_ok h
  have hbb := byte_bd h1 hb
  by_cases c : b % 16 < 3 ∨ 12 < b % 16
  · rw [if_pos c] at h2; cases h2
  · rw [if_neg c] at h2
    by_cases c2 : b / 16 = 15
    · rw [if_pos c2] at h2
      obtain ⟨m, r3, h3, h4⟩ := bind_ok h2
      have := size_bd h3
      injection h4 with h5 h6
      injection h5 with h7 h8
      omega
    · rw [if_neg c2] at h2
      injection h2 with h5 h6
      injection h5 with h7 h8
      omega
theorem mh_bd {bs r : List Int} {n : Nat} {ky el : Int} (h : mhP bs = .ok (n, ky, el) r) : n ≤ 500 ∧ 0 ≤ ky ∧ ky ≤ 12 ∧ 0 ≤ el ∧ el ≤ 12 := by
  obtain ⟨m, r1, h1, h2⟩ := bind_ok h
  have hm := size_bd h1
  by_cases c : m = 0
  · rw [if_pos c] at h2
    injection h2 with h5 h6
    injection h5 with h7 h8
    injection h8 with h9 h10
    omega
  · rw [if_neg c] at h2
    obtain ⟨b, r3, h3, h4⟩ := bind_ok h2
    by_cases c2 : b / 16 < 3 ∨ 12 < b / 16 ∨ b % 16 < 3 ∨ 12 < b % 16
    · rw [if_pos c2] at h4; cases h4
    · rw [if_neg c2] at h4
      injection h4 with h5 h6
      injection h5 with h7 h8
      injection h8 with h9 h10
      omega
theorem take_ok {n : Nat} {bs r l : List Int} (h : takeP n bs = .ok l r) : l = bs.take n ∧ l.length = n := by
  unfold takeP at h
  by_cases c : n ≤ bs.length
  · rw [if_pos c] at h
    injection h with h1 h2
    subst h1
    exact ⟨rfl, by rw [List.length_take]; omega⟩
  · rw [if_neg c] at h; cases h
theorem eight_bd {bs : List Int} (hb : bytesB bs = true) (hl : bs.length = 8) : eightN bs < 18446744073709551616 := by
  have h1 := le4L_bd hb (by omega)
  have h2 := le4L_bd (bytesB_drop hb 4) (by rw [List.length_drop]; omega)
  unfold eightN le8L
  omega
theorem th_wf : ∀ (k : Nat) (ty : Int) (bs : List Int) (x : N) (r : List Int), thP k ty bs = .ok x r → bytesB bs = true → NWf x
  | 0, ty, bs, x, r, h, hb => by cases h
  | k + 1, ty, bs, x, r, h, hb => by
    have ih := th_wf k
    have hg := good_th k
    by_cases c : 3 ≤ ty ∧ ty ≤ 12
    case neg => rw [th_other c] at h; cases h
    unfold thP at h
    by_cases c3 : ty = 3
    · rw [if_pos c3] at h
      obtain ⟨b, r1, h1, h2⟩ := bind_ok h
      injection h2 with h3 h4
      subst h3
      exact leaf_wf _ _ (by omega)
    rw [if_neg c3] at h
    by_cases c4 : ty = 4
    · rw [if_pos c4] at h
      obtain ⟨b, r1, h1, h2⟩ := bind_ok h
      injection h2 with h3 h4
      subst h3
      exact leaf_wf _ _ (by omega)
    rw [if_neg c4] at h
    by_cases c5 : ty = 5
    · rw [if_pos c5] at h
      obtain ⟨b, r1, h1, h2⟩ := bind_ok h
      injection h2 with h3 h4
      subst h3
      exact leaf_wf _ _ (by omega)
    rw [if_neg c5] at h
    by_cases c6 : ty = 6
    · rw [if_pos c6] at h
      obtain ⟨b, r1, h1, h2⟩ := bind_ok h
      injection h2 with h3 h4
      subst h3
      exact leaf_wf _ _ (by omega)
    rw [if_neg c6] at h
    by_cases c7 : ty = 7
    · rw [if_pos c7] at h
      obtain ⟨l, r1, h1, h2⟩ := bind_ok h
      injection h2 with h3 h4
      subst h3
      obtain ⟨e1, e2⟩ := take_ok h1
      have := eight_bd (bs := l) (e1 ▸ bytesB_take hb 8) e2
      exact ⟨by show (-128 : Int) ≤ 7 ∧ (7 : Int) < 128 ∧ (-128 : Int) ≤ 0 ∧ (0 : Int) < 128 ∧ (-128 : Int) ≤ 0 ∧ (0 : Int) < 128 ∧ eightN l < 18446744073709551616 ∧ 0 ≤ 10000; omega, Nat.zero_le _, Nat.zero_le _, trivial, trivial⟩
    rw [if_neg c7] at h
    by_cases c8 : ty = 8
    · rw [if_pos c8] at h
      obtain ⟨n, r1, h1, h2⟩ := bind_ok h
      obtain ⟨l, r2, h3, h4⟩ := bind_ok h2
      injection h4 with h5 h6
      subst h5
      obtain ⟨e1, e2⟩ := take_ok h3
      have := size_bd h1
      exact ⟨by show (-128 : Int) ≤ 8 ∧ (8 : Int) < 128 ∧ (-128 : Int) ≤ 0 ∧ (0 : Int) < 128 ∧ (-128 : Int) ≤ 0 ∧ (0 : Int) < 128 ∧ 0 < 18446744073709551616 ∧ l.length ≤ 10000; omega, Nat.zero_le _, Nat.zero_le _, trivial, trivial⟩
    rw [if_neg c8] at h
    by_cases c9 : ty = 9 ∨ ty = 10
    · rw [if_pos c9] at h
      obtain ⟨⟨n, el⟩, r1, h1, h2⟩ := bind_ok h
      obtain ⟨l, r2, h3, h4⟩ := bind_ok h2
      injection h4 with h5 h6
      subst h5
      have hh := lh_bd h1 hb
      obtain ⟨i1, i2⟩ := list_wf ih hg n el el r1 l r2 h3 (rest_B good_lh h1 hb)
      exact ⟨by show (-128 : Int) ≤ ty ∧ ty < 128 ∧ (-128 : Int) ≤ 0 ∧ (0 : Int) < 128 ∧ (-128 : Int) ≤ el ∧ el < 128 ∧ 0 < 18446744073709551616 ∧ 0 ≤ 10000; omega, by show l.len ≤ 1000; omega, Nat.zero_le _, i1, trivial⟩
    rw [if_neg c9] at h
    by_cases c11 : ty = 11
    · rw [if_pos c11] at h
      obtain ⟨⟨n, ky, el⟩, r1, h1, h2⟩ := bind_ok h
      obtain ⟨l, r2, h3, h4⟩ := bind_ok h2
      injection h4 with h5 h6
      subst h5
      have hh := mh_bd h1
      obtain ⟨i1, i2⟩ := list_wf ih hg (2 * n) ky el r1 l r2 h3 (rest_B good_mh h1 hb)
      exact ⟨by show (-128 : Int) ≤ 11 ∧ (11 : Int) < 128 ∧ (-128 : Int) ≤ ky ∧ ky < 128 ∧ (-128 : Int) ≤ el ∧ el < 128 ∧ 0 < 18446744073709551616 ∧ 0 ≤ 10000; omega, by show l.len ≤ 1000; omega, Nat.zero_le _, i1, trivial⟩
    rw [if_neg c11] at h
    by_cases c12 : ty = 12
    · rw [if_pos c12] at h
      obtain ⟨l, r1, h1, h2⟩ := bind_ok h
      injection h2 with h3 h4
      subst h3
      obtain ⟨i1, i2⟩ := fields_wf ih hg 100 0 bs l r1 (by omega) h1 hb
      exact ⟨by show (-128 : Int) ≤ 12 ∧ (12 : Int) < 128 ∧ (-128 : Int) ≤ 0 ∧ (0 : Int) < 128 ∧ (-128 : Int) ≤ 0 ∧ (0 : Int) < 128 ∧ 0 < 18446744073709551616 ∧ 0 ≤ 10000; omega, Nat.zero_le _, by show l.len ≤ 1000; omega, trivial, i1⟩
    rw [if_neg c12] at h
    cases h
end Go.Proofs.YtcboegodjlfmnaaDoor.Tpw
