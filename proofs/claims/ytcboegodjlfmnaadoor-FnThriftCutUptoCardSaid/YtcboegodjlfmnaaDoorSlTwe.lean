import Derived.Test.YtcboegodjlfmnaaDoorSlTwd
import Derived.Test.YtcboegodjlfmnaaDoorSlTiv
namespace Go.Proofs.YtcboegodjlfmnaaDoor.Twe
open Go.Proofs.YtcboegodjlfmnaaDoor.Tit Go.Proofs.YtcboegodjlfmnaaDoor.Twd Go.Proofs.YtcboegodjlfmnaaDoor.Trt Go.Proofs.YtcboegodjlfmnaaDoor.Twb Go.Proofs.YtcboegodjlfmnaaDoor.Tbk Go.Proofs.YtcboegodjlfmnaaDoor.Twc Go.Proofs.YtcboegodjlfmnaaDoor.Twb Go.Proofs.YtcboegodjlfmnaaDoor.Twa Go.Proofs.YtcboegodjlfmnaaDoor.Tit Go.Proofs.YtcboegodjlfmnaaDoor.Tsd Go.Proofs.YtcboegodjlfmnaaDoor.Ton Go.Proofs.YtcboegodjlfmnaaDoor.Tpw Go.Proofs.YtcboegodjlfmnaaDoor.Tap Go.Proofs.YtcboegodjlfmnaaDoor.Tzm Go.Proofs.YtcboegodjlfmnaaDoor.Tzl Go.Proofs.YtcboegodjlfmnaaDoor.Trh Go.Proofs.YtcboegodjlfmnaaDoor.Trn Go.Proofs.YtcboegodjlfmnaaDoor.Trm Go.Proofs.YtcboegodjlfmnaaDoor.Tuv Go.Proofs.YtcboegodjlfmnaaDoor.Tpa Go.Proofs.YtcboegodjlfmnaaDoor.Duv Go.Proofs.YtcboegodjlfmnaaDoor.Dpu Go.Proofs.YtcboegodjlfmnaaDoor.Pak Go.Proofs.YtcboegodjlfmnaaDoor.Buf Go.Proofs.YtcboegodjlfmnaaDoor.Fit Go.Proofs.YtcboegodjlfmnaaDoor.Bit Go.Proofs.YtcboegodjlfmnaaDoor.Wrd Go.Proofs.YtcboegodjlfmnaaDoor.Spl Go.Proofs.YtcboegodjlfmnaaDoor.Str Go.Proofs.YtcboegodjlfmnaaDoor.Flt Go.Proofs.YtcboegodjlfmnaaDoor.Owe Go.Proofs.YtcboegodjlfmnaaDoor.Num Go.Proofs.YtcboegodjlfmnaaDoor.Le Go.Proofs.YtcboegodjlfmnaaDoor.Lst Go.Proofs.YtcboegodjlfmnaaDoor.Aid Go.RowKit Go.Proofs.YtcboegodjlfmnaaDoorW.PrintWords Go.Proofs.YtcboegodjlfmnaaDoorW.PrintLast Go.Proofs.YtcboegodjlfmnaaDoorW.PrintMore Go.Proofs.YtcboegodjlfmnaaDoor.Tpv Go.Proofs.YtcboegodjlfmnaaDoor.Tzz
set_option linter.unusedVariables false
set_option linter.unusedSimpArgs false
theorem bytes_app {a b : List Int} (h : bytesB a = true) (k : bytesB b = true) : bytesB (a ++ b) = true := bytesB_of fun x hx => by
  rcases List.mem_append.1 hx with h1 | h1
  · exact bytesB_mem h x h1
  · exact bytesB_mem k x h1
theorem bytes_one {x : Int} (h0 : 0 ≤ x) (h1 : x < 256) : bytesB [x] = true := bytesB_of fun y hy => by
  obtain rfl := List.mem_singleton.1 hy
  exact ⟨h0, h1⟩
theorem varL_bytes : ∀ (k n : Nat), n < 128 ^ k → bytesB (varL n) = true
  | 0, n, h => by
    rw [varL_lo (by simp at h; omega)]
    exact bytes_one (by omega) (by simp at h; omega)
  | k + 1, n, h => by
    by_cases c : n < 128
    · rw [varL_lo c]; exact bytes_one (by omega) (by omega)
    · rw [varL_hi c, ← List.singleton_append]
      refine bytes_app (bytes_one (by omega) (by omega)) (varL_bytes k (n / 128) ?_)
      rw [Nat.pow_succ] at h
      exact Nat.div_lt_of_lt_mul (by omega)
theorem varB (n : Nat) (h : n < 18446744073709551616) : bytesB (varL n) = true := varL_bytes 10 n (by omega)
theorem low_bytes (k : Nat) (n : Int) : bytesB (lowL k n) = true := bytesB_of fun x hx => by
  unfold lowL at hx
  obtain ⟨i, _, rfl⟩ := List.mem_map.1 hx
  exact ⟨Int.emod_nonneg _ (by omega), Int.emod_lt_of_pos _ (by omega)⟩
theorem head_bytes (long : Bool) (n : Nat) (el : Int) (hn : n ≤ 1000) (h3 : 0 ≤ el) (h12 : el ≤ 15) : bytesB (headL long n el) = true := by
  unfold headL; split
  · rename_i c
    exact bytes_one (by omega) (by omega)
  · rw [← List.singleton_append]
    exact bytes_app (bytes_one (by omega) (by omega)) (varB n (by omega))
theorem fhead_bytes (long : Bool) (last id ty : Int) (h0 : 0 ≤ last) (hl : last < id) (hi : id ≤ 32767) (h1 : 0 ≤ ty) (h12 : ty ≤ 15) : bytesB (fheadL long last id ty) = true := by
  unfold fheadL; split
  · rename_i c
    exact bytes_one (by omega) (by omega)
  · rw [← List.singleton_append]
    exact bytes_app (bytes_one (by omega) (by omega)) (varB _ (by have := zz_half_pos id (by omega); omega))
theorem body_bytes (long : Bool) (dd : Nat) (fld : Bool) (d : D) (ls fs : F) (lsB fsB : List Int) (hd : i64B d.n) (hl : bytesB lsB = true) (hf : bytesB fsB = true) {okl : Nat → Int → Int → Prop} {okf : Nat → Prop} (h : okN dd fld d ls fs okl okf) : bytesB (bodyB long d ls.len lsB fsB) = true := by
  have ht := okN_ty h
  have h2 : d.bs.length ≤ 10000 ∧ bytesB d.bs = true := by
    rcases h with h | h | h | h | h | h | h | h | h | h | h
    all_goals first
      | (obtain ⟨_, h, _⟩ := h; rw [h]; exact ⟨Nat.zero_le _, rfl⟩)
      | (obtain ⟨_, _, h, _⟩ := h; rw [h]; exact ⟨Nat.zero_le _, rfl⟩)
      | (obtain ⟨_, _, _, h, _⟩ := h; rw [h]; exact ⟨Nat.zero_le _, rfl⟩)
      | (obtain ⟨_, h, h', _⟩ := h; exact ⟨h, h'⟩)
  have h9 : (d.ty = 9 ∨ d.ty = 10) → 3 ≤ d.el ∧ d.el ≤ 12 ∧ ls.len ≤ 1000 := by
    intro c
    rcases h with h | h | h | h | h | h | h | h | h | h | h
    all_goals first
      | (obtain ⟨_, _, h3, h12, hn, _⟩ := h; exact ⟨h3, h12, hn⟩)
      | (have := h.1; omega)
  have h11 : d.ty = 11 → ls.len ≤ 1000 ∧ (ls.len ≠ 0 → 3 ≤ d.ky ∧ d.ky ≤ 12 ∧ 3 ≤ d.el ∧ d.el ≤ 12) := by
    intro c
    rcases h with h | h | h | h | h | h | h | h | h | h | h
    all_goals first
      | (obtain ⟨_, _, hn, _, _, _, _, k⟩ := h; exact ⟨hn, k⟩)
      | (have := h.1; omega)
  unfold bodyB
  by_cases c3 : d.ty = 3
  · rw [if_pos c3]; exact bytes_one (Int.emod_nonneg _ (by omega)) (Int.emod_lt_of_pos _ (by omega))
  rw [if_neg c3]
  by_cases c4 : d.ty = 4 ∨ d.ty = 5 ∨ d.ty = 6
  · rw [if_pos c4]; exact varB _ (zz_lt _ hd)
  rw [if_neg c4]
  by_cases c7 : d.ty = 7
  · rw [if_pos c7]; exact low_bytes _ _
  rw [if_neg c7]
  by_cases c8 : d.ty = 8
  · rw [if_pos c8]; exact bytes_app (varB _ (by omega)) h2.2
  rw [if_neg c8]
  by_cases c9 : d.ty = 9 ∨ d.ty = 10
  · obtain ⟨k1, k2, k3⟩ := h9 c9
    rw [if_pos c9]; exact bytes_app (head_bytes _ _ _ k3 (by omega) (by omega)) hl
  rw [if_neg c9]
  by_cases c11 : d.ty = 11
  · obtain ⟨k1, k2⟩ := h11 c11
    rw [if_pos c11]
    refine bytes_app (bytes_app (varB _ (by omega)) ?_) hl
    by_cases z : ls.len = 0
    · rw [if_pos z]; rfl
    · obtain ⟨a1, a2, a3, a4⟩ := k2 z
      rw [if_neg z]; exact bytes_one (by omega) (by omega)
  rw [if_neg c11]
  by_cases c12 : d.ty = 12
  · rw [if_pos c12]; exact bytes_app hf rfl
  rw [if_neg c12]; exact hl
theorem forest_bytes (long : Bool) : ∀ (X : F) (dd : Nat) (fld : Bool) (ev od last : Int), 0 ≤ last → F.ow X fld → X.ok dd fld ev od last → bytesB (X.byB long fld last) = true
  | .nil, dd, fld, ev, od, last, h0, ho, h => rfl
  | .cons d id ls fs tl, dd, fld, ev, od, last, h0, ho, h => by
    have hl : bytesB (ls.byB long false 0) = true ∧ bytesB (fs.byB long true 0) = true := by
      have hN := h.2.1
      have a0 : ls = .nil → bytesB (ls.byB long false 0) = true := fun e => by rw [e]; rfl
      have b0 : fs = .nil → bytesB (fs.byB long true 0) = true := fun e => by rw [e]; rfl
      rcases hN with h | h | h | h | h | h | h | h | h | h | h
      · exact ⟨a0 h.2.2.2.1, b0 h.2.2.2.2⟩
      · exact ⟨a0 h.2.2.2.1, b0 h.2.2.2.2⟩
      · exact ⟨a0 h.2.2.2.2.1, b0 h.2.2.2.2.2⟩
      · exact ⟨a0 h.2.2.2.2.1, b0 h.2.2.2.2.2⟩
      · exact ⟨a0 h.2.2.2.2.1, b0 h.2.2.2.2.2⟩
      · exact ⟨a0 h.2.2.2.2.1, b0 h.2.2.2.2.2⟩
      · exact ⟨a0 h.2.2.2.1, b0 h.2.2.2.2⟩
      · exact ⟨a0 h.2.2.2.2.1, b0 h.2.2.2.2.2⟩
      · obtain ⟨_, _, _, _, _, e, g, _, k⟩ := h
        exact ⟨forest_bytes long ls g false _ _ 0 (by omega) ho.2.2.2.2.1 k, b0 e⟩
      · obtain ⟨_, _, _, _, e, ⟨g, _, k⟩, _⟩ := h
        exact ⟨forest_bytes long ls g false _ _ 0 (by omega) ho.2.2.2.2.1 k, b0 e⟩
      · obtain ⟨_, _, _, e, g, _, k⟩ := h
        exact ⟨a0 e, forest_bytes long fs g true 0 0 0 (by omega) ho.2.2.2.2.2.1 k⟩
    have hb := body_bytes long dd fld d ls fs (ls.byB long false 0) (fs.byB long true 0) ho.1.2.1 hl.1 hl.2 h.2.1
    have hid : 0 ≤ id := by
      have := h.1
      cases fld with
      | true => rw [if_pos rfl] at this; omega
      | false => rw [if_neg (by simp)] at this; omega
    have ht := forest_bytes long tl dd fld od ev id hid ho.2.2.2.2.2.2 h.2.2
    show bytesB ((if fld then fheadL long last id d.ty else []) ++ bodyB long d ls.len (ls.byB long false 0) (fs.byB long true 0) ++ tl.byB long fld id) = true
    refine bytes_app (bytes_app ?_ hb) ht
    cases fld with
    | true =>
      have h1 := h.1
      rw [if_pos rfl] at h1
      have hty := okN_ty h.2.1
      rw [if_pos rfl]
      exact fhead_bytes long last id d.ty h0 h1.1 h1.2 (by omega) (by omega)
    | false => rfl
theorem by_bytes (long : Bool) (x : N) (dd : Nat) (hw : NOw x) (h : x.ok dd false) : bytesB (x.byB long) = true := by
  have := forest_bytes long (.cons x.d 0 x.ls x.fs .nil) dd false x.d.ty 0 0 (by omega) ⟨hw.d, ⟨⟨by decide, by decide⟩, fun _ => rfl⟩, hw.nl, hw.nf, hw.ls, hw.fs, trivial⟩ ⟨by rw [if_neg (by simp)]; exact ⟨rfl, rfl⟩, h, trivial⟩
  have e1 : (F.cons x.d 0 x.ls x.fs .nil).byB long false 0 = [] ++ x.byB long ++ [] := rfl
  rw [e1, List.append_nil, List.nil_append] at this
  exact this
theorem body_pos (long : Bool) (d : D) (nl : Nat) (lsB fsB : List Int) (h3 : 3 ≤ d.ty) (h12 : d.ty ≤ 12) : 0 < (bodyB long d nl lsB fsB).length := by
  have hh : 0 < (headL long nl d.el).length := by
    unfold headL; split
    · simp
    · rw [List.length_cons]; omega
  have h1 := varL_pos (zz d.n)
  have h2 := varL_pos d.bs.length
  have h4 := varL_pos (nl / 2)
  unfold bodyB
  by_cases c3 : d.ty = 3
  · rw [if_pos c3]; simp
  rw [if_neg c3]
  by_cases c4 : d.ty = 4 ∨ d.ty = 5 ∨ d.ty = 6
  · rw [if_pos c4]; exact h1
  rw [if_neg c4]
  by_cases c7 : d.ty = 7
  · rw [if_pos c7, lowL_length]; omega
  rw [if_neg c7]
  by_cases c8 : d.ty = 8
  · rw [if_pos c8, List.length_append]; omega
  rw [if_neg c8]
  by_cases c9 : d.ty = 9 ∨ d.ty = 10
  · rw [if_pos c9, List.length_append]; omega
  rw [if_neg c9]
  by_cases c11 : d.ty = 11
  · rw [if_pos c11, List.length_append, List.length_append]; omega
  rw [if_neg c11]
  rw [if_pos (by omega), List.length_append]
  simp
structure Fx (long : Bool) (x : N) : Prop where
  mk :: (ty : 3 ≤ x.d.ty ∧ x.d.ty ≤ 12) (len : (x.byB long).length ≤ 4000000) (byt : bytesB (x.byB long) = true) (th : ∀ more, thP 7 x.d.ty (x.byB long ++ more) = .ok x more) (wf : NWf x) (ne : 0 < (x.byB long).length)
theorem fx_of (long : Bool) (x : N) (hw : NOw x) (hsz : N.sz x ≤ 1048576) (hok : N.ok x 6 false) : Fx long x := by
  have ht := okN_ty hok
  have h3 := ht.2.2 rfl
  have hth : ∀ more, thP 7 x.d.ty (x.byB long ++ more) = .ok x more := fun more => th_reads long x 6 false more hok h3
  have hb := by_bytes long x 6 hw hok
  have h0 := hth []
  rw [List.append_nil] at h0
  refine ⟨⟨h3, ht.2.1⟩, by have := by_len long x 6 hw hok h3; omega, hb, hth, Tpw.th_wf 7 _ _ x _ h0 hb, ?_⟩
  exact body_pos long x.d x.ls.len _ _ h3 ht.2.1
end Go.Proofs.YtcboegodjlfmnaaDoor.Twe
