import Derived.Test.YtoopljlbiifmfaaUva
/-! Runs of bytes: the decoder's walk. -/
namespace Go.Proofs.Ytoopljlbiifmfaa.Dec
open Go.Proofs.Ytoopljlbiifmfaa.Uva Go.Proofs.Ytoopljlbiifmfaa.Rle Go.Proofs.Ytoopljlbiifmfaa.Run Go.Proofs.Ytoopljlbiifmfaa.Rlp Go.Proofs.Ytoopljlbiifmfaa.Rlb Go.Proofs.Ytoopljlbiifmfaa.Buf Go.Proofs.Ytoopljlbiifmfaa.Fit Go.Proofs.Ytoopljlbiifmfaa.Bit Go.Proofs.Ytoopljlbiifmfaa.Wrd Go.Proofs.Ytoopljlbiifmfaa.Spl Go.Proofs.Ytoopljlbiifmfaa.Str Go.Proofs.Ytoopljlbiifmfaa.Flt Go.Proofs.Ytoopljlbiifmfaa.Owe Go.Proofs.Ytoopljlbiifmfaa.Num Go.Proofs.Ytoopljlbiifmfaa.Le Go.Proofs.Ytoopljlbiifmfaa.Lst Go.Proofs.Ytoopljlbiifmfaa.Aid Go.RowKit Go.Proofs.YtoopljlbiifmfaaW.PrintWords Go.Proofs.YtoopljlbiifmfaaW.PrintLast Go.Proofs.YtoopljlbiifmfaaW.PrintMore
set_option linter.unusedVariables false
set_option linter.unusedSimpArgs false
theorem grp_vals (b : Nat) (l : List Int) (K : Nat) (hb : 0 < b) (hl : l.length = 8 * K) (hf : fitL b l) : ((List.range (8 * K)).map fun k => (valLo (packLo b l) b (k * b) : Int)) = l := by
  apply List.ext_getElem
  · simp [hl]
  · intro k h1 h2
    have := valLo_pack b l k hb h2 (by rw [hl, Nat.mul_assoc]; omega) hf
    rw [rd_nat _ _ h2] at this
    simp only [List.getElem_map, List.getElem_range]
    exact this
theorem Front.alloc {w : World} {g C t : Nat} {k : IntKind} {xs : List Int} (h : Front w g C t k xs) (o : Obj) : Front (w.alloc o) g C t k xs := by
  obtain ⟨cs, hb, hr⟩ := h.out
  exact ⟨cs, hb.alloc o, hr⟩
theorem dv (X b mk q : Nat) (hX : X < 18446744073709551616) (hb : b ≤ 8) (hmk : 2 ^ b - 1 = mk) : bits .and .u64 ((X : Int) / 2 ^ (q * b)) (mk : Int) % 256 = ((X / 2 ^ (q * b) % 2 ^ b : Nat) : Int) := by
  have e : (X : Int) / 2 ^ (q * b) = ((X / 2 ^ (q * b) : Nat) : Int) := by push_cast; rfl
  rw [e, ← hmk, and64 _ b (Nat.lt_of_le_of_lt (Nat.div_le_self _ _) hX) hb]
  have h1 := Nat.mod_lt (X / 2 ^ (q * b)) (Nat.two_pow_pos b)
  have h2 := two_pow_le hb
  have h3 : (2 : Nat) ^ 8 = 256 := by decide
  omega
theorem grownOfBelow {w w' : World} {B : Nat} (h : Below B w w') (hB : w.heap.size = B) (row : Option Nat) : w.grownBy w' row := ⟨h.os, h.tape, h.output, h.size, fun k hk _ => h.block k (by omega)⟩
theorem splice_nums (k : IntKind) (M : Nat) (xs : List Int) : splice (nums k (List.replicate M 0)) 0 (nums k xs) = nums k (xs ++ List.replicate (M - xs.length) 0) := by
  simp [splice, nums]
section
variable {P : Program} {ops : Array Oper} {rest : List Oper} {o : Oper} {a : Act} {Q : Exit → Act → World → Prop}
/-- append(v, ys...) where there is room: behind 'at_builtin' -/
theorem appendFront {W : World} (hgd : o.guard = none) (s x : Operand) (t e : TypeId) (k : IntKind) (bytes : Nat)
    (ho : o.op = .call { callee := .builtin .append, args := #[s, x], argTypes := #[t, t] })
    (ht : P.underlying t = some (.slice e)) (hinfo : (P.info? e).map (fun i => (i.zero, i.size, i.bytes)) = some (some (.int k 0), 1, bytes))
    (g C off n c : Nat) (xs : List Int) (ad : Addr) (m cc : Nat) (ys : List Int) (hs : a.eval s = .slice (some ⟨g, off, none⟩) n c) (hx : a.eval x = .slice (some ad) m cc)
    (hF : Front W g C e k xs) (hon : off + n = xs.length) (hC : (Kd.int k).C W (some ad) m ys) (hroom : n + m ≤ c) (hcC : off + c ≤ C) (hb : (n + m) * bytes ≤ 140737488355328) (hm9 : n + m ≤ 140737488355328)
    (h : ∀ w1, Front w1 g C e k (xs ++ ys) → W.grownBy w1 (some g) → wpList P ops Q rest (a.put o.dst (.slice (some ⟨g, off, none⟩) (n + m) c)) w1) :
    wpList P ops Q (o :: rest) a W := by
  obtain ⟨i0, hi, hzz⟩ := Option.map_eq_some_iff.1 hinfo
  simp only [Prod.mk.injEq] at hzz
  obtain ⟨hz0, hz1, hz2⟩ := hzz
  have hm : ys.length = m := hC.1
  have hlo : (nums k (xs.drop off)).length = n := by simp [nums]; omega
  refine wpList_append_arg W hgd s x t ho e i0 (.int k 0) 1 bytes ht hi hz0 hz1 hz2 rfl (by omega) g off n c (nums k (xs.drop off)) hs (by rw [hlo]; omega) (fun j u hj => ?_) ad m cc (nums k ys) hx (by simp [nums, hm]) (C_cells hC) (by intro u hu; simp [nums] at hu; obtain ⟨q, _, rfl⟩ := hu; rfl) (fun _ j hj => ?_) (by simp only [maxLen]; omega) hb (fun _ => ?_) (fun hbad => absurd hroom (by omega))
  · have hjl : j < n := by
      have := (List.getElem?_eq_some_iff.1 hj).1
      omega
    have := hF.at' (off + j) (by omega)
    rw [this]
    simp [nums, show off + j < xs.length by omega] at hj
    rw [← hj, rd_nat _ _ (by omega)]
  · have hjl : j < ys.length := by simpa [nums] using hj
    obtain ⟨v, hv⟩ := hF.cell (off + n * 1 + j) (by omega)
    exact ⟨by rw [hv]; rfl, hF.free _⟩
  · obtain ⟨h1, h2⟩ := Front.pushes ys hF (by have := hF.le; omega) (off + n * 1) (by omega)
    exact h _ h1 h2
end
set_option maxHeartbeats 4000000 in
theorem byteCount_calls (x : Nat) (w : World) (hx : x ≤ 4294967296) :
    Calls Try.prog 62 #[.int .u64 x] w fun e w' => e = .returned (.int .i64 (((x + 7) / 8 : Nat) : Int)) ∧ w = w' := by
  have q : ((x : Int) + 7) / 8 = (((x + 7) / 8 : Nat) : Int) := by omega
  obtain ⟨y, hy⟩ : ∃ y, (x + 7) / 8 = y := ⟨_, rfl⟩
  rw [hy] at q ⊢
  have hy9 : y ≤ 4294967296 := by omega
  go_enter Try.func62, Try.ntmps62
  go_wp2_with (fail)
  go_ret
  exact ⟨rfl, rfl⟩
theorem hyb_app (w : Nat) (a c : List R) : hyb w (a ++ c) = hyb w a ++ hyb w c := by simp [hyb]
theorem hybV_app (a c : List R) : hybV (a ++ c) = hybV a ++ hybV c := by simp [hybV]
end Go.Proofs.Ytoopljlbiifmfaa.Dec
