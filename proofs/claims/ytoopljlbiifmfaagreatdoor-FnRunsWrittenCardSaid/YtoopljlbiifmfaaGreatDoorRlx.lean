import Derived.Test.YtoopljlbiifmfaaGreatDoorRle
/-! Runs of bytes: the encoder's walk. -/
namespace Go.Proofs.YtoopljlbiifmfaaGreatDoor.Rlx
open Go.Proofs.YtoopljlbiifmfaaGreatDoor.Rle Go.Proofs.YtoopljlbiifmfaaGreatDoor.Run Go.Proofs.YtoopljlbiifmfaaGreatDoor.Rlp Go.Proofs.YtoopljlbiifmfaaGreatDoor.Rlb Go.Proofs.YtoopljlbiifmfaaGreatDoor.Buf Go.Proofs.YtoopljlbiifmfaaGreatDoor.Fit Go.Proofs.YtoopljlbiifmfaaGreatDoor.Bit Go.Proofs.YtoopljlbiifmfaaGreatDoor.Wrd Go.Proofs.YtoopljlbiifmfaaGreatDoor.Spl Go.Proofs.YtoopljlbiifmfaaGreatDoor.Str Go.Proofs.YtoopljlbiifmfaaGreatDoor.Flt Go.Proofs.YtoopljlbiifmfaaGreatDoor.Owe Go.Proofs.YtoopljlbiifmfaaGreatDoor.Num Go.Proofs.YtoopljlbiifmfaaGreatDoor.Le Go.Proofs.YtoopljlbiifmfaaGreatDoor.Lst Go.Proofs.YtoopljlbiifmfaaGreatDoor.Aid Go.RowKit Go.Proofs.YtoopljlbiifmfaaGreatDoorW.PrintWords Go.Proofs.YtoopljlbiifmfaaGreatDoorW.PrintLast Go.Proofs.YtoopljlbiifmfaaGreatDoorW.PrintMore
set_option linter.unusedVariables false
set_option linter.unusedSimpArgs false
theorem infoU64x : (Tryz.prog.info? 36).map (fun i => (i.zero, i.size, i.bytes)) = some (some (.int .u64 0), 1, 8) := by kernel_rfl
theorem words_cut (l ws : List Int) (i h j : Nat) (hw : ∀ k, k < j → rd ws (k : Nat) = wd8 l k) (hl : ws.length = j) (hih : i ≤ h) (hhj : h ≤ j) : (ws.take h).drop i = (List.range (h - i)).map (wd8 (l.drop (8 * i))) := by
  apply List.ext_getElem
  · simp; omega
  · intro p h1 h2
    have hp : p < h - i := by simp at h2; exact h2
    have := hw (i + p) (by omega)
    rw [rd_nat _ _ (by omega)] at this
    simp only [List.getElem_drop, List.getElem_take, List.getElem_map, List.getElem_range]
    rw [this]
    unfold wd8
    rw [List.drop_drop, Nat.mul_add]
theorem packW_grp (b : Nat) (hw1 : 1 ≤ b) (hw8 : b ≤ 8) (l : List Int) (hb : bytesB l = true) (i K : Nat) (hl : 8 * i + 8 * K ≤ l.length) : packW b ((List.range K).map (wd8 (l.drop (8 * i)))) = packLo b ((l.drop (8 * i)).take (8 * K)) := by
  rw [packW_words b hw1 hw8 _ (bytesB_drop hb _), packLo_take b hw1 _ _ (by rw [List.length_drop]; omega)]
theorem own_drawn {w w' : World} {base t : Nat} {k : IntKind} {v : Value} {xs : List Int} (h : Own w base t k v xs) (d : Drawn0 w w') : Own w' base t k v xs := by
  obtain ⟨n, rfl⟩ := d.out
  exact h.drewN n
theorem below_drawn {b : Nat} {w0 w w' : World} (h : Below b w0 w) (d : Drawn0 w w') : Below b w0 w' := by
  obtain ⟨n, rfl⟩ := d.out
  exact ⟨h.os, h.tape, h.output, h.size, h.block⟩
theorem take_rep (l : List Int) (a c : Nat) (y : Int) (hac : a ≤ c) (hc : c ≤ l.length) (h : ∀ p : Nat, a ≤ p → p < c → rd l (p : Nat) = y) : l.take a ++ List.replicate (c - a) y = l.take c := by
  apply List.ext_getElem
  · simp; omega
  · intro p h1 h2
    have hp : p < c := by simp at h2; omega
    by_cases hpa : p < a
    · rw [List.getElem_append_left (by simp; omega)]; simp
    · rw [List.getElem_append_right (by simp; omega)]
      have := h p (by omega) hp
      rw [rd_nat _ _ (by omega)] at this
      simp [this]
theorem rep_bytes (b y K : Nat) (hw1 : 1 ≤ b) (hw8 : b ≤ 8) (hy : y < 256) : varL (2 * K) ++ [(y : Int)] = (R.rep y K).bytes b := by
  have e : (b + 7) / 8 = 1 := by omega
  simp only [R.bytes, e]
  have : lowL 1 (y : Int) = [(y : Int)] := by
    simp [lowL]; omega
  rw [this]
theorem hyb_bd {b : Nat} {l : List Int} {rs : List R} {c n : Nat} (hw8 : b ≤ 8) (h : hybOk b rs) (hv : hybV rs = l.take c) (hl : l.length = n) (hn : n ≤ 100000) : (hyb b rs).length ≤ 900000 := by
  have h2 : (hybV rs).length ≤ 100000 := by rw [hv, List.length_take]; omega
  have := hyb_le b (by omega) rs h (by omega)
  omega
end Go.Proofs.YtoopljlbiifmfaaGreatDoor.Rlx
