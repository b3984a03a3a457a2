import Derived.Test.YtcboegodjlfmnaaDoorSkMtd
namespace Go.Proofs.YtcboegodjlfmnaaDoor.Tzs
open Go.Proofs.YtcboegodjlfmnaaDoor.Tzq
open Go.Proofs.YtcboegodjlfmnaaDoor.Tzm Go.Proofs.YtcboegodjlfmnaaDoor.Tzl Go.Proofs.YtcboegodjlfmnaaDoor.Trh Go.Proofs.YtcboegodjlfmnaaDoor.Trn Go.Proofs.YtcboegodjlfmnaaDoor.Trm Go.Proofs.YtcboegodjlfmnaaDoor.Tuv Go.Proofs.YtcboegodjlfmnaaDoor.Tpa Go.Proofs.YtcboegodjlfmnaaDoor.Duv Go.Proofs.YtcboegodjlfmnaaDoor.Dpu Go.Proofs.YtcboegodjlfmnaaDoor.Pak Go.Proofs.YtcboegodjlfmnaaDoor.Buf Go.Proofs.YtcboegodjlfmnaaDoor.Fit Go.Proofs.YtcboegodjlfmnaaDoor.Bit Go.Proofs.YtcboegodjlfmnaaDoor.Wrd Go.Proofs.YtcboegodjlfmnaaDoor.Spl Go.Proofs.YtcboegodjlfmnaaDoor.Str Go.Proofs.YtcboegodjlfmnaaDoor.Flt Go.Proofs.YtcboegodjlfmnaaDoor.Owe Go.Proofs.YtcboegodjlfmnaaDoor.Num Go.Proofs.YtcboegodjlfmnaaDoor.Le Go.Proofs.YtcboegodjlfmnaaDoor.Lst Go.Proofs.YtcboegodjlfmnaaDoor.Aid Go.RowKit Go.Proofs.YtcboegodjlfmnaaDoorW.PrintWords Go.Proofs.YtcboegodjlfmnaaDoorW.PrintLast Go.Proofs.YtcboegodjlfmnaaDoorW.PrintMore
set_option linter.unusedVariables false
set_option linter.unusedSimpArgs false
theorem readField_ok (g : Nat) (p : Value) (A : Option Addr) (n c o : Nat) (bs r : List Int) (last id ty : Int) (hln : bs.length = n) (hc : n ≤ c) (hn : n ≤ 2147483647) (ho : o ≤ n) (hb : bytesB bs = true) (hl : 0 ≤ last)
    (h : fhP last (bs.drop o) = .ok (id, ty) r) (hid : id ≠ 0) :
    ∃ (o' : Nat) (a : Int) (dl : Bool), o < o' ∧ o' ≤ n ∧ r = bs.drop o' ∧ last < id ∧ id ≤ 32767 ∧ 0 ≤ ty ∧ ty ≤ 15 ∧ (dl = true → a + last = id) ∧ (dl = false → a = id) ∧
      ∀ (W : World), RdAt W g p A n c o → (Kd.int .u8).C W A n bs → Calls Tryd.prog 97 #[.pointer (some ⟨g, 0, none⟩)] W fun e w' => e = .returned (.tuple #[.agg #[.int .i16 a, .int .i8 ty, .bool dl], .nilIface]) ∧ Went W w' g p A n c o' := by
  obtain ⟨h1, b, h2, ⟨h3, h4, h5⟩ | ⟨h3, h4, h5, h6, h7, h8⟩ | ⟨h3, h4, h5, h6, h7⟩⟩ := fh_inv h hb hl
  · exact absurd h4 hid
  · refine ⟨o + 1, b / 16, true, by omega, by omega, h8, by omega, h6, by omega, by omega, fun _ => by omega, (fun e => nomatch e), fun W hW hC => ?_⟩
    subst h7
    exact readField_short g p A n c o bs b W hW hC hc hn ho hb (by omega) h2 h3 h4
  · subst h5
    obtain ⟨o1, d1, d2, d3⟩ := good_off (good_zig _) h6 (by omega)
    obtain ⟨z, _, _, hz1, hz2⟩ := zig_ok h6
    refine ⟨o1, id, false, by omega, by omega, d3, h7, by omega, by omega, by omega, (fun e => nomatch e), fun _ => rfl, fun W hW hC => ?_⟩
    obtain ⟨o', e1, e2, e3, e4⟩ := readField_long g p A n c o bs r ty id W hW hC hc hn ho hb (by omega) h2 h3 h4 h6
    obtain rfl := off_uniq e3 d3 (by omega) (by omega)
    exact e4
theorem readField_end (g : Nat) (p : Value) (A : Option Addr) (n c o : Nat) (bs r : List Int) (last ty : Int) (hln : bs.length = n) (hc : n ≤ c) (hn : n ≤ 2147483647) (ho : o ≤ n) (hb : bytesB bs = true) (hl : 0 ≤ last)
    (h : fhP last (bs.drop o) = .ok (0, ty) r) :
    o + 1 ≤ n ∧ r = bs.drop (o + 1) ∧
      ∀ (W : World), RdAt W g p A n c o → (Kd.int .u8).C W A n bs → Calls Tryd.prog 97 #[.pointer (some ⟨g, 0, none⟩)] W fun e w' => e = .returned (.tuple #[.agg #[.int .i16 0, .int .i8 0, .bool false], .nilIface]) ∧ Went W w' g p A n c (o + 1) := by
  obtain ⟨h1, b, h2, ⟨h3, h4, h5⟩ | ⟨h3, h4, h5, h6, h7, h8⟩ | ⟨h3, h4, h5, h6, h7⟩⟩ := fh_inv h hb hl
  · exact ⟨by omega, h5, fun W hW hC => readField_stop g p A n c o bs W hW hC hc hn ho hb (by omega) (by rw [h2, h3])⟩
  · omega
  · omega
end Go.Proofs.YtcboegodjlfmnaaDoor.Tzs
