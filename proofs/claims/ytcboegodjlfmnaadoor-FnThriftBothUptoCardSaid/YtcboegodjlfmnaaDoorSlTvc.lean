import Derived.Test.YtcboegodjlfmnaaDoorSlTvb
namespace Go.Proofs.YtcboegodjlfmnaaDoor.Tvc
open Go.Proofs.YtcboegodjlfmnaaDoor.Tvb Go.Proofs.YtcboegodjlfmnaaDoor.Tvo Go.Proofs.YtcboegodjlfmnaaDoor.Sbu Go.Proofs.YtcboegodjlfmnaaDoor.Dpu Go.Proofs.YtcboegodjlfmnaaDoor.Pak Go.Proofs.YtcboegodjlfmnaaDoor.Buf Go.Proofs.YtcboegodjlfmnaaDoor.Fit Go.Proofs.YtcboegodjlfmnaaDoor.Bit Go.Proofs.YtcboegodjlfmnaaDoor.Wrd Go.Proofs.YtcboegodjlfmnaaDoor.Spl Go.Proofs.YtcboegodjlfmnaaDoor.Str Go.Proofs.YtcboegodjlfmnaaDoor.Flt Go.Proofs.YtcboegodjlfmnaaDoor.Owe Go.Proofs.YtcboegodjlfmnaaDoor.Num Go.Proofs.YtcboegodjlfmnaaDoor.Le Go.Proofs.YtcboegodjlfmnaaDoor.Lst Go.Proofs.YtcboegodjlfmnaaDoor.Aid Go.RowKit Go.Proofs.YtcboegodjlfmnaaDoorW.PrintWords Go.Proofs.YtcboegodjlfmnaaDoorW.PrintLast Go.Proofs.YtcboegodjlfmnaaDoorW.PrintMore
set_option linter.unusedVariables false
set_option linter.unusedSimpArgs false
theorem arrAll {P : Program} (t e : TypeId) (n : Nat) {i : TypeInfo} (ht : P.underlying t = some (.array n e)) (hi : P.info? e = some i) (hsz : i.size = 1) (g o : Nat) :
    ∀ W : World, (Instr.sliceAt t (.pointer (some ⟨g, o, none⟩)) none none none).run P W = .ok (.slice (some ⟨g, o, none⟩) n n) W := by
  intro W
  have hn : P.arrayLen t = n := by simp [Program.arrayLen, ht]
  have he : P.elem t = e := by simp [Program.elem, ht]
  rw [run_sliceAt_array_all W t ⟨g, o, none⟩ (by rw [hn, he]; exact ht), hn, he]
  simp [sizeOf, typeInfo, hi, hsz, slicedAt, Result.andThen, Addr.add]
theorem arrHi {P : Program} (t e : TypeId) (n : Nat) {i : TypeInfo} (ht : P.underlying t = some (.array n e)) (hi : P.info? e = some i) (hsz : i.size = 1) (g o h : Nat) (hh : h ≤ n) :
    ∀ W : World, (Instr.sliceAt t (.pointer (some ⟨g, o, none⟩)) none (some (.int .i64 (h : Int))) none).run P W = .ok (.slice (some ⟨g, o, none⟩) h n) W := by
  intro W
  have hn : P.arrayLen t = n := by simp [Program.arrayLen, ht]
  have he : P.elem t = e := by simp [Program.elem, ht]
  rw [run_sliceAt_array_h W t ⟨g, o, none⟩ (by rw [hn, he]; exact ht) .i64 (h : Int) (by omega) (by rw [hn]; omega), hn, he]
  simp [sizeOf, typeInfo, hi, hsz, slicedAt, Result.andThen, Addr.add]
theorem cutV (g : Nat) : ∀ W : World, (Instr.sliceAt 164 (.pointer (some ⟨g, 10, none⟩)) none none none).run Tryd.prog W = .ok (.slice (some ⟨g, 10, none⟩) 10 10) W := by
  obtain ⟨i8, h8⟩ := h8
  exact arrAll 164 5 10 (by first | exact Tryd.underlying164 | kernel_rfl) h8.1 h8.2 g 10
theorem cutVN (g N : Nat) (h : N ≤ 10) : ∀ W : World, (Instr.sliceAt 164 (.pointer (some ⟨g, 10, none⟩)) none (some (.int .i64 (N : Int))) none).run Tryd.prog W = .ok (.slice (some ⟨g, 10, none⟩) N 10) W := by
  obtain ⟨i8, h8⟩ := h8
  exact arrHi 164 5 10 (by first | exact Tryd.underlying164 | kernel_rfl) h8.1 h8.2 g 10 N h
theorem cutB (g : Nat) : ∀ W : World, (Instr.sliceAt 161 (.pointer (some ⟨g, 1, none⟩)) none (some (.int .i64 8)) none).run Tryd.prog W = .ok (.slice (some ⟨g, 1, none⟩) 8 8) W := by
  obtain ⟨i8, h8⟩ := h8
  exact arrHi 161 5 8 (by first | exact Tryd.underlying161 | kernel_rfl) h8.1 h8.2 g 1 8 (by omega)
theorem nums_app (k : IntKind) (xs ys : List Int) : nums k (xs ++ ys) = nums k xs ++ nums k ys := by simp [nums]
theorem nums_len (k : IntKind) (xs : List Int) : (nums k xs).length = xs.length := by simp [nums]
theorem wb_others {w w' : World} {g b o : Nat} {xs : List Int} (h : WbO w g b o xs) (hne : g ≠ b) (hk : Lib.OthersKept 5 (some b) w w') : WbO w' g b o xs := by
  obtain ⟨cs, hb, hr⟩ := h.out
  refine ⟨cs, ⟨hk g _ hb.out (fun e => hne (Option.some.inj e)) (fun c fz e => by injection e with _ e2 _; exact absurd e2 (by decide))⟩, hr⟩
set_option maxRecDepth 100000 in
/-- bytes that lie elsewhere -/
theorem write_calls (B g b n c o : Nat) (ad : Addr) (bs xs ys : List Int) (w : World) (h : WrB w B g b bs) (hB : B ≤ w.heap.size) (hsrc : ∀ j v, (nums .u8 xs)[j]? = some v → w.cell? (ad.add j) = some v) (hl : xs.length = n) (hne : ad.block ≠ b) (hlim : bs.length + n ≤ 1000000000) :
    Calls Tryd.prog 135 #[.pointer (some ⟨g, 1, none⟩), .slice (some ad) n c] w fun e w' => WrOk w w' B g b (bs ++ xs) e := by
  have h9 := h.wb.dst
  have hw := bufWrite B b (nums .u8 bs) (nums .u8 xs) ad n c w h.buf hB (nums_one _ _) (by rw [nums_len, hl]) hne hsrc (nums_one _ _) (by rw [nums_len]; omega)
  have HW := Aside0.mk hw
  have H := Aside0.mk h
  have hm := m_Write
  clear h hw hsrc hl hlim
  go_enter Tryd.func135, Tryd.ntmps135
  go_wp2_with (first
    | (go_at_call 174; (with_reducible refine HW.out.mono ?_); rintro e w2 ⟨rfl, hi, hb, hk⟩; have HI := Aside0.mk hi; have HB := Aside0.mk hb; have HK := Aside0.mk hk; clear hi hb hk))
  go_ret
  exact ⟨rfl, ⟨H.out.hg, H.out.hb, H.out.ne, wb_others H.out.wb H.out.ne HK.out, by rw [nums_app]; exact HI.out⟩, HB.out, Kept.of_others HK.out⟩
set_option maxRecDepth 100000 in
theorem writeByte_calls (B g b : Nat) (bs : List Int) (x : Int) (w : World) (h : WrB w B g b bs) (hB : B ≤ w.heap.size) (hlim : bs.length ≤ 1000000000) :
    Calls Tryd.prog 136 #[.pointer (some ⟨g, 1, none⟩), .int .u8 x] w fun e w' => WrOk w w' B g b (bs ++ [x]) e := by
  have h9 := h.wb.dst
  have hta : ∀ W : World, (Instr.typeAssert (buV b) 159 100 true).run Tryd.prog W = .ok (.tuple #[.pointer (some ⟨b, 0, none⟩), .bool true]) W := fun W => by kernel_rfl
  have hw := bufWriteByte B b (nums .u8 bs) x w h.buf hB (nums_one _ _) (by rw [nums_len]; omega)
  have HW := Aside0.mk hw
  have H := Aside0.mk h
  clear h hw hlim
  go_enter Tryd.func136, Tryd.ntmps136
  go_wp2_with (first
    | (go_at_call 141; (with_reducible refine HW.out.mono ?_); rintro e w2 ⟨rfl, hi, hb, hk⟩; have HI := Aside0.mk hi; have HB := Aside0.mk hb; have HK := Aside0.mk hk; clear hi hb hk))
  go_ret
  exact ⟨rfl, ⟨H.out.hg, H.out.hb, H.out.ne, wb_others H.out.wb H.out.ne HK.out, by rw [nums_app]; exact HI.out⟩, HB.out, Kept.of_others HK.out⟩
set_option maxRecDepth 100000 in
theorem writeUvarint_calls (B g b x : Nat) (bs : List Int) (w : World) (h : WrB w B g b bs) (hB : B ≤ w.heap.size) (hx : x < 18446744073709551616) (hlim : bs.length + 10 ≤ 1000000000) :
    Calls Tryd.prog 140 #[.pointer (some ⟨g, 0, none⟩), .int .u64 x] w fun e w' => WrOk w w' B g b (bs ++ varL x) e := by
  have hl := varL_len10 x hx
  have HP := Aside0.mk (putUvarintW_calls g b 10 10 x w (h.wb.clr 10) hx hl)
  have H := Aside0.mk h
  obtain ⟨L, hL⟩ : ∃ L, varL x = L := ⟨_, rfl⟩
  rw [hL] at HP hl ⊢
  obtain ⟨N, hN⟩ : ∃ N, L.length = N := ⟨_, rfl⟩
  have HN := Aside0.mk hN
  rw [hN] at HP hl
  have HWR : Aside0 (∀ w1, WbO w1 g b 10 L → w.grownBy w1 (some g) → Calls Tryd.prog 135 #[.pointer (some ⟨g, 1, none⟩), .slice (some ⟨g, 10, none⟩) N 10] w1 fun e w' => WrOk w w' B g b (bs ++ L) e) := ⟨fun w1 hw hg => by
    have h1 := H.out.grown hw hg
    refine (write_calls B g b N 10 0 ⟨g, 10, none⟩ bs L [] w1 h1.1 (Nat.le_trans hB hg.size) (hw.src (by omega)) HN.out H.out.ne (by omega)).mono ?_
    intro e w2 hq
    exact ⟨hq.ret, hq.wr, h1.2.1.trans hq.below, h1.2.2.trans hq.kept⟩⟩
  clear h hL hN hlim hx
  have hcv := cutV g
  have hcn := cutVN g N hl
  go_enter Tryd.func140, Tryd.ntmps140
  go_upto_region 2 with (first
    | (go_at_call 144; (with_reducible refine HP.out.mono ?_); rintro e w2 ⟨rfl, hf, hg⟩; have HF := Aside0.mk hf; have HG := Aside0.mk hg; clear hf hg))
  go_region_held3 (fun (V : World) => True) (trivial)
    ((first
      | (go_at_call 135; (with_reducible refine (HWR.out w2.drew HF.out.drew HG.out.drew2).mono ?_); rintro e w3 HQ; obtain rfl := HQ.ret; have HQ := Aside0.mk HQ)
      | fail "no arm"))
  all_goals go_wp2_with (fail)
  all_goals go_ret
  all_goals exact HQ.out
set_option maxRecDepth 100000 in
theorem writeVarint_calls (B g b : Nat) (x : Int) (bs : List Int) (w : World) (h : WrB w B g b bs) (hB : B ≤ w.heap.size) (hx0 : -9223372036854775808 ≤ x) (hx1 : x ≤ 9223372036854775807) (hlim : bs.length + 10 ≤ 1000000000) :
    Calls Tryd.prog 138 #[.pointer (some ⟨g, 0, none⟩), .int .i64 x] w fun e w' => WrOk w w' B g b (bs ++ varL (zz x)) e := by
  have hl := varL_len10 (zz x) (zz_lt x hx0 hx1)
  have HP := Aside0.mk (putVarintW_calls g b 10 10 x w (h.wb.clr 10) hx0 hx1 hl)
  have H := Aside0.mk h
  obtain ⟨L, hL⟩ : ∃ L, varL (zz x) = L := ⟨_, rfl⟩
  rw [hL] at HP hl ⊢
  obtain ⟨N, hN⟩ : ∃ N, L.length = N := ⟨_, rfl⟩
  have HN := Aside0.mk hN
  rw [hN] at HP hl
  have HWR : Aside0 (∀ w1, WbO w1 g b 10 L → w.grownBy w1 (some g) → Calls Tryd.prog 135 #[.pointer (some ⟨g, 1, none⟩), .slice (some ⟨g, 10, none⟩) N 10] w1 fun e w' => WrOk w w' B g b (bs ++ L) e) := ⟨fun w1 hw hg => by
    have h1 := H.out.grown hw hg
    refine (write_calls B g b N 10 0 ⟨g, 10, none⟩ bs L [] w1 h1.1 (Nat.le_trans hB hg.size) (hw.src (by omega)) HN.out H.out.ne (by omega)).mono ?_
    intro e w2 hq
    exact ⟨hq.ret, hq.wr, h1.2.1.trans hq.below, h1.2.2.trans hq.kept⟩⟩
  clear h hL hN hlim hx0 hx1
  have hcv := cutV g
  have hcn := cutVN g N hl
  go_enter Tryd.func138, Tryd.ntmps138
  go_upto_region 2 with (first
    | (go_at_call 143; (with_reducible refine HP.out.mono ?_); rintro e w2 ⟨rfl, hf, hg⟩; have HF := Aside0.mk hf; have HG := Aside0.mk hg; clear hf hg))
  go_region_held3 (fun (V : World) => True) (trivial)
    ((first
      | (go_at_call 135; (with_reducible refine (HWR.out w2.drew HF.out.drew HG.out.drew2).mono ?_); rintro e w3 HQ; obtain rfl := HQ.ret; have HQ := Aside0.mk HQ)
      | fail "no arm"))
  all_goals go_wp2_with (fail)
  all_goals go_ret
  all_goals exact HQ.out
end Go.Proofs.YtcboegodjlfmnaaDoor.Tvc
