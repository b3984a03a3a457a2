import Derived.Test.YtcboegodjlfmnaaDoorSlTvh
import Derived.Test.YtcboegodjlfmnaaDoorSlTpw
namespace Go.Proofs.YtcboegodjlfmnaaDoor.Tvi
open Go.Proofs.YtcboegodjlfmnaaDoor.Trh Go.Proofs.YtcboegodjlfmnaaDoor.Tpw Go.Proofs.YtcboegodjlfmnaaDoor.Tvh Go.Proofs.YtcboegodjlfmnaaDoor.Tvg Go.Proofs.YtcboegodjlfmnaaDoor.Tvf Go.Proofs.YtcboegodjlfmnaaDoor.Tva Go.Proofs.YtcboegodjlfmnaaDoor.Tzq Go.Proofs.YtcboegodjlfmnaaDoor.Tpv Go.Proofs.YtcboegodjlfmnaaDoor.Tap Go.Proofs.YtcboegodjlfmnaaDoor.Tzm Go.Proofs.YtcboegodjlfmnaaDoor.Tzl Go.Proofs.YtcboegodjlfmnaaDoor.Duv Go.Proofs.YtcboegodjlfmnaaDoor.Tve Go.Proofs.YtcboegodjlfmnaaDoor.Tvc Go.Proofs.YtcboegodjlfmnaaDoor.Tvd Go.Proofs.YtcboegodjlfmnaaDoor.Tpa Go.Proofs.YtcboegodjlfmnaaDoor.Tvb Go.Proofs.YtcboegodjlfmnaaDoor.Tvo Go.Proofs.YtcboegodjlfmnaaDoor.Sbu Go.Proofs.YtcboegodjlfmnaaDoor.Dpu Go.Proofs.YtcboegodjlfmnaaDoor.Pak Go.Proofs.YtcboegodjlfmnaaDoor.Buf Go.Proofs.YtcboegodjlfmnaaDoor.Fit Go.Proofs.YtcboegodjlfmnaaDoor.Bit Go.Proofs.YtcboegodjlfmnaaDoor.Wrd Go.Proofs.YtcboegodjlfmnaaDoor.Spl Go.Proofs.YtcboegodjlfmnaaDoor.Str Go.Proofs.YtcboegodjlfmnaaDoor.Flt Go.Proofs.YtcboegodjlfmnaaDoor.Owe Go.Proofs.YtcboegodjlfmnaaDoor.Num Go.Proofs.YtcboegodjlfmnaaDoor.Le Go.Proofs.YtcboegodjlfmnaaDoor.Lst Go.Proofs.YtcboegodjlfmnaaDoor.Aid Go.RowKit Go.Proofs.YtcboegodjlfmnaaDoorW.PrintWords Go.Proofs.YtcboegodjlfmnaaDoorW.PrintLast Go.Proofs.YtcboegodjlfmnaaDoorW.PrintMore
set_option linter.unusedVariables false
set_option linter.unusedSimpArgs false
abbrev wcs (pv : Option Addr) (b : Nat) : Array Value := #[.pointer pv, .int .u8 0, .int .u8 0, .int .u8 0, .int .u8 0, .int .u8 0, .int .u8 0, .int .u8 0, .int .u8 0, buV b, .int .u8 0, .int .u8 0, .int .u8 0, .int .u8 0, .int .u8 0, .int .u8 0, .int .u8 0, .int .u8 0, .int .u8 0, .int .u8 0]
set_option maxHeartbeats 4000000 in
set_option maxRecDepth 100000 in
theorem newWriter_calls (pv : Option Addr) (b : Nat) (w : World) :
    Calls Tryd.prog 41 #[.pointer pv, buV b] w fun e w' => e = .returned (wrV w.heap.size) ∧ w' = w.alloc (.cells (wcs pv b) 166) := by
  go_enter Tryd.func41, Tryd.ntmps41
  go_wp2_with (fail)
  go_ret
  exact ⟨rfl, rfl⟩
structure WzOk (w w' : World) (bs : List Int) (e : Ending) : Prop where
  mk :: (out : ∃ v, e = .returned (.tuple #[v, .nilIface]) ∧ Own w' w.heap.size 5 .u8 v bs) (below : Below w.heap.size w w')
abbrev vcs (x : N) (A1 : Option Addr) (c1 : Nat) (A2 : Option Addr) (c2 : Nat) (A3 : Option Addr) (c3 : Nat) : List Value := [.int .i8 x.d.ty, .bool x.d.bo, .int .i64 x.d.n, .float .f64 x.d.bits, .slice A1 x.d.bs.length c1, .int .i8 x.d.ky, .int .i8 x.d.el, .slice A2 x.ls.len c2, .slice A3 x.fs.len c3]
theorem wrb_new {w W : World} {b : Nat} {pv : Option Addr} (hB : w.heap.size ≤ W.heap.size) (hb : w.heap.size ≤ b) (hbk : Blk W b #[.slice none 0 0, .int .i64 0, .int .i8 0] 95) : WrB (W.alloc (.cells (wcs pv b) 166)) w.heap.size W.heap.size b [] := by
  have hlt := hbk.lt
  have hw := Blk.new W (wcs pv b) 166
  refine ⟨hB, hb, by omega, ⟨wcs pv b, hw, rfl, rfl, fun j h1 h9 => ?_, fun j hj => absurd hj (Nat.not_lt_zero _)⟩, hb, .slice none 0 0, 0, (hbk.alloc _).out, World.ownsRow_nil _ _ _ _, by simp [Value.ownBlock]⟩
  have : j = 1 ∨ j = 2 ∨ j = 3 ∨ j = 4 ∨ j = 5 ∨ j = 6 ∨ j = 7 ∨ j = 8 := by omega
  rcases this with rfl | rfl | rfl | rfl | rfl | rfl | rfl | rfl <;> exact ⟨0, rfl⟩
set_option maxHeartbeats 8000000 in
set_option maxRecDepth 100000 in
theorem zzWriteTop_calls (x : N) (dd : Nat) (A1 : Option Addr) (c1 : Nat) (A2 : Option Addr) (c2 : Nat) (A3 : Option Addr) (c3 : Nat) (w : World) (hok : x.ok dd false) (hin : x.In flV w (fun k => k < w.heap.size) (vcs x A1 c1 A2 c2 A3 c3)) (hlen : (x.byB false).length ≤ 80000000) :
    Calls Tryd.prog 32 #[.agg #[.int .i8 x.d.ty, .bool x.d.bo, .int .i64 x.d.n, .float .f64 x.d.bits, .slice A1 x.d.bs.length c1, .int .i8 x.d.ky, .int .i8 x.d.el, .slice A2 x.ls.len c2, .slice A3 x.fs.len c3]] w fun e w' => WzOk w w' (x.byB false) e := by
  obtain ⟨V, hV⟩ : ∃ V, (Obj.cells #[.int .i8 x.d.ty, .bool x.d.bo, .int .i64 x.d.n, .float .f64 x.d.bits, .slice A1 x.d.bs.length c1, .int .i8 x.d.ky, .int .i8 x.d.el, .slice A2 x.ls.len c2, .slice A3 x.fs.len c3] 60) = V := ⟨_, rfl⟩
  have HZ : Aside0 (∀ W pv, w.heap.size ≤ W.heap.size → Below w.heap.size w W → Blk W (w.heap.size + 1) #[.slice none 0 0, .int .i64 0, .int .i8 0] 95 → Calls Tryd.prog 40 #[wrV W.heap.size, .agg #[.int .i8 x.d.ty, .bool x.d.bo, .int .i64 x.d.n, .float .f64 x.d.bits, .slice A1 x.d.bs.length c1, .int .i8 x.d.ky, .int .i8 x.d.el, .slice A2 x.ls.len c2, .slice A3 x.fs.len c3]] (W.alloc (.cells (wcs pv (w.heap.size + 1)) 166)) fun e w' => WrOk (W.alloc (.cells (wcs pv (w.heap.size + 1)) 166)) w' w.heap.size W.heap.size (w.heap.size + 1) (x.byB false) e) := ⟨fun W pv hs hb hk => by
    have h := zzWrite_all x dd w.heap.size W.heap.size (w.heap.size + 1) [] (W.alloc (.cells (wcs pv (w.heap.size + 1)) 166)) (vcs x A1 c1 A2 c2 A3 c3) hok (hin.move (fun k hk => (hb.alloc hs _).block k hk) (fun k hk => hk)) (wrb_new hs (by omega) hk) (by rw [allocSize]; omega) (by simpa using hlen)
    rw [List.nil_append] at h
    exact h⟩
  obtain ⟨W2, hW2⟩ : ∃ W2, (w.alloc V).alloc (.cells #[.slice none 0 0, .int .i64 0, .int .i8 0] 95) = W2 := ⟨_, rfl⟩
  have HS2 : W2.heap.size = w.heap.size + 2 := by rw [← hW2, allocSize, allocSize]
  have HK2 : Aside0 (Blk W2 (w.heap.size + 1) #[.slice none 0 0, .int .i64 0, .int .i8 0] 95) := ⟨by have h := Blk.new (w.alloc V) #[.slice none 0 0, .int .i64 0, .int .i8 0] 95; rw [allocSize] at h; rw [← hW2]; exact h⟩
  have HB2 : Aside0 (Below w.heap.size w W2) := ⟨by rw [← hW2]; exact ((Below.refl _ _).alloc (Nat.le_refl _) _).alloc (by rw [allocSize]; omega) _⟩
  have HV2 : Aside0 (Blk W2 w.heap.size #[.int .i8 x.d.ty, .bool x.d.bo, .int .i64 x.d.n, .float .f64 x.d.bits, .slice A1 x.d.bs.length c1, .int .i8 x.d.ky, .int .i8 x.d.el, .slice A2 x.ls.len c2, .slice A3 x.fs.len c3] 60) := ⟨by rw [← hW2, ← hV]; exact (Blk.new w _ _).alloc _⟩
  have hst := fun (f : Nat) (a : Addr) (W : World) m => run_store Tryd.prog W a (.float .f64 f) m rfl
  obtain ⟨BX, hBX⟩ : ∃ BX, x.byB false = BX := ⟨_, rfl⟩
  rw [hBX] at HZ ⊢
  clear hok hin hlen hBX
  have HX : ∀ W, Blk W w.heap.size #[.int .i8 x.d.ty, .bool x.d.bo, .int .i64 x.d.n, .float .f64 x.d.bits, .slice A1 x.d.bs.length c1, .int .i8 x.d.ky, .int .i8 x.d.el, .slice A2 x.ls.len c2, .slice A3 x.fs.len c3] 60 → W.cell? ⟨w.heap.size, 0, none⟩ = some (.int .i8 x.d.ty) ∧ W.cell? ⟨w.heap.size, 1, none⟩ = some (.bool x.d.bo) ∧ W.cell? ⟨w.heap.size, 2, none⟩ = some (.int .i64 x.d.n) ∧ W.cell? ⟨w.heap.size, 3, none⟩ = some (.float .f64 x.d.bits) ∧ W.cell? ⟨w.heap.size, 4, none⟩ = some (.slice A1 x.d.bs.length c1) ∧ W.cell? ⟨w.heap.size, 5, none⟩ = some (.int .i8 x.d.ky) ∧ W.cell? ⟨w.heap.size, 6, none⟩ = some (.int .i8 x.d.el) ∧ W.cell? ⟨w.heap.size, 7, none⟩ = some (.slice A2 x.ls.len c2) ∧ W.cell? ⟨w.heap.size, 8, none⟩ = some (.slice A3 x.fs.len c3) := fun W h => by
    obtain ⟨q0, q1, q2, q3, q4, q5, q6, q7, q8, qz⟩ := nine h
    exact ⟨q0, q1, q2, q3, q4, q5, q6, q7, q8⟩
  have HXA := Aside0.mk HX
  obtain ⟨W3, hW3⟩ : ∃ W3, (W2.alloc (.cells #[] 79)).drew = W3 := ⟨_, rfl⟩
  have HS3 : W3.heap.size = w.heap.size + 3 := by rw [← hW3]; show (W2.alloc _).heap.size = _; rw [allocSize, HS2]
  have HB3 : Aside0 (Below W2.heap.size W2 W3) := ⟨by rw [← hW3]; exact ((Below.refl _ _).alloc (Nat.le_refl _) _).drew⟩
  have HK3 : Aside0 (Blk W3 (w.heap.size + 1) #[.slice none 0 0, .int .i64 0, .int .i8 0] 95) := ⟨HK2.out.below HB3.out HK2.out.lt⟩
  have HBd : Aside0 (Below W2.heap.size W2 W2.drew) := ⟨(Below.refl _ _).drew⟩
  have HSS2 := Aside0.mk HS2
  have HSS3 := Aside0.mk HS3
  clear HX HS2 HS3
  go_enter Tryd.func32, Tryd.ntmps32
  go_upto_region 2 with (fail)
  try rw [hV, hW2]
  clear hV hW2
  go_region_held3 (fun (W : World) => W.cell? ⟨w.heap.size, 0, none⟩ = some (.int .i8 x.d.ty) ∧ W.cell? ⟨w.heap.size, 1, none⟩ = some (.bool x.d.bo) ∧ W.cell? ⟨w.heap.size, 2, none⟩ = some (.int .i64 x.d.n) ∧ W.cell? ⟨w.heap.size, 3, none⟩ = some (.float .f64 x.d.bits) ∧ W.cell? ⟨w.heap.size, 4, none⟩ = some (.slice A1 x.d.bs.length c1) ∧ W.cell? ⟨w.heap.size, 5, none⟩ = some (.int .i8 x.d.ky) ∧ W.cell? ⟨w.heap.size, 6, none⟩ = some (.int .i8 x.d.el) ∧ W.cell? ⟨w.heap.size, 7, none⟩ = some (.slice A2 x.ls.len c2) ∧ W.cell? ⟨w.heap.size, 8, none⟩ = some (.slice A3 x.fs.len c3))
    (first
      | with_reducible exact HXA.out _ HV5.out
      | with_reducible exact HXA.out _ (HV2.out.below HB4.out HV2.out.lt)
      | with_reducible exact HXA.out _ (HV2.out.below HB3.out HV2.out.lt)
      | with_reducible exact HXA.out _ (hW3 ▸ HV2.out.below HB3.out HV2.out.lt)
      | with_reducible exact HXA.out _ HV2.out.drew)
    ((first
      | (go_at_call 41; (try rw [hW3]); (with_reducible refine (newWriter_calls _ _ _).mono ?_); rintro e w4 ⟨rfl, rfl⟩; have HB4 := Aside0.mk (HB3.out.alloc HB3.out.size (.cells (wcs (some ⟨W2.heap.size, 0, none⟩) (w.heap.size + 1)) 166)))
      | (go_at_call 40; (with_reducible refine (HZ.out W3 _ (by have := HSS3.out; omega) (HB2.out.trans (HB3.out.mono HB2.out.size)) HK3.out).mono ?_); rintro e w5 HR; obtain rfl := HR.ret; have HR5 := Aside0.mk HR; clear HR; have HV5 := Aside0.mk (HR5.out.kept.blk (HV2.out.below HB4.out HV2.out.lt) (by have := HSS3.out; omega) (by omega) (by decide)))
      | fail "no arm"))
  all_goals
    have HBY := Aside0.mk (bufBytes w.heap.size (w.heap.size + 1) (nums .u8 BX) w5 HR5.out.wr.buf)
    go_wp2_with (first
      | (go_at_call 42; (with_reducible refine HBY.out.mono ?_); rintro e w6 ⟨v6, rfl, ho, nn, rfl⟩; have HO6 := Aside0.mk ho; clear ho))
    go_ret2
    exact ⟨⟨v6, rfl, ⟨by have h := HO6.out; rw [nums_len] at h; exact h⟩⟩, (HB2.out.trans (HB4.out.mono HB2.out.size)).trans (HR5.out.below.trans ((drewN_below _ _).mono (by have := HR5.out.wr.lt; have := HR5.out.wr.hb; omega)))⟩
theorem ownLow {w : World} {b b2 t : Nat} {k : IntKind} {v : Value} {xs : List Int} (h : Own w b t k v xs) (hb : b2 ≤ b) : Own w b2 t k v xs := by
  obtain ⟨h1, h2⟩ := h.out
  refine ⟨⟨h1, ?_⟩⟩
  rcases h2 with h2 | ⟨g, cap, cur, e, h3, h4⟩
  · exact .inl h2
  · exact .inr ⟨g, cap, cur, e, Nat.le_trans hb h3, h4⟩
structure WtOk (w w' : World) (bs : List Int) (e : Ending) : Prop where
  mk :: (out : ∃ v, e = .returned (.tuple #[v, .bool true]) ∧ Own w' w.heap.size 5 .u8 v bs) (below : Below w.heap.size w w')
theorem vo_all (x : N) (ihl : F.all Vo x.ls) (ihf : F.all Vo x.fs) : Vo x := valueOf_calls x ihl ihf
theorem valueOf_all (x : N) : Vo x := vo_all x (F.induct vo_all x.ls) (F.induct vo_all x.fs)
set_option maxHeartbeats 8000000 in
set_option maxRecDepth 100000 in
theorem writeThing_calls (x : N) (dd : Nat) (hwf : NWf x) (A1 : Option Addr) (n1 c1 : Nat) (A2 : Option Addr) (n2 c2 : Nat) (A3 : Option Addr) (n3 c3 : Nat) (w : World) (hok : x.ok dd false) (hin : x.In flT w (fun k => k < w.heap.size) [.int .i64 x.d.ty, .bool x.d.bo, .int .i64 x.d.n, .int .u64 (x.d.bits : Int), .slice A1 n1 c1, .int .i64 x.d.ky, .int .i64 x.d.el, .slice A2 n2 c2, .slice A3 n3 c3]) (hlen : (x.byB false).length ≤ 80000000) :
    Calls Tryd.prog 18 #[.agg #[.int .i64 x.d.ty, .bool x.d.bo, .int .i64 x.d.n, .int .u64 (x.d.bits : Int), .slice A1 n1 c1, .int .i64 x.d.ky, .int .i64 x.d.el, .slice A2 n2 c2, .slice A3 n3 c3]] w fun e w' => WtOk w w' (x.byB false) e := by
  have HB : Aside0 (Below w.heap.size w (w.alloc (.cells #[.int .i64 x.d.ty, .bool x.d.bo, .int .i64 x.d.n, .int .u64 (x.d.bits : Int), .slice A1 n1 c1, .int .i64 x.d.ky, .int .i64 x.d.el, .slice A2 n2 c2, .slice A3 n3 c3] 27))) := ⟨(Below.refl _ _).alloc (Nat.le_refl _) _⟩
  have HV := Aside0.mk (Blk.new w #[.int .i64 x.d.ty, .bool x.d.bo, .int .i64 x.d.n, .int .u64 (x.d.bits : Int), .slice A1 n1 c1, .int .i64 x.d.ky, .int .i64 x.d.el, .slice A2 n2 c2, .slice A3 n3 c3] 27)
  have HVO : Aside0 (∀ V, Below w.heap.size w V → Calls Tryd.prog 33 #[.agg #[.int .i64 x.d.ty, .bool x.d.bo, .int .i64 x.d.n, .int .u64 (x.d.bits : Int), .slice A1 n1 c1, .int .i64 x.d.ky, .int .i64 x.d.el, .slice A2 n2 c2, .slice A3 n3 c3]] V fun e w' => VoOk V w' x e) := ⟨fun V hb => valueOf_all x hwf V _ (hin.move (fun b h => hb.block b h) (fun b h => Nat.lt_of_lt_of_le h hb.size))⟩
  have HOK := Aside0.mk hok
  have HLN := Aside0.mk hlen
  clear hin hwf hok hlen
  go_enter Tryd.func18, Tryd.ntmps18
  go_upto_region 1 with (fail)
  generalize hW : World.alloc _ _ = W at HB HV ⊢
  clear hW
  obtain ⟨q0, q1, q2, q3, q4, q5, q6, q7, q8, qz⟩ := nine HV.out
  go_upto_region 2 with (first
    | (go_at_call 33; (with_reducible refine (HVO.out _ HB.out).mono ?_); rintro e w2 HQ; obtain ⟨cs2, rfl, hx⟩ := HQ.out; obtain ⟨B1, d1, B2, d2, B3, d3, _, _, he, _⟩ := openVc hx; subst he; have HX : Aside0 (x.In flV w2 (fun k => k < w2.heap.size) (vcs x B1 d1 B2 d2 B3 d3)) := ⟨hx.move (fun _ _ => rfl) (fun b hb => by rcases hb with ⟨h1, _⟩ | ⟨_, h2⟩; exact absurd h1 (Nat.not_lt_zero _); exact h2)⟩; have HB2 := Aside0.mk (HB.out.trans (HQ.below.mono HB.out.size)); clear HQ hx)
    | (go_at_call 32; (with_reducible refine (zzWriteTop_calls x dd B1 d1 B2 d2 B3 d3 w2 HOK.out HX.out HLN.out).mono ?_); rintro e w3 HQ; obtain ⟨v3, rfl, ho⟩ := HQ.out; have HO3 := Aside0.mk (ownLow ho HB2.out.size); have HB3 := Aside0.mk (HB2.out.trans (HQ.below.mono HB2.out.size)); clear HQ ho))
  go_wp2_with (go_quiet (fail))
  go_ret2
  exact ⟨⟨v3, rfl, HO3.out.drewN _⟩, HB3.out.trans ((drewN_below _ _).mono HB3.out.size)⟩
end Go.Proofs.YtcboegodjlfmnaaDoor.Tvi
