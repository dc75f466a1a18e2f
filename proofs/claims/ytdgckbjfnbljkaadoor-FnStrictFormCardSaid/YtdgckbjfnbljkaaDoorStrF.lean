/- The walks of ParseStrict and of impl.Strict. -/
import Derived.Test.YtdgckbjfnbljkaaDoorStrB
import Derived.Test.YtdgckbjfnbljkaaDoorStrE
namespace Go.Proofs.YtdgckbjfnbljkaaDoor.Tm
set_option linter.unusedSimpArgs false
set_option linter.unusedVariables false
open Go.RowKit Go
theorem LocN.ptr {n : Nat} {w : World} {t : Tm} {loc : Value} (h : LocN n w t loc) : ∃ ao, loc = .pointer ao := by
  rcases h with h | ⟨b, zb, tb, h1, _, _, h2⟩
  · exact ⟨_, h.1⟩
  · exact ⟨_, h1⟩
/-- A reading's answers: none, if N; a time, of which F holds. -/
def ReadP (N F : Prop) (w : World) (e : Ending) (w' : World) : Prop := Below w.heap.size w w' ∧
  ((N ∧ e = .returned (.tuple #[.agg #[.int .u64 0, .int .i64 0, .pointer none], .bool false])) ∨ ∃ t loc, e = .returned (.tuple #[tmV t loc, .bool true]) ∧ TmD t ∧ LocN w.heap.size w' t loc ∧ F)
theorem read_any (s : ByteArray) (a : Nat) (w : World) (E : Value) (HE : Hd (w.cell? ⟨2, 0, none⟩ = some E)) (hs : s.size ≤ 2147483647) (hu : UtcAt w a) :
    Calls Tryd.prog 7 #[.string s, .pointer (some ⟨a, 0, none⟩)] w (ReadP True (FormP s) w) := by
  refine (parse_any s a w E HE hs hu).mono ?_
  rintro e w' ⟨hb, h | h⟩
  · exact ⟨hb, .inl ⟨trivial, h⟩⟩
  · exact ⟨hb, .inr h⟩
theorem read_good (s : ByteArray) (a : Nat) (w : World) (HG : Hd (GoodS s)) (hu : UtcAt w a) :
    Calls Tryd.prog 7 #[.string s, .pointer (some ⟨a, 0, none⟩)] w (ReadP False True w) := by
  refine (parse_good s a w HG hu).mono ?_
  rintro e w' ⟨hb, t, loc, rfl, h1, h2⟩
  exact ⟨hb, .inr ⟨t, loc, rfl, h1, h2, trivial⟩⟩
set_option maxRecDepth 100000 in
set_option maxHeartbeats 1600000 in
theorem parseStrict_any (N F : Prop) (s : ByteArray) (w : World)
    (hc : ∀ a w1, UtcAt w1 a → Below w.heap.size w w1 → Calls Tryd.prog 7 #[.string s, .pointer (some ⟨a, 0, none⟩)] w1 (ReadP N F w1)) :
    Calls Tryd.prog 5 #[.string s] w (ReadP N F w) := by
  have HC := hideP hc
  clear hc
  go_enter Tryd.func5, Tryd.ntmps5
  go_wp2_with (fail)
  refine (utc_any _).mono ?_
  rintro e w1 ⟨ub, rfl, hub, hut, hb⟩
  have B1 := hideP ((Blk.new w 33 #[.int .u64 0, .int .i64 0, .pointer none]).kept hb)
  have L1 := hideP (show Below w.heap.size w w1 from (below_alloc w _).trans (hb.mono (by simp)))
  have HU := hideP hut
  clear hub hut hb
  go_wp2_with (fail)
  refine (HC.out ub w1 HU.out L1.out).mono ?_
  rintro e w2 ⟨hb, h | ⟨t, loc, rfl, htd, hl, hf⟩⟩
  · obtain ⟨hn, rfl⟩ := h
    have B2 := hideP (B1.out.kept hb)
    have L2 := hideP (L1.out.trans (hb.mono L1.out.size))
    have HN := hideP hn
    clear hb hn
    obtain ⟨r0, r1, r2, r3, r4, r5, r6, r7, r8⟩ := B2.out.three (.int .u64 0) (.int .i64 0) (.pointer none)
    go_wp2_with (fail)
    refine bodyPost_ret (v := .tuple #[.agg #[.int .u64 0, .int .i64 0, .pointer none], .bool false]) (by simp [results, Tryd.results5, go_sem, r6, r7, r8]) rfl ?_
    exact ⟨((L2.out.setCell (Nat.le_refl _) _).setCell (Nat.le_refl _) _).setCell (Nat.le_refl _) _, .inl ⟨HN.out, rfl⟩⟩
  · have B2 := hideP (B1.out.kept hb)
    have L2 := hideP (L1.out.trans (hb.mono L1.out.size))
    have HTD := hideP htd
    have HLV := hideP hl
    have HF := hideP hf
    have NB := hideP (show w.heap.size < w1.heap.size from B1.out.lt)
    clear hb htd hl hf
    unfold tmV
    obtain ⟨ao, rfl⟩ := HLV.out.ptr
    obtain ⟨r0, r1, r2, r3, r4, r5, r6, r7, r8⟩ := B2.out.three (.int .u64 t.ns) (.int .i64 (unixOf t + 62135596800)) (.pointer ao)
    go_wp2_with (fail)
    refine bodyPost_ret (v := .tuple #[.agg #[.int .u64 t.ns, .int .i64 (unixOf t + 62135596800), .pointer ao], .bool true]) (by simp [results, Tryd.results5, go_sem, r6, r7, r8]) rfl ?_
    exact ⟨((L2.out.setCell (Nat.le_refl _) _).setCell (Nat.le_refl _) _).setCell (Nat.le_refl _) _, .inr ⟨t, .pointer ao, rfl, HTD.out, (((HLV.out.far NB.out 0 _).far NB.out 1 _).far NB.out 2 _).le (Nat.le_of_lt NB.out), HF.out⟩⟩
theorem facts10 {w : World} {g : Nat} {T : TypeId} {a0 a1 a2 a3 a4 a5 a6 a7 a8 a9 : Value} (h : Blk w g T #[a0, a1, a2, a3, a4, a5, a6, a7, a8, a9]) : w.cell? ⟨g, 0, none⟩ = some a0 ∧ w.cell? ⟨g, 1, none⟩ = some a1 ∧ w.cell? ⟨g, 2, none⟩ = some a2 ∧ w.cell? ⟨g, 3, none⟩ = some a3 ∧ w.cell? ⟨g, 4, none⟩ = some a4 ∧ w.cell? ⟨g, 5, none⟩ = some a5 ∧ w.cell? ⟨g, 6, none⟩ = some a6 ∧ w.cell? ⟨g, 7, none⟩ = some a7 ∧ w.cell? ⟨g, 8, none⟩ = some a8 ∧ w.cell? ⟨g, 9, none⟩ = some a9 :=
  ⟨h.cell 0, h.cell 1, h.cell 2, h.cell 3, h.cell 4, h.cell 5, h.cell 6, h.cell 7, h.cell 8, h.cell 9⟩
theorem free10 {w : World} {g : Nat} {T : TypeId} {cur : Array Value} (h : Blk w g T cur) : w.frozen? ⟨g, 0, none⟩ = false ∧ w.frozen? ⟨g, 1, none⟩ = false ∧ w.frozen? ⟨g, 2, none⟩ = false ∧ w.frozen? ⟨g, 3, none⟩ = false ∧ w.frozen? ⟨g, 4, none⟩ = false ∧ w.frozen? ⟨g, 5, none⟩ = false ∧ w.frozen? ⟨g, 6, none⟩ = false ∧ w.frozen? ⟨g, 7, none⟩ = false ∧ w.frozen? ⟨g, 8, none⟩ = false ∧ w.frozen? ⟨g, 9, none⟩ = false :=
  ⟨h.free 0, h.free 1, h.free 2, h.free 3, h.free 4, h.free 5, h.free 6, h.free 7, h.free 8, h.free 9⟩
/-- The block of ten cells, written cell by cell. -/
def setTen (W : World) (g : Nat) (v0 v1 v2 v3 v4 v5 v6 v7 v8 v9 : Value) : World :=
  (((((((((W.setCell ⟨g, 0, none⟩ v0).setCell ⟨g, 1, none⟩ v1).setCell ⟨g, 2, none⟩ v2).setCell ⟨g, 3, none⟩ v3).setCell ⟨g, 4, none⟩ v4).setCell ⟨g, 5, none⟩ v5).setCell ⟨g, 6, none⟩ v6).setCell ⟨g, 7, none⟩ v7).setCell ⟨g, 8, none⟩ v8).setCell ⟨g, 9, none⟩ v9
theorem ten_facts {w W : World} {T : TypeId} {a0 a1 a2 a3 a4 a5 a6 a7 a8 a9 : Value} (hb : Below w.heap.size w W) (h : Blk W w.heap.size T #[a0, a1, a2, a3, a4, a5, a6, a7, a8, a9]) (v0 v1 v2 v3 v4 v5 v6 v7 v8 v9 : Value) :
    Below w.heap.size w (setTen W w.heap.size v0 v1 v2 v3 v4 v5 v6 v7 v8 v9) ∧ Blk (setTen W w.heap.size v0 v1 v2 v3 v4 v5 v6 v7 v8 v9) w.heap.size T #[v0, v1, v2, v3, v4, v5, v6, v7, v8, v9] := by
  have l := Nat.le_refl w.heap.size
  have hz := (((((((((h.set 0 v0).set 1 v1).set 2 v2).set 3 v3).set 4 v4).set 5 v5).set 6 v6).set 7 v7).set 8 v8).set 9 v9
  refine ⟨(((((((((hb.setCell l _).setCell l _).setCell l _).setCell l _).setCell l _).setCell l _).setCell l _).setCell l _).setCell l _).setCell l _, ?_⟩
  unfold setTen
  simpa using hz
/-- What impl.Strict answers. -/
def StrictP (N F : Prop) (w : World) (e : Ending) (w' : World) : Prop := Below w.heap.size w w' ∧ ∃ (a b c d f g h : Int) (s : ByteArray) (o : Int) (q : Bool), e = .returned (.agg #[.int .i64 a, .int .i64 b, .int .i64 c, .int .i64 d, .int .i64 f, .int .i64 g, .int .i64 h, .string s, .int .i64 o, .bool q]) ∧ (q = false → N) ∧ (q = true → F)
set_option maxRecDepth 100000 in
set_option maxHeartbeats 1600000 in
theorem strict_any (N F : Prop) (s : ByteArray) (w : World)
    (hc : ∀ w1, Below w.heap.size w w1 → Calls Tryd.prog 5 #[.string s] w1 (ReadP N F w1)) :
    Calls Tryd.prog 4 #[.string s] w (StrictP N F w) := by
  have HC := hideP hc
  clear hc
  go_enter Tryd.func4, Tryd.ntmps4
  go_wp2_with (fail)
  refine (HC.out _ (below_alloc w _)).mono ?_
  rintro e w1 ⟨hb, h | ⟨t, loc, rfl, htd, hl, hf⟩⟩
  · obtain ⟨hn, rfl⟩ := h
    have B1 := hideP ((Blk.new w 27 #[.int .i64 0, .int .i64 0, .int .i64 0, .int .i64 0, .int .i64 0, .int .i64 0, .int .i64 0, .string ⟨#[]⟩, .int .i64 0, .bool false]).kept hb)
    have L1 := hideP (show Below w.heap.size w w1 from (below_alloc w _).trans (hb.mono (by simp)))
    have HN := hideP hn
    clear hb hn
    have B2 := hideP (B1.out.alloc (.cells #[.int .u64 0, .int .i64 0, .pointer none] 33))
    have L2 := hideP (L1.out.trans ((below_alloc w1 (.cells #[.int .u64 0, .int .i64 0, .pointer none] 33)).mono L1.out.size))
    go_upto_region 2 with (fail)
    generalize (w1.alloc (.cells #[.int .u64 0, .int .i64 0, .pointer none] 33)) = w2 at *
    obtain ⟨c0, c1, c2, c3, c4, c5, c6, c7, c8, c9⟩ := facts10 B2.out
    obtain ⟨f0, f1, f2, f3, f4, f5, f6, f7, f8, f9⟩ := free10 B2.out
    go_wp2_with (fail)
    obtain ⟨hb, ZF⟩ := ten_facts L2.out B2.out (.int .i64 0) (.int .i64 0) (.int .i64 0) (.int .i64 0) (.int .i64 0) (.int .i64 0) (.int .i64 0) (.string ⟨#[]⟩) (.int .i64 0) (.bool false)
    unfold setTen at hb ZF
    revert hb ZF
    generalize ((((((((((w2.setCell ⟨w.heap.size, 0, none⟩ (.int .i64 0)).setCell ⟨w.heap.size, 1, none⟩ (.int .i64 0)).setCell ⟨w.heap.size, 2, none⟩ (.int .i64 0)).setCell ⟨w.heap.size, 3, none⟩ (.int .i64 0)).setCell ⟨w.heap.size, 4, none⟩ (.int .i64 0)).setCell ⟨w.heap.size, 5, none⟩ (.int .i64 0)).setCell ⟨w.heap.size, 6, none⟩ (.int .i64 0)).setCell ⟨w.heap.size, 7, none⟩ (.string ⟨#[]⟩)).setCell ⟨w.heap.size, 8, none⟩ (.int .i64 0)).setCell ⟨w.heap.size, 9, none⟩ (.bool false)) = w3
    intro hb ZF
    have HB := hideP hb
    obtain ⟨e0, e1, e2, e3, e4, e5, e6, e7, e8, e9⟩ := facts10 ZF
    clear hb ZF c0 c1 c2 c3 c4 c5 c6 c7 c8 c9 f0 f1 f2 f3 f4 f5 f6 f7 f8 f9
    refine bodyPost_ret (v := .agg #[.int .i64 0, .int .i64 0, .int .i64 0, .int .i64 0, .int .i64 0, .int .i64 0, .int .i64 0, .string ⟨#[]⟩, .int .i64 0, .bool false]) (by simp [results, Tryd.results4, go_sem, e0, e1, e2, e3, e4, e5, e6, e7, e8, e9]) rfl ?_
    exact ⟨HB.out, 0, 0, 0, 0, 0, 0, 0, ⟨#[]⟩, 0, false, rfl, fun _ => HN.out, fun h => (by cases h)⟩
  · have B1 := hideP ((Blk.new w 27 #[.int .i64 0, .int .i64 0, .int .i64 0, .int .i64 0, .int .i64 0, .int .i64 0, .int .i64 0, .string ⟨#[]⟩, .int .i64 0, .bool false]).kept hb)
    have L1 := hideP (show Below w.heap.size w w1 from (below_alloc w _).trans (hb.mono (by simp)))
    have HTD := hideP htd
    have HLV := hideP hl
    have HF := hideP hf
    clear hb htd hl hf
    unfold tmV
    obtain ⟨ao, rfl⟩ := HLV.out.ptr
    have B2 := hideP (B1.out.alloc (.cells #[.int .u64 t.ns, .int .i64 (unixOf t + 62135596800), .pointer ao] 33))
    have L2 := hideP (L1.out.trans ((below_alloc w1 (.cells #[.int .u64 t.ns, .int .i64 (unixOf t + 62135596800), .pointer ao] 33)).mono L1.out.size))
    have N2 := hideP (Blk.new w1 33 #[.int .u64 t.ns, .int .i64 (unixOf t + 62135596800), .pointer ao])
    have V2 := hideP (HLV.out.locV.kept (below_alloc w1 (.cells #[.int .u64 t.ns, .int .i64 (unixOf t + 62135596800), .pointer ao] 33)))
    go_upto_region 2 with (fail)
    generalize (w1.alloc (.cells #[.int .u64 t.ns, .int .i64 (unixOf t + 62135596800), .pointer ao] 33)) = w2 at *
    obtain ⟨p0, p1, p2⟩ := facts3 N2.out
    go_wp2_with (fail)
    refine (civil_any t (.pointer ao) w2 HTD.out V2.out).mono ?_
    rintro e w4 ⟨zs, rfl, hb⟩
    have B4 := hideP (B2.out.kept hb)
    have L4 := hideP (L2.out.trans (hb.mono L2.out.size))
    clear hb p0 p1 p2
    obtain ⟨c0, c1, c2, c3, c4, c5, c6, c7, c8, c9⟩ := facts10 B4.out
    obtain ⟨f0, f1, f2, f3, f4, f5, f6, f7, f8, f9⟩ := free10 B4.out
    go_wp2_with (fail)
    obtain ⟨hb, ZF⟩ := ten_facts L4.out B4.out (.int .i64 t.y) (.int .i64 t.mo) (.int .i64 t.d) (.int .i64 t.h) (.int .i64 t.mi) (.int .i64 t.s) (.int .i64 t.ns) (.string zs) (.int .i64 t.off) (.bool true)
    unfold setTen at hb ZF
    revert hb ZF
    generalize ((((((((((w4.setCell ⟨w.heap.size, 0, none⟩ (.int .i64 t.y)).setCell ⟨w.heap.size, 1, none⟩ (.int .i64 t.mo)).setCell ⟨w.heap.size, 2, none⟩ (.int .i64 t.d)).setCell ⟨w.heap.size, 3, none⟩ (.int .i64 t.h)).setCell ⟨w.heap.size, 4, none⟩ (.int .i64 t.mi)).setCell ⟨w.heap.size, 5, none⟩ (.int .i64 t.s)).setCell ⟨w.heap.size, 6, none⟩ (.int .i64 t.ns)).setCell ⟨w.heap.size, 7, none⟩ (.string zs)).setCell ⟨w.heap.size, 8, none⟩ (.int .i64 t.off)).setCell ⟨w.heap.size, 9, none⟩ (.bool true)) = w3
    intro hb ZF
    have HB := hideP hb
    obtain ⟨e0, e1, e2, e3, e4, e5, e6, e7, e8, e9⟩ := facts10 ZF
    clear hb ZF c0 c1 c2 c3 c4 c5 c6 c7 c8 c9 f0 f1 f2 f3 f4 f5 f6 f7 f8 f9
    refine bodyPost_ret (v := .agg #[.int .i64 t.y, .int .i64 t.mo, .int .i64 t.d, .int .i64 t.h, .int .i64 t.mi, .int .i64 t.s, .int .i64 t.ns, .string zs, .int .i64 t.off, .bool true]) (by simp [results, Tryd.results4, go_sem, e0, e1, e2, e3, e4, e5, e6, e7, e8, e9]) rfl ?_
    exact ⟨HB.out, t.y, t.mo, t.d, t.h, t.mi, t.s, t.ns, zs, t.off, true, rfl, fun h => (by cases h), fun _ => HF.out⟩
end Go.Proofs.YtdgckbjfnbljkaaDoor.Tm
