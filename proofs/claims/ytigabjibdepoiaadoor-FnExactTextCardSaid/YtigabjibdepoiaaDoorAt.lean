/- The walk of impl.at: the time that is told. -/
import Derived.Deep.RegionHeld3
import Derived.Test.YtigabjibdepoiaaDoorTime3
namespace Go.Proofs.YtigabjibdepoiaaDoor.Tm
set_option linter.unusedSimpArgs false
set_option linter.unusedVariables false
open Go.RowKit Go
def cvV (t : Tm) : Value := .agg #[.int .i64 t.y, .int .i64 t.mo, .int .i64 t.d, .int .i64 t.h, .int .i64 t.mi, .int .i64 t.s, .int .i64 t.ns, .string t.zn, .int .i64 t.off]
def AtPost (t : Tm) (w : World) (e : Ending) (w' : World) : Prop := ∃ loc, e = .returned (tmV t loc) ∧ PlaceAt w' w'.heap.size t loc ∧ Below w.heap.size w w'
/-- The cells of the told time, boxed at g, and the cells of the result behind it. -/
structure CvBox (g : Nat) (t : Tm) (w : World) : Prop where
  c0 : w.cell? ⟨g, 0, none⟩ = some (.int .i64 t.y)
  c1 : w.cell? ⟨g, 1, none⟩ = some (.int .i64 t.mo)
  c2 : w.cell? ⟨g, 2, none⟩ = some (.int .i64 t.d)
  c3 : w.cell? ⟨g, 3, none⟩ = some (.int .i64 t.h)
  c4 : w.cell? ⟨g, 4, none⟩ = some (.int .i64 t.mi)
  c5 : w.cell? ⟨g, 5, none⟩ = some (.int .i64 t.s)
  c6 : w.cell? ⟨g, 6, none⟩ = some (.int .i64 t.ns)
  c7 : w.cell? ⟨g, 7, none⟩ = some (.string t.zn)
  c8 : w.cell? ⟨g, 8, none⟩ = some (.int .i64 t.off)
  r0 : w.cell? ⟨g + 1, 0, none⟩ = some (.int .u64 0)
  r1 : w.cell? ⟨g + 1, 1, none⟩ = some (.int .i64 0)
  r2 : w.cell? ⟨g + 1, 2, none⟩ = some (.pointer none)
  f0 : w.frozen? ⟨g + 1, 0, none⟩ = false
  f1 : w.frozen? ⟨g + 1, 1, none⟩ = false
  f2 : w.frozen? ⟨g + 1, 2, none⟩ = false
  row : ∃ T, w.heap[g + 1]? = some (.cells #[.int .u64 0, .int .i64 0, .pointer none] T (0, 0))
theorem CvBox.kept {g : Nat} {t : Tm} {w w' : World} (h : CvBox g t w) (hb : Below w.heap.size w w') : CvBox g t w' := by
  have k : ∀ (p : Addr) (v : Value), w.cell? p = some v → w'.cell? p = some v := fun p v hc => (hb.cell (World.block_lt_of_cell? _ _ hc)).trans hc
  have lt : g + 1 < w.heap.size := World.block_lt_of_cell? _ _ h.r0
  have f : ∀ i, w'.frozen? ⟨g + 1, i, none⟩ = w.frozen? ⟨g + 1, i, none⟩ := fun i => hb.frozen (p := ⟨g + 1, i, none⟩) lt
  exact ⟨k _ _ h.c0, k _ _ h.c1, k _ _ h.c2, k _ _ h.c3, k _ _ h.c4, k _ _ h.c5, k _ _ h.c6, k _ _ h.c7, k _ _ h.c8, k _ _ h.r0, k _ _ h.r1, k _ _ h.r2, (f 0).trans h.f0, (f 1).trans h.f1, (f 2).trans h.f2, h.row.imp fun T ht => (hb.block (g + 1) lt).trans ht⟩
theorem CvBox.drew {g : Nat} {t : Tm} {w : World} (h : CvBox g t w) : CvBox g t w.drew := h.kept ((Below.refl _ _).drew)
theorem cv_box (t : Tm) (w : World) (T T2 : TypeId) : CvBox w.heap.size t ((w.alloc (.cells #[.int .i64 t.y, .int .i64 t.mo, .int .i64 t.d, .int .i64 t.h, .int .i64 t.mi, .int .i64 t.s, .int .i64 t.ns, .string t.zn, .int .i64 t.off] T)).alloc (.cells #[.int .u64 0, .int .i64 0, .pointer none] T2)) := by
  generalize ho1 : (Obj.cells #[Value.int .i64 t.y, Value.int .i64 t.mo, Value.int .i64 t.d, Value.int .i64 t.h, Value.int .i64 t.mi, Value.int .i64 t.s, Value.int .i64 t.ns, Value.string t.zn, Value.int .i64 t.off] T) = o1
  generalize ho2 : (Obj.cells #[Value.int .u64 0, Value.int .i64 0, Value.pointer none] T2) = o2
  have s1 : (w.alloc o1).heap.size = w.heap.size + 1 := by simp
  have g2 := heap_alloc_new (w.alloc o1) o2
  rw [s1] at g2
  have g1 := (Below.heap_alloc (w.alloc o1) o2 w.heap.size (by omega)).trans (heap_alloc_new w o1)
  subst ho1 ho2
  exact ⟨cell_of_row _ _ 0 _ _ (0, 0) g1, cell_of_row _ _ 1 _ _ (0, 0) g1, cell_of_row _ _ 2 _ _ (0, 0) g1, cell_of_row _ _ 3 _ _ (0, 0) g1, cell_of_row _ _ 4 _ _ (0, 0) g1, cell_of_row _ _ 5 _ _ (0, 0) g1, cell_of_row _ _ 6 _ _ (0, 0) g1, cell_of_row _ _ 7 _ _ (0, 0) g1, cell_of_row _ _ 8 _ _ (0, 0) g1,
    cell_of_row _ _ 0 _ _ (0, 0) g2, cell_of_row _ _ 1 _ _ (0, 0) g2, cell_of_row _ _ 2 _ _ (0, 0) g2, frozen_of_row _ _ 0 _ _ g2, frozen_of_row _ _ 1 _ _ g2, frozen_of_row _ _ 2 _ _ g2, T2, g2⟩
def DateP (t : Tm) (b : Nat) (R : Nat → Prop) (w : World) (e : Ending) (w' : World) : Prop := ∃ ao : Option Addr, e = .returned (.agg #[.int .u64 t.ns, .int .i64 (unixOf t + 62135596800), .pointer ao]) ∧ ((ao = none ∧ t.zn = utcB ∧ t.off = 0) ∨ ∃ zb tb, ao = some ⟨b, 0, none⟩ ∧ R zb ∧ LocAt w' b t.zn t.off zb tb) ∧ Below w.heap.size w w'
theorem dateP_any (t : Tm) (b : Nat) (R : Nat → Prop) (w : World) (h : TmOk t) (hL : (UtcAt w b ∧ t.zn = utcB ∧ t.off = 0) ∨ ∃ zb tb, R zb ∧ LocAt w b t.zn t.off zb tb) :
    Calls Tryd.prog 72 #[.int .i64 t.y, .int .i64 t.mo, .int .i64 t.d, .int .i64 t.h, .int .i64 t.mi, .int .i64 t.s, .int .i64 t.ns, .pointer (some ⟨b, 0, none⟩)] w (DateP t b R w) := by
  rcases hL with ⟨h1, h2, h3⟩ | ⟨zb, tb, hr, h1⟩
  · exact (date_utc t b w h h1 h3).mono fun e w' ⟨he, hb⟩ => ⟨none, he, .inl ⟨rfl, h2, h3⟩, hb⟩
  · exact (date_loc t b zb tb w h h1).mono fun e w' ⟨he, hb⟩ => ⟨some ⟨b, 0, none⟩, he, .inr ⟨zb, tb, rfl, hr, h1.kept hb⟩, hb⟩
theorem loc_set {w : World} {b : Nat} {s : ByteArray} {z : Int} {zb tb g : Nat} (h : LocAt w b s z zb tb) (hb : b ≠ g) (hz : zb ≠ g) (x y v : Value) : LocAt (((w.setCell ⟨g, 0, none⟩ x).setCell ⟨g, 1, none⟩ y).setCell ⟨g, 2, none⟩ v) b s z zb tb := by
  have k : ∀ (p : Addr) (u : Value), p.block ≠ g → w.cell? p = some u → (((w.setCell ⟨g, 0, none⟩ x).setCell ⟨g, 1, none⟩ y).setCell ⟨g, 2, none⟩ v).cell? p = some u := by
    intro p u hp hc
    rw [World.cell?_setCell_other _ _ p _ (fun e => hp (by rw [← e])), World.cell?_setCell_other _ _ p _ (fun e => hp (by rw [← e])), World.cell?_setCell_other _ _ p _ (fun e => hp (by rw [← e]))]
    exact hc
  exact ⟨k _ _ hb h.c0, k _ _ hb h.c1, k _ _ hb h.c2, k _ _ hb h.c3, k _ _ hb h.c5, k _ _ hb h.c6, k _ _ hb h.c7, k _ _ hz h.z0, k _ _ hz h.z1, k _ _ hz h.z2⟩
set_option maxRecDepth 100000 in
set_option maxHeartbeats 1600000 in
theorem at_any (t : Tm) (w : World) (h : TmOk t) : Calls Tryd.prog 51 #[cvV t] w (AtPost t w) := by
  have HH := hideP h
  clear h
  unfold cvV
  go_enter Tryd.func51, Tryd.ntmps51
  go_wp2
  have hbox : CvBox w.heap.size t ((w.alloc (.cells #[.int .i64 t.y, .int .i64 t.mo, .int .i64 t.d, .int .i64 t.h, .int .i64 t.mi, .int .i64 t.s, .int .i64 t.ns, .string t.zn, .int .i64 t.off] 28)).alloc (.cells #[.int .u64 0, .int .i64 0, .pointer none] 61)) := cv_box t w _ _
  have HB := hideP (show Below w.heap.size w ((w.alloc (.cells #[.int .i64 t.y, .int .i64 t.mo, .int .i64 t.d, .int .i64 t.h, .int .i64 t.mi, .int .i64 t.s, .int .i64 t.ns, .string t.zn, .int .i64 t.off] 28)).alloc (.cells #[.int .u64 0, .int .i64 0, .pointer none] 61)) from (below_alloc w _).alloc (by simp) _)
  generalize (w.alloc (.cells #[.int .i64 t.y, .int .i64 t.mo, .int .i64 t.d, .int .i64 t.h, .int .i64 t.mi, .int .i64 t.s, .int .i64 t.ns, .string t.zn, .int .i64 t.off] 28)).alloc (.cells #[.int .u64 0, .int .i64 0, .pointer none] 61) = w0 at *
  generalize hg : w.heap.size = g at *
  have HG := hideP hg
  clear hg
  have hbox' := hbox
  obtain ⟨c0, c1, c2, c3, c4, c5, c6, c7, c8, r0, r1, r2, f0, f1, f2, _⟩ := hbox
  have HX := hideP hbox'
  clear hbox'
  go_region_held3 (fun w' => w'.cell? ⟨g, 0, none⟩ = some (.int .i64 t.y) ∧ w'.cell? ⟨g, 1, none⟩ = some (.int .i64 t.mo) ∧ w'.cell? ⟨g, 2, none⟩ = some (.int .i64 t.d) ∧ w'.cell? ⟨g, 3, none⟩ = some (.int .i64 t.h) ∧ w'.cell? ⟨g, 4, none⟩ = some (.int .i64 t.mi) ∧ w'.cell? ⟨g, 5, none⟩ = some (.int .i64 t.s) ∧ w'.cell? ⟨g, 6, none⟩ = some (.int .i64 t.ns) ∧ w'.cell? ⟨g, 7, none⟩ = some (.string t.zn) ∧ w'.cell? ⟨g, 8, none⟩ = some (.int .i64 t.off)) (go_keep)
    (first
      | (go_at_call 73; refine (place_any t _ HH.out).mono ?_; rintro e w1 ⟨b, rfl, hb1, hp1, hbel1⟩; have HX1 := hideP (HX.out.drew.kept hbel1); have HB1 := hideP hb1; have HP1 := hideP hp1; have HE1 := hideP hbel1; obtain ⟨c0', c1', c2', c3', c4', c5', c6', c7', c8', r0', r1', r2', f0', f1', f2', _⟩ := HX1.out; clear hb1 hp1 hbel1)
      | (go_at_call 72; refine (dateP_any t b (fun z => w0.drew.heap.size ≤ z) w1 HH.out HP1.out).mono ?_; rintro e w2 ⟨ao, rfl, hpl, hbel2⟩; have HU := hideP hpl; have HE2 := hideP hbel2; obtain ⟨c0'', c1'', c2'', c3'', c4'', c5'', c6'', c7'', c8'', r0'', r1'', r2'', f0'', f1'', f2'', Ty, hrow⟩ := HX1.out.kept hbel2; have HR := hideP hrow; clear hrow; clear hpl hbel2))
  go_wp2
  have r3 := fun x y z => row3 x y z HR.out
  have lt0 : g + 1 < w0.heap.size := World.block_lt_of_cell? _ _ HX.out.r0
  have e0 : w0.drew.heap.size = w0.heap.size := rfl
  have s1 := HE1.out.size
  have s2 := HE2.out.size
  refine bodyPost_ret (v := .agg #[.int .u64 t.ns, .int .i64 (unixOf t + 62135596800), .pointer ao]) (by simp [results, Tryd.results51, go_sem, r3]) rfl ⟨.pointer ao, rfl, ?_, ?_⟩
  · rcases HU.out with ⟨rfl, hz, ho⟩ | ⟨zb, tb, rfl, hR, hl⟩
    · exact .inl ⟨rfl, hz, ho⟩
    · have hb2 := HB1.out
      have hl2 := loc_set (g := g + 1) hl (by omega) (by omega) (.int .u64 t.ns) (.int .i64 (unixOf t + 62135596800)) (.pointer (some ⟨b, 0, none⟩))
      exact .inr ⟨b, zb, tb, rfl, World.block_lt_of_cell? _ _ hl2.c0, World.block_lt_of_cell? _ _ hl2.z0, hl2⟩
  · have hbg : Below g w w2 := (HB.out.trans (((Below.refl _ _).drew).trans (HE1.out.mono (by omega)))).trans (HE2.out.mono (by omega))
    rw [HG.out]
    exact ((hbg.setCell (show g ≤ (⟨g + 1, 0, none⟩ : Addr).block from Nat.le_succ g) _).setCell (show g ≤ (⟨g + 1, 1, none⟩ : Addr).block from Nat.le_succ g) _).setCell (show g ≤ (⟨g + 1, 2, none⟩ : Addr).block from Nat.le_succ g) _
end Go.Proofs.YtigabjibdepoiaaDoor.Tm
