/- Str3: what is needed here. -/
import Derived.Test.YtdgckbjfnbljkaaDoorProg
import Derived.Test.YtdgckbjfnbljkaaDoorStr2
namespace Go.Proofs.YtdgckbjfnbljkaaDoor.Tm
set_option linter.unusedSimpArgs false
set_option linter.unusedVariables false
open Go.RowKit Go
/-- A block of cells, none frozen. -/
def Blk (w : World) (g : Nat) (T : TypeId) (cur : Array Value) : Prop := w.heap[g]? = some (.cells cur T (0, 0))
section
variable {w w' : World} {g : Nat} {T : TypeId} {cur : Array Value}
theorem Blk.lt (h : Blk w g T cur) : g < w.heap.size := (Array.getElem?_eq_some_iff.1 h).1
theorem Blk.kept (h : Blk w g T cur) (hb : Below w.heap.size w w') : Blk w' g T cur := (hb.block g h.lt).trans h
theorem Blk.alloc (h : Blk w g T cur) (o : Obj) : Blk (w.alloc o) g T cur := h.kept (below_alloc w o)
theorem Blk.new (w : World) (T : TypeId) (cur : Array Value) : Blk (w.alloc (.cells cur T)) w.heap.size T cur := heap_alloc_new w _
theorem Blk.set (h : Blk w g T cur) (i : Nat) (v : Value) : Blk (w.setCell ⟨g, i, none⟩ v) g T (cur.setIfInBounds i v) := by
  have hl := h.lt
  unfold Blk at *
  rw [setCell_eq_setRow w g i cur T (0, 0) v h]
  exact setRow_heap w g cur _ T (0, 0) h
theorem Blk.far (h : Blk w g T cur) {p : Nat} (hne : p ≠ g) (i : Nat) (v : Value) : Blk (w.setCell ⟨p, i, none⟩ v) g T cur := (Below.heap_setCell w ⟨p, i, none⟩ v g (fun e => hne e.symm)).trans h
theorem Blk.cell (h : Blk w g T cur) (i : Nat) : w.cell? ⟨g, i, none⟩ = cur[i]? := cell_of_row w g i cur T (0, 0) h
theorem Blk.free (h : Blk w g T cur) (i : Nat) : w.frozen? ⟨g, i, none⟩ = false := by
  unfold Blk at h
  simp [World.frozen?, h]
end
theorem facts3 {w : World} {g : Nat} {T : TypeId} {a0 a1 a2 : Value} (h : Blk w g T #[a0, a1, a2]) : w.cell? ⟨g, 0, none⟩ = some a0 ∧ w.cell? ⟨g, 1, none⟩ = some a1 ∧ w.cell? ⟨g, 2, none⟩ = some a2 := ⟨h.cell 0, h.cell 1, h.cell 2⟩
theorem facts9 {w : World} {g : Nat} {T : TypeId} {a0 a1 a2 a3 a4 a5 a6 a7 a8 : Value} (h : Blk w g T #[a0, a1, a2, a3, a4, a5, a6, a7, a8]) : w.cell? ⟨g, 0, none⟩ = some a0 ∧ w.cell? ⟨g, 1, none⟩ = some a1 ∧ w.cell? ⟨g, 2, none⟩ = some a2 ∧ w.cell? ⟨g, 3, none⟩ = some a3 ∧ w.cell? ⟨g, 4, none⟩ = some a4 ∧ w.cell? ⟨g, 5, none⟩ = some a5 ∧ w.cell? ⟨g, 6, none⟩ = some a6 ∧ w.cell? ⟨g, 7, none⟩ = some a7 ∧ w.cell? ⟨g, 8, none⟩ = some a8 := ⟨h.cell 0, h.cell 1, h.cell 2, h.cell 3, h.cell 4, h.cell 5, h.cell 6, h.cell 7, h.cell 8⟩
theorem free9 {w : World} {g : Nat} {T : TypeId} {cur : Array Value} (h : Blk w g T cur) : w.frozen? ⟨g, 0, none⟩ = false ∧ w.frozen? ⟨g, 1, none⟩ = false ∧ w.frozen? ⟨g, 2, none⟩ = false ∧ w.frozen? ⟨g, 3, none⟩ = false ∧ w.frozen? ⟨g, 4, none⟩ = false ∧ w.frozen? ⟨g, 5, none⟩ = false ∧ w.frozen? ⟨g, 6, none⟩ = false ∧ w.frozen? ⟨g, 7, none⟩ = false ∧ w.frozen? ⟨g, 8, none⟩ = false := ⟨h.free 0, h.free 1, h.free 2, h.free 3, h.free 4, h.free 5, h.free 6, h.free 7, h.free 8⟩
def CivPost (t : Tm) (w : World) (e : Ending) (w' : World) : Prop := ∃ s : ByteArray, e = .returned (.agg #[.int .i64 t.y, .int .i64 t.mo, .int .i64 t.d, .int .i64 t.h, .int .i64 t.mi, .int .i64 t.s, .int .i64 t.ns, .string s, .int .i64 t.off]) ∧ Below w.heap.size w w'
set_option maxRecDepth 100000 in
set_option maxHeartbeats 6400000 in
theorem civil_any (t : Tm) (loc : Value) (w : World) (h : TmD t) (hp : LocV w t loc) : Calls Tryd.prog 6 #[tmV t loc] w (CivPost t w) := by
  have H := hideP h
  have HP := hideP hp
  clear h hp
  unfold tmV
  go_enter Tryd.func6, Tryd.ntmps6
  go_wp2_with (fail)
  refine (nanosecond_any t.ns _ loc _ H.out.ns).mono ?_
  rintro e w1 ⟨rfl, hb⟩
  have A1 := hideP (show Blk w1 w.heap.size 33 #[.int .u64 t.ns, .int .i64 (unixOf t + 62135596800), loc] from ((Blk.new w _ _).alloc _).kept hb)
  have Z1 := hideP (show Blk w1 (w.heap.size + 1) 25 #[.int .i64 0, .int .i64 0, .int .i64 0, .int .i64 0, .int .i64 0, .int .i64 0, .int .i64 0, .string ⟨#[]⟩, .int .i64 0] from (by have := (Blk.new (w.alloc (.cells #[.int .u64 t.ns, .int .i64 (unixOf t + 62135596800), loc] 33)) 25 #[.int .i64 0, .int .i64 0, .int .i64 0, .int .i64 0, .int .i64 0, .int .i64 0, .int .i64 0, .string ⟨#[]⟩, .int .i64 0]).kept hb; simpa using this))
  have B1 := hideP (show Below w.heap.size w w1 from ((below_alloc w _).alloc (by simp) _).trans (hb.mono (by simp; omega)))
  have L1 := hideP (show w.heap.size + 2 ≤ w1.heap.size from (by have := hb.size; simpa using this))
  have l1 : w.heap.size < w1.heap.size := by have := L1.out; omega
  have l1b : w.heap.size + 1 < w1.heap.size := by have := L1.out; omega
  clear hb
  obtain ⟨p01, p11, p21⟩ := facts3 A1.out
  go_wp2_with (fail)
  have P1 := hideP (show LocV (w1.alloc (.cells #[.int .i64 0, .int .i64 0, .int .i64 0, .int .i64 0, .int .i64 0, .int .i64 0, .int .i64 t.ns, .string ⟨#[]⟩, .int .i64 0] 25)) t loc from HP.out.kept (B1.out.alloc B1.out.size _))
  refine (tDate_any t loc _ H.out P1.out).mono ?_
  rintro e w2 ⟨rfl, hb⟩
  have A2 := hideP (show Blk w2 w.heap.size 33 #[.int .u64 t.ns, .int .i64 (unixOf t + 62135596800), loc] from (A1.out.alloc _).kept hb)
  have Z2 := hideP (show Blk w2 (w.heap.size + 1) 25 #[.int .i64 0, .int .i64 0, .int .i64 0, .int .i64 0, .int .i64 0, .int .i64 0, .int .i64 0, .string ⟨#[]⟩, .int .i64 0] from (Z1.out.alloc _).kept hb)
  have O2 := hideP (show Blk w2 w1.heap.size 25 #[.int .i64 0, .int .i64 0, .int .i64 0, .int .i64 0, .int .i64 0, .int .i64 0, .int .i64 t.ns, .string ⟨#[]⟩, .int .i64 0] from (Blk.new w1 25 #[.int .i64 0, .int .i64 0, .int .i64 0, .int .i64 0, .int .i64 0, .int .i64 0, .int .i64 t.ns, .string ⟨#[]⟩, .int .i64 0]).kept hb)
  have B2 := hideP (show Below w.heap.size w w2 from (B1.out.alloc B1.out.size _).trans (hb.mono (B1.out.alloc B1.out.size _).size))
  clear hb
  obtain ⟨p02, p12, p22⟩ := facts3 A2.out
  obtain ⟨q20, q21, q22, q23, q24, q25, q26, q27, q28⟩ := facts9 O2.out; obtain ⟨r20, r21, r22, r23, r24, r25, r26, r27, r28⟩ := free9 O2.out
  go_wp2_with (fail)
  have ne0 : w1.heap.size ≠ w.heap.size := by omega
  have ne1 : w1.heap.size ≠ w.heap.size + 1 := by omega
  have le0 : w.heap.size ≤ w1.heap.size := Nat.le_of_lt l1
  refine (tClock_any t loc _ H.out (HP.out.kept (((B2.out.setCell le0 _).setCell le0 _).setCell le0 _))).mono ?_
  rintro e w3 ⟨rfl, hb⟩
  have A3 := hideP (show Blk w3 w.heap.size 33 #[.int .u64 t.ns, .int .i64 (unixOf t + 62135596800), loc] from (((A2.out.far ne0 _ _).far ne0 _ _).far ne0 _ _).kept hb)
  have Z3 := hideP (show Blk w3 (w.heap.size + 1) 25 #[.int .i64 0, .int .i64 0, .int .i64 0, .int .i64 0, .int .i64 0, .int .i64 0, .int .i64 0, .string ⟨#[]⟩, .int .i64 0] from (((Z2.out.far ne1 _ _).far ne1 _ _).far ne1 _ _).kept hb)
  have O3 := hideP (show Blk w3 w1.heap.size 25 #[.int .i64 t.y, .int .i64 t.mo, .int .i64 t.d, .int .i64 0, .int .i64 0, .int .i64 0, .int .i64 t.ns, .string ⟨#[]⟩, .int .i64 0] from (((O2.out.set 0 _).set 2 _).set 1 _).kept hb)
  have B3 := hideP (show Below w.heap.size w w3 from (((B2.out.setCell le0 _).setCell le0 _).setCell le0 _).trans (hb.mono (((B2.out.setCell le0 _).setCell le0 _).setCell le0 _).size))
  clear hb p02 p12 p22 q20 q21 q22 q23 q24 q25 q26 q27 q28 r20 r21 r22 r23 r24 r25 r26 r27 r28 p01 p11 p21
  obtain ⟨p03, p13, p23⟩ := facts3 A3.out
  obtain ⟨q30, q31, q32, q33, q34, q35, q36, q37, q38⟩ := facts9 O3.out; obtain ⟨r30, r31, r32, r33, r34, r35, r36, r37, r38⟩ := free9 O3.out
  go_wp2_with (fail)
  refine (zone_any t loc _ H.out (HP.out.kept (((B3.out.setCell le0 _).setCell le0 _).setCell le0 _))).mono ?_
  rintro e w4 ⟨zs, rfl, hb⟩
  have Z4 := hideP (show Blk w4 (w.heap.size + 1) 25 #[.int .i64 0, .int .i64 0, .int .i64 0, .int .i64 0, .int .i64 0, .int .i64 0, .int .i64 0, .string ⟨#[]⟩, .int .i64 0] from (((Z3.out.far ne1 _ _).far ne1 _ _).far ne1 _ _).kept hb)
  have O4 := hideP (show Blk w4 w1.heap.size 25 #[.int .i64 t.y, .int .i64 t.mo, .int .i64 t.d, .int .i64 t.h, .int .i64 t.mi, .int .i64 t.s, .int .i64 t.ns, .string ⟨#[]⟩, .int .i64 0] from (((O3.out.set 3 _).set 4 _).set 5 _).kept hb)
  have B4 := hideP (show Below w.heap.size w w4 from (((B3.out.setCell le0 _).setCell le0 _).setCell le0 _).trans (hb.mono (((B3.out.setCell le0 _).setCell le0 _).setCell le0 _).size))
  clear hb p03 p13 p23 q30 q31 q32 q33 q34 q35 q36 q37 q38 r30 r31 r32 r33 r34 r35 r36 r37 r38
  obtain ⟨q40, q41, q42, q43, q44, q45, q46, q47, q48⟩ := facts9 O4.out; obtain ⟨r40, r41, r42, r43, r44, r45, r46, r47, r48⟩ := free9 O4.out
  obtain ⟨z0, z1, z2, z3, z4, z5, z6, z7, z8⟩ := facts9 Z4.out; obtain ⟨y0, y1, y2, y3, y4, y5, y6, y7, y8⟩ := free9 Z4.out
  go_wp2_with (fail)
  have le1 : w.heap.size ≤ w.heap.size + 1 := Nat.le_succ _
  have ZF := (((((((((((Z4.out.far ne1 7 (.string zs)).far ne1 8 (.int .i64 t.off)).set 0 (.int .i64 t.y)).set 1 (.int .i64 t.mo)).set 2 (.int .i64 t.d)).set 3 (.int .i64 t.h)).set 4 (.int .i64 t.mi)).set 5 (.int .i64 t.s)).set 6 (.int .i64 t.ns)).set 7 (.string zs)).set 8 (.int .i64 t.off))
  have hb : Below w.heap.size w ((((((((((((w4.setCell ⟨w1.heap.size, 7, none⟩ (.string zs)).setCell ⟨w1.heap.size, 8, none⟩ (.int .i64 t.off)).setCell ⟨w.heap.size + 1, 0, none⟩ (.int .i64 t.y)).setCell ⟨w.heap.size + 1, 1, none⟩ (.int .i64 t.mo)).setCell ⟨w.heap.size + 1, 2, none⟩ (.int .i64 t.d)).setCell ⟨w.heap.size + 1, 3, none⟩ (.int .i64 t.h)).setCell ⟨w.heap.size + 1, 4, none⟩ (.int .i64 t.mi)).setCell ⟨w.heap.size + 1, 5, none⟩ (.int .i64 t.s)).setCell ⟨w.heap.size + 1, 6, none⟩ (.int .i64 t.ns)).setCell ⟨w.heap.size + 1, 7, none⟩ (.string zs)).setCell ⟨w.heap.size + 1, 8, none⟩ (.int .i64 t.off))) := ((((((((((B4.out.setCell le0 _).setCell le0 _).setCell le1 _).setCell le1 _).setCell le1 _).setCell le1 _).setCell le1 _).setCell le1 _).setCell le1 _).setCell le1 _).setCell le1 _
  revert ZF hb
  generalize (((((((((((w4.setCell ⟨w1.heap.size, 7, none⟩ (.string zs)).setCell ⟨w1.heap.size, 8, none⟩ (.int .i64 t.off)).setCell ⟨w.heap.size + 1, 0, none⟩ (.int .i64 t.y)).setCell ⟨w.heap.size + 1, 1, none⟩ (.int .i64 t.mo)).setCell ⟨w.heap.size + 1, 2, none⟩ (.int .i64 t.d)).setCell ⟨w.heap.size + 1, 3, none⟩ (.int .i64 t.h)).setCell ⟨w.heap.size + 1, 4, none⟩ (.int .i64 t.mi)).setCell ⟨w.heap.size + 1, 5, none⟩ (.int .i64 t.s)).setCell ⟨w.heap.size + 1, 6, none⟩ (.int .i64 t.ns)).setCell ⟨w.heap.size + 1, 7, none⟩ (.string zs)).setCell ⟨w.heap.size + 1, 8, none⟩ (.int .i64 t.off)) = W
  intro ZF hb
  have HBW := hideP hb
  have e0 := ZF.cell 0; have e1 := ZF.cell 1; have e2 := ZF.cell 2; have e3 := ZF.cell 3; have e4 := ZF.cell 4; have e5 := ZF.cell 5; have e6 := ZF.cell 6; have e7 := ZF.cell 7; have e8 := ZF.cell 8
  clear ZF hb z0 z1 z2 z3 z4 z5 z6 z7 z8 y0 y1 y2 y3 y4 y5 y6 y7 y8 q40 q41 q42 q43 q44 q45 q46 q47 q48 r40 r41 r42 r43 r44 r45 r46 r47 r48
  refine bodyPost_ret (v := .agg #[.int .i64 t.y, .int .i64 t.mo, .int .i64 t.d, .int .i64 t.h, .int .i64 t.mi, .int .i64 t.s, .int .i64 t.ns, .string zs, .int .i64 t.off]) ?_ rfl ⟨zs, rfl, HBW.out⟩
  simp at e0 e1 e2 e3 e4 e5 e6 e7 e8
  simp [results, Tryd.results6, go_sem, e0, e1, e2, e3, e4, e5, e6, e7, e8]
end Go.Proofs.YtdgckbjfnbljkaaDoor.Tm
