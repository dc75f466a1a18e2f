/- Time2: what is needed here. -/
import Derived.Handy
import Derived.Test.YtdgckbjfnbljkaaDoorProg
import Derived.Test.YtdgckbjfnbljkaaDoorTime
namespace Go.Proofs.YtdgckbjfnbljkaaDoor.Tm
set_option linter.unusedSimpArgs false
set_option linter.unusedVariables false
open Go.RowKit Go
set_option maxHeartbeats 400000 in
theorem stripMono_any (p : Nat) (n : Nat) (w : World) (hn : n ≤ 999999999) (c0 : w.cell? ⟨p, 0, none⟩ = some (.int .u64 n)) :
    Calls Tryd.prog 34 #[.pointer (some ⟨p, 0, none⟩)] w (QuietV (.tuple #[]) w) := by
  have ha := and_mono n hn
  go_enter Tryd.func34, Tryd.ntmps34
  go_wp2
  go_end0
  exact ⟨rfl, rfl⟩
set_option maxHeartbeats 400000 in
theorem setLoc_any (p b : Nat) (u : Bool) (n : Nat) (old : Value) (w : World) (hn : n ≤ 999999999) (c0 : w.cell? ⟨p, 0, none⟩ = some (.int .u64 n)) (c2 : w.cell? ⟨p, 2, none⟩ = some old) (hf : w.frozen? ⟨p, 2, none⟩ = false) (cb : w.cell? ⟨b, 0, none⟩ = some (.bool u)) :
    Calls Tryd.prog 21 #[.pointer (some ⟨p, 0, none⟩), .pointer (some ⟨b, 0, none⟩)] w
      (fun e w' => e = .returned (.tuple #[]) ∧ w' = w.setCell ⟨p, 2, none⟩ (if u = true then .pointer none else .pointer (some ⟨b, 0, none⟩))) := by
  have C0 := hideP c0
  clear c0
  cases u
  all_goals
    go_enter Tryd.func21, Tryd.ntmps21
    go_wp2_with (go_at_call 34; refine (stripMono_any p n _ hn C0.out).mono ?_; rintro e w1 ⟨rfl, rfl⟩)
    go_end0
    exact ⟨rfl, rfl⟩
set_option maxHeartbeats 400000 in
theorem unixTime_any (s : Int) (n : Nat) (w : World) (hn : n ≤ 999999999) (hs : -100000000000000 ≤ s ∧ s ≤ 100000000000000) :
    Calls Tryd.prog 33 #[.int .i64 s, .int .i32 n] w (fun e w' => e = .returned (.agg #[.int .u64 n, .int .i64 (s + 62135596800), .pointer none]) ∧ Below w.heap.size w w') := by
  obtain ⟨x1, x2⟩ := hs
  have hnb : (n : Int) ≤ 999999999 := by omega
  go_enter Tryd.func33, Tryd.ntmps33
  go_wp2
  go_returns
  exact ⟨rfl, ((Below.refl _ _).alloc (Nat.le_refl _) _)⟩
/-- The sums wrap past 2^63 and back. -/
theorem wrap_date (D : Nat) (x : Int) (h1 : 106751990207835 ≤ D) (h2 : D ≤ 106751994300000) (x1 : 0 ≤ x) (x2 : x ≤ 86400) :
    wrap64 (wrap64 (wrap64 (wrap64 (D : Int) * 86400) + x) + -9223372028741760000) = 86400 * D + x - 9223372028741760000 := by
  unfold wrap64; omega
theorem LocAt.kept {w w' : World} {b : Nat} {s : ByteArray} {z : Int} {zb tb : Nat} (h : LocAt w b s z zb tb) (hb : Below w.heap.size w w') : LocAt w' b s z zb tb := by
  have k : ∀ (p : Addr) (v : Value), w.cell? p = some v → w'.cell? p = some v := fun p v hc => (hb.cell (World.block_lt_of_cell? _ _ hc)).trans hc
  exact ⟨k _ _ h.c0, k _ _ h.c1, k _ _ h.c2, k _ _ h.c3, k _ _ h.c5, k _ _ h.c6, k _ _ h.c7, k _ _ h.z0, k _ _ h.z1, k _ _ h.z2⟩
theorem UtcAt.kept {w w' : World} {b : Nat} (h : UtcAt w b) (hb : Below w.heap.size w w') : UtcAt w' b := by
  have k : ∀ (p : Addr) (v : Value), w.cell? p = some v → w'.cell? p = some v := fun p v hc => (hb.cell (World.block_lt_of_cell? _ _ hc)).trans hc
  exact ⟨k _ _ h.c0, k _ _ h.c2⟩
theorem below_alloc (w : World) (o : Obj) : Below w.heap.size w (w.alloc o) := (Below.refl _ _).alloc (Nat.le_refl _) o
/-- The world behind setLoc: a time at its place, the result's cells as they were. -/
structure DateW (w w3 : World) (g ns : Nat) (x : Int) (loc : Value) : Prop where
  lt : w.heap.size < g
  d0 : w3.cell? ⟨g, 0, none⟩ = some (.int .u64 ns)
  d1 : w3.cell? ⟨g, 1, none⟩ = some (.int .i64 x)
  d2 : w3.cell? ⟨g, 2, none⟩ = some loc
  a0 : w3.cell? ⟨w.heap.size, 0, none⟩ = some (.int .u64 0)
  a1 : w3.cell? ⟨w.heap.size, 1, none⟩ = some (.int .i64 0)
  a2 : w3.cell? ⟨w.heap.size, 2, none⟩ = some (.pointer none)
  f0 : w3.frozen? ⟨w.heap.size, 0, none⟩ = false
  f1 : w3.frozen? ⟨w.heap.size, 1, none⟩ = false
  f2 : w3.frozen? ⟨w.heap.size, 2, none⟩ = false
  bel : Below w.heap.size w w3
  row : ∃ T, w3.heap[w.heap.size]? = some (.cells #[.int .u64 0, .int .i64 0, .pointer none] T (0, 0))
/-- Three cells stored one after the other. -/
theorem row3 {w : World} {g : Nat} {T : TypeId} {a b c : Value} (x y z : Value) (h : w.heap[g]? = some (.cells #[a, b, c] T (0, 0))) :
    (w.setCell ⟨g, 0, none⟩ x).cell? ⟨g, 0, none⟩ = some x ∧ ((w.setCell ⟨g, 0, none⟩ x).setCell ⟨g, 1, none⟩ y).cell? ⟨g, 1, none⟩ = some y ∧ (((w.setCell ⟨g, 0, none⟩ x).setCell ⟨g, 1, none⟩ y).setCell ⟨g, 2, none⟩ z).cell? ⟨g, 2, none⟩ = some z ∧
    (((w.setCell ⟨g, 0, none⟩ x).setCell ⟨g, 1, none⟩ y).setCell ⟨g, 2, none⟩ z).cell? ⟨g, 0, none⟩ = some x ∧ (((w.setCell ⟨g, 0, none⟩ x).setCell ⟨g, 1, none⟩ y).setCell ⟨g, 2, none⟩ z).cell? ⟨g, 1, none⟩ = some y := by
  have h1 := heap_setCell_same w g 0 _ T x h
  have h2 := heap_setCell_same _ g 1 _ T y h1
  have h3 := heap_setCell_same _ g 2 _ T z h2
  exact ⟨cell_of_row _ _ 0 _ _ (0, 0) h1, cell_of_row _ _ 1 _ _ (0, 0) h2, cell_of_row _ _ 2 _ _ (0, 0) h3, cell_of_row _ _ 0 _ _ (0, 0) h3, cell_of_row _ _ 1 _ _ (0, 0) h3⟩
theorem date_world (w w2 w3 : World) (ns : Nat) (x : Int) (loc old : Value) (T : TypeId) (hb : Below (w.alloc (.cells #[.int .u64 0, .int .i64 0, .pointer none] T)).heap.size (w.alloc (.cells #[.int .u64 0, .int .i64 0, .pointer none] T)) w2) (h3 : w3 = (w2.alloc (.cells #[.int .u64 ns, .int .i64 x, old] T)).setCell ⟨w2.heap.size, 2, none⟩ loc) :
    DateW w w3 w2.heap.size ns x loc := by
  subst h3
  have e0 : (w.alloc (.cells #[.int .u64 0, .int .i64 0, .pointer none] T)).heap.size = w.heap.size + 1 := by simp
  rw [e0] at hb
  have hs := hb.size
  rw [e0] at hs
  generalize ho : (Obj.cells #[Value.int .u64 0, Value.int .i64 0, Value.pointer none] T) = o at hb
  generalize ho2 : (Obj.cells #[Value.int .u64 ns, Value.int .i64 x, old] T) = o2
  have hrow : ((w2.alloc o2).setCell ⟨w2.heap.size, 2, none⟩ loc).heap[w.heap.size]? = some o := by
    rw [heap_setCell_other _ ⟨w2.heap.size, 2, none⟩ w.heap.size loc (by simp; omega), Below.heap_alloc w2 o2 w.heap.size (by omega), hb.block w.heap.size (by omega)]
    exact heap_alloc_new w o
  subst ho
  have hnew : (w2.alloc o2).heap[w2.heap.size]? = some o2 := heap_alloc_new w2 o2
  subst ho2
  have hrow2 := heap_setCell_same (w2.alloc (.cells #[.int .u64 ns, .int .i64 x, old] T)) w2.heap.size 2 _ T loc hnew
  refine ⟨by omega, cell_of_row _ _ 0 _ _ (0, 0) hrow2, cell_of_row _ _ 1 _ _ (0, 0) hrow2, cell_of_row _ _ 2 _ _ (0, 0) hrow2, cell_of_row _ _ 0 _ _ (0, 0) hrow, cell_of_row _ _ 1 _ _ (0, 0) hrow, cell_of_row _ _ 2 _ _ (0, 0) hrow,
    frozen_of_row _ _ 0 _ _ hrow, frozen_of_row _ _ 1 _ _ hrow, frozen_of_row _ _ 2 _ _ hrow, ?_, T, hrow⟩
  exact (((below_alloc w _).trans (hb.mono (by omega))).alloc (by omega) _).setCell (by simp; omega) _
def locV (u : Bool) (b : Nat) : Value := if u = true then .pointer none else .pointer (some ⟨b, 0, none⟩)
def tmV (t : Tm) (loc : Value) : Value := .agg #[.int .u64 t.ns, .int .i64 (unixOf t + 62135596800), loc]
def DatePost (t : Tm) (u : Bool) (b : Nat) (w : World) (e : Ending) (w' : World) : Prop := e = .returned (tmV t (locV u b)) ∧ Below w.heap.size w w'
set_option maxRecDepth 100000 in
set_option maxHeartbeats 1600000 in
theorem date_utc (t : Tm) (b : Nat) (w : World) (h : TmOk t) (hL : UtcAt w b) (hz : t.off = 0) :
    Calls Tryd.prog 17 #[.int .i64 t.y, .int .i64 t.mo, .int .i64 t.d, .int .i64 t.h, .int .i64 t.mi, .int .i64 t.s, .int .i64 t.ns, .pointer (some ⟨b, 0, none⟩)] w
      (DatePost t true b w) := by
  obtain ⟨k1, k2, k3⟩ := h.clock
  have hday := h.day
  obtain ⟨D1, D2⟩ := dayOf_b h.day
  have hns := h.ns
  have o1 := h.off0
  have o2 := h.off1
  have hEx := hideP (show unixOf t = 86400 * (dayOf t.y t.mo t.d : Int) + ((t.h : Int) * 3600 + (t.mi : Int) * 60 + t.s) - 9223372028741760000 - t.off by unfold unixOf toldOf secOf; omega)
  unfold DatePost tmV
  generalize hX : unixOf t = UX at hEx
  have HX := hideP hX
  obtain ⟨y, mo, d, hh, mi, s, ns, zn, off⟩ := t
  simp only at *
  have hw := wrap_date (dayOf y mo d) ((hh : Int) * 3600 + (mi : Int) * 60 + s) D1 D2 (by omega) (by omega)
  obtain ⟨U, hU⟩ : ∃ U : Int, U = 86400 * (dayOf y mo d : Int) + ((hh : Int) * 3600 + (mi : Int) * 60 + s) - 9223372028741760000 := ⟨_, rfl⟩
  rw [← hU] at hw
  have u1 : -100000000000 ≤ U := by omega
  have u2 : U ≤ 400000000000 := by omega
  have hUX := hideP (show U - off = UX by have := hEx.out; omega)
  have HW := hideP hw
  have n1 : (1 : Int) ≤ mo := by have := hday.2.1; omega
  have n2 : (mo : Int) ≤ 12 := by have := hday.2.2.1; omega
  have n3 : (hh : Int) ≤ 23 := by omega
  have n4 : (mi : Int) ≤ 59 := by omega
  have n5 : (s : Int) ≤ 59 := by omega
  have n6 : (ns : Int) ≤ 999999999 := by omega
  have HD := hideP hday
  have HN := hideP hns
  have HL := hideP hL
  clear hL
  clear hday h k1 k2 k3 hns hw hU D1 D2 hX hEx
  subst hz
  all_goals
    go_enter Tryd.func17, Tryd.ntmps17
    go_wp2_with (first
      | (go_at_call 31; refine (norm_any _ _ _ _ (by omega) (by omega)).mono ?_; rintro e w1 ⟨rfl, rfl⟩)
      | (go_at_call 32; refine (toDays_any y mo d _ HD.out).mono ?_; rintro e w1 ⟨rfl, rfl⟩))
    rw [HW.out]
    refine (lookup_utc b U _ (HL.out.kept (below_alloc w _))).mono ?_
    rintro e w1 ⟨rfl, rfl⟩
    go_wp2_with (first
      | (go_at_call 33; refine (unixTime_any _ ns _ HN.out (by omega)).mono ?_; rintro e w2 ⟨rfl, hb2⟩; have HB2 := hideP hb2; clear hb2))
    refine (setLoc_any w2.heap.size b true ns _ _ HN.out (cell_of_row _ _ 0 _ _ (0, 0) (heap_alloc_new _ _)) (cell_of_row _ _ 2 _ _ (0, 0) (heap_alloc_new _ _)) (frozen_of_row _ _ 2 _ _ (heap_alloc_new _ _)) ((HL.out.kept (((below_alloc w _).trans (HB2.out.mono (by simp))).trans ((below_alloc w2 _).mono (by have := HB2.out.size; simp at this; omega)))).c0)).mono ?_
    rintro e w3 ⟨rfl, hw3⟩
    simp only [if_true, if_false, Bool.false_eq_true, reduceIte] at hw3
    have hdw := date_world w w2 w3 ns _ _ _ _ HB2.out hw3
    clear hw3
    obtain ⟨q1, q2, q3, q4, q5, q6, q7, q8, q9, q10, q11, Ty, q12⟩ := hdw
    have Q11 := hideP q11
    have Q12 := hideP q12
    clear q11 q12
    go_wp2
    have r3 := fun x y z => row3 x y z Q12.out
    refine bodyPost_ret (v := .agg #[.int .u64 ns, .int .i64 (UX + 62135596800), .pointer none]) (by simp [results, Tryd.results17, go_sem, r3]; have := hUX.out; omega) rfl ⟨rfl, ?_⟩
    exact (((Q11.out.setCell (Nat.le_refl _) _).setCell (Nat.le_refl _) _).setCell (Nat.le_refl _) _)
end Go.Proofs.YtdgckbjfnbljkaaDoor.Tm
