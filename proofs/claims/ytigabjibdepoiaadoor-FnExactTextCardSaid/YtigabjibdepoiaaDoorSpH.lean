/- The reference's pieces, and the walk of zoneText. The walk of the reference's written: dates. -/
import Derived.Test.YtigabjibdepoiaaDoorSpF
namespace Go.Proofs.YtigabjibdepoiaaDoor.Tm
set_option linter.unusedSimpArgs false
set_option linter.unusedVariables false
open Go.RowKit Go
/-- A piece of a layout. -/
structure Pc where
  k : Nat
  tx : ByteArray
  n : Nat
  cm : Bool
def pcV (p : Pc) : Value := .agg #[.int .i64 p.k, .string p.tx, .int .i64 p.n, .bool p.cm]
/-- The text of a piece. -/
def writK (t : Tm) (k : Nat) (tx : ByteArray) (n : Nat) (cm : Bool) : List UInt8 := match k with
  | 0 => bl tx
  | 1 => padL 48 t.y 4
  | 2 => padL 48 (t.y % 100) 2
  | 3 => monN t.mo
  | 4 => (monN t.mo).take 3
  | 5 => padL 48 t.mo 2
  | 6 => padL 48 t.mo 1
  | 7 => dayN (wdN t.y t.mo t.d)
  | 8 => (dayN (wdN t.y t.mo t.d)).take 3
  | 9 => padL 48 t.d 1
  | 10 => padL 32 t.d 2
  | 11 => padL 48 t.d 2
  | 12 => padL 32 (ydN t.y t.mo t.d) 3
  | 13 => padL 48 (ydN t.y t.mo t.d) 3
  | 14 => padL 48 t.h 2
  | 15 => padL 48 (h12 t.h) 1
  | 16 => padL 48 (h12 t.h) 2
  | 17 => padL 48 t.mi 1
  | 18 => padL 48 t.mi 2
  | 19 => padL 48 t.s 1
  | 20 => padL 48 t.s 2
  | 21 => halfL t.h
  | 22 => offL t.off true false false
  | 23 => offL t.off true false true
  | 24 => offL t.off false false false
  | 25 => offL t.off true true false
  | 26 => offL t.off true true true
  | 27 => isoL t.off true false false
  | 28 => isoL t.off true false true
  | 29 => isoL t.off false false false
  | 30 => isoL t.off true true false
  | 31 => isoL t.off true true true
  | 32 => bl t.zn
  | 33 => nanoL t.ns n cm false
  | 34 => nanoL t.ns n cm true
  | _ => []
def writL (t : Tm) (p : Pc) : List UInt8 := writK t p.k p.tx p.n p.cm
/-- A piece that can be told. -/
def PcOk (p : Pc) : Prop := p.k ≤ 34 ∧ p.tx.size ≤ 1000 ∧ (p.k = 33 ∨ p.k = 34 → 1 ≤ p.n ∧ p.n ≤ 9)
def OffOk (off : Int) : Prop := -86399 ≤ off ∧ off ≤ 86399 ∧ (off = 0 ∨ off ≤ -60 ∨ 60 ≤ off)
theorem offS' (off : Int) (a b c : Bool) (w : World) (h : OffOk off) : Calls Tryd.prog 31 #[.int .i64 off, .bool a, .bool b, .bool c] w (TxtTo (offL off a b c) 100 w) := offS off a b c w h.1 h.2.1 h.2.2
set_option maxHeartbeats 400000 in
theorem zt_22 (off : Int) (w : World) (h : OffOk off) : Calls Tryd.prog 80 #[.int .i64 22, .int .i64 off] w (TxtTo (offL off true false false) 100 w) := by
  have HO := hideP h
  clear h
  go_enter Tryd.func80, Tryd.ntmps80
  go_wp2_with (go_at_call 31; refine (offS' _ _ _ _ _ HO.out).mono ?_; rintro e w1 ⟨s, rfl, hs, hbl, hb⟩)
  go_ret
  exact ⟨s, rfl, hs, hbl, hb⟩
set_option maxHeartbeats 400000 in
theorem zt_23 (off : Int) (w : World) (h : OffOk off) : Calls Tryd.prog 80 #[.int .i64 23, .int .i64 off] w (TxtTo (offL off true false true) 100 w) := by
  have HO := hideP h
  clear h
  go_enter Tryd.func80, Tryd.ntmps80
  go_wp2_with (go_at_call 31; refine (offS' _ _ _ _ _ HO.out).mono ?_; rintro e w1 ⟨s, rfl, hs, hbl, hb⟩)
  go_ret
  exact ⟨s, rfl, hs, hbl, hb⟩
set_option maxHeartbeats 400000 in
theorem zt_24 (off : Int) (w : World) (h : OffOk off) : Calls Tryd.prog 80 #[.int .i64 24, .int .i64 off] w (TxtTo (offL off false false false) 100 w) := by
  have HO := hideP h
  clear h
  go_enter Tryd.func80, Tryd.ntmps80
  go_wp2_with (go_at_call 31; refine (offS' _ _ _ _ _ HO.out).mono ?_; rintro e w1 ⟨s, rfl, hs, hbl, hb⟩)
  go_ret
  exact ⟨s, rfl, hs, hbl, hb⟩
set_option maxHeartbeats 400000 in
theorem zt_25 (off : Int) (w : World) (h : OffOk off) : Calls Tryd.prog 80 #[.int .i64 25, .int .i64 off] w (TxtTo (offL off true true false) 100 w) := by
  have HO := hideP h
  clear h
  go_enter Tryd.func80, Tryd.ntmps80
  go_wp2_with (go_at_call 31; refine (offS' _ _ _ _ _ HO.out).mono ?_; rintro e w1 ⟨s, rfl, hs, hbl, hb⟩)
  go_ret
  exact ⟨s, rfl, hs, hbl, hb⟩
set_option maxHeartbeats 400000 in
theorem zt_26 (off : Int) (w : World) (h : OffOk off) : Calls Tryd.prog 80 #[.int .i64 26, .int .i64 off] w (TxtTo (offL off true true true) 100 w) := by
  have HO := hideP h
  clear h
  go_enter Tryd.func80, Tryd.ntmps80
  go_wp2_with (go_at_call 31; refine (offS' _ _ _ _ _ HO.out).mono ?_; rintro e w1 ⟨s, rfl, hs, hbl, hb⟩)
  go_ret
  exact ⟨s, rfl, hs, hbl, hb⟩
set_option maxHeartbeats 400000 in
theorem zt_27 (off : Int) (w : World) (h : OffOk off) : Calls Tryd.prog 80 #[.int .i64 27, .int .i64 off] w (TxtTo (offL off true false false) 100 w) := by
  have HO := hideP h
  clear h
  go_enter Tryd.func80, Tryd.ntmps80
  go_wp2_with (go_at_call 31; refine (offS' _ _ _ _ _ HO.out).mono ?_; rintro e w1 ⟨s, rfl, hs, hbl, hb⟩)
  go_ret
  exact ⟨s, rfl, hs, hbl, hb⟩
set_option maxHeartbeats 400000 in
theorem zt_28 (off : Int) (w : World) (h : OffOk off) : Calls Tryd.prog 80 #[.int .i64 28, .int .i64 off] w (TxtTo (offL off true false true) 100 w) := by
  have HO := hideP h
  clear h
  go_enter Tryd.func80, Tryd.ntmps80
  go_wp2_with (go_at_call 31; refine (offS' _ _ _ _ _ HO.out).mono ?_; rintro e w1 ⟨s, rfl, hs, hbl, hb⟩)
  go_ret
  exact ⟨s, rfl, hs, hbl, hb⟩
set_option maxHeartbeats 400000 in
theorem zt_29 (off : Int) (w : World) (h : OffOk off) : Calls Tryd.prog 80 #[.int .i64 29, .int .i64 off] w (TxtTo (offL off false false false) 100 w) := by
  have HO := hideP h
  clear h
  go_enter Tryd.func80, Tryd.ntmps80
  go_wp2_with (go_at_call 31; refine (offS' _ _ _ _ _ HO.out).mono ?_; rintro e w1 ⟨s, rfl, hs, hbl, hb⟩)
  go_ret
  exact ⟨s, rfl, hs, hbl, hb⟩
set_option maxHeartbeats 400000 in
theorem zt_30 (off : Int) (w : World) (h : OffOk off) : Calls Tryd.prog 80 #[.int .i64 30, .int .i64 off] w (TxtTo (offL off true true false) 100 w) := by
  have HO := hideP h
  clear h
  go_enter Tryd.func80, Tryd.ntmps80
  go_wp2_with (go_at_call 31; refine (offS' _ _ _ _ _ HO.out).mono ?_; rintro e w1 ⟨s, rfl, hs, hbl, hb⟩)
  go_ret
  exact ⟨s, rfl, hs, hbl, hb⟩
set_option maxHeartbeats 400000 in
theorem zt_31 (off : Int) (w : World) (h : OffOk off) : Calls Tryd.prog 80 #[.int .i64 31, .int .i64 off] w (TxtTo (offL off true true true) 100 w) := by
  have HO := hideP h
  clear h
  go_enter Tryd.func80, Tryd.ntmps80
  go_wp2_with (go_at_call 31; refine (offS' _ _ _ _ _ HO.out).mono ?_; rintro e w1 ⟨s, rfl, hs, hbl, hb⟩)
  go_ret
  exact ⟨s, rfl, hs, hbl, hb⟩
end Go.Proofs.YtigabjibdepoiaaDoor.Tm
namespace Go.Proofs.YtigabjibdepoiaaDoor.Tm
set_option linter.unusedSimpArgs false
set_option linter.unusedVariables false
open Go.RowKit Go
theorem below2 (w : World) (a b : Obj) : Below w.heap.size w ((w.alloc a).alloc b) := (below_alloc w a).alloc (by simp) b
def isoB (k : Int) : Bool := decide (27 ≤ k) && decide (k ≤ 31)
set_option maxHeartbeats 400000 in
theorem iso_any (k : Int) (w : World) : Calls Tryd.prog 71 #[.int .i64 k] w (QuietV (.bool (isoB k)) w) := by
  go_enter Tryd.func71, Tryd.ntmps71
  go_wp2_with (go_at_call 28; refine (within_any _ _ _ _).mono ?_; rintro e w1 (⟨rfl, q1, q2, rfl⟩ | ⟨rfl, q1, rfl⟩))
  all_goals go_ret
  · exact ⟨by unfold isoB; rw [decide_eq_true q1, decide_eq_true q2]; rfl, rfl⟩
  · refine ⟨?_, rfl⟩
    have : isoB k = false := by
      unfold isoB
      rw [Bool.and_eq_false_iff, decide_eq_false_iff_not, decide_eq_false_iff_not]
      omega
    rw [this]; rfl
set_option maxRecDepth 100000 in
set_option maxHeartbeats 1600000 in
theorem wr_0 (t : Tm) (hO : TmOk t) (tx : ByteArray) (n : Nat) (cm : Bool) (w : World) (htx : tx.size ≤ 1000) (hn : True) : Calls Tryd.prog 54 #[.agg #[.int .i64 0, .string tx, .int .i64 n, .bool cm], cvV t] w (TxtTo (writK t 0 tx n cm) 1000 w) := by
  have by1 : (t.y : Int) ≤ 9999 := by have := hO.day.1; omega
  have bm1 : (t.mo : Int) ≤ 12 := by have := hO.day.2.2.1; omega
  have bd1 : (t.d : Int) ≤ 31 := by
    have := hO.day.2.2.2.2.1
    unfold mLen at this; repeat' split at this
    all_goals omega
  have byd : ((ydN t.y t.mo t.d : Nat) : Int) ≤ 366 := by have := (ydN_le hO.day).2; omega
  obtain ⟨bh0, bmi0, bs0⟩ := hO.clock
  have bh1 : (t.h : Int) ≤ 23 := by omega
  have bmi1 : (t.mi : Int) ≤ 59 := by omega
  have bs1 : (t.s : Int) ≤ 59 := by omega
  have bh12 : ((h12 t.h : Nat) : Int) ≤ 12 := by unfold h12; split <;> omega
  clear bh0 bmi0 bs0
  have HO := hideP hO
  have HN := hideP hn
  have HTX := hideP htx
  have HB := hideP (below2 w (.cells #[.int .i64 0, .string tx, .int .i64 n, .bool cm] 42) (.cells #[.int .i64 t.y, .int .i64 t.mo, .int .i64 t.d, .int .i64 t.h, .int .i64 t.mi, .int .i64 t.s, .int .i64 t.ns, .string t.zn, .int .i64 t.off] 28))
  clear hO hn htx
  unfold cvV
  go_enter Tryd.func54, Tryd.ntmps54
  go_wp2_with (fail)
  go_ret
  exact ⟨tx, rfl, HTX.out, rfl, HB.out⟩
set_option maxRecDepth 100000 in
set_option maxHeartbeats 1600000 in
theorem wr_1 (t : Tm) (hO : TmOk t) (tx : ByteArray) (n : Nat) (cm : Bool) (w : World) (htx : tx.size ≤ 1000) (hn : True) : Calls Tryd.prog 54 #[.agg #[.int .i64 1, .string tx, .int .i64 n, .bool cm], cvV t] w (TxtTo (writK t 1 tx n cm) 1000 w) := by
  have by1 : (t.y : Int) ≤ 9999 := by have := hO.day.1; omega
  have bm1 : (t.mo : Int) ≤ 12 := by have := hO.day.2.2.1; omega
  have bd1 : (t.d : Int) ≤ 31 := by
    have := hO.day.2.2.2.2.1
    unfold mLen at this; repeat' split at this
    all_goals omega
  have byd : ((ydN t.y t.mo t.d : Nat) : Int) ≤ 366 := by have := (ydN_le hO.day).2; omega
  obtain ⟨bh0, bmi0, bs0⟩ := hO.clock
  have bh1 : (t.h : Int) ≤ 23 := by omega
  have bmi1 : (t.mi : Int) ≤ 59 := by omega
  have bs1 : (t.s : Int) ≤ 59 := by omega
  have bh12 : ((h12 t.h : Nat) : Int) ≤ 12 := by unfold h12; split <;> omega
  clear bh0 bmi0 bs0
  have HO := hideP hO
  have HN := hideP hn
  have HTX := hideP htx
  have HB := hideP (below2 w (.cells #[.int .i64 1, .string tx, .int .i64 n, .bool cm] 42) (.cells #[.int .i64 t.y, .int .i64 t.mo, .int .i64 t.d, .int .i64 t.h, .int .i64 t.mi, .int .i64 t.s, .int .i64 t.ns, .string t.zn, .int .i64 t.off] 28))
  clear hO hn htx
  unfold cvV
  go_enter Tryd.func54, Tryd.ntmps54
  go_wp2_with (first
    | (go_at_call 29; refine (digitsI _ _ _ (by omega) (by omega) (by omega) (by omega)).mono ?_; rintro e w1 ⟨s, rfl, hs, hbl, hb⟩; have HB := hideP (HB.out.trans (hb.mono HB.out.size)); clear hb)
    | fail)
  go_ret
  exact ⟨s, rfl, Nat.le_trans hs (by decide), by rw [hbl, Int.toNat_natCast]; rfl, HB.out⟩
set_option maxRecDepth 100000 in
set_option maxHeartbeats 1600000 in
theorem wr_2 (t : Tm) (hO : TmOk t) (tx : ByteArray) (n : Nat) (cm : Bool) (w : World) (htx : tx.size ≤ 1000) (hn : True) : Calls Tryd.prog 54 #[.agg #[.int .i64 2, .string tx, .int .i64 n, .bool cm], cvV t] w (TxtTo (writK t 2 tx n cm) 1000 w) := by
  have by1 : (t.y : Int) ≤ 9999 := by have := hO.day.1; omega
  have bm1 : (t.mo : Int) ≤ 12 := by have := hO.day.2.2.1; omega
  have bd1 : (t.d : Int) ≤ 31 := by
    have := hO.day.2.2.2.2.1
    unfold mLen at this; repeat' split at this
    all_goals omega
  have byd : ((ydN t.y t.mo t.d : Nat) : Int) ≤ 366 := by have := (ydN_le hO.day).2; omega
  obtain ⟨bh0, bmi0, bs0⟩ := hO.clock
  have bh1 : (t.h : Int) ≤ 23 := by omega
  have bmi1 : (t.mi : Int) ≤ 59 := by omega
  have bs1 : (t.s : Int) ≤ 59 := by omega
  have bh12 : ((h12 t.h : Nat) : Int) ≤ 12 := by unfold h12; split <;> omega
  clear bh0 bmi0 bs0
  have HO := hideP hO
  have HN := hideP hn
  have HTX := hideP htx
  have HB := hideP (below2 w (.cells #[.int .i64 2, .string tx, .int .i64 n, .bool cm] 42) (.cells #[.int .i64 t.y, .int .i64 t.mo, .int .i64 t.d, .int .i64 t.h, .int .i64 t.mi, .int .i64 t.s, .int .i64 t.ns, .string t.zn, .int .i64 t.off] 28))
  clear hO hn htx
  unfold cvV
  go_enter Tryd.func54, Tryd.ntmps54
  go_wp2_with (first
    | (go_at_call 29; refine (digitsI _ _ _ (by omega) (by omega) (by omega) (by omega)).mono ?_; rintro e w1 ⟨s, rfl, hs, hbl, hb⟩; have HB := hideP (HB.out.trans (hb.mono HB.out.size)); clear hb)
    | fail)
  go_ret
  exact ⟨s, rfl, Nat.le_trans hs (by decide), by rw [hbl, show ((t.y : Int) % 100).toNat = t.y % 100 from by omega]; rfl, HB.out⟩
set_option maxRecDepth 100000 in
set_option maxHeartbeats 1600000 in
theorem wr_3 (t : Tm) (hO : TmOk t) (tx : ByteArray) (n : Nat) (cm : Bool) (w : World) (htx : tx.size ≤ 1000) (hn : True) : Calls Tryd.prog 54 #[.agg #[.int .i64 3, .string tx, .int .i64 n, .bool cm], cvV t] w (TxtTo (writK t 3 tx n cm) 1000 w) := by
  have by1 : (t.y : Int) ≤ 9999 := by have := hO.day.1; omega
  have bm1 : (t.mo : Int) ≤ 12 := by have := hO.day.2.2.1; omega
  have bd1 : (t.d : Int) ≤ 31 := by
    have := hO.day.2.2.2.2.1
    unfold mLen at this; repeat' split at this
    all_goals omega
  have byd : ((ydN t.y t.mo t.d : Nat) : Int) ≤ 366 := by have := (ydN_le hO.day).2; omega
  obtain ⟨bh0, bmi0, bs0⟩ := hO.clock
  have bh1 : (t.h : Int) ≤ 23 := by omega
  have bmi1 : (t.mi : Int) ≤ 59 := by omega
  have bs1 : (t.s : Int) ≤ 59 := by omega
  have bh12 : ((h12 t.h : Nat) : Int) ≤ 12 := by unfold h12; split <;> omega
  clear bh0 bmi0 bs0
  have HO := hideP hO
  have HN := hideP hn
  have HTX := hideP htx
  have HB := hideP (below2 w (.cells #[.int .i64 3, .string tx, .int .i64 n, .bool cm] 42) (.cells #[.int .i64 t.y, .int .i64 t.mo, .int .i64 t.d, .int .i64 t.h, .int .i64 t.mi, .int .i64 t.s, .int .i64 t.ns, .string t.zn, .int .i64 t.off] 28))
  clear hO hn htx
  unfold cvV
  go_enter Tryd.func54, Tryd.ntmps54
  go_wp2_with (first
    | (go_at_call 74; refine (monthS t.mo _ HO.out.day.2.1 HO.out.day.2.2.1).mono ?_; rintro e w1 ⟨s, rfl, hs, hbl, hb⟩; have z3 : (3 : Int) ≤ s.size := (by have := (monN_sz t.mo HO.out.day.2.1 HO.out.day.2.2.1).1; rw [← hbl, bl_length] at this; omega); have HB := hideP (HB.out.trans (hb.mono HB.out.size)); clear hb)
    | fail)
  go_ret
  exact ⟨s, rfl, Nat.le_trans hs (by decide), by rw [hbl]; rfl, HB.out⟩
set_option maxRecDepth 100000 in
set_option maxHeartbeats 1600000 in
theorem wr_4 (t : Tm) (hO : TmOk t) (tx : ByteArray) (n : Nat) (cm : Bool) (w : World) (htx : tx.size ≤ 1000) (hn : True) : Calls Tryd.prog 54 #[.agg #[.int .i64 4, .string tx, .int .i64 n, .bool cm], cvV t] w (TxtTo (writK t 4 tx n cm) 1000 w) := by
  have by1 : (t.y : Int) ≤ 9999 := by have := hO.day.1; omega
  have bm1 : (t.mo : Int) ≤ 12 := by have := hO.day.2.2.1; omega
  have bd1 : (t.d : Int) ≤ 31 := by
    have := hO.day.2.2.2.2.1
    unfold mLen at this; repeat' split at this
    all_goals omega
  have byd : ((ydN t.y t.mo t.d : Nat) : Int) ≤ 366 := by have := (ydN_le hO.day).2; omega
  obtain ⟨bh0, bmi0, bs0⟩ := hO.clock
  have bh1 : (t.h : Int) ≤ 23 := by omega
  have bmi1 : (t.mi : Int) ≤ 59 := by omega
  have bs1 : (t.s : Int) ≤ 59 := by omega
  have bh12 : ((h12 t.h : Nat) : Int) ≤ 12 := by unfold h12; split <;> omega
  clear bh0 bmi0 bs0
  have HO := hideP hO
  have HN := hideP hn
  have HTX := hideP htx
  have HB := hideP (below2 w (.cells #[.int .i64 4, .string tx, .int .i64 n, .bool cm] 42) (.cells #[.int .i64 t.y, .int .i64 t.mo, .int .i64 t.d, .int .i64 t.h, .int .i64 t.mi, .int .i64 t.s, .int .i64 t.ns, .string t.zn, .int .i64 t.off] 28))
  clear hO hn htx
  unfold cvV
  go_enter Tryd.func54, Tryd.ntmps54
  go_wp2_with (first
    | (go_at_call 74; refine (monthS t.mo _ HO.out.day.2.1 HO.out.day.2.2.1).mono ?_; rintro e w1 ⟨s, rfl, hs, hbl, hb⟩; have z3 : (3 : Int) ≤ s.size := (by have := (monN_sz t.mo HO.out.day.2.1 HO.out.day.2.2.1).1; rw [← hbl, bl_length] at this; omega); have HB := hideP (HB.out.trans (hb.mono HB.out.size)); clear hb)
    | fail)
  go_ret
  exact ⟨_, rfl, by rw [ByteArray.size_extract]; omega, by rw [bl_extract, hbl]; rfl, HB.out⟩
set_option maxRecDepth 100000 in
set_option maxHeartbeats 1600000 in
theorem wr_5 (t : Tm) (hO : TmOk t) (tx : ByteArray) (n : Nat) (cm : Bool) (w : World) (htx : tx.size ≤ 1000) (hn : True) : Calls Tryd.prog 54 #[.agg #[.int .i64 5, .string tx, .int .i64 n, .bool cm], cvV t] w (TxtTo (writK t 5 tx n cm) 1000 w) := by
  have by1 : (t.y : Int) ≤ 9999 := by have := hO.day.1; omega
  have bm1 : (t.mo : Int) ≤ 12 := by have := hO.day.2.2.1; omega
  have bd1 : (t.d : Int) ≤ 31 := by
    have := hO.day.2.2.2.2.1
    unfold mLen at this; repeat' split at this
    all_goals omega
  have byd : ((ydN t.y t.mo t.d : Nat) : Int) ≤ 366 := by have := (ydN_le hO.day).2; omega
  obtain ⟨bh0, bmi0, bs0⟩ := hO.clock
  have bh1 : (t.h : Int) ≤ 23 := by omega
  have bmi1 : (t.mi : Int) ≤ 59 := by omega
  have bs1 : (t.s : Int) ≤ 59 := by omega
  have bh12 : ((h12 t.h : Nat) : Int) ≤ 12 := by unfold h12; split <;> omega
  clear bh0 bmi0 bs0
  have HO := hideP hO
  have HN := hideP hn
  have HTX := hideP htx
  have HB := hideP (below2 w (.cells #[.int .i64 5, .string tx, .int .i64 n, .bool cm] 42) (.cells #[.int .i64 t.y, .int .i64 t.mo, .int .i64 t.d, .int .i64 t.h, .int .i64 t.mi, .int .i64 t.s, .int .i64 t.ns, .string t.zn, .int .i64 t.off] 28))
  clear hO hn htx
  unfold cvV
  go_enter Tryd.func54, Tryd.ntmps54
  go_wp2_with (first
    | (go_at_call 29; refine (digitsI _ _ _ (by omega) (by omega) (by omega) (by omega)).mono ?_; rintro e w1 ⟨s, rfl, hs, hbl, hb⟩; have HB := hideP (HB.out.trans (hb.mono HB.out.size)); clear hb)
    | fail)
  go_ret
  exact ⟨s, rfl, Nat.le_trans hs (by decide), by rw [hbl, Int.toNat_natCast]; rfl, HB.out⟩
set_option maxRecDepth 100000 in
set_option maxHeartbeats 1600000 in
theorem wr_6 (t : Tm) (hO : TmOk t) (tx : ByteArray) (n : Nat) (cm : Bool) (w : World) (htx : tx.size ≤ 1000) (hn : True) : Calls Tryd.prog 54 #[.agg #[.int .i64 6, .string tx, .int .i64 n, .bool cm], cvV t] w (TxtTo (writK t 6 tx n cm) 1000 w) := by
  have by1 : (t.y : Int) ≤ 9999 := by have := hO.day.1; omega
  have bm1 : (t.mo : Int) ≤ 12 := by have := hO.day.2.2.1; omega
  have bd1 : (t.d : Int) ≤ 31 := by
    have := hO.day.2.2.2.2.1
    unfold mLen at this; repeat' split at this
    all_goals omega
  have byd : ((ydN t.y t.mo t.d : Nat) : Int) ≤ 366 := by have := (ydN_le hO.day).2; omega
  obtain ⟨bh0, bmi0, bs0⟩ := hO.clock
  have bh1 : (t.h : Int) ≤ 23 := by omega
  have bmi1 : (t.mi : Int) ≤ 59 := by omega
  have bs1 : (t.s : Int) ≤ 59 := by omega
  have bh12 : ((h12 t.h : Nat) : Int) ≤ 12 := by unfold h12; split <;> omega
  clear bh0 bmi0 bs0
  have HO := hideP hO
  have HN := hideP hn
  have HTX := hideP htx
  have HB := hideP (below2 w (.cells #[.int .i64 6, .string tx, .int .i64 n, .bool cm] 42) (.cells #[.int .i64 t.y, .int .i64 t.mo, .int .i64 t.d, .int .i64 t.h, .int .i64 t.mi, .int .i64 t.s, .int .i64 t.ns, .string t.zn, .int .i64 t.off] 28))
  clear hO hn htx
  unfold cvV
  go_enter Tryd.func54, Tryd.ntmps54
  go_wp2_with (first
    | (go_at_call 29; refine (digitsI _ _ _ (by omega) (by omega) (by omega) (by omega)).mono ?_; rintro e w1 ⟨s, rfl, hs, hbl, hb⟩; have HB := hideP (HB.out.trans (hb.mono HB.out.size)); clear hb)
    | fail)
  go_ret
  exact ⟨s, rfl, Nat.le_trans hs (by decide), by rw [hbl, Int.toNat_natCast]; rfl, HB.out⟩
set_option maxRecDepth 100000 in
set_option maxHeartbeats 1600000 in
theorem wr_7 (t : Tm) (hO : TmOk t) (tx : ByteArray) (n : Nat) (cm : Bool) (w : World) (htx : tx.size ≤ 1000) (hn : True) : Calls Tryd.prog 54 #[.agg #[.int .i64 7, .string tx, .int .i64 n, .bool cm], cvV t] w (TxtTo (writK t 7 tx n cm) 1000 w) := by
  have by1 : (t.y : Int) ≤ 9999 := by have := hO.day.1; omega
  have bm1 : (t.mo : Int) ≤ 12 := by have := hO.day.2.2.1; omega
  have bd1 : (t.d : Int) ≤ 31 := by
    have := hO.day.2.2.2.2.1
    unfold mLen at this; repeat' split at this
    all_goals omega
  have byd : ((ydN t.y t.mo t.d : Nat) : Int) ≤ 366 := by have := (ydN_le hO.day).2; omega
  obtain ⟨bh0, bmi0, bs0⟩ := hO.clock
  have bh1 : (t.h : Int) ≤ 23 := by omega
  have bmi1 : (t.mi : Int) ≤ 59 := by omega
  have bs1 : (t.s : Int) ≤ 59 := by omega
  have bh12 : ((h12 t.h : Nat) : Int) ≤ 12 := by unfold h12; split <;> omega
  clear bh0 bmi0 bs0
  have HO := hideP hO
  have HN := hideP hn
  have HTX := hideP htx
  have HB := hideP (below2 w (.cells #[.int .i64 7, .string tx, .int .i64 n, .bool cm] 42) (.cells #[.int .i64 t.y, .int .i64 t.mo, .int .i64 t.d, .int .i64 t.h, .int .i64 t.mi, .int .i64 t.s, .int .i64 t.ns, .string t.zn, .int .i64 t.off] 28))
  clear hO hn htx
  unfold cvV
  go_enter Tryd.func54, Tryd.ntmps54
  go_wp2_with (first
    | (go_at_call 76; refine (weekdayS t _ HO.out).mono ?_; rintro e w1 ⟨rfl, hb⟩; have HB := hideP (HB.out.trans (hb.mono HB.out.size)); clear hb)
    | (go_at_call 75; refine (dayS _ _ (wdN_le _ _ _)).mono ?_; rintro e w1 ⟨s, rfl, hs, hbl, hb⟩; have z3 : (3 : Int) ≤ s.size := (by have := (dayN_sz _ (wdN_le t.y t.mo t.d)).1; rw [← hbl, bl_length] at this; omega); have HB := hideP (HB.out.trans (hb.mono HB.out.size)); clear hb)
    | fail)
  go_ret
  exact ⟨s, rfl, Nat.le_trans hs (by decide), by rw [hbl]; rfl, HB.out⟩
set_option maxRecDepth 100000 in
set_option maxHeartbeats 1600000 in
theorem wr_8 (t : Tm) (hO : TmOk t) (tx : ByteArray) (n : Nat) (cm : Bool) (w : World) (htx : tx.size ≤ 1000) (hn : True) : Calls Tryd.prog 54 #[.agg #[.int .i64 8, .string tx, .int .i64 n, .bool cm], cvV t] w (TxtTo (writK t 8 tx n cm) 1000 w) := by
  have by1 : (t.y : Int) ≤ 9999 := by have := hO.day.1; omega
  have bm1 : (t.mo : Int) ≤ 12 := by have := hO.day.2.2.1; omega
  have bd1 : (t.d : Int) ≤ 31 := by
    have := hO.day.2.2.2.2.1
    unfold mLen at this; repeat' split at this
    all_goals omega
  have byd : ((ydN t.y t.mo t.d : Nat) : Int) ≤ 366 := by have := (ydN_le hO.day).2; omega
  obtain ⟨bh0, bmi0, bs0⟩ := hO.clock
  have bh1 : (t.h : Int) ≤ 23 := by omega
  have bmi1 : (t.mi : Int) ≤ 59 := by omega
  have bs1 : (t.s : Int) ≤ 59 := by omega
  have bh12 : ((h12 t.h : Nat) : Int) ≤ 12 := by unfold h12; split <;> omega
  clear bh0 bmi0 bs0
  have HO := hideP hO
  have HN := hideP hn
  have HTX := hideP htx
  have HB := hideP (below2 w (.cells #[.int .i64 8, .string tx, .int .i64 n, .bool cm] 42) (.cells #[.int .i64 t.y, .int .i64 t.mo, .int .i64 t.d, .int .i64 t.h, .int .i64 t.mi, .int .i64 t.s, .int .i64 t.ns, .string t.zn, .int .i64 t.off] 28))
  clear hO hn htx
  unfold cvV
  go_enter Tryd.func54, Tryd.ntmps54
  go_wp2_with (first
    | (go_at_call 76; refine (weekdayS t _ HO.out).mono ?_; rintro e w1 ⟨rfl, hb⟩; have HB := hideP (HB.out.trans (hb.mono HB.out.size)); clear hb)
    | (go_at_call 75; refine (dayS _ _ (wdN_le _ _ _)).mono ?_; rintro e w1 ⟨s, rfl, hs, hbl, hb⟩; have z3 : (3 : Int) ≤ s.size := (by have := (dayN_sz _ (wdN_le t.y t.mo t.d)).1; rw [← hbl, bl_length] at this; omega); have HB := hideP (HB.out.trans (hb.mono HB.out.size)); clear hb)
    | fail)
  go_ret
  exact ⟨_, rfl, by rw [ByteArray.size_extract]; omega, by rw [bl_extract, hbl]; rfl, HB.out⟩
set_option maxRecDepth 100000 in
set_option maxHeartbeats 1600000 in
theorem wr_9 (t : Tm) (hO : TmOk t) (tx : ByteArray) (n : Nat) (cm : Bool) (w : World) (htx : tx.size ≤ 1000) (hn : True) : Calls Tryd.prog 54 #[.agg #[.int .i64 9, .string tx, .int .i64 n, .bool cm], cvV t] w (TxtTo (writK t 9 tx n cm) 1000 w) := by
  have by1 : (t.y : Int) ≤ 9999 := by have := hO.day.1; omega
  have bm1 : (t.mo : Int) ≤ 12 := by have := hO.day.2.2.1; omega
  have bd1 : (t.d : Int) ≤ 31 := by
    have := hO.day.2.2.2.2.1
    unfold mLen at this; repeat' split at this
    all_goals omega
  have byd : ((ydN t.y t.mo t.d : Nat) : Int) ≤ 366 := by have := (ydN_le hO.day).2; omega
  obtain ⟨bh0, bmi0, bs0⟩ := hO.clock
  have bh1 : (t.h : Int) ≤ 23 := by omega
  have bmi1 : (t.mi : Int) ≤ 59 := by omega
  have bs1 : (t.s : Int) ≤ 59 := by omega
  have bh12 : ((h12 t.h : Nat) : Int) ≤ 12 := by unfold h12; split <;> omega
  clear bh0 bmi0 bs0
  have HO := hideP hO
  have HN := hideP hn
  have HTX := hideP htx
  have HB := hideP (below2 w (.cells #[.int .i64 9, .string tx, .int .i64 n, .bool cm] 42) (.cells #[.int .i64 t.y, .int .i64 t.mo, .int .i64 t.d, .int .i64 t.h, .int .i64 t.mi, .int .i64 t.s, .int .i64 t.ns, .string t.zn, .int .i64 t.off] 28))
  clear hO hn htx
  unfold cvV
  go_enter Tryd.func54, Tryd.ntmps54
  go_wp2_with (first
    | (go_at_call 29; refine (digitsI _ _ _ (by omega) (by omega) (by omega) (by omega)).mono ?_; rintro e w1 ⟨s, rfl, hs, hbl, hb⟩; have HB := hideP (HB.out.trans (hb.mono HB.out.size)); clear hb)
    | fail)
  go_ret
  exact ⟨s, rfl, Nat.le_trans hs (by decide), by rw [hbl, Int.toNat_natCast]; rfl, HB.out⟩
set_option maxRecDepth 100000 in
set_option maxHeartbeats 1600000 in
theorem wr_10 (t : Tm) (hO : TmOk t) (tx : ByteArray) (n : Nat) (cm : Bool) (w : World) (htx : tx.size ≤ 1000) (hn : True) : Calls Tryd.prog 54 #[.agg #[.int .i64 10, .string tx, .int .i64 n, .bool cm], cvV t] w (TxtTo (writK t 10 tx n cm) 1000 w) := by
  have by1 : (t.y : Int) ≤ 9999 := by have := hO.day.1; omega
  have bm1 : (t.mo : Int) ≤ 12 := by have := hO.day.2.2.1; omega
  have bd1 : (t.d : Int) ≤ 31 := by
    have := hO.day.2.2.2.2.1
    unfold mLen at this; repeat' split at this
    all_goals omega
  have byd : ((ydN t.y t.mo t.d : Nat) : Int) ≤ 366 := by have := (ydN_le hO.day).2; omega
  obtain ⟨bh0, bmi0, bs0⟩ := hO.clock
  have bh1 : (t.h : Int) ≤ 23 := by omega
  have bmi1 : (t.mi : Int) ≤ 59 := by omega
  have bs1 : (t.s : Int) ≤ 59 := by omega
  have bh12 : ((h12 t.h : Nat) : Int) ≤ 12 := by unfold h12; split <;> omega
  clear bh0 bmi0 bs0
  have HO := hideP hO
  have HN := hideP hn
  have HTX := hideP htx
  have HB := hideP (below2 w (.cells #[.int .i64 10, .string tx, .int .i64 n, .bool cm] 42) (.cells #[.int .i64 t.y, .int .i64 t.mo, .int .i64 t.d, .int .i64 t.h, .int .i64 t.mi, .int .i64 t.s, .int .i64 t.ns, .string t.zn, .int .i64 t.off] 28))
  clear hO hn htx
  unfold cvV
  go_enter Tryd.func54, Tryd.ntmps54
  go_wp2_with (first
    | (go_at_call 35; refine (blankI _ _ _ (by omega) (by omega) (by omega) (by omega)).mono ?_; rintro e w1 ⟨s, rfl, hs, hbl, hb⟩; have HB := hideP (HB.out.trans (hb.mono HB.out.size)); clear hb)
    | fail)
  go_ret
  exact ⟨s, rfl, Nat.le_trans hs (by decide), by rw [hbl, Int.toNat_natCast]; rfl, HB.out⟩
set_option maxRecDepth 100000 in
set_option maxHeartbeats 1600000 in
theorem wr_11 (t : Tm) (hO : TmOk t) (tx : ByteArray) (n : Nat) (cm : Bool) (w : World) (htx : tx.size ≤ 1000) (hn : True) : Calls Tryd.prog 54 #[.agg #[.int .i64 11, .string tx, .int .i64 n, .bool cm], cvV t] w (TxtTo (writK t 11 tx n cm) 1000 w) := by
  have by1 : (t.y : Int) ≤ 9999 := by have := hO.day.1; omega
  have bm1 : (t.mo : Int) ≤ 12 := by have := hO.day.2.2.1; omega
  have bd1 : (t.d : Int) ≤ 31 := by
    have := hO.day.2.2.2.2.1
    unfold mLen at this; repeat' split at this
    all_goals omega
  have byd : ((ydN t.y t.mo t.d : Nat) : Int) ≤ 366 := by have := (ydN_le hO.day).2; omega
  obtain ⟨bh0, bmi0, bs0⟩ := hO.clock
  have bh1 : (t.h : Int) ≤ 23 := by omega
  have bmi1 : (t.mi : Int) ≤ 59 := by omega
  have bs1 : (t.s : Int) ≤ 59 := by omega
  have bh12 : ((h12 t.h : Nat) : Int) ≤ 12 := by unfold h12; split <;> omega
  clear bh0 bmi0 bs0
  have HO := hideP hO
  have HN := hideP hn
  have HTX := hideP htx
  have HB := hideP (below2 w (.cells #[.int .i64 11, .string tx, .int .i64 n, .bool cm] 42) (.cells #[.int .i64 t.y, .int .i64 t.mo, .int .i64 t.d, .int .i64 t.h, .int .i64 t.mi, .int .i64 t.s, .int .i64 t.ns, .string t.zn, .int .i64 t.off] 28))
  clear hO hn htx
  unfold cvV
  go_enter Tryd.func54, Tryd.ntmps54
  go_wp2_with (first
    | (go_at_call 29; refine (digitsI _ _ _ (by omega) (by omega) (by omega) (by omega)).mono ?_; rintro e w1 ⟨s, rfl, hs, hbl, hb⟩; have HB := hideP (HB.out.trans (hb.mono HB.out.size)); clear hb)
    | fail)
  go_ret
  exact ⟨s, rfl, Nat.le_trans hs (by decide), by rw [hbl, Int.toNat_natCast]; rfl, HB.out⟩
set_option maxRecDepth 100000 in
set_option maxHeartbeats 1600000 in
theorem wr_12 (t : Tm) (hO : TmOk t) (tx : ByteArray) (n : Nat) (cm : Bool) (w : World) (htx : tx.size ≤ 1000) (hn : True) : Calls Tryd.prog 54 #[.agg #[.int .i64 12, .string tx, .int .i64 n, .bool cm], cvV t] w (TxtTo (writK t 12 tx n cm) 1000 w) := by
  have by1 : (t.y : Int) ≤ 9999 := by have := hO.day.1; omega
  have bm1 : (t.mo : Int) ≤ 12 := by have := hO.day.2.2.1; omega
  have bd1 : (t.d : Int) ≤ 31 := by
    have := hO.day.2.2.2.2.1
    unfold mLen at this; repeat' split at this
    all_goals omega
  have byd : ((ydN t.y t.mo t.d : Nat) : Int) ≤ 366 := by have := (ydN_le hO.day).2; omega
  obtain ⟨bh0, bmi0, bs0⟩ := hO.clock
  have bh1 : (t.h : Int) ≤ 23 := by omega
  have bmi1 : (t.mi : Int) ≤ 59 := by omega
  have bs1 : (t.s : Int) ≤ 59 := by omega
  have bh12 : ((h12 t.h : Nat) : Int) ≤ 12 := by unfold h12; split <;> omega
  clear bh0 bmi0 bs0
  have HO := hideP hO
  have HN := hideP hn
  have HTX := hideP htx
  have HB := hideP (below2 w (.cells #[.int .i64 12, .string tx, .int .i64 n, .bool cm] 42) (.cells #[.int .i64 t.y, .int .i64 t.mo, .int .i64 t.d, .int .i64 t.h, .int .i64 t.mi, .int .i64 t.s, .int .i64 t.ns, .string t.zn, .int .i64 t.off] 28))
  clear hO hn htx
  unfold cvV
  go_enter Tryd.func54, Tryd.ntmps54
  go_wp2_with (first
    | (go_at_call 36; refine (yearDayS t _ HO.out).mono ?_; rintro e w1 ⟨rfl, hb⟩; have HB := hideP (HB.out.trans (hb.mono HB.out.size)); clear hb)
    | (go_at_call 35; refine (blankI _ _ _ (by omega) (by omega) (by omega) (by omega)).mono ?_; rintro e w1 ⟨s, rfl, hs, hbl, hb⟩; have HB := hideP (HB.out.trans (hb.mono HB.out.size)); clear hb)
    | fail)
  go_ret
  exact ⟨s, rfl, Nat.le_trans hs (by decide), by rw [hbl, Int.toNat_natCast]; rfl, HB.out⟩
set_option maxRecDepth 100000 in
set_option maxHeartbeats 1600000 in
theorem wr_13 (t : Tm) (hO : TmOk t) (tx : ByteArray) (n : Nat) (cm : Bool) (w : World) (htx : tx.size ≤ 1000) (hn : True) : Calls Tryd.prog 54 #[.agg #[.int .i64 13, .string tx, .int .i64 n, .bool cm], cvV t] w (TxtTo (writK t 13 tx n cm) 1000 w) := by
  have by1 : (t.y : Int) ≤ 9999 := by have := hO.day.1; omega
  have bm1 : (t.mo : Int) ≤ 12 := by have := hO.day.2.2.1; omega
  have bd1 : (t.d : Int) ≤ 31 := by
    have := hO.day.2.2.2.2.1
    unfold mLen at this; repeat' split at this
    all_goals omega
  have byd : ((ydN t.y t.mo t.d : Nat) : Int) ≤ 366 := by have := (ydN_le hO.day).2; omega
  obtain ⟨bh0, bmi0, bs0⟩ := hO.clock
  have bh1 : (t.h : Int) ≤ 23 := by omega
  have bmi1 : (t.mi : Int) ≤ 59 := by omega
  have bs1 : (t.s : Int) ≤ 59 := by omega
  have bh12 : ((h12 t.h : Nat) : Int) ≤ 12 := by unfold h12; split <;> omega
  clear bh0 bmi0 bs0
  have HO := hideP hO
  have HN := hideP hn
  have HTX := hideP htx
  have HB := hideP (below2 w (.cells #[.int .i64 13, .string tx, .int .i64 n, .bool cm] 42) (.cells #[.int .i64 t.y, .int .i64 t.mo, .int .i64 t.d, .int .i64 t.h, .int .i64 t.mi, .int .i64 t.s, .int .i64 t.ns, .string t.zn, .int .i64 t.off] 28))
  clear hO hn htx
  unfold cvV
  go_enter Tryd.func54, Tryd.ntmps54
  go_wp2_with (first
    | (go_at_call 36; refine (yearDayS t _ HO.out).mono ?_; rintro e w1 ⟨rfl, hb⟩; have HB := hideP (HB.out.trans (hb.mono HB.out.size)); clear hb)
    | (go_at_call 29; refine (digitsI _ _ _ (by omega) (by omega) (by omega) (by omega)).mono ?_; rintro e w1 ⟨s, rfl, hs, hbl, hb⟩; have HB := hideP (HB.out.trans (hb.mono HB.out.size)); clear hb)
    | fail)
  go_ret
  exact ⟨s, rfl, Nat.le_trans hs (by decide), by rw [hbl, Int.toNat_natCast]; rfl, HB.out⟩
end Go.Proofs.YtigabjibdepoiaaDoor.Tm
