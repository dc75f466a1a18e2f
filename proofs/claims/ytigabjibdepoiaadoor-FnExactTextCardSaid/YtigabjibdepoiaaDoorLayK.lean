/- The walk of the reference's written: clocks and fractions. The walk of the reference's written: offsets. The walk of the reference's written, any piece. The walks over a list of pieces: Written and Fits. What the laws of the layouts share: the sizes' guard, the rows of pieces, and the elements of both sides. A time that comes in: its cells. -/
import Derived.Test.YtigabjibdepoiaaDoorSpH
import Derived.Deep.RegionHeld3
import Derived.Test.YtigabjibdepoiaaDoorSpF
import Derived.Test.YtigabjibdepoiaaDoorFmtV
import Derived.Test.YtigabjibdepoiaaDoorRowTab
namespace Go.Proofs.YtigabjibdepoiaaDoor.Tm
set_option linter.unusedSimpArgs false
set_option linter.unusedVariables false
open Go.RowKit Go
set_option maxRecDepth 100000 in
set_option maxHeartbeats 1600000 in
theorem wr_14 (t : Tm) (hO : TmOk t) (tx : ByteArray) (n : Nat) (cm : Bool) (w : World) (htx : tx.size ≤ 1000) (hn : True) : Calls Tryd.prog 54 #[.agg #[.int .i64 14, .string tx, .int .i64 n, .bool cm], cvV t] w (TxtTo (writK t 14 tx n cm) 1000 w) := by
  have by1 : (t.y : Int) ≤ 9999 := by have := hO.day.1; omega
  have bm1 : (t.mo : Int) ≤ 12 := by have := hO.day.2.2.1; omega
  have bd1 : (t.d : Int) ≤ 31 := by
    have := hO.day.2.2.2.2.1
    unfold mLen at this; repeat' split at this
    all_goals omega
  have byd : ((ydN t.y t.mo t.d : Nat) : Int) ≤ 366 := by have := (ydN_le hO.day).2; omega
  obtain ⟨bh0, bmi0, bs0⟩ := hO.clock
  have bh1 : (t.h : Int) ≤ 23 := by omega
  have bmi1 : (t.mi : Int) ≤ 59 := by omega
  have bs1 : (t.s : Int) ≤ 59 := by omega
  have bh12 : ((h12 t.h : Nat) : Int) ≤ 12 := by unfold h12; split <;> omega
  clear bh0 bmi0 bs0
  have HO := hideP hO
  have HN := hideP hn
  have HTX := hideP htx
  have HB := hideP (below2 w (.cells #[.int .i64 14, .string tx, .int .i64 n, .bool cm] 42) (.cells #[.int .i64 t.y, .int .i64 t.mo, .int .i64 t.d, .int .i64 t.h, .int .i64 t.mi, .int .i64 t.s, .int .i64 t.ns, .string t.zn, .int .i64 t.off] 28))
  clear hO hn htx
  unfold cvV
  go_enter Tryd.func54, Tryd.ntmps54
  go_wp2_with (first
    | (go_at_call 29; refine (digitsI _ _ _ (by omega) (by omega) (by omega) (by omega)).mono ?_; rintro e w1 ⟨s, rfl, hs, hbl, hb⟩; have HB := hideP (HB.out.trans (hb.mono HB.out.size)); clear hb)
    | fail)
  go_ret
  exact ⟨s, rfl, Nat.le_trans hs (by decide), by rw [hbl, Int.toNat_natCast]; rfl, HB.out⟩
set_option maxRecDepth 100000 in
set_option maxHeartbeats 1600000 in
theorem wr_15 (t : Tm) (hO : TmOk t) (tx : ByteArray) (n : Nat) (cm : Bool) (w : World) (htx : tx.size ≤ 1000) (hn : True) : Calls Tryd.prog 54 #[.agg #[.int .i64 15, .string tx, .int .i64 n, .bool cm], cvV t] w (TxtTo (writK t 15 tx n cm) 1000 w) := by
  have by1 : (t.y : Int) ≤ 9999 := by have := hO.day.1; omega
  have bm1 : (t.mo : Int) ≤ 12 := by have := hO.day.2.2.1; omega
  have bd1 : (t.d : Int) ≤ 31 := by
    have := hO.day.2.2.2.2.1
    unfold mLen at this; repeat' split at this
    all_goals omega
  have byd : ((ydN t.y t.mo t.d : Nat) : Int) ≤ 366 := by have := (ydN_le hO.day).2; omega
  obtain ⟨bh0, bmi0, bs0⟩ := hO.clock
  have bh1 : (t.h : Int) ≤ 23 := by omega
  have bmi1 : (t.mi : Int) ≤ 59 := by omega
  have bs1 : (t.s : Int) ≤ 59 := by omega
  have bh12 : ((h12 t.h : Nat) : Int) ≤ 12 := by unfold h12; split <;> omega
  clear bh0 bmi0 bs0
  have HO := hideP hO
  have HN := hideP hn
  have HTX := hideP htx
  have HB := hideP (below2 w (.cells #[.int .i64 15, .string tx, .int .i64 n, .bool cm] 42) (.cells #[.int .i64 t.y, .int .i64 t.mo, .int .i64 t.d, .int .i64 t.h, .int .i64 t.mi, .int .i64 t.s, .int .i64 t.ns, .string t.zn, .int .i64 t.off] 28))
  clear hO hn htx
  unfold cvV
  go_enter Tryd.func54, Tryd.ntmps54
  go_wp2_with (first
    | (go_at_call 77; refine (hour12S t.h _ HO.out.clock.1).mono ?_; rintro e w1 ⟨rfl, rfl⟩)
    | (go_at_call 29; refine (digitsI _ _ _ (by omega) (by omega) (by omega) (by omega)).mono ?_; rintro e w1 ⟨s, rfl, hs, hbl, hb⟩; have HB := hideP (HB.out.trans (hb.mono HB.out.size)); clear hb)
    | fail)
  go_ret
  exact ⟨s, rfl, Nat.le_trans hs (by decide), by rw [hbl, Int.toNat_natCast]; rfl, HB.out⟩
set_option maxRecDepth 100000 in
set_option maxHeartbeats 1600000 in
theorem wr_16 (t : Tm) (hO : TmOk t) (tx : ByteArray) (n : Nat) (cm : Bool) (w : World) (htx : tx.size ≤ 1000) (hn : True) : Calls Tryd.prog 54 #[.agg #[.int .i64 16, .string tx, .int .i64 n, .bool cm], cvV t] w (TxtTo (writK t 16 tx n cm) 1000 w) := by
  have by1 : (t.y : Int) ≤ 9999 := by have := hO.day.1; omega
  have bm1 : (t.mo : Int) ≤ 12 := by have := hO.day.2.2.1; omega
  have bd1 : (t.d : Int) ≤ 31 := by
    have := hO.day.2.2.2.2.1
    unfold mLen at this; repeat' split at this
    all_goals omega
  have byd : ((ydN t.y t.mo t.d : Nat) : Int) ≤ 366 := by have := (ydN_le hO.day).2; omega
  obtain ⟨bh0, bmi0, bs0⟩ := hO.clock
  have bh1 : (t.h : Int) ≤ 23 := by omega
  have bmi1 : (t.mi : Int) ≤ 59 := by omega
  have bs1 : (t.s : Int) ≤ 59 := by omega
  have bh12 : ((h12 t.h : Nat) : Int) ≤ 12 := by unfold h12; split <;> omega
  clear bh0 bmi0 bs0
  have HO := hideP hO
  have HN := hideP hn
  have HTX := hideP htx
  have HB := hideP (below2 w (.cells #[.int .i64 16, .string tx, .int .i64 n, .bool cm] 42) (.cells #[.int .i64 t.y, .int .i64 t.mo, .int .i64 t.d, .int .i64 t.h, .int .i64 t.mi, .int .i64 t.s, .int .i64 t.ns, .string t.zn, .int .i64 t.off] 28))
  clear hO hn htx
  unfold cvV
  go_enter Tryd.func54, Tryd.ntmps54
  go_wp2_with (first
    | (go_at_call 77; refine (hour12S t.h _ HO.out.clock.1).mono ?_; rintro e w1 ⟨rfl, rfl⟩)
    | (go_at_call 29; refine (digitsI _ _ _ (by omega) (by omega) (by omega) (by omega)).mono ?_; rintro e w1 ⟨s, rfl, hs, hbl, hb⟩; have HB := hideP (HB.out.trans (hb.mono HB.out.size)); clear hb)
    | fail)
  go_ret
  exact ⟨s, rfl, Nat.le_trans hs (by decide), by rw [hbl, Int.toNat_natCast]; rfl, HB.out⟩
set_option maxRecDepth 100000 in
set_option maxHeartbeats 1600000 in
theorem wr_17 (t : Tm) (hO : TmOk t) (tx : ByteArray) (n : Nat) (cm : Bool) (w : World) (htx : tx.size ≤ 1000) (hn : True) : Calls Tryd.prog 54 #[.agg #[.int .i64 17, .string tx, .int .i64 n, .bool cm], cvV t] w (TxtTo (writK t 17 tx n cm) 1000 w) := by
  have by1 : (t.y : Int) ≤ 9999 := by have := hO.day.1; omega
  have bm1 : (t.mo : Int) ≤ 12 := by have := hO.day.2.2.1; omega
  have bd1 : (t.d : Int) ≤ 31 := by
    have := hO.day.2.2.2.2.1
    unfold mLen at this; repeat' split at this
    all_goals omega
  have byd : ((ydN t.y t.mo t.d : Nat) : Int) ≤ 366 := by have := (ydN_le hO.day).2; omega
  obtain ⟨bh0, bmi0, bs0⟩ := hO.clock
  have bh1 : (t.h : Int) ≤ 23 := by omega
  have bmi1 : (t.mi : Int) ≤ 59 := by omega
  have bs1 : (t.s : Int) ≤ 59 := by omega
  have bh12 : ((h12 t.h : Nat) : Int) ≤ 12 := by unfold h12; split <;> omega
  clear bh0 bmi0 bs0
  have HO := hideP hO
  have HN := hideP hn
  have HTX := hideP htx
  have HB := hideP (below2 w (.cells #[.int .i64 17, .string tx, .int .i64 n, .bool cm] 42) (.cells #[.int .i64 t.y, .int .i64 t.mo, .int .i64 t.d, .int .i64 t.h, .int .i64 t.mi, .int .i64 t.s, .int .i64 t.ns, .string t.zn, .int .i64 t.off] 28))
  clear hO hn htx
  unfold cvV
  go_enter Tryd.func54, Tryd.ntmps54
  go_wp2_with (first
    | (go_at_call 29; refine (digitsI _ _ _ (by omega) (by omega) (by omega) (by omega)).mono ?_; rintro e w1 ⟨s, rfl, hs, hbl, hb⟩; have HB := hideP (HB.out.trans (hb.mono HB.out.size)); clear hb)
    | fail)
  go_ret
  exact ⟨s, rfl, Nat.le_trans hs (by decide), by rw [hbl, Int.toNat_natCast]; rfl, HB.out⟩
set_option maxRecDepth 100000 in
set_option maxHeartbeats 1600000 in
theorem wr_18 (t : Tm) (hO : TmOk t) (tx : ByteArray) (n : Nat) (cm : Bool) (w : World) (htx : tx.size ≤ 1000) (hn : True) : Calls Tryd.prog 54 #[.agg #[.int .i64 18, .string tx, .int .i64 n, .bool cm], cvV t] w (TxtTo (writK t 18 tx n cm) 1000 w) := by
  have by1 : (t.y : Int) ≤ 9999 := by have := hO.day.1; omega
  have bm1 : (t.mo : Int) ≤ 12 := by have := hO.day.2.2.1; omega
  have bd1 : (t.d : Int) ≤ 31 := by
    have := hO.day.2.2.2.2.1
    unfold mLen at this; repeat' split at this
    all_goals omega
  have byd : ((ydN t.y t.mo t.d : Nat) : Int) ≤ 366 := by have := (ydN_le hO.day).2; omega
  obtain ⟨bh0, bmi0, bs0⟩ := hO.clock
  have bh1 : (t.h : Int) ≤ 23 := by omega
  have bmi1 : (t.mi : Int) ≤ 59 := by omega
  have bs1 : (t.s : Int) ≤ 59 := by omega
  have bh12 : ((h12 t.h : Nat) : Int) ≤ 12 := by unfold h12; split <;> omega
  clear bh0 bmi0 bs0
  have HO := hideP hO
  have HN := hideP hn
  have HTX := hideP htx
  have HB := hideP (below2 w (.cells #[.int .i64 18, .string tx, .int .i64 n, .bool cm] 42) (.cells #[.int .i64 t.y, .int .i64 t.mo, .int .i64 t.d, .int .i64 t.h, .int .i64 t.mi, .int .i64 t.s, .int .i64 t.ns, .string t.zn, .int .i64 t.off] 28))
  clear hO hn htx
  unfold cvV
  go_enter Tryd.func54, Tryd.ntmps54
  go_wp2_with (first
    | (go_at_call 29; refine (digitsI _ _ _ (by omega) (by omega) (by omega) (by omega)).mono ?_; rintro e w1 ⟨s, rfl, hs, hbl, hb⟩; have HB := hideP (HB.out.trans (hb.mono HB.out.size)); clear hb)
    | fail)
  go_ret
  exact ⟨s, rfl, Nat.le_trans hs (by decide), by rw [hbl, Int.toNat_natCast]; rfl, HB.out⟩
set_option maxRecDepth 100000 in
set_option maxHeartbeats 1600000 in
theorem wr_19 (t : Tm) (hO : TmOk t) (tx : ByteArray) (n : Nat) (cm : Bool) (w : World) (htx : tx.size ≤ 1000) (hn : True) : Calls Tryd.prog 54 #[.agg #[.int .i64 19, .string tx, .int .i64 n, .bool cm], cvV t] w (TxtTo (writK t 19 tx n cm) 1000 w) := by
  have by1 : (t.y : Int) ≤ 9999 := by have := hO.day.1; omega
  have bm1 : (t.mo : Int) ≤ 12 := by have := hO.day.2.2.1; omega
  have bd1 : (t.d : Int) ≤ 31 := by
    have := hO.day.2.2.2.2.1
    unfold mLen at this; repeat' split at this
    all_goals omega
  have byd : ((ydN t.y t.mo t.d : Nat) : Int) ≤ 366 := by have := (ydN_le hO.day).2; omega
  obtain ⟨bh0, bmi0, bs0⟩ := hO.clock
  have bh1 : (t.h : Int) ≤ 23 := by omega
  have bmi1 : (t.mi : Int) ≤ 59 := by omega
  have bs1 : (t.s : Int) ≤ 59 := by omega
  have bh12 : ((h12 t.h : Nat) : Int) ≤ 12 := by unfold h12; split <;> omega
  clear bh0 bmi0 bs0
  have HO := hideP hO
  have HN := hideP hn
  have HTX := hideP htx
  have HB := hideP (below2 w (.cells #[.int .i64 19, .string tx, .int .i64 n, .bool cm] 42) (.cells #[.int .i64 t.y, .int .i64 t.mo, .int .i64 t.d, .int .i64 t.h, .int .i64 t.mi, .int .i64 t.s, .int .i64 t.ns, .string t.zn, .int .i64 t.off] 28))
  clear hO hn htx
  unfold cvV
  go_enter Tryd.func54, Tryd.ntmps54
  go_wp2_with (first
    | (go_at_call 29; refine (digitsI _ _ _ (by omega) (by omega) (by omega) (by omega)).mono ?_; rintro e w1 ⟨s, rfl, hs, hbl, hb⟩; have HB := hideP (HB.out.trans (hb.mono HB.out.size)); clear hb)
    | fail)
  go_ret
  exact ⟨s, rfl, Nat.le_trans hs (by decide), by rw [hbl, Int.toNat_natCast]; rfl, HB.out⟩
set_option maxRecDepth 100000 in
set_option maxHeartbeats 1600000 in
theorem wr_20 (t : Tm) (hO : TmOk t) (tx : ByteArray) (n : Nat) (cm : Bool) (w : World) (htx : tx.size ≤ 1000) (hn : True) : Calls Tryd.prog 54 #[.agg #[.int .i64 20, .string tx, .int .i64 n, .bool cm], cvV t] w (TxtTo (writK t 20 tx n cm) 1000 w) := by
  have by1 : (t.y : Int) ≤ 9999 := by have := hO.day.1; omega
  have bm1 : (t.mo : Int) ≤ 12 := by have := hO.day.2.2.1; omega
  have bd1 : (t.d : Int) ≤ 31 := by
    have := hO.day.2.2.2.2.1
    unfold mLen at this; repeat' split at this
    all_goals omega
  have byd : ((ydN t.y t.mo t.d : Nat) : Int) ≤ 366 := by have := (ydN_le hO.day).2; omega
  obtain ⟨bh0, bmi0, bs0⟩ := hO.clock
  have bh1 : (t.h : Int) ≤ 23 := by omega
  have bmi1 : (t.mi : Int) ≤ 59 := by omega
  have bs1 : (t.s : Int) ≤ 59 := by omega
  have bh12 : ((h12 t.h : Nat) : Int) ≤ 12 := by unfold h12; split <;> omega
  clear bh0 bmi0 bs0
  have HO := hideP hO
  have HN := hideP hn
  have HTX := hideP htx
  have HB := hideP (below2 w (.cells #[.int .i64 20, .string tx, .int .i64 n, .bool cm] 42) (.cells #[.int .i64 t.y, .int .i64 t.mo, .int .i64 t.d, .int .i64 t.h, .int .i64 t.mi, .int .i64 t.s, .int .i64 t.ns, .string t.zn, .int .i64 t.off] 28))
  clear hO hn htx
  unfold cvV
  go_enter Tryd.func54, Tryd.ntmps54
  go_wp2_with (first
    | (go_at_call 29; refine (digitsI _ _ _ (by omega) (by omega) (by omega) (by omega)).mono ?_; rintro e w1 ⟨s, rfl, hs, hbl, hb⟩; have HB := hideP (HB.out.trans (hb.mono HB.out.size)); clear hb)
    | fail)
  go_ret
  exact ⟨s, rfl, Nat.le_trans hs (by decide), by rw [hbl, Int.toNat_natCast]; rfl, HB.out⟩
set_option maxRecDepth 100000 in
set_option maxHeartbeats 1600000 in
theorem wr_21 (t : Tm) (hO : TmOk t) (tx : ByteArray) (n : Nat) (cm : Bool) (w : World) (htx : tx.size ≤ 1000) (hn : True) : Calls Tryd.prog 54 #[.agg #[.int .i64 21, .string tx, .int .i64 n, .bool cm], cvV t] w (TxtTo (writK t 21 tx n cm) 1000 w) := by
  have by1 : (t.y : Int) ≤ 9999 := by have := hO.day.1; omega
  have bm1 : (t.mo : Int) ≤ 12 := by have := hO.day.2.2.1; omega
  have bd1 : (t.d : Int) ≤ 31 := by
    have := hO.day.2.2.2.2.1
    unfold mLen at this; repeat' split at this
    all_goals omega
  have byd : ((ydN t.y t.mo t.d : Nat) : Int) ≤ 366 := by have := (ydN_le hO.day).2; omega
  obtain ⟨bh0, bmi0, bs0⟩ := hO.clock
  have bh1 : (t.h : Int) ≤ 23 := by omega
  have bmi1 : (t.mi : Int) ≤ 59 := by omega
  have bs1 : (t.s : Int) ≤ 59 := by omega
  have bh12 : ((h12 t.h : Nat) : Int) ≤ 12 := by unfold h12; split <;> omega
  clear bh0 bmi0 bs0
  have HO := hideP hO
  have HN := hideP hn
  have HTX := hideP htx
  have HB := hideP (below2 w (.cells #[.int .i64 21, .string tx, .int .i64 n, .bool cm] 42) (.cells #[.int .i64 t.y, .int .i64 t.mo, .int .i64 t.d, .int .i64 t.h, .int .i64 t.mi, .int .i64 t.s, .int .i64 t.ns, .string t.zn, .int .i64 t.off] 28))
  clear hO hn htx
  unfold cvV
  go_enter Tryd.func54, Tryd.ntmps54
  go_wp2_with (first
    | (go_at_call 78; refine (halfS t.h _).mono ?_; rintro e w1 ⟨s, rfl, hs, hbl, hb⟩; have HB := hideP (HB.out.trans (hb.mono HB.out.size)); clear hb)
    | fail)
  go_ret
  exact ⟨s, rfl, Nat.le_trans hs (by decide), by rw [hbl]; rfl, HB.out⟩
set_option maxRecDepth 100000 in
set_option maxHeartbeats 1600000 in
theorem wr_32 (t : Tm) (hO : TmOk t) (tx : ByteArray) (n : Nat) (cm : Bool) (w : World) (htx : tx.size ≤ 1000) (hn : True) : Calls Tryd.prog 54 #[.agg #[.int .i64 32, .string tx, .int .i64 n, .bool cm], cvV t] w (TxtTo (writK t 32 tx n cm) 1000 w) := by
  have by1 : (t.y : Int) ≤ 9999 := by have := hO.day.1; omega
  have bm1 : (t.mo : Int) ≤ 12 := by have := hO.day.2.2.1; omega
  have bd1 : (t.d : Int) ≤ 31 := by
    have := hO.day.2.2.2.2.1
    unfold mLen at this; repeat' split at this
    all_goals omega
  have byd : ((ydN t.y t.mo t.d : Nat) : Int) ≤ 366 := by have := (ydN_le hO.day).2; omega
  obtain ⟨bh0, bmi0, bs0⟩ := hO.clock
  have bh1 : (t.h : Int) ≤ 23 := by omega
  have bmi1 : (t.mi : Int) ≤ 59 := by omega
  have bs1 : (t.s : Int) ≤ 59 := by omega
  have bh12 : ((h12 t.h : Nat) : Int) ≤ 12 := by unfold h12; split <;> omega
  clear bh0 bmi0 bs0
  have HO := hideP hO
  have HN := hideP hn
  have HTX := hideP htx
  have HB := hideP (below2 w (.cells #[.int .i64 32, .string tx, .int .i64 n, .bool cm] 42) (.cells #[.int .i64 t.y, .int .i64 t.mo, .int .i64 t.d, .int .i64 t.h, .int .i64 t.mi, .int .i64 t.s, .int .i64 t.ns, .string t.zn, .int .i64 t.off] 28))
  clear hO hn htx
  unfold cvV
  go_enter Tryd.func54, Tryd.ntmps54
  go_wp2_with (fail)
  go_ret
  exact ⟨t.zn, rfl, Nat.le_trans HO.out.zn1 (by decide), rfl, HB.out⟩
set_option maxRecDepth 100000 in
set_option maxHeartbeats 1600000 in
theorem wr_33 (t : Tm) (hO : TmOk t) (tx : ByteArray) (n : Nat) (cm : Bool) (w : World) (htx : tx.size ≤ 1000) (hn : 1 ≤ n ∧ n ≤ 9) : Calls Tryd.prog 54 #[.agg #[.int .i64 33, .string tx, .int .i64 n, .bool cm], cvV t] w (TxtTo (writK t 33 tx n cm) 1000 w) := by
  have by1 : (t.y : Int) ≤ 9999 := by have := hO.day.1; omega
  have bm1 : (t.mo : Int) ≤ 12 := by have := hO.day.2.2.1; omega
  have bd1 : (t.d : Int) ≤ 31 := by
    have := hO.day.2.2.2.2.1
    unfold mLen at this; repeat' split at this
    all_goals omega
  have byd : ((ydN t.y t.mo t.d : Nat) : Int) ≤ 366 := by have := (ydN_le hO.day).2; omega
  obtain ⟨bh0, bmi0, bs0⟩ := hO.clock
  have bh1 : (t.h : Int) ≤ 23 := by omega
  have bmi1 : (t.mi : Int) ≤ 59 := by omega
  have bs1 : (t.s : Int) ≤ 59 := by omega
  have bh12 : ((h12 t.h : Nat) : Int) ≤ 12 := by unfold h12; split <;> omega
  clear bh0 bmi0 bs0
  have HO := hideP hO
  have HN := hideP hn
  have HTX := hideP htx
  have HB := hideP (below2 w (.cells #[.int .i64 33, .string tx, .int .i64 n, .bool cm] 42) (.cells #[.int .i64 t.y, .int .i64 t.mo, .int .i64 t.d, .int .i64 t.h, .int .i64 t.mi, .int .i64 t.s, .int .i64 t.ns, .string t.zn, .int .i64 t.off] 28))
  clear hO hn htx
  unfold cvV
  go_enter Tryd.func54, Tryd.ntmps54
  go_wp2_with (first
    | (go_at_call 30; refine (fracS t.ns n cm _ HO.out.ns HN.out.1 HN.out.2).mono ?_; rintro e w1 ⟨s, rfl, hs, hbl, hb⟩; have HB := hideP (HB.out.trans (hb.mono HB.out.size)); clear hb)
    | fail)
  go_ret
  exact ⟨s, rfl, Nat.le_trans hs (by decide), by rw [hbl]; rfl, HB.out⟩
set_option maxRecDepth 100000 in
set_option maxHeartbeats 1600000 in
theorem wr_34 (t : Tm) (hO : TmOk t) (tx : ByteArray) (n : Nat) (cm : Bool) (w : World) (htx : tx.size ≤ 1000) (hn : 1 ≤ n ∧ n ≤ 9) : Calls Tryd.prog 54 #[.agg #[.int .i64 34, .string tx, .int .i64 n, .bool cm], cvV t] w (TxtTo (writK t 34 tx n cm) 1000 w) := by
  have by1 : (t.y : Int) ≤ 9999 := by have := hO.day.1; omega
  have bm1 : (t.mo : Int) ≤ 12 := by have := hO.day.2.2.1; omega
  have bd1 : (t.d : Int) ≤ 31 := by
    have := hO.day.2.2.2.2.1
    unfold mLen at this; repeat' split at this
    all_goals omega
  have byd : ((ydN t.y t.mo t.d : Nat) : Int) ≤ 366 := by have := (ydN_le hO.day).2; omega
  obtain ⟨bh0, bmi0, bs0⟩ := hO.clock
  have bh1 : (t.h : Int) ≤ 23 := by omega
  have bmi1 : (t.mi : Int) ≤ 59 := by omega
  have bs1 : (t.s : Int) ≤ 59 := by omega
  have bh12 : ((h12 t.h : Nat) : Int) ≤ 12 := by unfold h12; split <;> omega
  clear bh0 bmi0 bs0
  have HO := hideP hO
  have HN := hideP hn
  have HTX := hideP htx
  have HB := hideP (below2 w (.cells #[.int .i64 34, .string tx, .int .i64 n, .bool cm] 42) (.cells #[.int .i64 t.y, .int .i64 t.mo, .int .i64 t.d, .int .i64 t.h, .int .i64 t.mi, .int .i64 t.s, .int .i64 t.ns, .string t.zn, .int .i64 t.off] 28))
  clear hO hn htx
  unfold cvV
  go_enter Tryd.func54, Tryd.ntmps54
  go_wp2_with (first
    | (go_at_call 79; refine (trimS t.ns n cm _ HO.out.ns HN.out.1 HN.out.2).mono ?_; rintro e w1 ⟨s, rfl, hs, hbl, hb⟩; have HB := hideP (HB.out.trans (hb.mono HB.out.size)); clear hb)
    | fail)
  go_ret
  exact ⟨s, rfl, Nat.le_trans hs (by decide), by rw [hbl]; rfl, HB.out⟩
end Go.Proofs.YtigabjibdepoiaaDoor.Tm
namespace Go.Proofs.YtigabjibdepoiaaDoor.Tm
set_option linter.unusedSimpArgs false
set_option linter.unusedVariables false
open Go.RowKit Go
set_option maxRecDepth 100000 in
set_option maxHeartbeats 1600000 in
theorem wr_22 (t : Tm) (hO : TmOk t) (tx : ByteArray) (n : Nat) (cm : Bool) (w : World) (htx : tx.size ≤ 1000) (hn : True) : Calls Tryd.prog 54 #[.agg #[.int .i64 22, .string tx, .int .i64 n, .bool cm], cvV t] w (TxtTo (writK t 22 tx n cm) 1000 w) := by
  have by1 : (t.y : Int) ≤ 9999 := by have := hO.day.1; omega
  have bm1 : (t.mo : Int) ≤ 12 := by have := hO.day.2.2.1; omega
  have bd1 : (t.d : Int) ≤ 31 := by
    have := hO.day.2.2.2.2.1
    unfold mLen at this; repeat' split at this
    all_goals omega
  have byd : ((ydN t.y t.mo t.d : Nat) : Int) ≤ 366 := by have := (ydN_le hO.day).2; omega
  obtain ⟨bh0, bmi0, bs0⟩ := hO.clock
  have bh1 : (t.h : Int) ≤ 23 := by omega
  have bmi1 : (t.mi : Int) ≤ 59 := by omega
  have bs1 : (t.s : Int) ≤ 59 := by omega
  have bh12 : ((h12 t.h : Nat) : Int) ≤ 12 := by unfold h12; split <;> omega
  clear bh0 bmi0 bs0
  have HO := hideP hO
  have HN := hideP hn
  have HTX := hideP htx
  have HB := hideP (below2 w (.cells #[.int .i64 22, .string tx, .int .i64 n, .bool cm] 42) (.cells #[.int .i64 t.y, .int .i64 t.mo, .int .i64 t.d, .int .i64 t.h, .int .i64 t.mi, .int .i64 t.s, .int .i64 t.ns, .string t.zn, .int .i64 t.off] 28))
  have HOF := hideP (show OffOk t.off from ⟨hO.off0, hO.off1, hO.off2⟩)
  clear hO hn htx
  unfold cvV
  go_enter Tryd.func54, Tryd.ntmps54
  go_wp2_with (first
    | (go_at_call 71; refine (iso_any _ _).mono ?_; rintro e w1 ⟨rfl, rfl⟩)
    | (go_at_call 80; refine (zt_22 t.off _ HOF.out).mono ?_; rintro e w1 ⟨s, rfl, hs, hbl, hb⟩; have HB := hideP (HB.out.trans (hb.mono HB.out.size)); clear hb)
    | fail)
  go_ret
  exact ⟨s, rfl, Nat.le_trans hs (by decide), by rw [hbl]; rfl, HB.out⟩
set_option maxRecDepth 100000 in
set_option maxHeartbeats 1600000 in
theorem wr_23 (t : Tm) (hO : TmOk t) (tx : ByteArray) (n : Nat) (cm : Bool) (w : World) (htx : tx.size ≤ 1000) (hn : True) : Calls Tryd.prog 54 #[.agg #[.int .i64 23, .string tx, .int .i64 n, .bool cm], cvV t] w (TxtTo (writK t 23 tx n cm) 1000 w) := by
  have by1 : (t.y : Int) ≤ 9999 := by have := hO.day.1; omega
  have bm1 : (t.mo : Int) ≤ 12 := by have := hO.day.2.2.1; omega
  have bd1 : (t.d : Int) ≤ 31 := by
    have := hO.day.2.2.2.2.1
    unfold mLen at this; repeat' split at this
    all_goals omega
  have byd : ((ydN t.y t.mo t.d : Nat) : Int) ≤ 366 := by have := (ydN_le hO.day).2; omega
  obtain ⟨bh0, bmi0, bs0⟩ := hO.clock
  have bh1 : (t.h : Int) ≤ 23 := by omega
  have bmi1 : (t.mi : Int) ≤ 59 := by omega
  have bs1 : (t.s : Int) ≤ 59 := by omega
  have bh12 : ((h12 t.h : Nat) : Int) ≤ 12 := by unfold h12; split <;> omega
  clear bh0 bmi0 bs0
  have HO := hideP hO
  have HN := hideP hn
  have HTX := hideP htx
  have HB := hideP (below2 w (.cells #[.int .i64 23, .string tx, .int .i64 n, .bool cm] 42) (.cells #[.int .i64 t.y, .int .i64 t.mo, .int .i64 t.d, .int .i64 t.h, .int .i64 t.mi, .int .i64 t.s, .int .i64 t.ns, .string t.zn, .int .i64 t.off] 28))
  have HOF := hideP (show OffOk t.off from ⟨hO.off0, hO.off1, hO.off2⟩)
  clear hO hn htx
  unfold cvV
  go_enter Tryd.func54, Tryd.ntmps54
  go_wp2_with (first
    | (go_at_call 71; refine (iso_any _ _).mono ?_; rintro e w1 ⟨rfl, rfl⟩)
    | (go_at_call 80; refine (zt_23 t.off _ HOF.out).mono ?_; rintro e w1 ⟨s, rfl, hs, hbl, hb⟩; have HB := hideP (HB.out.trans (hb.mono HB.out.size)); clear hb)
    | fail)
  go_ret
  exact ⟨s, rfl, Nat.le_trans hs (by decide), by rw [hbl]; rfl, HB.out⟩
set_option maxRecDepth 100000 in
set_option maxHeartbeats 1600000 in
theorem wr_24 (t : Tm) (hO : TmOk t) (tx : ByteArray) (n : Nat) (cm : Bool) (w : World) (htx : tx.size ≤ 1000) (hn : True) : Calls Tryd.prog 54 #[.agg #[.int .i64 24, .string tx, .int .i64 n, .bool cm], cvV t] w (TxtTo (writK t 24 tx n cm) 1000 w) := by
  have by1 : (t.y : Int) ≤ 9999 := by have := hO.day.1; omega
  have bm1 : (t.mo : Int) ≤ 12 := by have := hO.day.2.2.1; omega
  have bd1 : (t.d : Int) ≤ 31 := by
    have := hO.day.2.2.2.2.1
    unfold mLen at this; repeat' split at this
    all_goals omega
  have byd : ((ydN t.y t.mo t.d : Nat) : Int) ≤ 366 := by have := (ydN_le hO.day).2; omega
  obtain ⟨bh0, bmi0, bs0⟩ := hO.clock
  have bh1 : (t.h : Int) ≤ 23 := by omega
  have bmi1 : (t.mi : Int) ≤ 59 := by omega
  have bs1 : (t.s : Int) ≤ 59 := by omega
  have bh12 : ((h12 t.h : Nat) : Int) ≤ 12 := by unfold h12; split <;> omega
  clear bh0 bmi0 bs0
  have HO := hideP hO
  have HN := hideP hn
  have HTX := hideP htx
  have HB := hideP (below2 w (.cells #[.int .i64 24, .string tx, .int .i64 n, .bool cm] 42) (.cells #[.int .i64 t.y, .int .i64 t.mo, .int .i64 t.d, .int .i64 t.h, .int .i64 t.mi, .int .i64 t.s, .int .i64 t.ns, .string t.zn, .int .i64 t.off] 28))
  have HOF := hideP (show OffOk t.off from ⟨hO.off0, hO.off1, hO.off2⟩)
  clear hO hn htx
  unfold cvV
  go_enter Tryd.func54, Tryd.ntmps54
  go_wp2_with (first
    | (go_at_call 71; refine (iso_any _ _).mono ?_; rintro e w1 ⟨rfl, rfl⟩)
    | (go_at_call 80; refine (zt_24 t.off _ HOF.out).mono ?_; rintro e w1 ⟨s, rfl, hs, hbl, hb⟩; have HB := hideP (HB.out.trans (hb.mono HB.out.size)); clear hb)
    | fail)
  go_ret
  exact ⟨s, rfl, Nat.le_trans hs (by decide), by rw [hbl]; rfl, HB.out⟩
set_option maxRecDepth 100000 in
set_option maxHeartbeats 1600000 in
theorem wr_25 (t : Tm) (hO : TmOk t) (tx : ByteArray) (n : Nat) (cm : Bool) (w : World) (htx : tx.size ≤ 1000) (hn : True) : Calls Tryd.prog 54 #[.agg #[.int .i64 25, .string tx, .int .i64 n, .bool cm], cvV t] w (TxtTo (writK t 25 tx n cm) 1000 w) := by
  have by1 : (t.y : Int) ≤ 9999 := by have := hO.day.1; omega
  have bm1 : (t.mo : Int) ≤ 12 := by have := hO.day.2.2.1; omega
  have bd1 : (t.d : Int) ≤ 31 := by
    have := hO.day.2.2.2.2.1
    unfold mLen at this; repeat' split at this
    all_goals omega
  have byd : ((ydN t.y t.mo t.d : Nat) : Int) ≤ 366 := by have := (ydN_le hO.day).2; omega
  obtain ⟨bh0, bmi0, bs0⟩ := hO.clock
  have bh1 : (t.h : Int) ≤ 23 := by omega
  have bmi1 : (t.mi : Int) ≤ 59 := by omega
  have bs1 : (t.s : Int) ≤ 59 := by omega
  have bh12 : ((h12 t.h : Nat) : Int) ≤ 12 := by unfold h12; split <;> omega
  clear bh0 bmi0 bs0
  have HO := hideP hO
  have HN := hideP hn
  have HTX := hideP htx
  have HB := hideP (below2 w (.cells #[.int .i64 25, .string tx, .int .i64 n, .bool cm] 42) (.cells #[.int .i64 t.y, .int .i64 t.mo, .int .i64 t.d, .int .i64 t.h, .int .i64 t.mi, .int .i64 t.s, .int .i64 t.ns, .string t.zn, .int .i64 t.off] 28))
  have HOF := hideP (show OffOk t.off from ⟨hO.off0, hO.off1, hO.off2⟩)
  clear hO hn htx
  unfold cvV
  go_enter Tryd.func54, Tryd.ntmps54
  go_wp2_with (first
    | (go_at_call 71; refine (iso_any _ _).mono ?_; rintro e w1 ⟨rfl, rfl⟩)
    | (go_at_call 80; refine (zt_25 t.off _ HOF.out).mono ?_; rintro e w1 ⟨s, rfl, hs, hbl, hb⟩; have HB := hideP (HB.out.trans (hb.mono HB.out.size)); clear hb)
    | fail)
  go_ret
  exact ⟨s, rfl, Nat.le_trans hs (by decide), by rw [hbl]; rfl, HB.out⟩
set_option maxRecDepth 100000 in
set_option maxHeartbeats 1600000 in
theorem wr_26 (t : Tm) (hO : TmOk t) (tx : ByteArray) (n : Nat) (cm : Bool) (w : World) (htx : tx.size ≤ 1000) (hn : True) : Calls Tryd.prog 54 #[.agg #[.int .i64 26, .string tx, .int .i64 n, .bool cm], cvV t] w (TxtTo (writK t 26 tx n cm) 1000 w) := by
  have by1 : (t.y : Int) ≤ 9999 := by have := hO.day.1; omega
  have bm1 : (t.mo : Int) ≤ 12 := by have := hO.day.2.2.1; omega
  have bd1 : (t.d : Int) ≤ 31 := by
    have := hO.day.2.2.2.2.1
    unfold mLen at this; repeat' split at this
    all_goals omega
  have byd : ((ydN t.y t.mo t.d : Nat) : Int) ≤ 366 := by have := (ydN_le hO.day).2; omega
  obtain ⟨bh0, bmi0, bs0⟩ := hO.clock
  have bh1 : (t.h : Int) ≤ 23 := by omega
  have bmi1 : (t.mi : Int) ≤ 59 := by omega
  have bs1 : (t.s : Int) ≤ 59 := by omega
  have bh12 : ((h12 t.h : Nat) : Int) ≤ 12 := by unfold h12; split <;> omega
  clear bh0 bmi0 bs0
  have HO := hideP hO
  have HN := hideP hn
  have HTX := hideP htx
  have HB := hideP (below2 w (.cells #[.int .i64 26, .string tx, .int .i64 n, .bool cm] 42) (.cells #[.int .i64 t.y, .int .i64 t.mo, .int .i64 t.d, .int .i64 t.h, .int .i64 t.mi, .int .i64 t.s, .int .i64 t.ns, .string t.zn, .int .i64 t.off] 28))
  have HOF := hideP (show OffOk t.off from ⟨hO.off0, hO.off1, hO.off2⟩)
  clear hO hn htx
  unfold cvV
  go_enter Tryd.func54, Tryd.ntmps54
  go_wp2_with (first
    | (go_at_call 71; refine (iso_any _ _).mono ?_; rintro e w1 ⟨rfl, rfl⟩)
    | (go_at_call 80; refine (zt_26 t.off _ HOF.out).mono ?_; rintro e w1 ⟨s, rfl, hs, hbl, hb⟩; have HB := hideP (HB.out.trans (hb.mono HB.out.size)); clear hb)
    | fail)
  go_ret
  exact ⟨s, rfl, Nat.le_trans hs (by decide), by rw [hbl]; rfl, HB.out⟩
set_option maxRecDepth 100000 in
set_option maxHeartbeats 1600000 in
theorem wr_27 (t : Tm) (hO : TmOk t) (tx : ByteArray) (n : Nat) (cm : Bool) (w : World) (htx : tx.size ≤ 1000) (hn : True) : Calls Tryd.prog 54 #[.agg #[.int .i64 27, .string tx, .int .i64 n, .bool cm], cvV t] w (TxtTo (writK t 27 tx n cm) 1000 w) := by
  have by1 : (t.y : Int) ≤ 9999 := by have := hO.day.1; omega
  have bm1 : (t.mo : Int) ≤ 12 := by have := hO.day.2.2.1; omega
  have bd1 : (t.d : Int) ≤ 31 := by
    have := hO.day.2.2.2.2.1
    unfold mLen at this; repeat' split at this
    all_goals omega
  have byd : ((ydN t.y t.mo t.d : Nat) : Int) ≤ 366 := by have := (ydN_le hO.day).2; omega
  obtain ⟨bh0, bmi0, bs0⟩ := hO.clock
  have bh1 : (t.h : Int) ≤ 23 := by omega
  have bmi1 : (t.mi : Int) ≤ 59 := by omega
  have bs1 : (t.s : Int) ≤ 59 := by omega
  have bh12 : ((h12 t.h : Nat) : Int) ≤ 12 := by unfold h12; split <;> omega
  clear bh0 bmi0 bs0
  have HO := hideP hO
  have HN := hideP hn
  have HTX := hideP htx
  have HB := hideP (below2 w (.cells #[.int .i64 27, .string tx, .int .i64 n, .bool cm] 42) (.cells #[.int .i64 t.y, .int .i64 t.mo, .int .i64 t.d, .int .i64 t.h, .int .i64 t.mi, .int .i64 t.s, .int .i64 t.ns, .string t.zn, .int .i64 t.off] 28))
  have HOF := hideP (show OffOk t.off from ⟨hO.off0, hO.off1, hO.off2⟩)
  have o2 := hO.off2
  rcases (show t.off = 0 ∨ (t.off == 0) = false by rw [beq_eq_false_iff_ne]; omega) with ho | ho
  · have HE := hideP (show writK t 27 tx n cm = [90] by show isoL t.off true false false = _; rw [ho]; rfl)
    clear hO hn htx o2
    unfold cvV
    rw [ho]
    rw [ho] at HB
    clear ho
    go_enter Tryd.func54, Tryd.ntmps54
    go_wp2_with (first
      | (go_at_call 71; refine (iso_any _ _).mono ?_; rintro e w1 ⟨rfl, rfl⟩)
      | (go_at_call 80; refine (zt_27 t.off _ HOF.out).mono ?_; rintro e w1 ⟨s, rfl, hs, hbl, hb⟩; have HB := hideP (HB.out.trans (hb.mono HB.out.size)); clear hb))
    go_ret
    exact ⟨_, rfl, by decide, by rw [HE.out]; rfl, HB.out⟩
  · have HE := hideP (show writK t 27 tx n cm = offL t.off true false false by show isoL t.off true false false = _; exact if_neg (by rw [beq_eq_false_iff_ne] at ho; exact ho))
    clear hO hn htx o2
    unfold cvV
    go_enter Tryd.func54, Tryd.ntmps54
    go_wp2_with (first
      | (go_at_call 71; refine (iso_any _ _).mono ?_; rintro e w1 ⟨rfl, rfl⟩)
      | (go_at_call 80; refine (zt_27 t.off _ HOF.out).mono ?_; rintro e w1 ⟨s, rfl, hs, hbl, hb⟩; have HB := hideP (HB.out.trans (hb.mono HB.out.size)); clear hb))
    go_ret
    exact ⟨s, rfl, Nat.le_trans hs (by decide), by rw [HE.out]; exact hbl, HB.out⟩
set_option maxRecDepth 100000 in
set_option maxHeartbeats 1600000 in
theorem wr_28 (t : Tm) (hO : TmOk t) (tx : ByteArray) (n : Nat) (cm : Bool) (w : World) (htx : tx.size ≤ 1000) (hn : True) : Calls Tryd.prog 54 #[.agg #[.int .i64 28, .string tx, .int .i64 n, .bool cm], cvV t] w (TxtTo (writK t 28 tx n cm) 1000 w) := by
  have by1 : (t.y : Int) ≤ 9999 := by have := hO.day.1; omega
  have bm1 : (t.mo : Int) ≤ 12 := by have := hO.day.2.2.1; omega
  have bd1 : (t.d : Int) ≤ 31 := by
    have := hO.day.2.2.2.2.1
    unfold mLen at this; repeat' split at this
    all_goals omega
  have byd : ((ydN t.y t.mo t.d : Nat) : Int) ≤ 366 := by have := (ydN_le hO.day).2; omega
  obtain ⟨bh0, bmi0, bs0⟩ := hO.clock
  have bh1 : (t.h : Int) ≤ 23 := by omega
  have bmi1 : (t.mi : Int) ≤ 59 := by omega
  have bs1 : (t.s : Int) ≤ 59 := by omega
  have bh12 : ((h12 t.h : Nat) : Int) ≤ 12 := by unfold h12; split <;> omega
  clear bh0 bmi0 bs0
  have HO := hideP hO
  have HN := hideP hn
  have HTX := hideP htx
  have HB := hideP (below2 w (.cells #[.int .i64 28, .string tx, .int .i64 n, .bool cm] 42) (.cells #[.int .i64 t.y, .int .i64 t.mo, .int .i64 t.d, .int .i64 t.h, .int .i64 t.mi, .int .i64 t.s, .int .i64 t.ns, .string t.zn, .int .i64 t.off] 28))
  have HOF := hideP (show OffOk t.off from ⟨hO.off0, hO.off1, hO.off2⟩)
  have o2 := hO.off2
  rcases (show t.off = 0 ∨ (t.off == 0) = false by rw [beq_eq_false_iff_ne]; omega) with ho | ho
  · have HE := hideP (show writK t 28 tx n cm = [90] by show isoL t.off true false true = _; rw [ho]; rfl)
    clear hO hn htx o2
    unfold cvV
    rw [ho]
    rw [ho] at HB
    clear ho
    go_enter Tryd.func54, Tryd.ntmps54
    go_wp2_with (first
      | (go_at_call 71; refine (iso_any _ _).mono ?_; rintro e w1 ⟨rfl, rfl⟩)
      | (go_at_call 80; refine (zt_28 t.off _ HOF.out).mono ?_; rintro e w1 ⟨s, rfl, hs, hbl, hb⟩; have HB := hideP (HB.out.trans (hb.mono HB.out.size)); clear hb))
    go_ret
    exact ⟨_, rfl, by decide, by rw [HE.out]; rfl, HB.out⟩
  · have HE := hideP (show writK t 28 tx n cm = offL t.off true false true by show isoL t.off true false true = _; exact if_neg (by rw [beq_eq_false_iff_ne] at ho; exact ho))
    clear hO hn htx o2
    unfold cvV
    go_enter Tryd.func54, Tryd.ntmps54
    go_wp2_with (first
      | (go_at_call 71; refine (iso_any _ _).mono ?_; rintro e w1 ⟨rfl, rfl⟩)
      | (go_at_call 80; refine (zt_28 t.off _ HOF.out).mono ?_; rintro e w1 ⟨s, rfl, hs, hbl, hb⟩; have HB := hideP (HB.out.trans (hb.mono HB.out.size)); clear hb))
    go_ret
    exact ⟨s, rfl, Nat.le_trans hs (by decide), by rw [HE.out]; exact hbl, HB.out⟩
set_option maxRecDepth 100000 in
set_option maxHeartbeats 1600000 in
theorem wr_29 (t : Tm) (hO : TmOk t) (tx : ByteArray) (n : Nat) (cm : Bool) (w : World) (htx : tx.size ≤ 1000) (hn : True) : Calls Tryd.prog 54 #[.agg #[.int .i64 29, .string tx, .int .i64 n, .bool cm], cvV t] w (TxtTo (writK t 29 tx n cm) 1000 w) := by
  have by1 : (t.y : Int) ≤ 9999 := by have := hO.day.1; omega
  have bm1 : (t.mo : Int) ≤ 12 := by have := hO.day.2.2.1; omega
  have bd1 : (t.d : Int) ≤ 31 := by
    have := hO.day.2.2.2.2.1
    unfold mLen at this; repeat' split at this
    all_goals omega
  have byd : ((ydN t.y t.mo t.d : Nat) : Int) ≤ 366 := by have := (ydN_le hO.day).2; omega
  obtain ⟨bh0, bmi0, bs0⟩ := hO.clock
  have bh1 : (t.h : Int) ≤ 23 := by omega
  have bmi1 : (t.mi : Int) ≤ 59 := by omega
  have bs1 : (t.s : Int) ≤ 59 := by omega
  have bh12 : ((h12 t.h : Nat) : Int) ≤ 12 := by unfold h12; split <;> omega
  clear bh0 bmi0 bs0
  have HO := hideP hO
  have HN := hideP hn
  have HTX := hideP htx
  have HB := hideP (below2 w (.cells #[.int .i64 29, .string tx, .int .i64 n, .bool cm] 42) (.cells #[.int .i64 t.y, .int .i64 t.mo, .int .i64 t.d, .int .i64 t.h, .int .i64 t.mi, .int .i64 t.s, .int .i64 t.ns, .string t.zn, .int .i64 t.off] 28))
  have HOF := hideP (show OffOk t.off from ⟨hO.off0, hO.off1, hO.off2⟩)
  have o2 := hO.off2
  rcases (show t.off = 0 ∨ (t.off == 0) = false by rw [beq_eq_false_iff_ne]; omega) with ho | ho
  · have HE := hideP (show writK t 29 tx n cm = [90] by show isoL t.off false false false = _; rw [ho]; rfl)
    clear hO hn htx o2
    unfold cvV
    rw [ho]
    rw [ho] at HB
    clear ho
    go_enter Tryd.func54, Tryd.ntmps54
    go_wp2_with (first
      | (go_at_call 71; refine (iso_any _ _).mono ?_; rintro e w1 ⟨rfl, rfl⟩)
      | (go_at_call 80; refine (zt_29 t.off _ HOF.out).mono ?_; rintro e w1 ⟨s, rfl, hs, hbl, hb⟩; have HB := hideP (HB.out.trans (hb.mono HB.out.size)); clear hb))
    go_ret
    exact ⟨_, rfl, by decide, by rw [HE.out]; rfl, HB.out⟩
  · have HE := hideP (show writK t 29 tx n cm = offL t.off false false false by show isoL t.off false false false = _; exact if_neg (by rw [beq_eq_false_iff_ne] at ho; exact ho))
    clear hO hn htx o2
    unfold cvV
    go_enter Tryd.func54, Tryd.ntmps54
    go_wp2_with (first
      | (go_at_call 71; refine (iso_any _ _).mono ?_; rintro e w1 ⟨rfl, rfl⟩)
      | (go_at_call 80; refine (zt_29 t.off _ HOF.out).mono ?_; rintro e w1 ⟨s, rfl, hs, hbl, hb⟩; have HB := hideP (HB.out.trans (hb.mono HB.out.size)); clear hb))
    go_ret
    exact ⟨s, rfl, Nat.le_trans hs (by decide), by rw [HE.out]; exact hbl, HB.out⟩
set_option maxRecDepth 100000 in
set_option maxHeartbeats 1600000 in
theorem wr_30 (t : Tm) (hO : TmOk t) (tx : ByteArray) (n : Nat) (cm : Bool) (w : World) (htx : tx.size ≤ 1000) (hn : True) : Calls Tryd.prog 54 #[.agg #[.int .i64 30, .string tx, .int .i64 n, .bool cm], cvV t] w (TxtTo (writK t 30 tx n cm) 1000 w) := by
  have by1 : (t.y : Int) ≤ 9999 := by have := hO.day.1; omega
  have bm1 : (t.mo : Int) ≤ 12 := by have := hO.day.2.2.1; omega
  have bd1 : (t.d : Int) ≤ 31 := by
    have := hO.day.2.2.2.2.1
    unfold mLen at this; repeat' split at this
    all_goals omega
  have byd : ((ydN t.y t.mo t.d : Nat) : Int) ≤ 366 := by have := (ydN_le hO.day).2; omega
  obtain ⟨bh0, bmi0, bs0⟩ := hO.clock
  have bh1 : (t.h : Int) ≤ 23 := by omega
  have bmi1 : (t.mi : Int) ≤ 59 := by omega
  have bs1 : (t.s : Int) ≤ 59 := by omega
  have bh12 : ((h12 t.h : Nat) : Int) ≤ 12 := by unfold h12; split <;> omega
  clear bh0 bmi0 bs0
  have HO := hideP hO
  have HN := hideP hn
  have HTX := hideP htx
  have HB := hideP (below2 w (.cells #[.int .i64 30, .string tx, .int .i64 n, .bool cm] 42) (.cells #[.int .i64 t.y, .int .i64 t.mo, .int .i64 t.d, .int .i64 t.h, .int .i64 t.mi, .int .i64 t.s, .int .i64 t.ns, .string t.zn, .int .i64 t.off] 28))
  have HOF := hideP (show OffOk t.off from ⟨hO.off0, hO.off1, hO.off2⟩)
  have o2 := hO.off2
  rcases (show t.off = 0 ∨ (t.off == 0) = false by rw [beq_eq_false_iff_ne]; omega) with ho | ho
  · have HE := hideP (show writK t 30 tx n cm = [90] by show isoL t.off true true false = _; rw [ho]; rfl)
    clear hO hn htx o2
    unfold cvV
    rw [ho]
    rw [ho] at HB
    clear ho
    go_enter Tryd.func54, Tryd.ntmps54
    go_wp2_with (first
      | (go_at_call 71; refine (iso_any _ _).mono ?_; rintro e w1 ⟨rfl, rfl⟩)
      | (go_at_call 80; refine (zt_30 t.off _ HOF.out).mono ?_; rintro e w1 ⟨s, rfl, hs, hbl, hb⟩; have HB := hideP (HB.out.trans (hb.mono HB.out.size)); clear hb))
    go_ret
    exact ⟨_, rfl, by decide, by rw [HE.out]; rfl, HB.out⟩
  · have HE := hideP (show writK t 30 tx n cm = offL t.off true true false by show isoL t.off true true false = _; exact if_neg (by rw [beq_eq_false_iff_ne] at ho; exact ho))
    clear hO hn htx o2
    unfold cvV
    go_enter Tryd.func54, Tryd.ntmps54
    go_wp2_with (first
      | (go_at_call 71; refine (iso_any _ _).mono ?_; rintro e w1 ⟨rfl, rfl⟩)
      | (go_at_call 80; refine (zt_30 t.off _ HOF.out).mono ?_; rintro e w1 ⟨s, rfl, hs, hbl, hb⟩; have HB := hideP (HB.out.trans (hb.mono HB.out.size)); clear hb))
    go_ret
    exact ⟨s, rfl, Nat.le_trans hs (by decide), by rw [HE.out]; exact hbl, HB.out⟩
set_option maxRecDepth 100000 in
set_option maxHeartbeats 1600000 in
theorem wr_31 (t : Tm) (hO : TmOk t) (tx : ByteArray) (n : Nat) (cm : Bool) (w : World) (htx : tx.size ≤ 1000) (hn : True) : Calls Tryd.prog 54 #[.agg #[.int .i64 31, .string tx, .int .i64 n, .bool cm], cvV t] w (TxtTo (writK t 31 tx n cm) 1000 w) := by
  have by1 : (t.y : Int) ≤ 9999 := by have := hO.day.1; omega
  have bm1 : (t.mo : Int) ≤ 12 := by have := hO.day.2.2.1; omega
  have bd1 : (t.d : Int) ≤ 31 := by
    have := hO.day.2.2.2.2.1
    unfold mLen at this; repeat' split at this
    all_goals omega
  have byd : ((ydN t.y t.mo t.d : Nat) : Int) ≤ 366 := by have := (ydN_le hO.day).2; omega
  obtain ⟨bh0, bmi0, bs0⟩ := hO.clock
  have bh1 : (t.h : Int) ≤ 23 := by omega
  have bmi1 : (t.mi : Int) ≤ 59 := by omega
  have bs1 : (t.s : Int) ≤ 59 := by omega
  have bh12 : ((h12 t.h : Nat) : Int) ≤ 12 := by unfold h12; split <;> omega
  clear bh0 bmi0 bs0
  have HO := hideP hO
  have HN := hideP hn
  have HTX := hideP htx
  have HB := hideP (below2 w (.cells #[.int .i64 31, .string tx, .int .i64 n, .bool cm] 42) (.cells #[.int .i64 t.y, .int .i64 t.mo, .int .i64 t.d, .int .i64 t.h, .int .i64 t.mi, .int .i64 t.s, .int .i64 t.ns, .string t.zn, .int .i64 t.off] 28))
  have HOF := hideP (show OffOk t.off from ⟨hO.off0, hO.off1, hO.off2⟩)
  have o2 := hO.off2
  rcases (show t.off = 0 ∨ (t.off == 0) = false by rw [beq_eq_false_iff_ne]; omega) with ho | ho
  · have HE := hideP (show writK t 31 tx n cm = [90] by show isoL t.off true true true = _; rw [ho]; rfl)
    clear hO hn htx o2
    unfold cvV
    rw [ho]
    rw [ho] at HB
    clear ho
    go_enter Tryd.func54, Tryd.ntmps54
    go_wp2_with (first
      | (go_at_call 71; refine (iso_any _ _).mono ?_; rintro e w1 ⟨rfl, rfl⟩)
      | (go_at_call 80; refine (zt_31 t.off _ HOF.out).mono ?_; rintro e w1 ⟨s, rfl, hs, hbl, hb⟩; have HB := hideP (HB.out.trans (hb.mono HB.out.size)); clear hb))
    go_ret
    exact ⟨_, rfl, by decide, by rw [HE.out]; rfl, HB.out⟩
  · have HE := hideP (show writK t 31 tx n cm = offL t.off true true true by show isoL t.off true true true = _; exact if_neg (by rw [beq_eq_false_iff_ne] at ho; exact ho))
    clear hO hn htx o2
    unfold cvV
    go_enter Tryd.func54, Tryd.ntmps54
    go_wp2_with (first
      | (go_at_call 71; refine (iso_any _ _).mono ?_; rintro e w1 ⟨rfl, rfl⟩)
      | (go_at_call 80; refine (zt_31 t.off _ HOF.out).mono ?_; rintro e w1 ⟨s, rfl, hs, hbl, hb⟩; have HB := hideP (HB.out.trans (hb.mono HB.out.size)); clear hb))
    go_ret
    exact ⟨s, rfl, Nat.le_trans hs (by decide), by rw [HE.out]; exact hbl, HB.out⟩
end Go.Proofs.YtigabjibdepoiaaDoor.Tm
namespace Go.Proofs.YtigabjibdepoiaaDoor.Tm
set_option linter.unusedSimpArgs false
set_option linter.unusedVariables false
open Go.RowKit Go
theorem written_any (t : Tm) (hO : TmOk t) (p : Pc) (w : World) (hp : PcOk p) : Calls Tryd.prog 54 #[pcV p, cvV t] w (TxtTo (writL t p) 1000 w) := by
  obtain ⟨k, tx, n, cm⟩ := p
  obtain ⟨h1, h2, h3⟩ := hp
  simp only at h1 h2 h3
  have hk : k = 0 ∨ k = 1 ∨ k = 2 ∨ k = 3 ∨ k = 4 ∨ k = 5 ∨ k = 6 ∨ k = 7 ∨ k = 8 ∨ k = 9 ∨ k = 10 ∨ k = 11 ∨ k = 12 ∨ k = 13 ∨ k = 14 ∨ k = 15 ∨ k = 16 ∨ k = 17 ∨ k = 18 ∨ k = 19 ∨ k = 20 ∨ k = 21 ∨ k = 22 ∨ k = 23 ∨ k = 24 ∨ k = 25 ∨ k = 26 ∨ k = 27 ∨ k = 28 ∨ k = 29 ∨ k = 30 ∨ k = 31 ∨ k = 32 ∨ k = 33 ∨ k = 34 := by omega
  show Calls Tryd.prog 54 #[.agg #[.int .i64 (k : Nat), .string tx, .int .i64 n, .bool cm], cvV t] w (TxtTo (writK t k tx n cm) 1000 w)
  rcases hk with rfl | rfl | rfl | rfl | rfl | rfl | rfl | rfl | rfl | rfl | rfl | rfl | rfl | rfl | rfl | rfl | rfl | rfl | rfl | rfl | rfl | rfl | rfl | rfl | rfl | rfl | rfl | rfl | rfl | rfl | rfl | rfl | rfl | rfl | rfl
  · exact wr_0 t hO tx n cm w h2 trivial
  · exact wr_1 t hO tx n cm w h2 trivial
  · exact wr_2 t hO tx n cm w h2 trivial
  · exact wr_3 t hO tx n cm w h2 trivial
  · exact wr_4 t hO tx n cm w h2 trivial
  · exact wr_5 t hO tx n cm w h2 trivial
  · exact wr_6 t hO tx n cm w h2 trivial
  · exact wr_7 t hO tx n cm w h2 trivial
  · exact wr_8 t hO tx n cm w h2 trivial
  · exact wr_9 t hO tx n cm w h2 trivial
  · exact wr_10 t hO tx n cm w h2 trivial
  · exact wr_11 t hO tx n cm w h2 trivial
  · exact wr_12 t hO tx n cm w h2 trivial
  · exact wr_13 t hO tx n cm w h2 trivial
  · exact wr_14 t hO tx n cm w h2 trivial
  · exact wr_15 t hO tx n cm w h2 trivial
  · exact wr_16 t hO tx n cm w h2 trivial
  · exact wr_17 t hO tx n cm w h2 trivial
  · exact wr_18 t hO tx n cm w h2 trivial
  · exact wr_19 t hO tx n cm w h2 trivial
  · exact wr_20 t hO tx n cm w h2 trivial
  · exact wr_21 t hO tx n cm w h2 trivial
  · exact wr_22 t hO tx n cm w h2 trivial
  · exact wr_23 t hO tx n cm w h2 trivial
  · exact wr_24 t hO tx n cm w h2 trivial
  · exact wr_25 t hO tx n cm w h2 trivial
  · exact wr_26 t hO tx n cm w h2 trivial
  · exact wr_27 t hO tx n cm w h2 trivial
  · exact wr_28 t hO tx n cm w h2 trivial
  · exact wr_29 t hO tx n cm w h2 trivial
  · exact wr_30 t hO tx n cm w h2 trivial
  · exact wr_31 t hO tx n cm w h2 trivial
  · exact wr_32 t hO tx n cm w h2 trivial
  · exact wr_33 t hO tx n cm w h2 (h3 (by decide))
  · exact wr_34 t hO tx n cm w h2 (h3 (by decide))
end Go.Proofs.YtigabjibdepoiaaDoor.Tm
namespace Go.Proofs.YtigabjibdepoiaaDoor.Tm
set_option linter.unusedSimpArgs false
set_option linter.unusedVariables false
open Go.RowKit Go
def pcCells (p : Pc) : List Value := [.int .i64 p.k, .string p.tx, .int .i64 p.n, .bool p.cm]
def flatP (ps : List Pc) : List Value := ps.flatMap pcCells
theorem flat_get (ps : List Pc) : ∀ (i : Nat) (h : i < ps.length) (j : Nat), j < 4 → (flatP ps)[i * 4 + j]? = (pcCells ps[i])[j]? := by
  induction ps with
  | nil => intro i h; simp at h
  | cons p ps ih =>
    intro i h j hj
    have e : flatP (p :: ps) = pcCells p ++ flatP ps := rfl
    rw [e]
    cases i with
    | zero => rw [Nat.zero_mul, Nat.zero_add, List.getElem?_append_left (by simp [pcCells]; exact hj)]; rfl
    | succ i =>
      have hl : (pcCells p).length = 4 := rfl
      rw [List.getElem?_append_right (by rw [hl]; omega), hl, show (i + 1) * 4 + j - 4 = i * 4 + j from by omega]
      exact ih i (by simpa using h) j hj
/-- The pieces lie in block g. -/
def PcsAt (w : World) (g : Nat) (ps : List Pc) : Prop := ∀ (i : Nat) (p : Pc), ps[i]? = some p →
  w.cell? ⟨g, i * 4, none⟩ = some (.int .i64 p.k) ∧ w.cell? ⟨g, i * 4 + 1, none⟩ = some (.string p.tx) ∧ w.cell? ⟨g, i * 4 + 2, none⟩ = some (.int .i64 p.n) ∧ w.cell? ⟨g, i * 4 + 3, none⟩ = some (.bool p.cm)
theorem pcs_of_row {w : World} {g : Nat} {ps : List Pc} {tag : TypeId} (h : w.heap[g]? = some (.cells (flatP ps).toArray tag (0, 0))) : PcsAt w g ps := by
  intro i p hp
  obtain ⟨hi, rfl⟩ := List.getElem?_eq_some_iff.1 hp
  have key : ∀ j, j < 4 → w.cell? ⟨g, i * 4 + j, none⟩ = (pcCells ps[i])[j]? := by
    intro j hj
    rw [cell_of_row w g (i * 4 + j) _ tag (0, 0) h, List.getElem?_toArray]
    exact flat_get ps i hi j hj
  exact ⟨key 0 (by decide), key 1 (by decide), key 2 (by decide), key 3 (by decide)⟩
theorem PcsAt.kept {w w' : World} {g : Nat} {ps : List Pc} (h : PcsAt w g ps) (hb : Below w.heap.size w w') : PcsAt w' g ps := by
  intro i p hp
  obtain ⟨h0, h1, h2, h3⟩ := h i p hp
  have k : ∀ (a : Addr) (v : Value), w.cell? a = some v → w'.cell? a = some v := fun a v hc => (hb.cell (World.block_lt_of_cell? _ _ hc)).trans hc
  exact ⟨k _ _ h0, k _ _ h1, k _ _ h2, k _ _ h3⟩
/-- The cells of a told time, boxed at g. -/
structure CB (g : Nat) (t : Tm) (w : World) : Prop where
  c0 : w.cell? ⟨g, 0, none⟩ = some (.int .i64 t.y)
  c1 : w.cell? ⟨g, 1, none⟩ = some (.int .i64 t.mo)
  c2 : w.cell? ⟨g, 2, none⟩ = some (.int .i64 t.d)
  c3 : w.cell? ⟨g, 3, none⟩ = some (.int .i64 t.h)
  c4 : w.cell? ⟨g, 4, none⟩ = some (.int .i64 t.mi)
  c5 : w.cell? ⟨g, 5, none⟩ = some (.int .i64 t.s)
  c6 : w.cell? ⟨g, 6, none⟩ = some (.int .i64 t.ns)
  c7 : w.cell? ⟨g, 7, none⟩ = some (.string t.zn)
  c8 : w.cell? ⟨g, 8, none⟩ = some (.int .i64 t.off)
theorem CB.kept {g : Nat} {t : Tm} {w w' : World} (h : CB g t w) (hb : Below w.heap.size w w') : CB g t w' := by
  have k : ∀ (p : Addr) (v : Value), w.cell? p = some v → w'.cell? p = some v := fun p v hc => (hb.cell (World.block_lt_of_cell? _ _ hc)).trans hc
  exact ⟨k _ _ h.c0, k _ _ h.c1, k _ _ h.c2, k _ _ h.c3, k _ _ h.c4, k _ _ h.c5, k _ _ h.c6, k _ _ h.c7, k _ _ h.c8⟩
theorem cb_new (t : Tm) (w : World) (T : TypeId) : CB w.heap.size t (w.alloc (.cells #[.int .i64 t.y, .int .i64 t.mo, .int .i64 t.d, .int .i64 t.h, .int .i64 t.mi, .int .i64 t.s, .int .i64 t.ns, .string t.zn, .int .i64 t.off] T)) := by
  have g1 := heap_alloc_new w (.cells #[.int .i64 t.y, .int .i64 t.mo, .int .i64 t.d, .int .i64 t.h, .int .i64 t.mi, .int .i64 t.s, .int .i64 t.ns, .string t.zn, .int .i64 t.off] T)
  exact ⟨cell_of_row _ _ 0 _ _ (0, 0) g1, cell_of_row _ _ 1 _ _ (0, 0) g1, cell_of_row _ _ 2 _ _ (0, 0) g1, cell_of_row _ _ 3 _ _ (0, 0) g1, cell_of_row _ _ 4 _ _ (0, 0) g1, cell_of_row _ _ 5 _ _ (0, 0) g1, cell_of_row _ _ 6 _ _ (0, 0) g1, cell_of_row _ _ 7 _ _ (0, 0) g1, cell_of_row _ _ 8 _ _ (0, 0) g1⟩
def PcsOk (ps : List Pc) : Prop := ps.length ≤ 100 ∧ ∀ p ∈ ps, PcOk p
/-- What the pieces tell. -/
def writAll (t : Tm) (ps : List Pc) : List UInt8 := ps.flatMap (writL t)
theorem writ_take (t : Tm) (ps : List Pc) (i : Nat) (p : Pc) (h : ps[i]? = some p) : writAll t (ps.take (i + 1)) = writAll t (ps.take i) ++ writL t p := by
  obtain ⟨hi, rfl⟩ := List.getElem?_eq_some_iff.1 h
  unfold writAll
  rw [List.take_succ_eq_append_getElem hi, List.flatMap_append]
  simp
set_option maxRecDepth 100000 in
set_option maxHeartbeats 1600000 in
theorem Written_any (t : Tm) (hO : TmOk t) (ps : List Pc) (g cap : Nat) (w : World) (hps : PcsOk ps) (hg : PcsAt w g ps) :
    Calls Tryd.prog 26 #[.slice (some ⟨g, 0, none⟩) ps.length cap, cvV t] w (TxtTo (writAll t ps) 100000 w) := by
  have HO := hideP hO
  have HPS := hideP hps
  have HG := hideP (hg.kept (below_alloc w (.cells #[.int .i64 t.y, .int .i64 t.mo, .int .i64 t.d, .int .i64 t.h, .int .i64 t.mi, .int .i64 t.s, .int .i64 t.ns, .string t.zn, .int .i64 t.off] 28)))
  have hl : (ps.length : Int) ≤ 100 := by have := hps.1; omega
  clear hO hps hg
  unfold cvV
  go_enter Tryd.func26, Tryd.ntmps26
  go_wp2
  obtain ⟨W, hW⟩ : ∃ W, W = w.alloc (.cells #[.int .i64 t.y, .int .i64 t.mo, .int .i64 t.d, .int .i64 t.h, .int .i64 t.mi, .int .i64 t.s, .int .i64 t.ns, .string t.zn, .int .i64 t.off] 28) := ⟨_, rfl⟩
  go_loopw [5, 6] (fun o k wr => ∃ (i : Nat) (s : ByteArray), k = .int .i64 i ∧ o = .string s ∧ i ≤ ps.length ∧ bl s = writAll t (ps.take i) ∧ s.size ≤ i * 1000 ∧ Below W.heap.size W wr) (fun _ k _ => ps.length - (intOf k).toNat)
  case atStart => exact ⟨0, ⟨#[]⟩, rfl, rfl, Nat.zero_le _, rfl, by decide, by rw [hW]; exact Below.refl _ _⟩
  case round =>
    obtain ⟨i, s, rfl, rfl, hi, hbl, hsz, hb⟩ := hrel
    have HB := hideP hb
    have HBL := hideP hbl
    have HSZ := hideP hsz
    have HWQ := hideP hW
    clear hb hbl hsz hW
    by_cases hlt : (i : Int) < ps.length
    · obtain ⟨p, hp⟩ : ∃ p, ps[i]? = some p := ⟨_, List.getElem?_eq_getElem (by omega)⟩
      have hgw := (show PcsAt W g ps by rw [HWQ.out]; exact HG.out).kept HB.out
      have hcb := (show CB w.heap.size t W by rw [HWQ.out]; exact cb_new t w _).kept HB.out
      have hpe := hgw i p hp
      obtain ⟨q0, q1, q2, q3⟩ := hpe
      have HPE := hideP (And.intro hgw hcb)
      obtain ⟨c0, c1, c2, c3, c4, c5, c6, c7, c8⟩ := hcb
      have HP := hideP hp
      have HPOK := hideP (HPS.out.2 p (List.mem_of_getElem? hp))
      have hi0 : (0 : Int) ≤ i := by omega
      have HSB := hideP (show s.size ≤ 100000 by have := HSZ.out; omega)
      have HI := hideP (show i + 1 ≤ ps.length by omega)
      clear hgw hp
      go_wp2_with (fail)
      go_region_held3 (fun w' => w'.cell? ⟨g, i * 4, none⟩ = some (.int .i64 p.k) ∧ w'.cell? ⟨g, i * 4 + 1, none⟩ = some (.string p.tx) ∧ w'.cell? ⟨g, i * 4 + 2, none⟩ = some (.int .i64 p.n) ∧ w'.cell? ⟨g, i * 4 + 3, none⟩ = some (.bool p.cm) ∧ w'.cell? ⟨w.heap.size, 0, none⟩ = some (.int .i64 t.y) ∧ w'.cell? ⟨w.heap.size, 1, none⟩ = some (.int .i64 t.mo) ∧ w'.cell? ⟨w.heap.size, 2, none⟩ = some (.int .i64 t.d) ∧ w'.cell? ⟨w.heap.size, 3, none⟩ = some (.int .i64 t.h) ∧ w'.cell? ⟨w.heap.size, 4, none⟩ = some (.int .i64 t.mi) ∧ w'.cell? ⟨w.heap.size, 5, none⟩ = some (.int .i64 t.s) ∧ w'.cell? ⟨w.heap.size, 6, none⟩ = some (.int .i64 t.ns) ∧ w'.cell? ⟨w.heap.size, 7, none⟩ = some (.string t.zn) ∧ w'.cell? ⟨w.heap.size, 8, none⟩ = some (.int .i64 t.off)) (go_keep)
        (first | (go_at_call 54; refine (written_any t HO.out p _ HPOK.out).mono ?_; rintro e w1 ⟨x, rfl, hs, hbl, hb⟩; have HX := hideP hbl; have HBW := hideP hb; have hsum : ¬ 9223372036854775807 < s.size + x.size := (by have := HSB.out; omega); have HS := hideP hs; obtain ⟨q0', q1', q2', q3'⟩ := (HPE.out.1.kept (((Below.refl _ _).drew).trans hb)) i p HP.out; obtain ⟨c0', c1', c2', c3', c4', c5', c6', c7', c8'⟩ := HPE.out.2.kept (((Below.refl _ _).drew).trans hb); clear hs hbl hb))
      go_wp2
      refine ⟨⟨i + 1, s ++ x, by go_num, rfl, HI.out, by rw [bl_append, HBL.out, HX.out, writ_take t ps i p HP.out], ?_, HB.out.trans ((((Below.refl _ _).drew).trans HBW.out).mono HB.out.size)⟩, ?_⟩
      · have := HSZ.out; have := HS.out; rw [ByteArray.size_append]; omega
      · have := HI.out; simp [intOf]; omega
    · have hie : i = ps.length := by omega
      have HE := hideP (show ps.take i = ps by rw [hie, List.take_length])
      clear hie
      go_wp2
      go_ret
      exact ⟨s, rfl, by have := HSZ.out; omega, by rw [HBL.out, HE.out], (by rw [HWQ.out] at HB; exact (below_alloc w _).trans (HB.out.mono (by simp)))⟩
/-- Fits answers; that it answers is all that is asked. -/
def SomeB (w : World) (e : Ending) (w' : World) : Prop := ∃ b : Bool, e = .returned (.bool b) ∧ Below w.heap.size w w'
set_option maxRecDepth 100000 in
set_option maxHeartbeats 1600000 in
theorem Fits_any (t : Tm) (hO : TmOk t) (ps : List Pc) (g cap : Nat) (w : World) (hps : PcsOk ps) (hg : PcsAt w g ps) :
    Calls Tryd.prog 23 #[.slice (some ⟨g, 0, none⟩) ps.length cap, cvV t] w (SomeB w) := by
  have HO := hideP hO
  have HPS := hideP hps
  have HG := hideP (hg.kept (below_alloc w (.cells #[.int .i64 t.y, .int .i64 t.mo, .int .i64 t.d, .int .i64 t.h, .int .i64 t.mi, .int .i64 t.s, .int .i64 t.ns, .string t.zn, .int .i64 t.off] 28)))
  have hl : (ps.length : Int) ≤ 100 := by have := hps.1; omega
  have o1 := hO.off0
  have o2 := hO.off1
  clear hO hps hg
  unfold cvV
  go_enter Tryd.func23, Tryd.ntmps23
  go_wp2
  go_loop [5] (fun k => ∃ i : Nat, k = .int .i64 i ∧ i ≤ ps.length) (fun k => ps.length - (intOf k).toNat)
  case atStart => exact ⟨0, rfl, Nat.zero_le _⟩
  case round =>
    obtain ⟨i, rfl, hi⟩ := hrel
    by_cases hlt : (i : Int) < ps.length
    · obtain ⟨p, hp⟩ : ∃ p, ps[i]? = some p := ⟨_, List.getElem?_eq_getElem (by omega)⟩
      obtain ⟨q0, q1, q2, q3⟩ := HG.out i p hp
      have hpk : (p.k : Int) ≤ 34 := by have := (HPS.out.2 p (List.mem_of_getElem? hp)).1; omega
      have hi0 : (0 : Int) ≤ i := by omega
      have HI := hideP (show i + 1 ≤ ps.length by omega)
      clear hp q1 q2 q3
      generalize p.k = K at *
      go_wp2
      all_goals first
        | (refine ⟨⟨i + 1, by go_num, HI.out⟩, ?_⟩; have := HI.out; simp [intOf]; omega)
        | (go_ret; exact ⟨_, rfl, below_alloc w _⟩)
    · go_wp2
      go_ret
      exact ⟨true, rfl, below_alloc w _⟩
end Go.Proofs.YtigabjibdepoiaaDoor.Tm
namespace Go.Proofs.YtigabjibdepoiaaDoor.Tm
set_option linter.unusedSimpArgs false
set_option linter.unusedVariables false
open Go.RowKit Go
theorem fits4_any (zn : ByteArray) (off : Int) (w : World) : Calls Tryd.prog 44 #[.agg #[.string zn, .int .i64 off]] w (BoolTo (zn.size ≤ 2147483647) w) := by
  by_cases h : (zn.size : Int) ≤ 2147483647
  · go_enter Tryd.func44, Tryd.ntmps44
    go_wp2
    go_ret
    exact .inl ⟨rfl, by omega, below_alloc w _⟩
  · go_enter Tryd.func44, Tryd.ntmps44
    go_wp2
    go_ret
    exact .inr ⟨rfl, below_alloc w _⟩
theorem fits3_any (c : Cv) (w : World) : Calls Tryd.prog 20 #[civV c] w (BoolTo (c.zn.size ≤ 2147483647) w) := by
  unfold civV
  go_enter Tryd.func20, Tryd.ntmps20
  go_wp2_with (go_at_call 44; refine (fits4_any _ _ _).mono ?_; rintro e w1 (⟨rfl, hz, hb⟩ | ⟨rfl, hb⟩) <;> (try (have HZ := hideP hz; clear hz)) <;> (have HB := hideP hb; clear hb))
  all_goals go_ret
  · exact .inl ⟨rfl, HZ.out, (below_alloc w _).trans (HB.out.mono (by simp))⟩
  · exact .inr ⟨rfl, (below_alloc w _).trans (HB.out.mono (by simp))⟩
/-- The cells of a time that came in, boxed at g. -/
structure CvB (g : Nat) (c : Cv) (w : World) : Prop where
  c0 : w.cell? ⟨g, 0, none⟩ = some (.int .i64 c.y)
  c1 : w.cell? ⟨g, 1, none⟩ = some (.int .i64 c.mo)
  c2 : w.cell? ⟨g, 2, none⟩ = some (.int .i64 c.d)
  c3 : w.cell? ⟨g, 3, none⟩ = some (.int .i64 c.h)
  c4 : w.cell? ⟨g, 4, none⟩ = some (.int .i64 c.mi)
  c5 : w.cell? ⟨g, 5, none⟩ = some (.int .i64 c.s)
  c6 : w.cell? ⟨g, 6, none⟩ = some (.int .i64 c.ns)
  c7 : w.cell? ⟨g, 7, none⟩ = some (.string c.zn)
  c8 : w.cell? ⟨g, 8, none⟩ = some (.int .i64 c.off)
theorem CvB.kept {g : Nat} {c : Cv} {w w' : World} (h : CvB g c w) (hb : Below w.heap.size w w') : CvB g c w' := by
  have k : ∀ (p : Addr) (v : Value), w.cell? p = some v → w'.cell? p = some v := fun p v hc => (hb.cell (World.block_lt_of_cell? _ _ hc)).trans hc
  exact ⟨k _ _ h.c0, k _ _ h.c1, k _ _ h.c2, k _ _ h.c3, k _ _ h.c4, k _ _ h.c5, k _ _ h.c6, k _ _ h.c7, k _ _ h.c8⟩
theorem cvb_new (c : Cv) (w : World) (T : TypeId) : CvB w.heap.size c (w.alloc (.cells #[.int .i64 c.y, .int .i64 c.mo, .int .i64 c.d, .int .i64 c.h, .int .i64 c.mi, .int .i64 c.s, .int .i64 c.ns, .string c.zn, .int .i64 c.off] T)) := by
  have g1 := heap_alloc_new w (.cells #[.int .i64 c.y, .int .i64 c.mo, .int .i64 c.d, .int .i64 c.h, .int .i64 c.mi, .int .i64 c.s, .int .i64 c.ns, .string c.zn, .int .i64 c.off] T)
  exact ⟨cell_of_row _ _ 0 _ _ (0, 0) g1, cell_of_row _ _ 1 _ _ (0, 0) g1, cell_of_row _ _ 2 _ _ (0, 0) g1, cell_of_row _ _ 3 _ _ (0, 0) g1, cell_of_row _ _ 4 _ _ (0, 0) g1, cell_of_row _ _ 5 _ _ (0, 0) g1, cell_of_row _ _ 6 _ _ (0, 0) g1, cell_of_row _ _ 7 _ _ (0, 0) g1, cell_of_row _ _ 8 _ _ (0, 0) g1⟩
/-- A new row of pieces. -/
def RowTo (ps : List Pc) (w : World) (e : Ending) (w' : World) : Prop := ∃ g cap, e = .returned (.slice (some ⟨g, 0, none⟩) ps.length cap) ∧ PcsAt w' g ps ∧ Below w.heap.size w w'
theorem row_new (ps : List Pc) (w : World) (tag : TypeId) (row : Array Value) (h : row = (flatP ps).toArray) : RowTo ps w (.returned (.slice (some ⟨w.heap.size, 0, none⟩) ps.length ps.length)) (w.alloc (.cells row tag)) := by
  subst h
  exact ⟨_, _, rfl, pcs_of_row (heap_alloc_new _ _), below_alloc w _⟩
/-! The elements of both sides. -/
section
variable (t : Tm) (hO : TmOk t)
theorem pad01 (m : Nat) : padL 48 m 0 = padL 48 m 1 := by
  have := decL_pos m
  rw [padL, padL, show ((0 : Int) - (decL m).length).toNat = 0 from by omega, show ((1 : Int) - (decL m).length).toNat = 0 from by omega]
theorem decL_len1 {m : Nat} (h : m < 10) : (decL m).length = 1 := by rw [decL_lt h]; rfl
theorem decL_len2 {m : Nat} (h : ¬ m < 10) (h2 : m < 100) : (decL m).length = 2 := by rw [decL_ge h, decL_lt (by omega)]; rfl
theorem decL_len3 {m : Nat} (h : ¬ m < 100) (h2 : m < 1000) : (decL m).length = 3 := by rw [decL_ge (by omega), decL_ge (by omega), decL_lt (by omega)]; rfl
theorem pad0 (c : UInt8) (m : Nat) : padL c m 0 = decL m := by
  rw [padL, show ((0 : Int) - (decL m).length).toNat = 0 from by omega]; rfl
theorem el_1 : elemL t 275 = padL 48 t.y 4 := rfl
theorem el_2 : elemL t 276 = padL 48 (t.y % 100) 2 := rfl
theorem el_3 : elemL t 257 = monN t.mo := rfl
theorem el_4 : elemL t 258 = (monN t.mo).take 3 := rfl
theorem el_5 : elemL t 260 = padL 48 t.mo 2 := rfl
theorem el_6 : elemL t 259 = padL 48 t.mo 1 := pad01 t.mo
theorem el_7 : elemL t 261 = dayN (wdN t.y t.mo t.d) := rfl
theorem el_8 : elemL t 262 = (dayN (wdN t.y t.mo t.d)).take 3 := rfl
theorem el_9 : elemL t 263 = padL 48 t.d 1 := pad01 t.d
include hO in
theorem tday_le : t.d < 100 := by
  have := hO.day.2.2.2.2.1
  unfold mLen at this; repeat' split at this
  all_goals omega
include hO in
theorem el_10 : elemL t 264 = padL 32 t.d 2 := by
  have hd := tday_le t hO
  show (if t.d < 10 then [32] else []) ++ padL 48 t.d 0 = padL 32 t.d 2
  rw [pad0]
  by_cases h : t.d < 10
  · rw [if_pos h, padL, decL_len1 h]; rfl
  · rw [if_neg h, padL, decL_len2 h hd]; rfl
theorem el_11 : elemL t 265 = padL 48 t.d 2 := rfl
include hO in
theorem el_12 : elemL t 522 = padL 32 (ydN t.y t.mo t.d) 3 := by
  obtain ⟨y1, y2⟩ := ydN_le hO.day
  show (if ydN t.y t.mo t.d < 100 then 32 :: (if ydN t.y t.mo t.d < 10 then [32] else []) else []) ++ padL 48 (ydN t.y t.mo t.d) 0 = _
  rw [pad0]
  by_cases h : ydN t.y t.mo t.d < 10
  · rw [if_pos (by omega), if_pos h, padL, decL_len1 h]; rfl
  · by_cases h2 : ydN t.y t.mo t.d < 100
    · rw [if_pos h2, if_neg h, padL, decL_len2 h h2]; rfl
    · rw [if_neg h2, padL, decL_len3 h2 (by omega)]; rfl
theorem el_13 : elemL t 523 = padL 48 (ydN t.y t.mo t.d) 3 := rfl
theorem el_14 : elemL t 1036 = padL 48 t.h 2 := rfl
theorem el_15 : elemL t 1037 = padL 48 (h12 t.h) 1 := pad01 (h12 t.h)
theorem el_16 : elemL t 1038 = padL 48 (h12 t.h) 2 := rfl
theorem el_17 : elemL t 1039 = padL 48 t.mi 1 := pad01 t.mi
theorem el_18 : elemL t 1040 = padL 48 t.mi 2 := rfl
theorem el_19 : elemL t 1041 = padL 48 t.s 1 := pad01 t.s
theorem el_20 : elemL t 1042 = padL 48 t.s 2 := rfl
theorem el_21 : elemL t 1045 = halfL t.h := rfl
theorem el_22 : elemL t 29 = offL t.off true false false := rfl
theorem el_23 : elemL t 32 = offL t.off true false true := rfl
theorem el_24 : elemL t 31 = offL t.off false false false := rfl
theorem el_25 : elemL t 30 = offL t.off true true false := rfl
theorem el_26 : elemL t 33 = offL t.off true true true := rfl
theorem el_27 : elemL t 24 = isoL t.off true false false := rfl
theorem el_28 : elemL t 27 = isoL t.off true false true := rfl
theorem el_29 : elemL t 26 = isoL t.off false false false := rfl
theorem el_30 : elemL t 25 = isoL t.off true true false := rfl
theorem el_31 : elemL t 28 = isoL t.off true true true := rfl
theorem el_32 : elemL t 23 = bl t.zn := rfl
theorem el_33 (S n : Nat) (cm : Bool) (h : FrNo S 34 n cm) : elemL t S = nanoL t.ns n cm false := elemL_fr t h (.inl rfl)
theorem el_34 (S n : Nat) (cm : Bool) (h : FrNo S 35 n cm) : elemL t S = nanoL t.ns n cm true := elemL_fr t h (.inr rfl)
end
end Go.Proofs.YtigabjibdepoiaaDoor.Tm
namespace Go.Proofs.YtigabjibdepoiaaDoor.Tm
set_option linter.unusedSimpArgs false
set_option linter.unusedVariables false
open Go.ChangeShapes Go.WideShapes Go.ChangeAt Go.RowKit Go Go.Lib
theorem cells_civil : Tryd.prog.cellsOf 28 = 9 := by kernel_rfl
theorem cells_zone : Tryd.prog.cellsOf 26 = 2 := by kernel_rfl
theorem cells_int1 : Tryd.prog.cellsOf 3 = 1 := by kernel_rfl
theorem cells_str1 : Tryd.prog.cellsOf 9 = 1 := by kernel_rfl
section
variable {H : Type} {enc : TypeId × Value → H} {W : World} {base : Nat} {spare : Nat → Bool} {held : Bool}
set_option maxRecDepth 100000 in
theorem open_civ {r : Reach} {b0 : Nat} {v : Value} {d : DataW H} {p : List MemPlace} (hv : Value.okWide Tryd.prog W r b0 28 v) (h : DataW.Trod enc Tryd.prog W base spare held 28 v d p) :
    ∃ c : Cv, v = civV c ∧ c.zn.size ≤ maxLen := by
  obtain ⟨cs, rfl, hsz⟩ := okWide_struct Tryd.underlying28 hv
  obtain ⟨l⟩ := cs
  match l, hsz.trans cells_civil with
  | [c0, c1, c2, c3, c4, c5, c6, c7, c8], _ =>
    obtain ⟨fuel, hf⟩ := h
    obtain ⟨xs, n, _, hx, _, hlen, hg⟩ := DataW.trod_struct Tryd.underlying28 hf
    match xs, hlen with
    | [y0, y1, y2, y3, y4, y5, y6, y7], _ =>
      obtain ⟨n0, e0, _⟩ := DataW.trod_int Tryd.underlying3 (by simpa [Value.cells, cells_int1] using hg 0 _ rfl)
      obtain ⟨n1, e1, _⟩ := DataW.trod_int Tryd.underlying3 (by simpa [Value.cells, cells_int1] using hg 1 _ rfl)
      obtain ⟨n2, e2, _⟩ := DataW.trod_int Tryd.underlying3 (by simpa [Value.cells, cells_int1] using hg 2 _ rfl)
      obtain ⟨n3, e3, _⟩ := DataW.trod_int Tryd.underlying3 (by simpa [Value.cells, cells_int1] using hg 3 _ rfl)
      obtain ⟨n4, e4, _⟩ := DataW.trod_int Tryd.underlying3 (by simpa [Value.cells, cells_int1] using hg 4 _ rfl)
      obtain ⟨n5, e5, _⟩ := DataW.trod_int Tryd.underlying3 (by simpa [Value.cells, cells_int1] using hg 5 _ rfl)
      obtain ⟨n6, e6, _⟩ := DataW.trod_int Tryd.underlying3 (by simpa [Value.cells, cells_int1] using hg 6 _ rfl)
      obtain ⟨zs, m, _, _, _, zlen, zg⟩ := DataW.trod_struct Tryd.underlying26 (by simpa [Value.cells, cells_zone] using hg 7 _ rfl)
      match zs, zlen with
      | [z0, z1], _ =>
        obtain ⟨s7, e7, _, hs7⟩ := DataW.trod_string Tryd.underlying9 (by simpa [cells_str1] using zg 0 _ rfl)
        obtain ⟨n8, e8, _⟩ := DataW.trod_int Tryd.underlying3 (by simpa [cells_int1] using zg 1 _ rfl)
        simp only [List.cons.injEq, and_true] at e0 e1 e2 e3 e4 e5 e6 e7 e8
        exact ⟨⟨n0, n1, n2, n3, n4, n5, n6, s7, n8⟩, by subst e0 e1 e2 e3 e4 e5 e6 e7 e8; rfl, hs7⟩
end
end Go.Proofs.YtigabjibdepoiaaDoor.Tm
