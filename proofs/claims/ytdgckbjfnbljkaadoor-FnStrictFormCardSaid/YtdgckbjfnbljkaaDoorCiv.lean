/- Civ: what is needed here. -/
import Derived.Test.YtdgckbjfnbljkaaDoorProg
import Derived.Test.YtdgckbjfnbljkaaDoorTime3
namespace Go.Proofs.YtdgckbjfnbljkaaDoor.Tm
set_option linter.unusedSimpArgs false
set_option linter.unusedVariables false
open Go.RowKit Go
/-- A time with a place, the place's name being whatever. -/
structure TmD (t : Tm) : Prop where
  day : DayOk t.y t.mo t.d
  clock : ClockOk t.h t.mi t.s
  ns : t.ns ≤ 999999999
  off0 : -86399 ≤ t.off
  off1 : t.off ≤ 86399
theorem toldD_b {t : Tm} (h : TmD t) : 9223371953000000000 ≤ toldOf t ∧ toldOf t ≤ 9223372308000000000 := by
  have := dayOf_b h.day
  obtain ⟨k1, k2, k3⟩ := h.clock
  unfold toldOf secOf; omega
/-- A place as a time bears it. -/
def LocV (w : World) (t : Tm) (loc : Value) : Prop := (loc = .pointer none ∧ t.off = 0) ∨ ∃ b zb tb, loc = .pointer (some ⟨b, 0, none⟩) ∧ LocAt w b t.zn t.off zb tb
theorem LocV.kept {w w' : World} {t : Tm} {loc : Value} (h : LocV w t loc) (hb : Below w.heap.size w w') : LocV w' t loc := by
  rcases h with h | ⟨b, zb, tb, h1, h2⟩
  · exact .inl h
  · exact .inr ⟨b, zb, tb, h1, h2.kept hb⟩
def SecPost (told : Int) (w : World) (e : Ending) (w' : World) : Prop := e = .returned (.int .u64 told) ∧ Below w.heap.size w w'
set_option maxRecDepth 100000 in
set_option maxHeartbeats 800000 in
theorem absSec_utc (ns : Nat) (U told : Int) (w : World) (hns : ns ≤ 999999999) (hx : -100000000000000 ≤ U + 62135596800 ∧ U + 62135596800 ≤ 100000000000000) (hU : U + 9223372028741760000 = told) (u1 : -100000000000 ≤ U) (u2 : U ≤ 400000000000) :
    Calls Tryd.prog 24 #[.agg #[.int .u64 ns, .int .i64 (U + 62135596800), .pointer none]] w (SecPost told w) := by
  have hw := wrap_abs U (by omega) (by omega)
  have HN := hideP hns
  have HU := hideP (hw.trans hU)
  have HX := hideP hx
  clear hns hU hx hw
  go_enter Tryd.func24, Tryd.ntmps24
  go_wp2_with (first
    | (go_at_call 35; refine (get_none _).mono ?_; rintro e w1 ⟨b, rfl, hb, hu, hbel⟩; have hu0 := hu.c0; have HBE := hideP hbel; have HC := hideP (show w1.cell? ⟨w.heap.size, 0, none⟩ = some (.int .u64 ns) from (hbel.cell (by simp)).trans (cell_of_row _ _ 0 _ _ (0, 0) (heap_alloc_new _ _))); have HCD := hideP (show w1.cell? ⟨w.heap.size, 1, none⟩ = some (.int .i64 (U + 62135596800)) from (hbel.cell (by simp)).trans (cell_of_row _ _ 1 _ _ (0, 0) (heap_alloc_new _ _))); clear hu hb hbel)
    | (go_at_call 20; refine (unixSec_any w.heap.size ns (U + 62135596800) _ HN.out HX.out HC.out HCD.out).mono ?_; rintro e w2 ⟨rfl, rfl⟩))
  go_ret
  have hs := (below_alloc w (.cells #[.int .u64 ns, .int .i64 (U + 62135596800), .pointer none] 33)).size
  exact ⟨ret_u64 HU.out, (below_alloc w _).trans (HBE.out.mono hs)⟩
set_option maxRecDepth 100000 in
set_option maxHeartbeats 800000 in
theorem absSec_loc (zn : ByteArray) (ns : Nat) (U off told : Int) (b zb tb : Nat) (w : World) (hns : ns ≤ 999999999) (hl : LocAt w b zn off zb tb) (hx : -100000000000000 ≤ U + 62135596800 ∧ U + 62135596800 ≤ 100000000000000) (hU : U + off + 9223372028741760000 = told) (u1 : -100000000000 ≤ U) (u2 : U ≤ 400000000000)
    (u3 : -100000000000 ≤ U + off) (u4 : U + off ≤ 400000000000) (o1 : -86399 ≤ off) (o2 : off ≤ 86399) :
    Calls Tryd.prog 24 #[.agg #[.int .u64 ns, .int .i64 (U + 62135596800), .pointer (some ⟨b, 0, none⟩)]] w (SecPost told w) := by
  have hw := wrap_abs (U + off) (by omega) (by omega)
  have HN := hideP hns
  have HU := hideP (hw.trans hU)
  have HX := hideP hx
  obtain ⟨c0, c1, c2, c3, c5, c6, c7, z0, z1, z2⟩ := hl
  have lb : b < w.heap.size := World.block_lt_of_cell? _ _ c0
  have lz : zb < w.heap.size := World.block_lt_of_cell? _ _ z0
  clear hns hU hx hw c1 c2 c3 z2
  go_enter Tryd.func24, Tryd.ntmps24
  go_wp2_with (first
    | (go_at_call 20; refine (unixSec_any w.heap.size ns (U + 62135596800) _ HN.out HX.out (cell_of_row _ _ 0 _ _ (0, 0) (heap_alloc_new _ _)) (cell_of_row _ _ 1 _ _ (0, 0) (heap_alloc_new _ _))).mono ?_; rintro e w2 ⟨rfl, rfl⟩))
  go_ret
  exact ⟨ret_u64 HU.out, below_alloc w _⟩
theorem absSec_any (t : Tm) (loc : Value) (w : World) (h : TmD t) (hp : LocV w t loc) :
    Calls Tryd.prog 24 #[tmV t loc] w (SecPost (toldOf t) w) := by
  obtain ⟨b1, b2⟩ := toldD_b h
  have o1 := h.off0
  have o2 := h.off1
  have hU : unixOf t + t.off + 9223372028741760000 = toldOf t := by unfold unixOf; omega
  rcases hp with ⟨rfl, ho⟩ | ⟨b, zb, tb, rfl, hl⟩
  · exact absSec_utc t.ns (unixOf t) (toldOf t) w h.ns (by omega) (by omega) (by omega) (by omega)
  · exact absSec_loc t.zn t.ns (unixOf t) t.off (toldOf t) b zb tb w h.ns hl (by omega) hU (by omega) (by omega) (by omega) (by omega) o1 o2
theorem days_told (t : Tm) (w : World) (h : TmD t) : Calls Tryd.prog 25 #[.int .u64 (toldOf t)] w (QuietV (.int .u64 (dayOf t.y t.mo t.d : Nat)) w) := days_any _ _ _ _ w h.clock (by have := (dayOf_b h.day).2; omega)
theorem clock_told (t : Tm) (w : World) (h : TmD t) : Calls Tryd.prog 27 #[.int .u64 (toldOf t)] w (QuietV (.tuple #[.int .i64 t.h, .int .i64 t.mi, .int .i64 t.s]) w) := clock_any _ _ _ _ w h.clock (by have := (dayOf_b h.day).2; omega)
def V3Post (a b c : Int) (w : World) (e : Ending) (w' : World) : Prop := e = .returned (.tuple #[.int .i64 a, .int .i64 b, .int .i64 c]) ∧ Below w.heap.size w w'
set_option maxRecDepth 100000 in
set_option maxHeartbeats 800000 in
theorem tDate_any (t : Tm) (loc : Value) (w : World) (h : TmD t) (hp : LocV w t loc) : Calls Tryd.prog 10 #[tmV t loc] w (V3Post t.y t.mo t.d w) := by
  have H := hideP h
  have HP := hideP (hp.kept (below_alloc w (.cells #[.int .u64 t.ns, .int .i64 (unixOf t + 62135596800), loc] 33)))
  clear h hp
  unfold tmV
  go_enter Tryd.func10, Tryd.ntmps10
  go_wp2_with (first
    | (go_at_call 24; refine (absSec_any t loc _ H.out HP.out).mono ?_; rintro e w1 ⟨rfl, hb⟩; have HB := hideP hb; clear hb)
    | (go_at_call 25; refine (days_told t _ H.out).mono ?_; rintro e w2 ⟨rfl, rfl⟩)
    | (go_at_call 26; refine (date_any _ _ _ _ H.out.day).mono ?_; rintro e w2 ⟨rfl, rfl⟩))
  go_ret3
  exact ⟨rfl, (below_alloc w _).trans (HB.out.mono (by simp))⟩
set_option maxRecDepth 100000 in
set_option maxHeartbeats 800000 in
theorem tClock_any (t : Tm) (loc : Value) (w : World) (h : TmD t) (hp : LocV w t loc) : Calls Tryd.prog 11 #[tmV t loc] w (V3Post t.h t.mi t.s w) := by
  have H := hideP h
  have HP := hideP (hp.kept (below_alloc w (.cells #[.int .u64 t.ns, .int .i64 (unixOf t + 62135596800), loc] 33)))
  clear h hp
  unfold tmV
  go_enter Tryd.func11, Tryd.ntmps11
  go_wp2_with (first
    | (go_at_call 24; refine (absSec_any t loc _ H.out HP.out).mono ?_; rintro e w1 ⟨rfl, hb⟩; have HB := hideP hb; clear hb)
    | (go_at_call 27; refine (clock_told t _ H.out).mono ?_; rintro e w2 ⟨rfl, rfl⟩))
  go_ret3
  exact ⟨rfl, (below_alloc w _).trans (HB.out.mono (by simp))⟩
end Go.Proofs.YtdgckbjfnbljkaaDoor.Tm
