/- The walks of a place and of a time: place, locabs. -/
import Derived.Test.YtigabjibdepoiaaDoorTime2
namespace Go.Proofs.YtigabjibdepoiaaDoor.Tm
set_option linter.unusedSimpArgs false
set_option linter.unusedVariables false
open Go.RowKit Go
def utcB : ByteArray := ⟨#[85, 84, 67]⟩
def PlacePost (t : Tm) (w : World) (e : Ending) (w' : World) : Prop := ∃ b, e = .returned (.pointer (some ⟨b, 0, none⟩)) ∧ w.heap.size ≤ b ∧ ((UtcAt w' b ∧ t.zn = utcB ∧ t.off = 0) ∨ ∃ zb tb, w.heap.size ≤ zb ∧ LocAt w' b t.zn t.off zb tb) ∧ Below w.heap.size w w'
set_option maxHeartbeats 800000 in
theorem place_any (t : Tm) (w : World) (h : TmOk t) :
    Calls Tryd.prog 73 #[.agg #[.string t.zn, .int .i64 t.off]] w (PlacePost t w) := by
  obtain ⟨y, mo, d, hh, mi, s, ns, zn, off⟩ := t
  have hu := h.utc
  simp only at *
  clear h
  by_cases hz : zn = utcB
  · obtain rfl := hz
    have ho : off = 0 := hu rfl
    subst ho
    clear hu
    have hq : utcB.toList = [85, 84, 67] := by rw [toList_eq]; rfl
    go_enter Tryd.func73, Tryd.ntmps73
    go_wp2_with (first
      | (go_at_call 65; refine (utc_any _).mono ?_; rintro e w1 ⟨b, rfl, hb, hu, hbel⟩; have HU := hideP hu; have HB := hideP hb; have HBE := hideP hbel; clear hu hb hbel)
      | (go_at_call 96; refine (fixedPub_any _ _ _).mono ?_; rintro e w1 ⟨b, zb, tb, rfl, hb, hzb, hu, hbel⟩; have HU := hideP hu; have HB := hideP hb; have HZ := hideP hzb; have HBE := hideP hbel; clear hu hb hbel hzb))
    go_ret
    have hs := (below_alloc w (.cells #[.string utcB, .int .i64 0] 26)).size
    exact ⟨b, rfl, Nat.le_trans hs HB.out, .inl ⟨HU.out, rfl, rfl⟩, (below_alloc w _).trans (HBE.out.mono hs)⟩
  · have hz2 : ¬ zn.toList = [85, 84, 67] := by
      rw [toList_eq]
      intro e
      exact hz (ba_ext e)
    clear hu
    go_enter Tryd.func73, Tryd.ntmps73
    go_wp2_with (first
      | (go_at_call 65; refine (utc_any _).mono ?_; rintro e w1 ⟨b, rfl, hb, hu, hbel⟩; have HU := hideP hu; have HB := hideP hb; have HBE := hideP hbel; clear hu hb hbel)
      | (go_at_call 96; refine (fixedPub_any _ _ _).mono ?_; rintro e w1 ⟨b, zb, tb, rfl, hb, hzb, hu, hbel⟩; have HU := hideP hu; have HB := hideP hb; have HZ := hideP hzb; have HBE := hideP hbel; clear hu hb hbel hzb))
    go_ret
    have hs := (below_alloc w (.cells #[.string zn, .int .i64 off] 26)).size
    exact ⟨b, rfl, Nat.le_trans hs HB.out, .inr ⟨zb, tb, Nat.le_trans hs HZ.out, HU.out⟩, (below_alloc w _).trans (HBE.out.mono hs)⟩
/-- Where a time's place lies: below 'base'. -/
def PlaceAt (w : World) (base : Nat) (t : Tm) (loc : Value) : Prop :=
  (loc = .pointer none ∧ t.zn = utcB ∧ t.off = 0) ∨ ∃ b zb tb, loc = .pointer (some ⟨b, 0, none⟩) ∧ b < base ∧ zb < base ∧ LocAt w b t.zn t.off zb tb
theorem LocAt.under {w w' : World} {base b : Nat} {s : ByteArray} {z : Int} {zb tb : Nat} (h : LocAt w b s z zb tb) (hb : b < base) (hz : zb < base) (hbel : Below base w w') : LocAt w' b s z zb tb := by
  obtain ⟨c0, c1, c2, c3, c5, c6, c7, z0, z1, z2⟩ := h
  exact ⟨(hbel.cell (p := ⟨b, 0, none⟩) hb).trans c0, (hbel.cell (p := ⟨b, 1, none⟩) hb).trans c1, (hbel.cell (p := ⟨b, 2, none⟩) hb).trans c2, (hbel.cell (p := ⟨b, 3, none⟩) hb).trans c3, (hbel.cell (p := ⟨b, 5, none⟩) hb).trans c5, (hbel.cell (p := ⟨b, 6, none⟩) hb).trans c6, (hbel.cell (p := ⟨b, 7, none⟩) hb).trans c7,
    (hbel.cell (p := ⟨zb, 0, none⟩) hz).trans z0, (hbel.cell (p := ⟨zb, 1, none⟩) hz).trans z1, (hbel.cell (p := ⟨zb, 2, none⟩) hz).trans z2⟩
theorem PlaceAt.under {w w' : World} {base : Nat} {t : Tm} {loc : Value} (h : PlaceAt w base t loc) (hbel : Below base w w') : PlaceAt w' base t loc := by
  rcases h with h | ⟨b, zb, tb, h1, h2, h3, h4⟩
  · exact .inl h
  · exact .inr ⟨b, zb, tb, h1, h2, h3, h4.under h2 h3 hbel⟩
/-- The sum that wraps past 2^63, read as an unsigned number. -/
theorem wrap_abs (u : Int) (h0 : 0 ≤ u + 9223372028741760000) (h1 : u + 9223372028741760000 < 18446744073709551616) : IntKind.u64.wrap (wrap64 (u + 9223372028741760000)) = u + 9223372028741760000 := by
  rw [IntKind.wrap_u64]; unfold wrap64; omega
def AbsPost (zn : ByteArray) (off told : Int) (w : World) (e : Ending) (w' : World) : Prop := e = .returned (.tuple #[.string zn, .int .i64 off, .int .u64 told]) ∧ Below w.heap.size w w'
theorem tup3 {a b c a' b' c' : Value} (h1 : a = a') (h2 : b = b') (h3 : c = c') : Ending.returned (.tuple #[a, b, c]) = .returned (.tuple #[a', b', c']) := by rw [h1, h2, h3]
set_option maxRecDepth 100000 in
set_option maxHeartbeats 800000 in
theorem locabs_utc (zn : ByteArray) (ns : Nat) (U off told : Int) (w : World) (hns : ns ≤ 999999999) (hz : zn = utcB) (ho : off = 0) (hx : -100000000000000 ≤ U + 62135596800 ∧ U + 62135596800 ≤ 100000000000000) (hU : U + 9223372028741760000 = told) (u1 : -100000000000 ≤ U) (u2 : U ≤ 400000000000) :
    Calls Tryd.prog 106 #[.agg #[.int .u64 ns, .int .i64 (U + 62135596800), .pointer none]] w (AbsPost zn off told w) := by
  have hw := wrap_abs U (by omega) (by omega)
  have HS := hideP hz
  have HO := hideP ho
  have HN := hideP hns
  have HU := hideP (hw.trans hU)
  have HX := hideP hx
  clear hz ho hns hU hx hw
  go_enter Tryd.func106, Tryd.ntmps106
  go_wp2_with (first
    | (go_at_call 118; refine (get_none _).mono ?_; rintro e w1 ⟨b, rfl, hb, hu, hbel⟩; have hu0 := hu.c0; have HBE := hideP hbel; have HC := hideP (show w1.cell? ⟨w.heap.size, 0, none⟩ = some (.int .u64 ns) from (hbel.cell (by simp)).trans (cell_of_row _ _ 0 _ _ (0, 0) (heap_alloc_new _ _))); have HCD := hideP (show w1.cell? ⟨w.heap.size, 1, none⟩ = some (.int .i64 (U + 62135596800)) from (hbel.cell (by simp)).trans (cell_of_row _ _ 1 _ _ (0, 0) (heap_alloc_new _ _))); clear hu hb hbel)
    | (go_at_call 94; refine (unixSec_any w.heap.size ns (U + 62135596800) _ HN.out HX.out HC.out HCD.out).mono ?_; rintro e w2 ⟨rfl, rfl⟩))
  go_ret3
  have hs := (below_alloc w (.cells #[.int .u64 ns, .int .i64 (U + 62135596800), .pointer none] 61)).size
  exact ⟨tup3 (congrArg Value.string HS.out.symm) (congrArg (Value.int .i64) HO.out.symm) (congrArg (Value.int .u64) HU.out), (below_alloc w _).trans (HBE.out.mono hs)⟩
set_option maxRecDepth 100000 in
set_option maxHeartbeats 800000 in
theorem locabs_loc (zn : ByteArray) (ns : Nat) (U off told : Int) (b zb tb : Nat) (w : World) (hns : ns ≤ 999999999) (hl : LocAt w b zn off zb tb) (hx : -100000000000000 ≤ U + 62135596800 ∧ U + 62135596800 ≤ 100000000000000) (hU : U + off + 9223372028741760000 = told) (u1 : -100000000000 ≤ U) (u2 : U ≤ 400000000000)
    (u3 : -100000000000 ≤ U + off) (u4 : U + off ≤ 400000000000) (o1 : -86399 ≤ off) (o2 : off ≤ 86399) :
    Calls Tryd.prog 106 #[.agg #[.int .u64 ns, .int .i64 (U + 62135596800), .pointer (some ⟨b, 0, none⟩)]] w (AbsPost zn off told w) := by
  have hw := wrap_abs (U + off) (by omega) (by omega)
  have HN := hideP hns
  have HU := hideP (hw.trans hU)
  have HX := hideP hx
  obtain ⟨c0, c1, c2, c3, c5, c6, c7, z0, z1, z2⟩ := hl
  have lb : b < w.heap.size := World.block_lt_of_cell? _ _ c0
  have lz : zb < w.heap.size := World.block_lt_of_cell? _ _ z0
  clear hns hU hx hw c1 c2 c3 z2
  go_enter Tryd.func106, Tryd.ntmps106
  go_wp2_with (first
    | (go_at_call 94; refine (unixSec_any w.heap.size ns (U + 62135596800) _ HN.out HX.out (cell_of_row _ _ 0 _ _ (0, 0) (heap_alloc_new _ _)) (cell_of_row _ _ 1 _ _ (0, 0) (heap_alloc_new _ _))).mono ?_; rintro e w2 ⟨rfl, rfl⟩))
  go_ret3
  exact ⟨tup3 rfl rfl (congrArg (Value.int .u64) HU.out), below_alloc w _⟩
theorem locabs_any (t : Tm) (base : Nat) (loc : Value) (w : World) (h : TmOk t) (hp : PlaceAt w base t loc) :
    Calls Tryd.prog 106 #[tmV t loc] w (AbsPost t.zn t.off (toldOf t) w) := by
  obtain ⟨b1, b2⟩ := told_b h
  have o1 := h.off0
  have o2 := h.off1
  have hU : unixOf t + t.off + 9223372028741760000 = toldOf t := by unfold unixOf; omega
  rcases hp with ⟨rfl, hz, ho⟩ | ⟨b, zb, tb, rfl, hb, hzb, hl⟩
  · exact locabs_utc t.zn t.ns (unixOf t) t.off (toldOf t) w h.ns hz ho (by omega) (by omega) (by omega) (by omega)
  · exact locabs_loc t.zn t.ns (unixOf t) t.off (toldOf t) b zb tb w h.ns hl (by omega) hU (by omega) (by omega) (by omega) (by omega) o1 o2
end Go.Proofs.YtigabjibdepoiaaDoor.Tm
