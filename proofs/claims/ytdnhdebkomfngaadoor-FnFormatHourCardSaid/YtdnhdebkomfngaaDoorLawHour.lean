/- The law FnFormatHour: its walk. -/
import Derived.Test.YtdnhdebkomfngaaDoorLayK
namespace Go.Proofs.YtdnhdebkomfngaaDoor.Tm
set_option linter.unusedSimpArgs false
set_option linter.unusedVariables false
open Go.RowKit Go
def litHour0 : ByteArray := ⟨#[49, 53]⟩
def litHour1 : ByteArray := ⟨#[51]⟩
def litHour2 : ByteArray := ⟨#[48, 51]⟩
def litHour3 : ByteArray := ⟨#[80, 77]⟩
theorem txtHour0 (t : Tm) (hO : TmOk t) : fmtL t (bl litHour0) = padL 48 t.h 2 := by
  have h : fmtL t (bl litHour0) = elemL t 1036 ++ [] := by kernel_rfl
  rw [h, List.append_nil, el_14 t]
theorem txtHour1 (t : Tm) (hO : TmOk t) : fmtL t (bl litHour1) = padL 48 (h12 t.h) 1 := by
  have h : fmtL t (bl litHour1) = elemL t 1037 ++ [] := by kernel_rfl
  rw [h, List.append_nil, el_15 t]
theorem txtHour2 (t : Tm) (hO : TmOk t) : fmtL t (bl litHour2) = padL 48 (h12 t.h) 2 := by
  have h : fmtL t (bl litHour2) = elemL t 1038 ++ [] := by kernel_rfl
  rw [h, List.append_nil, el_16 t]
theorem txtHour3 (t : Tm) (hO : TmOk t) : fmtL t (bl litHour3) = halfL t.h := by
  have h : fmtL t (bl litHour3) = elemL t 1045 ++ [] := by kernel_rfl
  rw [h, List.append_nil, el_21 t]
theorem digNHour (m : Nat) (wd : Int) (w : World) (h : m ≤ 9999) (hw1 : 0 ≤ wd) (hw2 : wd ≤ 20) : Calls Tryd.prog 31 #[.int .i64 m, .int .i64 wd] w (TxtTo (padL 48 m wd) 20 w) := digitsI m wd w (by omega) (by omega) hw1 hw2
set_option maxRecDepth 100000 in
set_option maxHeartbeats 3200000 in
theorem lawHour (c : Cv) (w : World) (hT : TabOk w) : Calls Tryd.prog 10 #[civV c] w (TrueTo w) := by
  by_cases hciv : CivP c
  case neg =>
    have HN := hideP hciv
    clear hciv hT
    have FT := fits3_any c; have CO := civilOk_any c
    unfold civV at FT CO ⊢
    go_enter Tryd.func10, Tryd.ntmps10
    go_wp2_with (first
      | (go_at_call 16; refine (FT _).mono ?_; rintro e w1 (⟨rfl, hz, hb⟩ | ⟨rfl, hb⟩) <;> (try (have HZ := hideP hz; clear hz)) <;> (have HB := hideP hb; have HCB := hideP ((cvb_new c w 26).kept hb); obtain ⟨c0, c1, c2, c3, c4, c5, c6, c7, c8⟩ := HCB.out; clear hb))
      | (go_at_call 18; refine (CO _ (Nat.le_trans HZ.out (by decide))).mono ?_; rintro e w3 (⟨rfl, h, -⟩ | ⟨rfl, hb⟩); exact absurd h HN.out; have HB3 := hideP hb; clear hb))
    all_goals go_ret
    · exact ⟨rfl, ((below_alloc w _).trans (HB.out.mono (by simp))).trans (HB3.out.mono (Nat.le_trans (by simp) HB.out.size))⟩
    · exact ⟨rfl, (below_alloc w _).trans (HB.out.mono (by simp))⟩
  obtain ⟨t, hO, hcv⟩ := civ_tm hciv
  have FT := fits3_any c; have CO := civilOk_any c
  rw [hcv] at FT CO ⊢
  have HO := hideP hO
  have HT := hideP hT
  have HH := hideP (show t.h ≤ 23 from hO.clock.1)
  have H12 := hideP (show h12 t.h ≤ 99 by have := hO.clock.1; unfold h12; split <;> omega)
  have hx0 : mkB (fmtL t (bl litHour0)) = mkB (padL 48 t.h 2) := congrArg mkB (txtHour0 t hO)
  have hx1 : mkB (fmtL t (bl litHour1)) = mkB (padL 48 (h12 t.h) 1) := congrArg mkB (txtHour1 t hO)
  have hx2 : mkB (fmtL t (bl litHour2)) = mkB (padL 48 (h12 t.h) 2) := congrArg mkB (txtHour2 t hO)
  have hx3 : mkB (fmtL t (bl litHour3)) = mkB (halfL t.h) := congrArg mkB (txtHour3 t hO)
  clear hO hT hcv hciv
  unfold cvV at FT CO ⊢
  go_enter Tryd.func10, Tryd.ntmps10
  go_wp2_with (first
    | (go_at_call 16; refine (FT _).mono ?_; rintro e w1 (⟨rfl, hz, hb⟩ | ⟨rfl, hb⟩) <;> (try (have HZ := hideP hz; clear hz)) <;> (have HB := hideP hb; have HCB := hideP ((cb_new t w 26).kept hb); obtain ⟨c0, c1, c2, c3, c4, c5, c6, c7, c8⟩ := HCB.out; have HW := hideP ((below_alloc w _).trans (hb.mono (by simp))); clear hb))
    | (go_at_call 18; refine (CO _ (Nat.le_trans HZ.out (by decide))).mono ?_; rintro e w4 (⟨rfl, -, hb⟩ | ⟨rfl, hb⟩) <;> (have HCB := hideP (HCB.out.kept hb); have HW := hideP (HW.out.trans (hb.mono HW.out.size)); obtain ⟨c0', c1', c2', c3', c4', c5', c6', c7', c8'⟩ := HCB.out; clear hb))
    | fail)
  all_goals first
    | (go_wp2_with (fail); go_ret; exact ⟨rfl, HW.out⟩)
    | skip
  clear c0 c1 c2 c3 c4 c5 c6 c7 c8 FT CO
  have HC := hideP (show Below w4.heap.size w4 w4.drew from (Below.refl _ _).drew)
  generalize hF0 : mkB (padL 48 t.h 2) = X0 at hx0
  have HX0 := hideP hx0
  have HF0 := hideP hF0
  clear hF0 hx0
  have hXX0 : (X0.toList == X0.toList) = true := beq_self_eq_true _
  generalize hF1 : mkB (padL 48 (h12 t.h) 1) = X1 at hx1
  have HX1 := hideP hx1
  have HF1 := hideP hF1
  clear hF1 hx1
  have hXX1 : (X1.toList == X1.toList) = true := beq_self_eq_true _
  generalize hF2 : mkB (padL 48 (h12 t.h) 2) = X2 at hx2
  have HX2 := hideP hx2
  have HF2 := hideP hF2
  clear hF2 hx2
  have hXX2 : (X2.toList == X2.toList) = true := beq_self_eq_true _
  generalize hF3 : mkB (halfL t.h) = X3 at hx3
  have HX3 := hideP hx3
  have HF3 := hideP hF3
  clear hF3 hx3
  have hXX3 : (X3.toList == X3.toList) = true := beq_self_eq_true _
  go_region_held3 (fun w' => w'.cell? ⟨w.heap.size, 0, none⟩ = some (.int .i64 t.y) ∧ w'.cell? ⟨w.heap.size, 1, none⟩ = some (.int .i64 t.mo) ∧ w'.cell? ⟨w.heap.size, 2, none⟩ = some (.int .i64 t.d) ∧ w'.cell? ⟨w.heap.size, 3, none⟩ = some (.int .i64 t.h) ∧ w'.cell? ⟨w.heap.size, 4, none⟩ = some (.int .i64 t.mi) ∧ w'.cell? ⟨w.heap.size, 5, none⟩ = some (.int .i64 t.s) ∧ w'.cell? ⟨w.heap.size, 6, none⟩ = some (.int .i64 t.ns) ∧ w'.cell? ⟨w.heap.size, 7, none⟩ = some (.string t.zn) ∧ w'.cell? ⟨w.heap.size, 8, none⟩ = some (.int .i64 t.off)) (go_keep)
    (first
      | (go_at_call 20; refine (fmtImpl_any t litHour0 _ HO.out (HT.out.below (HW.out.trans (HC.out.mono HW.out.size))) (by decide)).mono ?_; rintro e w5 ⟨rfl, hb⟩; rw [HX0.out]; have HC := hideP (HC.out.trans (hb.mono HC.out.size)); obtain ⟨d0, d1, d2, d3, d4, d5, d6, d7, d8⟩ := HCB.out.kept HC.out; clear hb)
      | (go_at_call 20; refine (fmtImpl_any t litHour1 _ HO.out (HT.out.below (HW.out.trans (HC.out.mono HW.out.size))) (by decide)).mono ?_; rintro e w5 ⟨rfl, hb⟩; rw [HX1.out]; have HC := hideP (HC.out.trans (hb.mono HC.out.size)); obtain ⟨d0, d1, d2, d3, d4, d5, d6, d7, d8⟩ := HCB.out.kept HC.out; clear hb)
      | (go_at_call 20; refine (fmtImpl_any t litHour2 _ HO.out (HT.out.below (HW.out.trans (HC.out.mono HW.out.size))) (by decide)).mono ?_; rintro e w5 ⟨rfl, hb⟩; rw [HX2.out]; have HC := hideP (HC.out.trans (hb.mono HC.out.size)); obtain ⟨d0, d1, d2, d3, d4, d5, d6, d7, d8⟩ := HCB.out.kept HC.out; clear hb)
      | (go_at_call 20; refine (fmtImpl_any t litHour3 _ HO.out (HT.out.below (HW.out.trans (HC.out.mono HW.out.size))) (by decide)).mono ?_; rintro e w5 ⟨rfl, hb⟩; rw [HX3.out]; have HC := hideP (HC.out.trans (hb.mono HC.out.size)); obtain ⟨d0, d1, d2, d3, d4, d5, d6, d7, d8⟩ := HCB.out.kept HC.out; clear hb)
      | (go_at_call 33; refine (hour12S t.h _ HH.out).mono ?_; rintro e w6 ⟨rfl, rfl⟩; obtain ⟨d0, d1, d2, d3, d4, d5, d6, d7, d8⟩ := HCB.out.kept HC.out)
      | (go_at_call 34; refine (halfS t.h _).mono ?_; rintro e w6 ⟨x, rfl, -, hbl, hb⟩; have hx := (ba_ext (hbl.trans (bl_mkB _).symm)).trans HF3.out; subst hx; have HC := hideP (HC.out.trans (hb.mono HC.out.size)); obtain ⟨d0, d1, d2, d3, d4, d5, d6, d7, d8⟩ := HCB.out.kept HC.out; clear hb)
      | (go_at_call 31; refine (digNHour t.h 2 _ (by have := HH.out; omega) (by decide) (by decide)).mono ?_; rintro e w6 ⟨x, rfl, -, hbl, hb⟩; have hx := (ba_ext (hbl.trans (bl_mkB _).symm)).trans HF0.out; subst hx; have HC := hideP (HC.out.trans (hb.mono HC.out.size)); obtain ⟨d0, d1, d2, d3, d4, d5, d6, d7, d8⟩ := HCB.out.kept HC.out; clear hb)
      | (go_at_call 31; refine (digNHour (h12 t.h) 1 _ (by have := H12.out; omega) (by decide) (by decide)).mono ?_; rintro e w6 ⟨x, rfl, -, hbl, hb⟩; have hx := (ba_ext (hbl.trans (bl_mkB _).symm)).trans HF1.out; subst hx; have HC := hideP (HC.out.trans (hb.mono HC.out.size)); obtain ⟨d0, d1, d2, d3, d4, d5, d6, d7, d8⟩ := HCB.out.kept HC.out; clear hb)
      | (go_at_call 31; refine (digNHour (h12 t.h) 2 _ (by have := H12.out; omega) (by decide) (by decide)).mono ?_; rintro e w6 ⟨x, rfl, -, hbl, hb⟩; have hx := (ba_ext (hbl.trans (bl_mkB _).symm)).trans HF2.out; subst hx; have HC := hideP (HC.out.trans (hb.mono HC.out.size)); obtain ⟨d0, d1, d2, d3, d4, d5, d6, d7, d8⟩ := HCB.out.kept HC.out; clear hb)
      | (go_at_call 23; refine (writes_any _ (HT.out.below (HW.out.trans (HC.out.mono HW.out.size)))).mono ?_; rintro e w7 ⟨rfl, hb⟩; have HC := hideP (HC.out.trans (hb.mono HC.out.size)); obtain ⟨d0, d1, d2, d3, d4, d5, d6, d7, d8⟩ := HCB.out.kept HC.out; clear hb))
  all_goals (go_wp2; go_ret; exact ⟨by simp, HW.out.trans (HC.out.mono HW.out.size)⟩)
end Go.Proofs.YtdnhdebkomfngaaDoor.Tm
