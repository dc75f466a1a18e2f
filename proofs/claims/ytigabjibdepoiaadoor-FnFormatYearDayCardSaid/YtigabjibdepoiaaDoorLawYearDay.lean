/- The law FnFormatYearDay: its walk. -/
import Derived.Test.YtigabjibdepoiaaDoorLayK
namespace Go.Proofs.YtigabjibdepoiaaDoor.Tm
set_option linter.unusedSimpArgs false
set_option linter.unusedVariables false
open Go.RowKit Go
def litYearDay0 : ByteArray := ⟨#[95, 95, 50]⟩
def litYearDay1 : ByteArray := ⟨#[48, 48, 50]⟩
theorem txtYearDay0 (t : Tm) (hO : TmOk t) : fmtL t (bl litYearDay0) = padL 32 (ydN t.y t.mo t.d) 3 := by
  have h : fmtL t (bl litYearDay0) = elemL t 522 ++ [] := by kernel_rfl
  rw [h, List.append_nil, el_12 t hO]
theorem txtYearDay1 (t : Tm) (hO : TmOk t) : fmtL t (bl litYearDay1) = padL 48 (ydN t.y t.mo t.d) 3 := by
  have h : fmtL t (bl litYearDay1) = elemL t 523 ++ [] := by kernel_rfl
  rw [h, List.append_nil, el_13 t]
theorem digNYearDay (m : Nat) (wd : Int) (w : World) (h : m ≤ 9999) (hw1 : 0 ≤ wd) (hw2 : wd ≤ 20) : Calls Tryd.prog 29 #[.int .i64 m, .int .i64 wd] w (TxtTo (padL 48 m wd) 20 w) := digitsI m wd w (by omega) (by omega) hw1 hw2
theorem blaNYearDay (m : Nat) (wd : Int) (w : World) (h : m ≤ 9999) (hw1 : 0 ≤ wd) (hw2 : wd ≤ 20) : Calls Tryd.prog 35 #[.int .i64 m, .int .i64 wd] w (TxtTo (padL 32 m wd) 20 w) := blankI m wd w (by omega) (by omega) hw1 hw2
set_option maxRecDepth 100000 in
set_option maxHeartbeats 3200000 in
theorem lawYearDay (c : Cv) (w : World) (hT : TabOk w) : Calls Tryd.prog 12 #[civV c] w (TrueTo w) := by
  by_cases hciv : CivP c
  case neg =>
    have HN := hideP hciv
    clear hciv hT
    have FT := fits3_any c; have CO := civilOk_any c
    unfold civV at FT CO ⊢
    go_enter Tryd.func12, Tryd.ntmps12
    go_wp2_with (first
      | (go_at_call 20; refine (FT _).mono ?_; rintro e w1 (⟨rfl, hz, hb⟩ | ⟨rfl, hb⟩) <;> (try (have HZ := hideP hz; clear hz)) <;> (have HB := hideP hb; have HCB := hideP ((cvb_new c w 28).kept hb); obtain ⟨c0, c1, c2, c3, c4, c5, c6, c7, c8⟩ := HCB.out; clear hb))
      | (go_at_call 22; refine (CO _ (Nat.le_trans HZ.out (by decide))).mono ?_; rintro e w3 (⟨rfl, h, -⟩ | ⟨rfl, hb⟩); exact absurd h HN.out; have HB3 := hideP hb; clear hb))
    all_goals go_ret
    · exact ⟨rfl, ((below_alloc w _).trans (HB.out.mono (by simp))).trans (HB3.out.mono (Nat.le_trans (by simp) HB.out.size))⟩
    · exact ⟨rfl, (below_alloc w _).trans (HB.out.mono (by simp))⟩
  obtain ⟨t, hO, hcv⟩ := civ_tm hciv
  have FT := fits3_any c; have CO := civilOk_any c
  rw [hcv] at FT CO ⊢
  have HO := hideP hO
  have HT := hideP hT
  have HY := hideP (show ydN t.y t.mo t.d ≤ 999 by have := (ydN_le hO.day).2; omega)
  have hx0 : mkB (fmtL t (bl litYearDay0)) = mkB (padL 32 (ydN t.y t.mo t.d) 3) := congrArg mkB (txtYearDay0 t hO)
  have hx1 : mkB (fmtL t (bl litYearDay1)) = mkB (padL 48 (ydN t.y t.mo t.d) 3) := congrArg mkB (txtYearDay1 t hO)
  clear hO hT hcv hciv
  unfold cvV at FT CO ⊢
  go_enter Tryd.func12, Tryd.ntmps12
  go_wp2_with (first
    | (go_at_call 20; refine (FT _).mono ?_; rintro e w1 (⟨rfl, hz, hb⟩ | ⟨rfl, hb⟩) <;> (try (have HZ := hideP hz; clear hz)) <;> (have HB := hideP hb; have HCB := hideP ((cb_new t w 28).kept hb); obtain ⟨c0, c1, c2, c3, c4, c5, c6, c7, c8⟩ := HCB.out; have HW := hideP ((below_alloc w _).trans (hb.mono (by simp))); clear hb))
    | (go_at_call 22; refine (CO _ (Nat.le_trans HZ.out (by decide))).mono ?_; rintro e w4 (⟨rfl, -, hb⟩ | ⟨rfl, hb⟩) <;> (have HCB := hideP (HCB.out.kept hb); have HW := hideP (HW.out.trans (hb.mono HW.out.size)); obtain ⟨c0', c1', c2', c3', c4', c5', c6', c7', c8'⟩ := HCB.out; clear hb))
    | fail)
  all_goals first
    | (go_wp2_with (fail); go_ret; exact ⟨rfl, HW.out⟩)
    | skip
  clear c0 c1 c2 c3 c4 c5 c6 c7 c8 FT CO
  have HC := hideP (show Below w4.heap.size w4 w4.drew from (Below.refl _ _).drew)
  generalize hF0 : mkB (padL 32 (ydN t.y t.mo t.d) 3) = X0 at hx0
  have HX0 := hideP hx0
  have HF0 := hideP hF0
  clear hF0 hx0
  have hXX0 : (X0.toList == X0.toList) = true := beq_self_eq_true _
  generalize hF1 : mkB (padL 48 (ydN t.y t.mo t.d) 3) = X1 at hx1
  have HX1 := hideP hx1
  have HF1 := hideP hF1
  clear hF1 hx1
  have hXX1 : (X1.toList == X1.toList) = true := beq_self_eq_true _
  go_region_held3 (fun w' => w'.cell? ⟨w.heap.size, 0, none⟩ = some (.int .i64 t.y) ∧ w'.cell? ⟨w.heap.size, 1, none⟩ = some (.int .i64 t.mo) ∧ w'.cell? ⟨w.heap.size, 2, none⟩ = some (.int .i64 t.d) ∧ w'.cell? ⟨w.heap.size, 3, none⟩ = some (.int .i64 t.h) ∧ w'.cell? ⟨w.heap.size, 4, none⟩ = some (.int .i64 t.mi) ∧ w'.cell? ⟨w.heap.size, 5, none⟩ = some (.int .i64 t.s) ∧ w'.cell? ⟨w.heap.size, 6, none⟩ = some (.int .i64 t.ns) ∧ w'.cell? ⟨w.heap.size, 7, none⟩ = some (.string t.zn) ∧ w'.cell? ⟨w.heap.size, 8, none⟩ = some (.int .i64 t.off)) (go_keep)
    (first
      | (go_at_call 24; refine (fmtImpl_any t litYearDay0 _ HO.out (HT.out.below (HW.out.trans (HC.out.mono HW.out.size))) (by decide)).mono ?_; rintro e w5 ⟨rfl, hb⟩; rw [HX0.out]; have HC := hideP (HC.out.trans (hb.mono HC.out.size)); obtain ⟨d0, d1, d2, d3, d4, d5, d6, d7, d8⟩ := HCB.out.kept HC.out; clear hb)
      | (go_at_call 24; refine (fmtImpl_any t litYearDay1 _ HO.out (HT.out.below (HW.out.trans (HC.out.mono HW.out.size))) (by decide)).mono ?_; rintro e w5 ⟨rfl, hb⟩; rw [HX1.out]; have HC := hideP (HC.out.trans (hb.mono HC.out.size)); obtain ⟨d0, d1, d2, d3, d4, d5, d6, d7, d8⟩ := HCB.out.kept HC.out; clear hb)
      | (go_at_call 36; refine (yearDayS t _ HO.out).mono ?_; rintro e w6 ⟨rfl, hb⟩; have HC := hideP (HC.out.trans (hb.mono HC.out.size)); obtain ⟨d0, d1, d2, d3, d4, d5, d6, d7, d8⟩ := HCB.out.kept HC.out; clear hb)
      | (go_at_call 35; refine (blaNYearDay (ydN t.y t.mo t.d) 3 _ (by have := HY.out; omega) (by decide) (by decide)).mono ?_; rintro e w6 ⟨x, rfl, -, hbl, hb⟩; have hx := (ba_ext (hbl.trans (bl_mkB _).symm)).trans HF0.out; subst hx; have HC := hideP (HC.out.trans (hb.mono HC.out.size)); obtain ⟨d0, d1, d2, d3, d4, d5, d6, d7, d8⟩ := HCB.out.kept HC.out; clear hb)
      | (go_at_call 29; refine (digNYearDay (ydN t.y t.mo t.d) 3 _ (by have := HY.out; omega) (by decide) (by decide)).mono ?_; rintro e w6 ⟨x, rfl, -, hbl, hb⟩; have hx := (ba_ext (hbl.trans (bl_mkB _).symm)).trans HF1.out; subst hx; have HC := hideP (HC.out.trans (hb.mono HC.out.size)); obtain ⟨d0, d1, d2, d3, d4, d5, d6, d7, d8⟩ := HCB.out.kept HC.out; clear hb)
      | (go_at_call 27; refine (writes_any _ (HT.out.below (HW.out.trans (HC.out.mono HW.out.size)))).mono ?_; rintro e w7 ⟨rfl, hb⟩; have HC := hideP (HC.out.trans (hb.mono HC.out.size)); obtain ⟨d0, d1, d2, d3, d4, d5, d6, d7, d8⟩ := HCB.out.kept HC.out; clear hb))
  all_goals (go_wp2; go_ret; exact ⟨by simp, HW.out.trans (HC.out.mono HW.out.size)⟩)
end Go.Proofs.YtigabjibdepoiaaDoor.Tm
