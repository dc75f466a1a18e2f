/- The law FnFormatMonth: its walk. -/
import Derived.Test.YtdnhdebkomfngaaDoorLayK
namespace Go.Proofs.YtdnhdebkomfngaaDoor.Tm
set_option linter.unusedSimpArgs false
set_option linter.unusedVariables false
open Go.RowKit Go
def litMonth0 : ByteArray := ⟨#[74, 97, 110, 117, 97, 114, 121]⟩
def litMonth1 : ByteArray := ⟨#[74, 97, 110]⟩
def litMonth2 : ByteArray := ⟨#[48, 49]⟩
def litMonth3 : ByteArray := ⟨#[49]⟩
theorem txtMonth0 (t : Tm) (hO : TmOk t) : fmtL t (bl litMonth0) = monN t.mo := by
  have h : fmtL t (bl litMonth0) = elemL t 257 ++ [] := by kernel_rfl
  rw [h, List.append_nil, el_3 t]
theorem txtMonth1 (t : Tm) (hO : TmOk t) : fmtL t (bl litMonth1) = (monN t.mo).take 3 := by
  have h : fmtL t (bl litMonth1) = elemL t 258 ++ [] := by kernel_rfl
  rw [h, List.append_nil, el_4 t]
theorem txtMonth2 (t : Tm) (hO : TmOk t) : fmtL t (bl litMonth2) = padL 48 t.mo 2 := by
  have h : fmtL t (bl litMonth2) = elemL t 260 ++ [] := by kernel_rfl
  rw [h, List.append_nil, el_5 t]
theorem txtMonth3 (t : Tm) (hO : TmOk t) : fmtL t (bl litMonth3) = padL 48 t.mo 1 := by
  have h : fmtL t (bl litMonth3) = elemL t 259 ++ [] := by kernel_rfl
  rw [h, List.append_nil, el_6 t]
theorem digNMonth (m : Nat) (wd : Int) (w : World) (h : m ≤ 9999) (hw1 : 0 ≤ wd) (hw2 : wd ≤ 20) : Calls Tryd.prog 31 #[.int .i64 m, .int .i64 wd] w (TxtTo (padL 48 m wd) 20 w) := digitsI m wd w (by omega) (by omega) hw1 hw2
theorem mon3 (m : Nat) (h1 : 1 ≤ m) (h2 : m ≤ 12) : ((3 : Int) ≤ (mkB (monN m)).size) ∧ ((mkB ((monN m).take 3)).toList == ((mkB (monN m)).extract 0 3).toList) = true := by
  have : m = 1 ∨ m = 2 ∨ m = 3 ∨ m = 4 ∨ m = 5 ∨ m = 6 ∨ m = 7 ∨ m = 8 ∨ m = 9 ∨ m = 10 ∨ m = 11 ∨ m = 12 := by omega
  rcases this with rfl | rfl | rfl | rfl | rfl | rfl | rfl | rfl | rfl | rfl | rfl | rfl <;> decide +kernel
set_option maxRecDepth 100000 in
set_option maxHeartbeats 3200000 in
theorem lawMonth (c : Cv) (w : World) (hT : TabOk w) : Calls Tryd.prog 13 #[civV c] w (TrueTo w) := by
  by_cases hciv : CivP c
  case neg =>
    have HN := hideP hciv
    clear hciv hT
    have FT := fits3_any c; have CO := civilOk_any c
    unfold civV at FT CO ⊢
    go_enter Tryd.func13, Tryd.ntmps13
    go_wp2_with (first
      | (go_at_call 16; refine (FT _).mono ?_; rintro e w1 (⟨rfl, hz, hb⟩ | ⟨rfl, hb⟩) <;> (try (have HZ := hideP hz; clear hz)) <;> (have HB := hideP hb; have HCB := hideP ((cvb_new c w 26).kept hb); obtain ⟨c0, c1, c2, c3, c4, c5, c6, c7, c8⟩ := HCB.out; clear hb))
      | (go_at_call 18; refine (CO _ (Nat.le_trans HZ.out (by decide))).mono ?_; rintro e w3 (⟨rfl, h, -⟩ | ⟨rfl, hb⟩); exact absurd h HN.out; have HB3 := hideP hb; clear hb))
    all_goals go_ret
    · exact ⟨rfl, ((below_alloc w _).trans (HB.out.mono (by simp))).trans (HB3.out.mono (Nat.le_trans (by simp) HB.out.size))⟩
    · exact ⟨rfl, (below_alloc w _).trans (HB.out.mono (by simp))⟩
  obtain ⟨t, hO, hcv⟩ := civ_tm hciv
  have FT := fits3_any c; have CO := civilOk_any c
  rw [hcv] at FT CO ⊢
  have HO := hideP hO
  have HT := hideP hT
  have HM := hideP (show 1 ≤ t.mo ∧ t.mo ≤ 12 from ⟨hO.day.2.1, hO.day.2.2.1⟩)
  have hx0 : mkB (fmtL t (bl litMonth0)) = mkB (monN t.mo) := congrArg mkB (txtMonth0 t hO)
  have hx1 : mkB (fmtL t (bl litMonth1)) = mkB ((monN t.mo).take 3) := congrArg mkB (txtMonth1 t hO)
  have hx2 : mkB (fmtL t (bl litMonth2)) = mkB (padL 48 t.mo 2) := congrArg mkB (txtMonth2 t hO)
  have hx3 : mkB (fmtL t (bl litMonth3)) = mkB (padL 48 t.mo 1) := congrArg mkB (txtMonth3 t hO)
  have hl3 := mon3 t.mo hO.day.2.1 hO.day.2.2.1
  clear hO hT hcv hciv
  unfold cvV at FT CO ⊢
  go_enter Tryd.func13, Tryd.ntmps13
  go_wp2_with (first
    | (go_at_call 16; refine (FT _).mono ?_; rintro e w1 (⟨rfl, hz, hb⟩ | ⟨rfl, hb⟩) <;> (try (have HZ := hideP hz; clear hz)) <;> (have HB := hideP hb; have HCB := hideP ((cb_new t w 26).kept hb); obtain ⟨c0, c1, c2, c3, c4, c5, c6, c7, c8⟩ := HCB.out; have HW := hideP ((below_alloc w _).trans (hb.mono (by simp))); clear hb))
    | (go_at_call 18; refine (CO _ (Nat.le_trans HZ.out (by decide))).mono ?_; rintro e w4 (⟨rfl, -, hb⟩ | ⟨rfl, hb⟩) <;> (have HCB := hideP (HCB.out.kept hb); have HW := hideP (HW.out.trans (hb.mono HW.out.size)); obtain ⟨c0', c1', c2', c3', c4', c5', c6', c7', c8'⟩ := HCB.out; clear hb))
    | fail)
  all_goals first
    | (go_wp2_with (fail); go_ret; exact ⟨rfl, HW.out⟩)
    | skip
  clear c0 c1 c2 c3 c4 c5 c6 c7 c8 FT CO
  have HC := hideP (show Below w4.heap.size w4 w4.drew from (Below.refl _ _).drew)
  generalize hF0 : mkB (monN t.mo) = X0 at hx0 hl3
  have HX0 := hideP hx0
  have HF0 := hideP hF0
  clear hF0 hx0
  have hXX0 : (X0.toList == X0.toList) = true := beq_self_eq_true _
  generalize hF1 : mkB ((monN t.mo).take 3) = X1 at hx1 hl3
  have HX1 := hideP hx1
  have HF1 := hideP hF1
  clear hF1 hx1
  have hXX1 : (X1.toList == X1.toList) = true := beq_self_eq_true _
  generalize hF2 : mkB (padL 48 t.mo 2) = X2 at hx2
  have HX2 := hideP hx2
  have HF2 := hideP hF2
  clear hF2 hx2
  have hXX2 : (X2.toList == X2.toList) = true := beq_self_eq_true _
  generalize hF3 : mkB (padL 48 t.mo 1) = X3 at hx3
  have HX3 := hideP hx3
  have HF3 := hideP hF3
  clear hF3 hx3
  have hXX3 : (X3.toList == X3.toList) = true := beq_self_eq_true _
  obtain ⟨hl3, hl4⟩ := hl3
  go_region_held3 (fun w' => w'.cell? ⟨w.heap.size, 0, none⟩ = some (.int .i64 t.y) ∧ w'.cell? ⟨w.heap.size, 1, none⟩ = some (.int .i64 t.mo) ∧ w'.cell? ⟨w.heap.size, 2, none⟩ = some (.int .i64 t.d) ∧ w'.cell? ⟨w.heap.size, 3, none⟩ = some (.int .i64 t.h) ∧ w'.cell? ⟨w.heap.size, 4, none⟩ = some (.int .i64 t.mi) ∧ w'.cell? ⟨w.heap.size, 5, none⟩ = some (.int .i64 t.s) ∧ w'.cell? ⟨w.heap.size, 6, none⟩ = some (.int .i64 t.ns) ∧ w'.cell? ⟨w.heap.size, 7, none⟩ = some (.string t.zn) ∧ w'.cell? ⟨w.heap.size, 8, none⟩ = some (.int .i64 t.off)) (go_keep)
    (first
      | (go_at_call 20; refine (fmtImpl_any t litMonth0 _ HO.out (HT.out.below (HW.out.trans (HC.out.mono HW.out.size))) (by decide)).mono ?_; rintro e w5 ⟨rfl, hb⟩; rw [HX0.out]; have HC := hideP (HC.out.trans (hb.mono HC.out.size)); obtain ⟨d0, d1, d2, d3, d4, d5, d6, d7, d8⟩ := HCB.out.kept HC.out; clear hb)
      | (go_at_call 20; refine (fmtImpl_any t litMonth1 _ HO.out (HT.out.below (HW.out.trans (HC.out.mono HW.out.size))) (by decide)).mono ?_; rintro e w5 ⟨rfl, hb⟩; rw [HX1.out]; have HC := hideP (HC.out.trans (hb.mono HC.out.size)); obtain ⟨d0, d1, d2, d3, d4, d5, d6, d7, d8⟩ := HCB.out.kept HC.out; clear hb)
      | (go_at_call 20; refine (fmtImpl_any t litMonth2 _ HO.out (HT.out.below (HW.out.trans (HC.out.mono HW.out.size))) (by decide)).mono ?_; rintro e w5 ⟨rfl, hb⟩; rw [HX2.out]; have HC := hideP (HC.out.trans (hb.mono HC.out.size)); obtain ⟨d0, d1, d2, d3, d4, d5, d6, d7, d8⟩ := HCB.out.kept HC.out; clear hb)
      | (go_at_call 20; refine (fmtImpl_any t litMonth3 _ HO.out (HT.out.below (HW.out.trans (HC.out.mono HW.out.size))) (by decide)).mono ?_; rintro e w5 ⟨rfl, hb⟩; rw [HX3.out]; have HC := hideP (HC.out.trans (hb.mono HC.out.size)); obtain ⟨d0, d1, d2, d3, d4, d5, d6, d7, d8⟩ := HCB.out.kept HC.out; clear hb)
      | (go_at_call 36; refine (monthS t.mo _ HM.out.1 HM.out.2).mono ?_; rintro e w6 ⟨x, rfl, -, hbl, hb⟩; have hx := (ba_ext (hbl.trans (bl_mkB _).symm)).trans HF0.out; subst hx; have HC := hideP (HC.out.trans (hb.mono HC.out.size)); obtain ⟨d0, d1, d2, d3, d4, d5, d6, d7, d8⟩ := HCB.out.kept HC.out; clear hb)
      | (go_at_call 31; refine (digNMonth t.mo 2 _ (by have := HM.out.2; omega) (by decide) (by decide)).mono ?_; rintro e w6 ⟨x, rfl, -, hbl, hb⟩; have hx := (ba_ext (hbl.trans (bl_mkB _).symm)).trans HF2.out; subst hx; have HC := hideP (HC.out.trans (hb.mono HC.out.size)); obtain ⟨d0, d1, d2, d3, d4, d5, d6, d7, d8⟩ := HCB.out.kept HC.out; clear hb)
      | (go_at_call 31; refine (digNMonth t.mo 1 _ (by have := HM.out.2; omega) (by decide) (by decide)).mono ?_; rintro e w6 ⟨x, rfl, -, hbl, hb⟩; have hx := (ba_ext (hbl.trans (bl_mkB _).symm)).trans HF3.out; subst hx; have HC := hideP (HC.out.trans (hb.mono HC.out.size)); obtain ⟨d0, d1, d2, d3, d4, d5, d6, d7, d8⟩ := HCB.out.kept HC.out; clear hb)
      | (go_at_call 23; refine (writes_any _ (HT.out.below (HW.out.trans (HC.out.mono HW.out.size)))).mono ?_; rintro e w7 ⟨rfl, hb⟩; have HC := hideP (HC.out.trans (hb.mono HC.out.size)); obtain ⟨d0, d1, d2, d3, d4, d5, d6, d7, d8⟩ := HCB.out.kept HC.out; clear hb))
  all_goals (go_wp2; go_ret; exact ⟨by simp, HW.out.trans (HC.out.mono HW.out.size)⟩)
end Go.Proofs.YtdnhdebkomfngaaDoor.Tm
