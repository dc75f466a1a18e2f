/- The law FnFormatOffset: its walk. -/
import Derived.Test.YtigabjibdepoiaaDoorLayK
namespace Go.Proofs.YtigabjibdepoiaaDoor.Tm
set_option linter.unusedSimpArgs false
set_option linter.unusedVariables false
open Go.RowKit Go
def litO0 : ByteArray := ⟨#[45, 48, 55]⟩
theorem txtO0 (t : Tm) : fmtL t (bl litO0) = offL t.off false false false := by
  have h : fmtL t (bl litO0) = elemL t 31 ++ [] := by kernel_rfl
  rw [h, List.append_nil, el_24 t]
def litO1 : ByteArray := ⟨#[45, 48, 55, 48, 48]⟩
theorem txtO1 (t : Tm) : fmtL t (bl litO1) = offL t.off true false false := by
  have h : fmtL t (bl litO1) = elemL t 29 ++ [] := by kernel_rfl
  rw [h, List.append_nil, el_22 t]
def litO2 : ByteArray := ⟨#[45, 48, 55, 58, 48, 48]⟩
theorem txtO2 (t : Tm) : fmtL t (bl litO2) = offL t.off true false true := by
  have h : fmtL t (bl litO2) = elemL t 32 ++ [] := by kernel_rfl
  rw [h, List.append_nil, el_23 t]
set_option maxRecDepth 100000 in
set_option maxHeartbeats 6400000 in
theorem lawOffset (c : Cv) (w : World) (hT : TabOk w) : Calls Tryd.prog 7 #[civV c] w (TrueTo w) := by
  by_cases hciv : CivP c
  case neg =>
    have HN := hideP hciv
    clear hciv hT
    have FT := fits3_any c; have CO := civilOk_any c
    unfold civV at FT CO ⊢
    go_enter Tryd.func7, Tryd.ntmps7
    go_wp2_with (first
      | (go_at_call 20; refine (FT _).mono ?_; rintro e w1 (⟨rfl, hz, hb⟩ | ⟨rfl, hb⟩) <;> (try (have HZ := hideP hz; clear hz)) <;> (have HB := hideP hb; have HCB := hideP ((cvb_new c w 28).kept hb); obtain ⟨c0, c1, c2, c3, c4, c5, c6, c7, c8⟩ := HCB.out; clear hb))
      | (go_at_call 28; refine (within_any _ _ _ _).mono ?_; rintro e w2 (⟨rfl, q1, q2, rfl⟩ | ⟨rfl, q1, rfl⟩))
      | (go_at_call 22; refine (CO _ (Nat.le_trans HZ.out (by decide))).mono ?_; rintro e w3 (⟨rfl, h, -⟩ | ⟨rfl, hb⟩); exact absurd h HN.out; have HB3 := hideP hb; clear hb))
    all_goals go_ret
    all_goals first
      | exact ⟨rfl, ((below_alloc w _).trans (HB.out.mono (by simp))).trans (HB3.out.mono (Nat.le_trans (by simp) HB.out.size))⟩
      | exact ⟨rfl, (below_alloc w _).trans (HB.out.mono (by simp))⟩
  obtain ⟨t, hO, hcv⟩ := civ_tm hciv
  have FT := fits3_any c; have CO := civilOk_any c
  rw [hcv] at FT CO ⊢
  have HO := hideP hO
  have HT := hideP hT
  have HOF := hideP (show -86399 ≤ t.off ∧ t.off ≤ 86399 ∧ (t.off = 0 ∨ t.off ≤ -60 ∨ 60 ≤ t.off) from ⟨hO.off0, hO.off1, hO.off2⟩)
  have o1 := hO.off0
  have o2 := hO.off1
  have hx0 : mkB (fmtL t (bl ⟨#[45, 48, 55]⟩)) = mkB (offL t.off false false false) := congrArg mkB (txtO0 t)
  have hx1 : mkB (fmtL t (bl ⟨#[45, 48, 55, 48, 48]⟩)) = mkB (offL t.off true false false) := congrArg mkB (txtO1 t)
  have hx2 : mkB (fmtL t (bl ⟨#[45, 48, 55, 58, 48, 48]⟩)) = mkB (offL t.off true false true) := congrArg mkB (txtO2 t)
  clear hO hT hcv hciv
  unfold cvV at FT CO ⊢
  go_enter Tryd.func7, Tryd.ntmps7
  go_wp2_with (first
    | (go_at_call 20; refine (FT _).mono ?_; rintro e w1 (⟨rfl, hz, hb⟩ | ⟨rfl, hb⟩) <;> (try (have HZ := hideP hz; clear hz)) <;> (have HB := hideP hb; have HCB := hideP ((cb_new t w 28).kept hb); obtain ⟨c0, c1, c2, c3, c4, c5, c6, c7, c8⟩ := HCB.out; have HW := hideP ((below_alloc w _).trans (hb.mono (by simp))); clear hb))
    | (go_at_call 28; refine (within_any _ _ _ _).mono ?_; rintro e w2 (⟨rfl, q1, q2, rfl⟩ | ⟨rfl, q1, rfl⟩))
    | (go_at_call 22; refine (CO _ (Nat.le_trans HZ.out (by decide))).mono ?_; rintro e w4 (⟨rfl, -, hb⟩ | ⟨rfl, hb⟩) <;> (have HCB := hideP (HCB.out.kept hb); have HW := hideP (HW.out.trans (hb.mono HW.out.size)); obtain ⟨c0', c1', c2', c3', c4', c5', c6', c7', c8'⟩ := HCB.out; clear hb))
    | fail)
  all_goals first
    | (go_wp2_with (fail); go_ret; exact ⟨rfl, HW.out⟩)
    | skip
  clear c0 c1 c2 c3 c4 c5 c6 c7 c8 FT CO c0' c1' c2' c3' c4' c5' c6' c7' c8'
  have HC := hideP (show Below w4.heap.size w4 w4.drew from (Below.refl _ _).drew)
  generalize hF0 : mkB (offL t.off false false false) = X0 at hx0
  have HX0 := hideP hx0; have HF0 := hideP hF0; clear hF0 hx0
  have hXX0 : (X0.toList == X0.toList) = true := beq_self_eq_true _
  generalize hF1 : mkB (offL t.off true false false) = X1 at hx1
  have HX1 := hideP hx1; have HF1 := hideP hF1; clear hF1 hx1
  have hXX1 : (X1.toList == X1.toList) = true := beq_self_eq_true _
  generalize hF2 : mkB (offL t.off true false true) = X2 at hx2
  have HX2 := hideP hx2; have HF2 := hideP hF2; clear hF2 hx2
  have hXX2 : (X2.toList == X2.toList) = true := beq_self_eq_true _
  by_cases h36 : t.off.tmod 3600 = 0
  · have t36 : (t.off.tmod 3600 == 0) = true := beq_iff_eq.2 h36
    have u36 : (t.off.tmod 3600 != 0) = false := by rw [bne, t36]; rfl
    clear h36
    obtain ⟨d0, d1, d2, d3, d4, d5, d6, d7, d8⟩ := HCB.out.kept HC.out
    go_region_held3 (fun w' => w'.cell? ⟨w.heap.size, 0, none⟩ = some (.int .i64 t.y) ∧ w'.cell? ⟨w.heap.size, 1, none⟩ = some (.int .i64 t.mo) ∧ w'.cell? ⟨w.heap.size, 2, none⟩ = some (.int .i64 t.d) ∧ w'.cell? ⟨w.heap.size, 3, none⟩ = some (.int .i64 t.h) ∧ w'.cell? ⟨w.heap.size, 4, none⟩ = some (.int .i64 t.mi) ∧ w'.cell? ⟨w.heap.size, 5, none⟩ = some (.int .i64 t.s) ∧ w'.cell? ⟨w.heap.size, 6, none⟩ = some (.int .i64 t.ns) ∧ w'.cell? ⟨w.heap.size, 7, none⟩ = some (.string t.zn) ∧ w'.cell? ⟨w.heap.size, 8, none⟩ = some (.int .i64 t.off)) (go_keep)
      (first
        | (go_at_call 24; refine (fmtImpl_any t _ _ HO.out (HT.out.below (HW.out.trans (HC.out.mono HW.out.size))) (by decide)).mono ?_; rintro e w5 ⟨rfl, hb⟩; rw [HX0.out]; have HC := hideP (HC.out.trans (hb.mono HC.out.size)); obtain ⟨d0, d1, d2, d3, d4, d5, d6, d7, d8⟩ := HCB.out.kept HC.out; clear hb)
        | (go_at_call_of 31 ([.bool false, .bool false] : List Value); refine (offS' t.off false false false _ HOF.out).mono ?_; rintro e w6 ⟨x, rfl, -, hbl, hb⟩; have hx := (ba_ext (hbl.trans (bl_mkB _).symm)).trans HF0.out; subst hx; have HC := hideP (HC.out.trans (hb.mono HC.out.size)); obtain ⟨d0, d1, d2, d3, d4, d5, d6, d7, d8⟩ := HCB.out.kept HC.out; clear hb))
    all_goals go_wp2_with (fail)
    all_goals (have HC := hideP HC.out.drew; obtain ⟨d0, d1, d2, d3, d4, d5, d6, d7, d8⟩ := HCB.out.kept HC.out)
    all_goals (go_region_held3 (fun w' => w'.cell? ⟨w.heap.size, 0, none⟩ = some (.int .i64 t.y) ∧ w'.cell? ⟨w.heap.size, 1, none⟩ = some (.int .i64 t.mo) ∧ w'.cell? ⟨w.heap.size, 2, none⟩ = some (.int .i64 t.d) ∧ w'.cell? ⟨w.heap.size, 3, none⟩ = some (.int .i64 t.h) ∧ w'.cell? ⟨w.heap.size, 4, none⟩ = some (.int .i64 t.mi) ∧ w'.cell? ⟨w.heap.size, 5, none⟩ = some (.int .i64 t.s) ∧ w'.cell? ⟨w.heap.size, 6, none⟩ = some (.int .i64 t.ns) ∧ w'.cell? ⟨w.heap.size, 7, none⟩ = some (.string t.zn) ∧ w'.cell? ⟨w.heap.size, 8, none⟩ = some (.int .i64 t.off)) (go_keep)
      (first
        | (go_at_call 24; refine (fmtImpl_any t _ _ HO.out (HT.out.below (HW.out.trans (HC.out.mono HW.out.size))) (by decide)).mono ?_; rintro e w5 ⟨rfl, hb⟩; (first | rw [HX1.out] | rw [HX2.out]); have HC := hideP (HC.out.trans (hb.mono HC.out.size)); obtain ⟨d0, d1, d2, d3, d4, d5, d6, d7, d8⟩ := HCB.out.kept HC.out; clear hb)
        | (go_at_call_of 31 ([.bool false, .bool false] : List Value); refine (offS' t.off true false false _ HOF.out).mono ?_; rintro e w6 ⟨x, rfl, -, hbl, hb⟩; have hx := (ba_ext (hbl.trans (bl_mkB _).symm)).trans HF1.out; subst hx; have HC := hideP (HC.out.trans (hb.mono HC.out.size)); obtain ⟨d0, d1, d2, d3, d4, d5, d6, d7, d8⟩ := HCB.out.kept HC.out; clear hb)
        | (go_at_call_of 31 ([.bool false, .bool true] : List Value); refine (offS' t.off true false true _ HOF.out).mono ?_; rintro e w6 ⟨x, rfl, -, hbl, hb⟩; have hx := (ba_ext (hbl.trans (bl_mkB _).symm)).trans HF2.out; subst hx; have HC := hideP (HC.out.trans (hb.mono HC.out.size)); obtain ⟨d0, d1, d2, d3, d4, d5, d6, d7, d8⟩ := HCB.out.kept HC.out; clear hb)
        | (go_at_call 27; refine (writes_any _ (HT.out.below (HW.out.trans (HC.out.mono HW.out.size)))).mono ?_; rintro e w7 ⟨rfl, hb⟩; have HC := hideP (HC.out.trans (hb.mono HC.out.size)); obtain ⟨d0, d1, d2, d3, d4, d5, d6, d7, d8⟩ := HCB.out.kept HC.out; clear hb)))
    all_goals (go_wp2; go_ret; exact ⟨by simp, HW.out.trans (HC.out.mono HW.out.size)⟩)
  · have t36 : (t.off.tmod 3600 == 0) = false := beq_eq_false_iff_ne.2 h36
    have u36 : (t.off.tmod 3600 != 0) = true := by rw [bne, t36]; rfl
    clear h36
    obtain ⟨k0, k1, k2, k3, k4, k5, k6, k7, k8⟩ := HCB.out
    go_quiet (fail)
    have HC := hideP (show Below w4.heap.size w4 (w4.drewN nq) from ⟨rfl, rfl, rfl, Nat.le_refl _, fun _ _ => rfl⟩)
    all_goals go_wp2_with (fail)
    all_goals (have HC := hideP HC.out.drew; obtain ⟨d0, d1, d2, d3, d4, d5, d6, d7, d8⟩ := HCB.out.kept HC.out)
    all_goals (go_region_held3 (fun w' => w'.cell? ⟨w.heap.size, 0, none⟩ = some (.int .i64 t.y) ∧ w'.cell? ⟨w.heap.size, 1, none⟩ = some (.int .i64 t.mo) ∧ w'.cell? ⟨w.heap.size, 2, none⟩ = some (.int .i64 t.d) ∧ w'.cell? ⟨w.heap.size, 3, none⟩ = some (.int .i64 t.h) ∧ w'.cell? ⟨w.heap.size, 4, none⟩ = some (.int .i64 t.mi) ∧ w'.cell? ⟨w.heap.size, 5, none⟩ = some (.int .i64 t.s) ∧ w'.cell? ⟨w.heap.size, 6, none⟩ = some (.int .i64 t.ns) ∧ w'.cell? ⟨w.heap.size, 7, none⟩ = some (.string t.zn) ∧ w'.cell? ⟨w.heap.size, 8, none⟩ = some (.int .i64 t.off)) (go_keep)
      (first
        | (go_at_call 24; refine (fmtImpl_any t _ _ HO.out (HT.out.below (HW.out.trans (HC.out.mono HW.out.size))) (by decide)).mono ?_; rintro e w5 ⟨rfl, hb⟩; (first | rw [HX1.out] | rw [HX2.out]); have HC := hideP (HC.out.trans (hb.mono HC.out.size)); obtain ⟨d0, d1, d2, d3, d4, d5, d6, d7, d8⟩ := HCB.out.kept HC.out; clear hb)
        | (go_at_call_of 31 ([.bool false, .bool false] : List Value); refine (offS' t.off true false false _ HOF.out).mono ?_; rintro e w6 ⟨x, rfl, -, hbl, hb⟩; have hx := (ba_ext (hbl.trans (bl_mkB _).symm)).trans HF1.out; subst hx; have HC := hideP (HC.out.trans (hb.mono HC.out.size)); obtain ⟨d0, d1, d2, d3, d4, d5, d6, d7, d8⟩ := HCB.out.kept HC.out; clear hb)
        | (go_at_call_of 31 ([.bool false, .bool true] : List Value); refine (offS' t.off true false true _ HOF.out).mono ?_; rintro e w6 ⟨x, rfl, -, hbl, hb⟩; have hx := (ba_ext (hbl.trans (bl_mkB _).symm)).trans HF2.out; subst hx; have HC := hideP (HC.out.trans (hb.mono HC.out.size)); obtain ⟨d0, d1, d2, d3, d4, d5, d6, d7, d8⟩ := HCB.out.kept HC.out; clear hb)
        | (go_at_call 27; refine (writes_any _ (HT.out.below (HW.out.trans (HC.out.mono HW.out.size)))).mono ?_; rintro e w7 ⟨rfl, hb⟩; have HC := hideP (HC.out.trans (hb.mono HC.out.size)); obtain ⟨d0, d1, d2, d3, d4, d5, d6, d7, d8⟩ := HCB.out.kept HC.out; clear hb)))
    all_goals (go_wp2; go_ret; exact ⟨by simp, HW.out.trans (HC.out.mono HW.out.size)⟩)
end Go.Proofs.YtigabjibdepoiaaDoor.Tm
