/- The law FnFormatRFC3339Nano: its walk. -/
import Derived.Test.YtigabjibdepoiaaDoorLayK
namespace Go.Proofs.YtigabjibdepoiaaDoor.Tm
set_option linter.unusedSimpArgs false
set_option linter.unusedVariables false
open Go.RowKit Go
def litRFC3339Nano : ByteArray := ⟨#[50, 48, 48, 54, 45, 48, 49, 45, 48, 50, 84, 49, 53, 58, 48, 52, 58, 48, 53, 46, 57, 57, 57, 57, 57, 57, 57, 57, 57, 90, 48, 55, 58, 48, 48]⟩
def psRFC3339Nano : List Pc := [⟨1, ⟨#[]⟩, 0, false⟩, ⟨0, ⟨#[45]⟩, 0, false⟩, ⟨5, ⟨#[]⟩, 0, false⟩, ⟨0, ⟨#[45]⟩, 0, false⟩, ⟨11, ⟨#[]⟩, 0, false⟩, ⟨0, ⟨#[84]⟩, 0, false⟩, ⟨14, ⟨#[]⟩, 0, false⟩, ⟨0, ⟨#[58]⟩, 0, false⟩, ⟨18, ⟨#[]⟩, 0, false⟩, ⟨0, ⟨#[58]⟩, 0, false⟩, ⟨20, ⟨#[]⟩, 0, false⟩, ⟨34, ⟨#[]⟩, 9, false⟩, ⟨28, ⟨#[]⟩, 0, false⟩]
theorem psRFC3339Nano_ok : PcsOk psRFC3339Nano := by
  refine ⟨by decide, fun p hp => ?_⟩
  simp only [psRFC3339Nano, List.mem_cons, List.not_mem_nil, or_false] at hp
  rcases hp with rfl | rfl | rfl | rfl | rfl | rfl | rfl | rfl | rfl | rfl | rfl | rfl | rfl
  all_goals exact ⟨by decide, by decide, by decide⟩
set_option maxRecDepth 100000 in
theorem txtRFC3339Nano (t : Tm) (hO : TmOk t) : fmtL t (bl litRFC3339Nano) = writAll t psRFC3339Nano := by
  have h : fmtL t (bl litRFC3339Nano) = elemL t 275 ++ (45 :: (elemL t 260 ++ (45 :: (elemL t 265 ++ (84 :: (elemL t 1036 ++ (58 :: (elemL t 1040 ++ (58 :: (elemL t 1042 ++ (elemL t 589859 ++ (elemL t 27 ++ ([]))))))))))))) := by kernel_rfl
  rw [h, el_1 t, el_5 t, el_11 t, el_14 t, el_18 t, el_20 t, el_34 t 589859 9 false ⟨rfl, by decide, by decide⟩, el_28 t]
  rfl
set_option maxRecDepth 100000 in
set_option maxHeartbeats 400000 in
theorem rowRFC3339Nano (w : World) : Calls Tryd.prog 34 #[] w (RowTo psRFC3339Nano w) := by
  go_enter Tryd.func34, Tryd.ntmps34
  go_wp2
  go_ret
  exact row_new psRFC3339Nano w _ _ rfl
set_option maxRecDepth 100000 in
set_option maxHeartbeats 1600000 in
theorem lawRFC3339Nano (c : Cv) (w : World) (hT : TabOk w) : Calls Tryd.prog 11 #[civV c] w (TrueTo w) := by
  by_cases hciv : CivP c
  case neg =>
    have HN := hideP hciv
    clear hciv hT
    obtain ⟨V, hV⟩ : ∃ V, V = c := ⟨_, rfl⟩
    have FT := fits3_any c; have CO := civilOk_any c
    unfold civV at FT CO ⊢
    go_enter Tryd.func11, Tryd.ntmps11
    go_wp2_with (first
      | (go_at_call 20; refine (FT _).mono ?_; rintro e w1 (⟨rfl, hz, hb⟩ | ⟨rfl, hb⟩) <;> (try (have HZ := hideP hz; clear hz)) <;> (have HB := hideP hb; have HCB := hideP ((cvb_new c w 28).kept hb); obtain ⟨c0, c1, c2, c3, c4, c5, c6, c7, c8⟩ := HCB.out; clear hb))
      | (go_at_call 34; refine (rowRFC3339Nano _).mono ?_; rintro e w2 ⟨g, cap, rfl, -, hb⟩; have HB2 := hideP hb; obtain ⟨c0', c1', c2', c3', c4', c5', c6', c7', c8'⟩ := HCB.out.kept hb; clear hb)
      | (go_at_call 22; refine (CO _ (Nat.le_trans HZ.out (by decide))).mono ?_; rintro e w3 (⟨rfl, h, -⟩ | ⟨rfl, hb⟩); exact absurd h HN.out; have HB3 := hideP hb; clear hb))
    all_goals go_ret
    · exact ⟨rfl, ((below_alloc w _).trans (HB.out.mono (by simp))).trans ((HB2.out.trans (HB3.out.mono HB2.out.size)).mono (Nat.le_trans (by simp) HB.out.size))⟩
    · exact ⟨rfl, (below_alloc w _).trans (HB.out.mono (by simp))⟩
  obtain ⟨t, hO, hcv⟩ := civ_tm hciv
  have FT := fits3_any c; have CO := civilOk_any c
  rw [hcv] at FT CO ⊢
  have HO := hideP hO
  have HT := hideP hT
  have htx := txtRFC3339Nano t hO
  clear hO hT hcv hciv
  unfold cvV at FT CO ⊢
  go_enter Tryd.func11, Tryd.ntmps11
  go_wp2_with (first
    | (go_at_call 20; refine (FT _).mono ?_; rintro e w1 (⟨rfl, hz, hb⟩ | ⟨rfl, hb⟩) <;> (try (have HZ := hideP hz; clear hz)) <;> (have HB := hideP hb; have HCB := hideP ((cb_new t w 28).kept hb); obtain ⟨c0, c1, c2, c3, c4, c5, c6, c7, c8⟩ := HCB.out; have HW := hideP ((below_alloc w _).trans (hb.mono (by simp))); clear hb))
    | (go_at_call 34; refine (rowRFC3339Nano _).mono ?_; rintro e w2 ⟨g, cap, rfl, hp, hb⟩; have HCB := hideP (HCB.out.kept hb); have HP := hideP hp; have HW := hideP (HW.out.trans (hb.mono HW.out.size)); obtain ⟨c0', c1', c2', c3', c4', c5', c6', c7', c8'⟩ := HCB.out; clear hb hp)
    | (go_at_call 22; refine (CO _ (Nat.le_trans HZ.out (by decide))).mono ?_; rintro e w3 (⟨rfl, -, hb⟩ | ⟨rfl, hb⟩) <;> (have HCB := hideP (HCB.out.kept hb); have HP := hideP (HP.out.kept hb); have HW := hideP (HW.out.trans (hb.mono HW.out.size)); obtain ⟨c0'', c1'', c2'', c3'', c4'', c5'', c6'', c7'', c8''⟩ := HCB.out; clear hb))
    | (go_at_call 23; refine (Fits_any t HO.out psRFC3339Nano g cap _ psRFC3339Nano_ok HP.out).mono ?_; rintro e w4 ⟨b, rfl, hb⟩; have HCB := hideP (HCB.out.kept hb); have HP := hideP (HP.out.kept hb); have HW := hideP (HW.out.trans (hb.mono HW.out.size)); obtain ⟨c0''', c1''', c2''', c3''', c4''', c5''', c6''', c7''', c8'''⟩ := HCB.out; clear hb; cases b)
    | fail)
  all_goals first
    | (go_wp2_with (fail); go_ret; exact ⟨rfl, HW.out⟩)
    | skip
  clear c0 c1 c2 c3 c4 c5 c6 c7 c8 c0' c1' c2' c3' c4' c5' c6' c7' c8' c0'' c1'' c2'' c3'' c4'' c5'' c6'' c7'' c8'' FT CO
  have HC := hideP (show Below w4.heap.size w4 w4.drew from (Below.refl _ _).drew)
  have HX := hideP (show mkB (fmtL t (bl litRFC3339Nano)) = mkB (writAll t psRFC3339Nano) from congrArg mkB htx)
  clear htx
  generalize hF : mkB (writAll t psRFC3339Nano) = X at HX
  have HFX := hideP hF
  clear hF
  have hXX : (X.toList == X.toList) = true := beq_self_eq_true _
  go_region_held3 (fun w' => w'.cell? ⟨w.heap.size, 0, none⟩ = some (.int .i64 t.y) ∧ w'.cell? ⟨w.heap.size, 1, none⟩ = some (.int .i64 t.mo) ∧ w'.cell? ⟨w.heap.size, 2, none⟩ = some (.int .i64 t.d) ∧ w'.cell? ⟨w.heap.size, 3, none⟩ = some (.int .i64 t.h) ∧ w'.cell? ⟨w.heap.size, 4, none⟩ = some (.int .i64 t.mi) ∧ w'.cell? ⟨w.heap.size, 5, none⟩ = some (.int .i64 t.s) ∧ w'.cell? ⟨w.heap.size, 6, none⟩ = some (.int .i64 t.ns) ∧ w'.cell? ⟨w.heap.size, 7, none⟩ = some (.string t.zn) ∧ w'.cell? ⟨w.heap.size, 8, none⟩ = some (.int .i64 t.off)) (go_keep)
    (first
      | (go_at_call 24; refine (fmtImpl_any t litRFC3339Nano _ HO.out (HT.out.below (HW.out.trans (HC.out.mono HW.out.size))) (by decide)).mono ?_; rintro e w5 ⟨rfl, hb⟩; rw [HX.out]; have HC := hideP (HC.out.trans (hb.mono HC.out.size)); obtain ⟨d0, d1, d2, d3, d4, d5, d6, d7, d8⟩ := HCB.out.kept HC.out; clear hb)
      | (go_at_call 26; refine (Written_any t HO.out psRFC3339Nano g cap _ psRFC3339Nano_ok (HP.out.kept HC.out)).mono ?_; rintro e w6 ⟨x, rfl, -, hbl, hb⟩; obtain rfl : x = X := (by rw [← HFX.out]; exact ba_ext (hbl.trans (bl_mkB _).symm)); have HC := hideP (HC.out.trans (hb.mono HC.out.size)); obtain ⟨d0, d1, d2, d3, d4, d5, d6, d7, d8⟩ := HCB.out.kept HC.out; clear hb)
      | (go_at_call 27; refine (writes_any _ (HT.out.below (HW.out.trans (HC.out.mono HW.out.size)))).mono ?_; rintro e w7 ⟨rfl, hb⟩; have HC := hideP (HC.out.trans (hb.mono HC.out.size)); obtain ⟨d0, d1, d2, d3, d4, d5, d6, d7, d8⟩ := HCB.out.kept HC.out; clear hb))
  all_goals (go_wp2; go_ret; exact ⟨by simp, HW.out.trans (HC.out.mono HW.out.size)⟩)
end Go.Proofs.YtigabjibdepoiaaDoor.Tm
