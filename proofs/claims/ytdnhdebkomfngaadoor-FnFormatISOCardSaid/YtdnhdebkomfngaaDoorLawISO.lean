/- The law FnFormatISO: its walk. -/
import Derived.Test.YtdnhdebkomfngaaDoorLayK
namespace Go.Proofs.YtdnhdebkomfngaaDoor.Tm
set_option linter.unusedSimpArgs false
set_option linter.unusedVariables false
open Go.RowKit Go
def formsL : List ByteArray := [⟨#[48, 55]⟩, ⟨#[48, 55, 48, 48]⟩, ⟨#[48, 55, 58, 48, 48]⟩, ⟨#[48, 55, 48, 48, 48, 48]⟩, ⟨#[48, 55, 58, 48, 48, 58, 48, 48]⟩]
def FormOk (t : Tm) (f : ByteArray) : Prop := f.size ≤ 10 ∧ mkB (fmtL t (bl (⟨#[90]⟩ ++ f))) = if t.off = 0 then ⟨#[90]⟩ else mkB (fmtL t (bl (⟨#[45]⟩ ++ f)))
theorem form_of {t : Tm} {f : ByteArray} {a b : Nat} {m s c : Bool} (h0 : f.size ≤ 10) (h1 : fmtL t (90 :: bl f) = elemL t a ++ []) (h2 : fmtL t (45 :: bl f) = elemL t b ++ []) (ha : elemL t a = isoL t.off m s c) (hb : elemL t b = offL t.off m s c) : FormOk t f := by
  refine ⟨h0, ?_⟩
  rw [bl_append, bl_append, show bl (⟨#[90]⟩ : ByteArray) ++ bl f = 90 :: bl f from rfl, show bl (⟨#[45]⟩ : ByteArray) ++ bl f = 45 :: bl f from rfl, h1, h2, ha, hb, List.append_nil, List.append_nil, isoL]
  split
  · rfl
  · rfl
set_option maxRecDepth 100000 in
theorem forms_ok (t : Tm) : ∀ f ∈ formsL, FormOk t f := by
  intro f hf
  simp only [formsL, List.mem_cons, List.not_mem_nil, or_false] at hf
  rcases hf with rfl | rfl | rfl | rfl | rfl
  · exact form_of (a := 26) (b := 31) (by decide) (by kernel_rfl) (by kernel_rfl) (el_29 t) (el_24 t)
  · exact form_of (a := 24) (b := 29) (by decide) (by kernel_rfl) (by kernel_rfl) (el_27 t) (el_22 t)
  · exact form_of (a := 27) (b := 32) (by decide) (by kernel_rfl) (by kernel_rfl) (el_28 t) (el_23 t)
  · exact form_of (a := 25) (b := 30) (by decide) (by kernel_rfl) (by kernel_rfl) (el_30 t) (el_25 t)
  · exact form_of (a := 28) (b := 33) (by decide) (by kernel_rfl) (by kernel_rfl) (el_31 t) (el_26 t)
/-- The row of the forms. -/
def FormsAt (t : Tm) (g : Nat) (w : World) : Prop := ∀ i, i < 5 → ∃ f, w.cell? ⟨g, i, none⟩ = some (.string f) ∧ FormOk t f
theorem forms_new (t : Tm) (w : World) (T : TypeId) : FormsAt t w.heap.size (w.alloc (.cells #[.string ⟨#[48, 55]⟩, .string ⟨#[48, 55, 48, 48]⟩, .string ⟨#[48, 55, 58, 48, 48]⟩, .string ⟨#[48, 55, 48, 48, 48, 48]⟩, .string ⟨#[48, 55, 58, 48, 48, 58, 48, 48]⟩] T)) := by
  intro i hi
  have g1 := heap_alloc_new w (.cells #[.string ⟨#[48, 55]⟩, .string ⟨#[48, 55, 48, 48]⟩, .string ⟨#[48, 55, 58, 48, 48]⟩, .string ⟨#[48, 55, 48, 48, 48, 48]⟩, .string ⟨#[48, 55, 58, 48, 48, 58, 48, 48]⟩] T)
  match i, hi with
  | 0, _ => exact ⟨_, cell_of_row _ _ 0 _ _ (0, 0) g1, forms_ok t _ (by simp [formsL])⟩
  | 1, _ => exact ⟨_, cell_of_row _ _ 1 _ _ (0, 0) g1, forms_ok t _ (by simp [formsL])⟩
  | 2, _ => exact ⟨_, cell_of_row _ _ 2 _ _ (0, 0) g1, forms_ok t _ (by simp [formsL])⟩
  | 3, _ => exact ⟨_, cell_of_row _ _ 3 _ _ (0, 0) g1, forms_ok t _ (by simp [formsL])⟩
  | 4, _ => exact ⟨_, cell_of_row _ _ 4 _ _ (0, 0) g1, forms_ok t _ (by simp [formsL])⟩
theorem FormsAt.kept {t : Tm} {g : Nat} {w w' : World} (h : FormsAt t g w) (hb : Below w.heap.size w w') : FormsAt t g w' := fun i hi => by
  obtain ⟨f, hc, hf⟩ := h i hi
  exact ⟨f, (hb.cell (World.block_lt_of_cell? _ _ hc)).trans hc, hf⟩
set_option maxRecDepth 100000 in
set_option maxHeartbeats 3200000 in
theorem lawISO (c : Cv) (w : World) (hT : TabOk w) : Calls Tryd.prog 11 #[civV c] w (TrueTo w) := by
  by_cases hciv : CivP c
  case neg =>
    have HN := hideP hciv
    clear hciv hT
    have FT := fits3_any c; have CO := civilOk_any c
    unfold civV at FT CO ⊢
    go_enter Tryd.func11, Tryd.ntmps11
    go_wp2_with (first
      | (go_at_call 16; refine (FT _).mono ?_; rintro e w1 (⟨rfl, hz, hb⟩ | ⟨rfl, hb⟩) <;> (try (have HZ := hideP hz; clear hz)) <;> (have HB := hideP hb; have HCB := hideP ((cvb_new c w 26).kept hb); obtain ⟨c0, c1, c2, c3, c4, c5, c6, c7, c8⟩ := HCB.out; clear hb))
      | (go_at_call 18; refine (CO _ (Nat.le_trans HZ.out (by decide))).mono ?_; rintro e w3 (⟨rfl, h, -⟩ | ⟨rfl, hb⟩); exact absurd h HN.out; have HB3 := hideP hb; clear hb))
    all_goals go_ret
    · exact ⟨rfl, ((below_alloc w _).trans (HB.out.mono (by simp))).trans (HB3.out.mono (Nat.le_trans (by simp) HB.out.size))⟩
    · exact ⟨rfl, (below_alloc w _).trans (HB.out.mono (by simp))⟩
  obtain ⟨t, hO, hcv⟩ := civ_tm hciv
  have FT := fits3_any c; have CO := civilOk_any c
  rw [hcv] at FT CO ⊢
  have HO := hideP hO
  have HT := hideP hT
  clear hO hT hcv hciv
  unfold cvV at FT CO ⊢
  go_enter Tryd.func11, Tryd.ntmps11
  go_wp2_with (first
    | (go_at_call 16; refine (FT _).mono ?_; rintro e w1 (⟨rfl, hz, hb⟩ | ⟨rfl, hb⟩) <;> (try (have HZ := hideP hz; clear hz)) <;> (have HB := hideP hb; have HCB := hideP ((cb_new t w 26).kept hb); obtain ⟨c0, c1, c2, c3, c4, c5, c6, c7, c8⟩ := HCB.out; have HW := hideP ((below_alloc w _).trans (hb.mono (by simp))); clear hb))
    | (go_at_call 18; refine (CO _ (Nat.le_trans HZ.out (by decide))).mono ?_; rintro e w4 (⟨rfl, -, hb⟩ | ⟨rfl, hb⟩) <;> (have HCB := hideP (HCB.out.kept hb); have HW := hideP (HW.out.trans (hb.mono HW.out.size)); obtain ⟨c0', c1', c2', c3', c4', c5', c6', c7', c8'⟩ := HCB.out; clear hb))
    | fail)
  all_goals first
    | (go_wp2_with (fail); go_ret; exact ⟨rfl, HW.out⟩)
    | skip
  clear c0 c1 c2 c3 c4 c5 c6 c7 c8 FT CO c0' c1' c2' c3' c4' c5' c6' c7' c8'
  obtain ⟨W, hW⟩ : ∃ W, W = w4.alloc (.cells #[.string ⟨#[48, 55]⟩, .string ⟨#[48, 55, 48, 48]⟩, .string ⟨#[48, 55, 58, 48, 48]⟩, .string ⟨#[48, 55, 48, 48, 48, 48]⟩, .string ⟨#[48, 55, 58, 48, 48, 58, 48, 48]⟩] 9) := ⟨_, rfl⟩
  have HFM := hideP (show FormsAt t w4.heap.size W by rw [hW]; exact forms_new t w4 _)
  have HCW := hideP (show CB w.heap.size t W by rw [hW]; exact HCB.out.kept (below_alloc w4 _))
  have HWW := hideP (show Below w.heap.size w W by rw [hW]; exact HW.out.trans ((below_alloc w4 _).mono HW.out.size))
  go_loopw [16] (fun k wr => ∃ i : Nat, k = .int .i64 i ∧ i ≤ 5 ∧ Below W.heap.size W wr) (fun k _ => 5 - (intOf k).toNat)
  case atStart => exact ⟨0, rfl, Nat.zero_le _, by rw [hW]; exact Below.refl _ _⟩
  case round =>
    obtain ⟨i, rfl, hi, hb⟩ := hrel
    have HB := hideP hb
    have HWQ := hideP hW
    clear hb hW
    by_cases hlt : (i : Int) < 5
    · obtain ⟨f, hcf, hfo⟩ := (HFM.out.kept HB.out) i (by omega)
      have hfs := hfo.1
      have HFO := hideP hfo.2
      obtain ⟨c0, c1, c2, c3, c4, c5, c6, c7, c8⟩ := HCW.out.kept HB.out
      have hi0 : (0 : Int) ≤ i := by omega
      have hsum : ¬ 9223372036854775807 < 1 + f.size := by omega
      have HI := hideP (show i + 1 ≤ 5 by omega)
      have HT1 := hideP (HT.out.below (HWW.out.trans (HB.out.mono HWW.out.size)))
      have z1 : ((⟨#[45]⟩ : ByteArray) ++ f).size ≤ 2147483647 := by rw [ByteArray.size_append]; show 1 + f.size ≤ _; omega
      have z2 : ((⟨#[90]⟩ : ByteArray) ++ f).size ≤ 2147483647 := by rw [ByteArray.size_append]; show 1 + f.size ≤ _; omega
      have Z1 := hideP z1
      have Z2 := hideP z2
      clear hfo z1 z2
      have hfz : f.size ≤ 10 := hfs
      clear hfs
      by_cases h0 : t.off = 0
      · have HF0 := hideP (show mkB (fmtL t (bl (⟨#[90]⟩ ++ f))) = ⟨#[90]⟩ by have := HFO.out; rw [if_pos h0] at this; exact this)
        clear HFO
        have hz1 : (t.off == 0) = true := by rw [beq_iff_eq]; exact h0
        have hz2 : (t.off != 0) = false := by rw [bne, hz1]; rfl
        have HZ0 := hideP h0
        clear h0
        have HSZ := hideP (show (1 : Nat) + f.size ≤ 2147483647 by omega)
        go_wp2_with (go_at_call 20; refine (fmtImpl_any t _ _ HO.out HT1.out (by rw [ByteArray.size_append]; exact HSZ.out)).mono ?_; rintro e w5 ⟨rfl, hb⟩; rw [HF0.out]; have HB5 := hideP hb; clear hb)
        go_roundw
        case rel => exact ⟨i + 1, by go_num, HI.out, HB.out.trans (HB5.out.mono HB.out.size)⟩
        case measure => have := HI.out; simp [intOf]; omega
      · have HF1 := hideP (show mkB (fmtL t (bl (⟨#[90]⟩ ++ f))) = mkB (fmtL t (bl (⟨#[45]⟩ ++ f))) by have := HFO.out; rw [if_neg h0] at this; exact this)
        clear HFO
        have h00 : (t.off == 0) = false := by rw [beq_eq_false_iff_ne]; exact h0
        generalize hX : mkB (fmtL t (bl (⟨#[45]⟩ ++ f))) = X at HF1
        have HX := hideP hX
        clear hX
        have HSZ := hideP (show (1 : Nat) + f.size ≤ 2147483647 by omega)
        have HBc := hideP (Below.refl wr.heap.size wr)
        go_wp2_with (go_at_call 20; refine (fmtImpl_any t _ _ HO.out (HT1.out.below HBc.out) (by rw [ByteArray.size_append]; exact HSZ.out)).mono ?_; rintro e w5 ⟨rfl, hb⟩; (first | (rw [HX.out]) | (rw [HF1.out])); have HBc := hideP (HBc.out.trans (hb.mono HBc.out.size)); obtain ⟨d0, d1, d2, d3, d4, d5, d6, d7, d8⟩ := (HCW.out.kept HB.out).kept HBc.out; clear hb)
        go_roundw
        case rel => exact ⟨i + 1, by go_num, HI.out, HB.out.trans (HBc.out.mono HB.out.size)⟩
        case measure => have := HI.out; simp [intOf]; omega
    · have hie : i = 5 := by omega
      subst hie
      go_wp2_with (go_at_call 23; refine (writes_any _ (HT.out.below (HWW.out.trans (HB.out.mono HWW.out.size)))).mono ?_; rintro e w7 ⟨rfl, hb⟩; have HB7 := hideP hb; clear hb)
      go_ret
      exact ⟨rfl, (HWW.out.trans (HB.out.mono HWW.out.size)).trans (HB7.out.mono (HWW.out.trans (HB.out.mono HWW.out.size)).size)⟩
end Go.Proofs.YtdnhdebkomfngaaDoor.Tm
