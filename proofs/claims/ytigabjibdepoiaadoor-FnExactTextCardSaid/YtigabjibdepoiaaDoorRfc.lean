/- The walk of appendFormatRFC3339, and what it appends. -/
import Derived.Test.YtigabjibdepoiaaDoorFmtG
import Derived.Test.YtigabjibdepoiaaDoorAt
import Derived.Test.YtigabjibdepoiaaDoorChunkB
namespace Go.Proofs.YtigabjibdepoiaaDoor.Tm
set_option linter.unusedSimpArgs false
set_option linter.unusedVariables false
open Go.RowKit Go
theorem BSt.rebase {w w1 w' : World} {v v' : Value} {base : Nat} {xs : List Value} {l : List UInt8} {n : Nat} (h : BSt w1 v base xs w' v' l n) (hb : Below w.heap.size w w1) (hbase : base ≤ w.heap.size) : BSt w v base xs w' v' l n :=
  ⟨h.buf, (Moved.below hb v).trans h.mov, hbase, h.len⟩
def rfcL (t : Tm) (nanos : Bool) : List UInt8 :=
  padL 48 t.y 4 ++ (45 :: (padL 48 t.mo 2 ++ (45 :: (padL 48 t.d 2 ++ (84 :: (padL 48 t.h 2 ++ (58 :: (padL 48 t.mi 2 ++ (58 :: (padL 48 t.s 2 ++ ((if nanos = true then nanoL t.ns 9 false true else []) ++ isoL t.off true false true)))))))))))
set_option maxRecDepth 1000000 in
set_option maxHeartbeats 6400000 in
theorem rfc_fz (t : Tm) (ao : Option Addr) (base : Nat) (v : Value) (xs : List Value) (w : World) (hO : TmOk t) (hp : PlaceAt w base t (.pointer ao)) (hv : Buf w base v xs) (hbase : base ≤ w.heap.size) (hlen : xs.length + 1000 ≤ 140737488351232) (hoff : t.off = 0) :
    Calls Tryd.prog 83 #[tmV t (.pointer ao), v, .bool false] w (BPost w v base xs (rfcL t false) (xs.length + 400)) := by
  have HV := hideP hv
  have HNE := hideP (show v.ownBlock ≠ some w.heap.size by obtain ⟨g, e1, _, e2⟩ := hv.own; rw [e1]; intro e; cases e; omega)
  have HO := hideP hO
  have HOFF := hideP hoff
  have HP := hideP hp
  have HBASE := hideP hbase
  have HN := hideP hO.ns
  have HE := hideP (show isoL t.off true false true = [90] by rw [hoff]; rfl)
  have by1 : (t.y : Int) ≤ 9999 := by have := hO.day.1; omega
  have bm1 : (t.mo : Int) ≤ 12 := by have := hO.day.2.2.1; omega
  have bd1 : (t.d : Int) ≤ 31 := by
    have := hO.day.2.2.2.2.1
    unfold mLen at this; repeat' split at this
    all_goals omega
  obtain ⟨bh0, bmi0, bs0⟩ := hO.clock
  have bh1 : (t.h : Int) ≤ 23 := by omega
  have bmi1 : (t.mi : Int) ≤ 59 := by omega
  have bs1 : (t.s : Int) ≤ 59 := by omega
  clear bh0 bmi0 bs0 hv hbase hp hO hoff
  unfold tmV
  go_enter Tryd.func83, Tryd.ntmps83
  go_wp2_with (first
      | (go_at_call 106; refine (locabs_any t base (.pointer ao) _ HO.out (HP.out.under ((Below.refl _ _).alloc HBASE.out _))).mono ?_; rw [HOFF.out]; rintro e w1 ⟨rfl, hbl⟩; have HBL := hideP ((below_alloc w _).trans (hbl.mono (by simp))); have HB := hideP (BSt.start (HV.out.kept HBL.out) (Nat.le_trans HBASE.out HBL.out.size)); have HC0 := hideP (show w1.cell? ⟨w.heap.size, 0, none⟩ = some (.int .u64 t.ns) from (hbl.cell (by simp)).trans (cell_of_row _ _ 0 _ _ (0, 0) (heap_alloc_new _ _))); have HC1 := hideP (show w1.cell? ⟨w.heap.size, 1, none⟩ = some (.int .i64 (unixOf t + 62135596800)) from (hbl.cell (by simp)).trans (cell_of_row _ _ 1 _ _ (0, 0) (heap_alloc_new _ _))); have HC2 := hideP (show w1.cell? ⟨w.heap.size, 2, none⟩ = some (.pointer ao) from (hbl.cell (by simp)).trans (cell_of_row _ _ 2 _ _ (0, 0) (heap_alloc_new _ _))); have HLT := hideP (show w.heap.size < w1.heap.size by have := hbl.size; simp at this; omega); clear hbl)
      | (go_at_call 99; refine (days_t t _ HO.out).mono ?_; rintro e w1 ⟨rfl, rfl⟩)
      | (go_at_call 100; refine (date_t t _ HO.out).mono ?_; rintro e w1 ⟨rfl, rfl⟩)
      | (go_at_call 101; refine (clock_t t _ HO.out).mono ?_; rintro e w1 ⟨rfl, rfl⟩)
      | (go_at_call 88; refine (fracsec 35 9 46 9 false _ rfl (by decide) rfl (by decide)).mono ?_; rintro e w1 ⟨rfl, rfl⟩)
      | (go_at_call 66; refine (nanosecond_any t.ns _ _ _ HN.out).mono ?_; rintro e w1 ⟨rfl, hbl⟩; have HB := hideP (HB.out.below hbl); clear hbl)
      | (go_at_call 107; refine (nano_bst 589859 35 9 t.ns false ⟨rfl, by decide, by decide⟩ (by omega) HN.out HB.out (by omega)).mono ?_; rintro e w1 ⟨v1, rfl, hb1⟩; have HB := hideP hb1; clear hb1)
      | (at_builtin; refine wpList_bst_one 45 _ _ rfl _ _ rfl HB.out rfl rfl rfl (by omega) ?_; intro v1 w1 hb1; have HB := hideP hb1; clear hb1)
      | (at_builtin; refine wpList_bst_one 84 _ _ rfl _ _ rfl HB.out rfl rfl rfl (by omega) ?_; intro v1 w1 hb1; have HB := hideP hb1; clear hb1)
      | (at_builtin; refine wpList_bst_one 58 _ _ rfl _ _ rfl HB.out rfl rfl rfl (by omega) ?_; intro v1 w1 hb1; have HB := hideP hb1; clear hb1)
      | (at_builtin; refine wpList_bst_one 90 _ _ rfl _ _ rfl HB.out rfl rfl rfl (by omega) ?_; intro v1 w1 hb1; have HB := hideP hb1; clear hb1)
      | (at_builtin; refine wpList_bst_one 43 _ _ rfl _ _ rfl HB.out rfl rfl rfl (by omega) ?_; intro v1 w1 hb1; have HB := hideP hb1; clear hb1)
      | (go_at_call 105; refine (int_bstI _ _ HB.out (by omega) (by omega) (by decide) (by decide) (by omega)).mono ?_; rintro e w1 ⟨v1, rfl, hb1⟩; have HB := hideP hb1; clear hb1))
  go_ret
  exact ⟨_, rfl, ((HB.out.rebase HBL.out HBASE.out).text (by unfold rfcL; simp only [HE.out, zq1, zq2, show ((35 : Nat) == 35) = true from rfl, Int.toNat_natCast, Bool.false_eq_true, if_true, if_false, reduceIte, List.append_assoc, List.nil_append, List.append_nil, List.cons_append, List.singleton_append])).more (by omega)⟩
set_option maxRecDepth 1000000 in
set_option maxHeartbeats 6400000 in
theorem rfc_fp (t : Tm) (ao : Option Addr) (base : Nat) (v : Value) (xs : List Value) (w : World) (hO : TmOk t) (hp : PlaceAt w base t (.pointer ao)) (hv : Buf w base v xs) (hbase : base ≤ w.heap.size) (hlen : xs.length + 1000 ≤ 140737488351232) (z : Nat) (hz : 60 ≤ z) (hz2 : z ≤ 86399) (hoff : t.off = z) :
    Calls Tryd.prog 83 #[tmV t (.pointer ao), v, .bool false] w (BPost w v base xs (rfcL t false) (xs.length + 400)) := by
  have HV := hideP hv
  have HNE := hideP (show v.ownBlock ≠ some w.heap.size by obtain ⟨g, e1, _, e2⟩ := hv.own; rw [e1]; intro e; cases e; omega)
  have HO := hideP hO
  have HOFF := hideP hoff
  have HP := hideP hp
  have HBASE := hideP hbase
  have HN := hideP hO.ns
  have HE := hideP (show isoL t.off true false true = offL (z : Int) true false true by rw [hoff]; exact if_neg (by omega))
  have HZ := hideP hz
  have ht2 : ((z : Int) == 0) = false := by rw [beq_eq_false_iff_ne]; omega
  have zb1 : (60 : Int) ≤ z := by omega
  have zb2 : (z : Int) ≤ 86399 := by omega
  clear hz hz2
  have by1 : (t.y : Int) ≤ 9999 := by have := hO.day.1; omega
  have bm1 : (t.mo : Int) ≤ 12 := by have := hO.day.2.2.1; omega
  have bd1 : (t.d : Int) ≤ 31 := by
    have := hO.day.2.2.2.2.1
    unfold mLen at this; repeat' split at this
    all_goals omega
  obtain ⟨bh0, bmi0, bs0⟩ := hO.clock
  have bh1 : (t.h : Int) ≤ 23 := by omega
  have bmi1 : (t.mi : Int) ≤ 59 := by omega
  have bs1 : (t.s : Int) ≤ 59 := by omega
  clear bh0 bmi0 bs0 hv hbase hp hO hoff
  unfold tmV
  go_enter Tryd.func83, Tryd.ntmps83
  go_wp2_with (first
      | (go_at_call 106; refine (locabs_any t base (.pointer ao) _ HO.out (HP.out.under ((Below.refl _ _).alloc HBASE.out _))).mono ?_; rw [HOFF.out]; rintro e w1 ⟨rfl, hbl⟩; have HBL := hideP ((below_alloc w _).trans (hbl.mono (by simp))); have HB := hideP (BSt.start (HV.out.kept HBL.out) (Nat.le_trans HBASE.out HBL.out.size)); have HC0 := hideP (show w1.cell? ⟨w.heap.size, 0, none⟩ = some (.int .u64 t.ns) from (hbl.cell (by simp)).trans (cell_of_row _ _ 0 _ _ (0, 0) (heap_alloc_new _ _))); have HC1 := hideP (show w1.cell? ⟨w.heap.size, 1, none⟩ = some (.int .i64 (unixOf t + 62135596800)) from (hbl.cell (by simp)).trans (cell_of_row _ _ 1 _ _ (0, 0) (heap_alloc_new _ _))); have HC2 := hideP (show w1.cell? ⟨w.heap.size, 2, none⟩ = some (.pointer ao) from (hbl.cell (by simp)).trans (cell_of_row _ _ 2 _ _ (0, 0) (heap_alloc_new _ _))); have HLT := hideP (show w.heap.size < w1.heap.size by have := hbl.size; simp at this; omega); clear hbl)
      | (go_at_call 99; refine (days_t t _ HO.out).mono ?_; rintro e w1 ⟨rfl, rfl⟩)
      | (go_at_call 100; refine (date_t t _ HO.out).mono ?_; rintro e w1 ⟨rfl, rfl⟩)
      | (go_at_call 101; refine (clock_t t _ HO.out).mono ?_; rintro e w1 ⟨rfl, rfl⟩)
      | (go_at_call 88; refine (fracsec 35 9 46 9 false _ rfl (by decide) rfl (by decide)).mono ?_; rintro e w1 ⟨rfl, rfl⟩)
      | (go_at_call 66; refine (nanosecond_any t.ns _ _ _ HN.out).mono ?_; rintro e w1 ⟨rfl, hbl⟩; have HB := hideP (HB.out.below hbl); clear hbl)
      | (go_at_call 107; refine (nano_bst 589859 35 9 t.ns false ⟨rfl, by decide, by decide⟩ (by omega) HN.out HB.out (by omega)).mono ?_; rintro e w1 ⟨v1, rfl, hb1⟩; have HB := hideP hb1; clear hb1)
      | (at_builtin; refine wpList_bst_one 45 _ _ rfl _ _ rfl HB.out rfl rfl rfl (by omega) ?_; intro v1 w1 hb1; have HB := hideP hb1; clear hb1)
      | (at_builtin; refine wpList_bst_one 84 _ _ rfl _ _ rfl HB.out rfl rfl rfl (by omega) ?_; intro v1 w1 hb1; have HB := hideP hb1; clear hb1)
      | (at_builtin; refine wpList_bst_one 58 _ _ rfl _ _ rfl HB.out rfl rfl rfl (by omega) ?_; intro v1 w1 hb1; have HB := hideP hb1; clear hb1)
      | (at_builtin; refine wpList_bst_one 90 _ _ rfl _ _ rfl HB.out rfl rfl rfl (by omega) ?_; intro v1 w1 hb1; have HB := hideP hb1; clear hb1)
      | (at_builtin; refine wpList_bst_one 43 _ _ rfl _ _ rfl HB.out rfl rfl rfl (by omega) ?_; intro v1 w1 hb1; have HB := hideP hb1; clear hb1)
      | (go_at_call 105; refine (int_bstI _ _ HB.out (by omega) (by omega) (by decide) (by decide) (by omega)).mono ?_; rintro e w1 ⟨v1, rfl, hb1⟩; have HB := hideP hb1; clear hb1))
  go_ret
  exact ⟨_, rfl, ((HB.out.rebase HBL.out HBASE.out).text (by unfold rfcL; simp only [HE.out, off_pos, zq1, zq2, show ((35 : Nat) == 35) = true from rfl, Int.toNat_natCast, Bool.false_eq_true, if_true, if_false, reduceIte, List.append_assoc, List.nil_append, List.append_nil, List.cons_append, List.singleton_append])).more (by omega)⟩
set_option maxRecDepth 1000000 in
set_option maxHeartbeats 6400000 in
theorem rfc_fn (t : Tm) (ao : Option Addr) (base : Nat) (v : Value) (xs : List Value) (w : World) (hO : TmOk t) (hp : PlaceAt w base t (.pointer ao)) (hv : Buf w base v xs) (hbase : base ≤ w.heap.size) (hlen : xs.length + 1000 ≤ 140737488351232) (z : Nat) (hz : 60 ≤ z) (hz2 : z ≤ 86399) (hoff : t.off = -(z : Int)) :
    Calls Tryd.prog 83 #[tmV t (.pointer ao), v, .bool false] w (BPost w v base xs (rfcL t false) (xs.length + 400)) := by
  have HV := hideP hv
  have HNE := hideP (show v.ownBlock ≠ some w.heap.size by obtain ⟨g, e1, _, e2⟩ := hv.own; rw [e1]; intro e; cases e; omega)
  have HO := hideP hO
  have HOFF := hideP hoff
  have HP := hideP hp
  have HBASE := hideP hbase
  have HN := hideP hO.ns
  have HE := hideP (show isoL t.off true false true = offL (-(z : Int)) true false true by rw [hoff]; exact if_neg (by omega))
  have HZ := hideP hz
  have ht := tdiv_neg z
  have ht2 := neg_ne z hz
  have ht3 := neg_lt z hz
  have zb1 : (60 : Int) ≤ z := by omega
  have zb2 : (z : Int) ≤ 86399 := by omega
  clear hz hz2
  have by1 : (t.y : Int) ≤ 9999 := by have := hO.day.1; omega
  have bm1 : (t.mo : Int) ≤ 12 := by have := hO.day.2.2.1; omega
  have bd1 : (t.d : Int) ≤ 31 := by
    have := hO.day.2.2.2.2.1
    unfold mLen at this; repeat' split at this
    all_goals omega
  obtain ⟨bh0, bmi0, bs0⟩ := hO.clock
  have bh1 : (t.h : Int) ≤ 23 := by omega
  have bmi1 : (t.mi : Int) ≤ 59 := by omega
  have bs1 : (t.s : Int) ≤ 59 := by omega
  clear bh0 bmi0 bs0 hv hbase hp hO hoff
  unfold tmV
  go_enter Tryd.func83, Tryd.ntmps83
  go_wp2_with (first
      | (go_at_call 106; refine (locabs_any t base (.pointer ao) _ HO.out (HP.out.under ((Below.refl _ _).alloc HBASE.out _))).mono ?_; rw [HOFF.out]; rintro e w1 ⟨rfl, hbl⟩; have HBL := hideP ((below_alloc w _).trans (hbl.mono (by simp))); have HB := hideP (BSt.start (HV.out.kept HBL.out) (Nat.le_trans HBASE.out HBL.out.size)); have HC0 := hideP (show w1.cell? ⟨w.heap.size, 0, none⟩ = some (.int .u64 t.ns) from (hbl.cell (by simp)).trans (cell_of_row _ _ 0 _ _ (0, 0) (heap_alloc_new _ _))); have HC1 := hideP (show w1.cell? ⟨w.heap.size, 1, none⟩ = some (.int .i64 (unixOf t + 62135596800)) from (hbl.cell (by simp)).trans (cell_of_row _ _ 1 _ _ (0, 0) (heap_alloc_new _ _))); have HC2 := hideP (show w1.cell? ⟨w.heap.size, 2, none⟩ = some (.pointer ao) from (hbl.cell (by simp)).trans (cell_of_row _ _ 2 _ _ (0, 0) (heap_alloc_new _ _))); have HLT := hideP (show w.heap.size < w1.heap.size by have := hbl.size; simp at this; omega); clear hbl)
      | (go_at_call 99; refine (days_t t _ HO.out).mono ?_; rintro e w1 ⟨rfl, rfl⟩)
      | (go_at_call 100; refine (date_t t _ HO.out).mono ?_; rintro e w1 ⟨rfl, rfl⟩)
      | (go_at_call 101; refine (clock_t t _ HO.out).mono ?_; rintro e w1 ⟨rfl, rfl⟩)
      | (go_at_call 88; refine (fracsec 35 9 46 9 false _ rfl (by decide) rfl (by decide)).mono ?_; rintro e w1 ⟨rfl, rfl⟩)
      | (go_at_call 66; refine (nanosecond_any t.ns _ _ _ HN.out).mono ?_; rintro e w1 ⟨rfl, hbl⟩; have HB := hideP (HB.out.below hbl); clear hbl)
      | (go_at_call 107; refine (nano_bst 589859 35 9 t.ns false ⟨rfl, by decide, by decide⟩ (by omega) HN.out HB.out (by omega)).mono ?_; rintro e w1 ⟨v1, rfl, hb1⟩; have HB := hideP hb1; clear hb1)
      | (at_builtin; refine wpList_bst_one 45 _ _ rfl _ _ rfl HB.out rfl rfl rfl (by omega) ?_; intro v1 w1 hb1; have HB := hideP hb1; clear hb1)
      | (at_builtin; refine wpList_bst_one 84 _ _ rfl _ _ rfl HB.out rfl rfl rfl (by omega) ?_; intro v1 w1 hb1; have HB := hideP hb1; clear hb1)
      | (at_builtin; refine wpList_bst_one 58 _ _ rfl _ _ rfl HB.out rfl rfl rfl (by omega) ?_; intro v1 w1 hb1; have HB := hideP hb1; clear hb1)
      | (at_builtin; refine wpList_bst_one 90 _ _ rfl _ _ rfl HB.out rfl rfl rfl (by omega) ?_; intro v1 w1 hb1; have HB := hideP hb1; clear hb1)
      | (at_builtin; refine wpList_bst_one 43 _ _ rfl _ _ rfl HB.out rfl rfl rfl (by omega) ?_; intro v1 w1 hb1; have HB := hideP hb1; clear hb1)
      | (go_at_call 105; refine (int_bstI _ _ HB.out (by omega) (by omega) (by decide) (by decide) (by omega)).mono ?_; rintro e w1 ⟨v1, rfl, hb1⟩; have HB := hideP hb1; clear hb1))
  go_ret
  exact ⟨_, rfl, ((HB.out.rebase HBL.out HBASE.out).text (by unfold rfcL; simp only [HE.out, off_neg _ HZ.out, zq1, zq2, show ((35 : Nat) == 35) = true from rfl, Int.toNat_natCast, Bool.false_eq_true, if_true, if_false, reduceIte, List.append_assoc, List.nil_append, List.append_nil, List.cons_append, List.singleton_append])).more (by omega)⟩
set_option maxRecDepth 1000000 in
set_option maxHeartbeats 6400000 in
theorem rfc_tz (t : Tm) (ao : Option Addr) (base : Nat) (v : Value) (xs : List Value) (w : World) (hO : TmOk t) (hp : PlaceAt w base t (.pointer ao)) (hv : Buf w base v xs) (hbase : base ≤ w.heap.size) (hlen : xs.length + 1000 ≤ 140737488351232) (hoff : t.off = 0) :
    Calls Tryd.prog 83 #[tmV t (.pointer ao), v, .bool true] w (BPost w v base xs (rfcL t true) (xs.length + 400)) := by
  have HV := hideP hv
  have HNE := hideP (show v.ownBlock ≠ some w.heap.size by obtain ⟨g, e1, _, e2⟩ := hv.own; rw [e1]; intro e; cases e; omega)
  have HO := hideP hO
  have HOFF := hideP hoff
  have HP := hideP hp
  have HBASE := hideP hbase
  have HN := hideP hO.ns
  have HE := hideP (show isoL t.off true false true = [90] by rw [hoff]; rfl)
  have by1 : (t.y : Int) ≤ 9999 := by have := hO.day.1; omega
  have bm1 : (t.mo : Int) ≤ 12 := by have := hO.day.2.2.1; omega
  have bd1 : (t.d : Int) ≤ 31 := by
    have := hO.day.2.2.2.2.1
    unfold mLen at this; repeat' split at this
    all_goals omega
  obtain ⟨bh0, bmi0, bs0⟩ := hO.clock
  have bh1 : (t.h : Int) ≤ 23 := by omega
  have bmi1 : (t.mi : Int) ≤ 59 := by omega
  have bs1 : (t.s : Int) ≤ 59 := by omega
  clear bh0 bmi0 bs0 hv hbase hp hO hoff
  unfold tmV
  go_enter Tryd.func83, Tryd.ntmps83
  go_upto_region 17 with (first
      | (go_at_call 106; refine (locabs_any t base (.pointer ao) _ HO.out (HP.out.under ((Below.refl _ _).alloc HBASE.out _))).mono ?_; rw [HOFF.out]; rintro e w1 ⟨rfl, hbl⟩; have HBL := hideP ((below_alloc w _).trans (hbl.mono (by simp))); have HB := hideP (BSt.start (HV.out.kept HBL.out) (Nat.le_trans HBASE.out HBL.out.size)); have HC0 := hideP (show w1.cell? ⟨w.heap.size, 0, none⟩ = some (.int .u64 t.ns) from (hbl.cell (by simp)).trans (cell_of_row _ _ 0 _ _ (0, 0) (heap_alloc_new _ _))); have HC1 := hideP (show w1.cell? ⟨w.heap.size, 1, none⟩ = some (.int .i64 (unixOf t + 62135596800)) from (hbl.cell (by simp)).trans (cell_of_row _ _ 1 _ _ (0, 0) (heap_alloc_new _ _))); have HC2 := hideP (show w1.cell? ⟨w.heap.size, 2, none⟩ = some (.pointer ao) from (hbl.cell (by simp)).trans (cell_of_row _ _ 2 _ _ (0, 0) (heap_alloc_new _ _))); have HLT := hideP (show w.heap.size < w1.heap.size by have := hbl.size; simp at this; omega); clear hbl)
      | (go_at_call 99; refine (days_t t _ HO.out).mono ?_; rintro e w1 ⟨rfl, rfl⟩)
      | (go_at_call 100; refine (date_t t _ HO.out).mono ?_; rintro e w1 ⟨rfl, rfl⟩)
      | (go_at_call 101; refine (clock_t t _ HO.out).mono ?_; rintro e w1 ⟨rfl, rfl⟩)
      | (go_at_call 88; refine (fracsec 35 9 46 9 false _ rfl (by decide) rfl (by decide)).mono ?_; rintro e w1 ⟨rfl, rfl⟩)
      | (go_at_call 66; refine (nanosecond_any t.ns _ _ _ HN.out).mono ?_; rintro e w1 ⟨rfl, hbl⟩; have HB := hideP (HB.out.below hbl); clear hbl)
      | (go_at_call 107; refine (nano_bst 589859 35 9 t.ns false ⟨rfl, by decide, by decide⟩ (by omega) HN.out HB.out (by omega)).mono ?_; rintro e w1 ⟨v1, rfl, hb1⟩; have HB := hideP hb1; clear hb1)
      | (at_builtin; refine wpList_bst_one 45 _ _ rfl _ _ rfl HB.out rfl rfl rfl (by omega) ?_; intro v1 w1 hb1; have HB := hideP hb1; clear hb1)
      | (at_builtin; refine wpList_bst_one 84 _ _ rfl _ _ rfl HB.out rfl rfl rfl (by omega) ?_; intro v1 w1 hb1; have HB := hideP hb1; clear hb1)
      | (at_builtin; refine wpList_bst_one 58 _ _ rfl _ _ rfl HB.out rfl rfl rfl (by omega) ?_; intro v1 w1 hb1; have HB := hideP hb1; clear hb1)
      | (at_builtin; refine wpList_bst_one 90 _ _ rfl _ _ rfl HB.out rfl rfl rfl (by omega) ?_; intro v1 w1 hb1; have HB := hideP hb1; clear hb1)
      | (at_builtin; refine wpList_bst_one 43 _ _ rfl _ _ rfl HB.out rfl rfl rfl (by omega) ?_; intro v1 w1 hb1; have HB := hideP hb1; clear hb1)
      | (go_at_call 105; refine (int_bstI _ _ HB.out (by omega) (by omega) (by decide) (by decide) (by omega)).mono ?_; rintro e w1 ⟨v1, rfl, hb1⟩; have HB := hideP hb1; clear hb1))
  have q0 := HB.out.cell HC0.out HNE.out
  have q1 := HB.out.cell HC1.out HNE.out
  have q2 := HB.out.cell HC2.out HNE.out
  go_wp2_with (first
      | (go_at_call 106; refine (locabs_any t base (.pointer ao) _ HO.out (HP.out.under ((Below.refl _ _).alloc HBASE.out _))).mono ?_; rw [HOFF.out]; rintro e w1 ⟨rfl, hbl⟩; have HBL := hideP ((below_alloc w _).trans (hbl.mono (by simp))); have HB := hideP (BSt.start (HV.out.kept HBL.out) (Nat.le_trans HBASE.out HBL.out.size)); have HC0 := hideP (show w1.cell? ⟨w.heap.size, 0, none⟩ = some (.int .u64 t.ns) from (hbl.cell (by simp)).trans (cell_of_row _ _ 0 _ _ (0, 0) (heap_alloc_new _ _))); have HC1 := hideP (show w1.cell? ⟨w.heap.size, 1, none⟩ = some (.int .i64 (unixOf t + 62135596800)) from (hbl.cell (by simp)).trans (cell_of_row _ _ 1 _ _ (0, 0) (heap_alloc_new _ _))); have HC2 := hideP (show w1.cell? ⟨w.heap.size, 2, none⟩ = some (.pointer ao) from (hbl.cell (by simp)).trans (cell_of_row _ _ 2 _ _ (0, 0) (heap_alloc_new _ _))); have HLT := hideP (show w.heap.size < w1.heap.size by have := hbl.size; simp at this; omega); clear hbl)
      | (go_at_call 99; refine (days_t t _ HO.out).mono ?_; rintro e w1 ⟨rfl, rfl⟩)
      | (go_at_call 100; refine (date_t t _ HO.out).mono ?_; rintro e w1 ⟨rfl, rfl⟩)
      | (go_at_call 101; refine (clock_t t _ HO.out).mono ?_; rintro e w1 ⟨rfl, rfl⟩)
      | (go_at_call 88; refine (fracsec 35 9 46 9 false _ rfl (by decide) rfl (by decide)).mono ?_; rintro e w1 ⟨rfl, rfl⟩)
      | (go_at_call 66; refine (nanosecond_any t.ns _ _ _ HN.out).mono ?_; rintro e w1 ⟨rfl, hbl⟩; have HB := hideP (HB.out.below hbl); clear hbl)
      | (go_at_call 107; refine (nano_bst 589859 35 9 t.ns false ⟨rfl, by decide, by decide⟩ (by omega) HN.out HB.out (by omega)).mono ?_; rintro e w1 ⟨v1, rfl, hb1⟩; have HB := hideP hb1; clear hb1)
      | (at_builtin; refine wpList_bst_one 45 _ _ rfl _ _ rfl HB.out rfl rfl rfl (by omega) ?_; intro v1 w1 hb1; have HB := hideP hb1; clear hb1)
      | (at_builtin; refine wpList_bst_one 84 _ _ rfl _ _ rfl HB.out rfl rfl rfl (by omega) ?_; intro v1 w1 hb1; have HB := hideP hb1; clear hb1)
      | (at_builtin; refine wpList_bst_one 58 _ _ rfl _ _ rfl HB.out rfl rfl rfl (by omega) ?_; intro v1 w1 hb1; have HB := hideP hb1; clear hb1)
      | (at_builtin; refine wpList_bst_one 90 _ _ rfl _ _ rfl HB.out rfl rfl rfl (by omega) ?_; intro v1 w1 hb1; have HB := hideP hb1; clear hb1)
      | (at_builtin; refine wpList_bst_one 43 _ _ rfl _ _ rfl HB.out rfl rfl rfl (by omega) ?_; intro v1 w1 hb1; have HB := hideP hb1; clear hb1)
      | (go_at_call 105; refine (int_bstI _ _ HB.out (by omega) (by omega) (by decide) (by decide) (by omega)).mono ?_; rintro e w1 ⟨v1, rfl, hb1⟩; have HB := hideP hb1; clear hb1))
  go_ret
  exact ⟨_, rfl, ((HB.out.rebase HBL.out HBASE.out).text (by unfold rfcL; simp only [HE.out, zq1, zq2, show ((35 : Nat) == 35) = true from rfl, Int.toNat_natCast, Bool.false_eq_true, if_true, if_false, reduceIte, List.append_assoc, List.nil_append, List.append_nil, List.cons_append, List.singleton_append])).more (by omega)⟩
set_option maxRecDepth 1000000 in
set_option maxHeartbeats 6400000 in
theorem rfc_tp (t : Tm) (ao : Option Addr) (base : Nat) (v : Value) (xs : List Value) (w : World) (hO : TmOk t) (hp : PlaceAt w base t (.pointer ao)) (hv : Buf w base v xs) (hbase : base ≤ w.heap.size) (hlen : xs.length + 1000 ≤ 140737488351232) (z : Nat) (hz : 60 ≤ z) (hz2 : z ≤ 86399) (hoff : t.off = z) :
    Calls Tryd.prog 83 #[tmV t (.pointer ao), v, .bool true] w (BPost w v base xs (rfcL t true) (xs.length + 400)) := by
  have HV := hideP hv
  have HNE := hideP (show v.ownBlock ≠ some w.heap.size by obtain ⟨g, e1, _, e2⟩ := hv.own; rw [e1]; intro e; cases e; omega)
  have HO := hideP hO
  have HOFF := hideP hoff
  have HP := hideP hp
  have HBASE := hideP hbase
  have HN := hideP hO.ns
  have HE := hideP (show isoL t.off true false true = offL (z : Int) true false true by rw [hoff]; exact if_neg (by omega))
  have HZ := hideP hz
  have ht2 : ((z : Int) == 0) = false := by rw [beq_eq_false_iff_ne]; omega
  have zb1 : (60 : Int) ≤ z := by omega
  have zb2 : (z : Int) ≤ 86399 := by omega
  clear hz hz2
  have by1 : (t.y : Int) ≤ 9999 := by have := hO.day.1; omega
  have bm1 : (t.mo : Int) ≤ 12 := by have := hO.day.2.2.1; omega
  have bd1 : (t.d : Int) ≤ 31 := by
    have := hO.day.2.2.2.2.1
    unfold mLen at this; repeat' split at this
    all_goals omega
  obtain ⟨bh0, bmi0, bs0⟩ := hO.clock
  have bh1 : (t.h : Int) ≤ 23 := by omega
  have bmi1 : (t.mi : Int) ≤ 59 := by omega
  have bs1 : (t.s : Int) ≤ 59 := by omega
  clear bh0 bmi0 bs0 hv hbase hp hO hoff
  unfold tmV
  go_enter Tryd.func83, Tryd.ntmps83
  go_upto_region 17 with (first
      | (go_at_call 106; refine (locabs_any t base (.pointer ao) _ HO.out (HP.out.under ((Below.refl _ _).alloc HBASE.out _))).mono ?_; rw [HOFF.out]; rintro e w1 ⟨rfl, hbl⟩; have HBL := hideP ((below_alloc w _).trans (hbl.mono (by simp))); have HB := hideP (BSt.start (HV.out.kept HBL.out) (Nat.le_trans HBASE.out HBL.out.size)); have HC0 := hideP (show w1.cell? ⟨w.heap.size, 0, none⟩ = some (.int .u64 t.ns) from (hbl.cell (by simp)).trans (cell_of_row _ _ 0 _ _ (0, 0) (heap_alloc_new _ _))); have HC1 := hideP (show w1.cell? ⟨w.heap.size, 1, none⟩ = some (.int .i64 (unixOf t + 62135596800)) from (hbl.cell (by simp)).trans (cell_of_row _ _ 1 _ _ (0, 0) (heap_alloc_new _ _))); have HC2 := hideP (show w1.cell? ⟨w.heap.size, 2, none⟩ = some (.pointer ao) from (hbl.cell (by simp)).trans (cell_of_row _ _ 2 _ _ (0, 0) (heap_alloc_new _ _))); have HLT := hideP (show w.heap.size < w1.heap.size by have := hbl.size; simp at this; omega); clear hbl)
      | (go_at_call 99; refine (days_t t _ HO.out).mono ?_; rintro e w1 ⟨rfl, rfl⟩)
      | (go_at_call 100; refine (date_t t _ HO.out).mono ?_; rintro e w1 ⟨rfl, rfl⟩)
      | (go_at_call 101; refine (clock_t t _ HO.out).mono ?_; rintro e w1 ⟨rfl, rfl⟩)
      | (go_at_call 88; refine (fracsec 35 9 46 9 false _ rfl (by decide) rfl (by decide)).mono ?_; rintro e w1 ⟨rfl, rfl⟩)
      | (go_at_call 66; refine (nanosecond_any t.ns _ _ _ HN.out).mono ?_; rintro e w1 ⟨rfl, hbl⟩; have HB := hideP (HB.out.below hbl); clear hbl)
      | (go_at_call 107; refine (nano_bst 589859 35 9 t.ns false ⟨rfl, by decide, by decide⟩ (by omega) HN.out HB.out (by omega)).mono ?_; rintro e w1 ⟨v1, rfl, hb1⟩; have HB := hideP hb1; clear hb1)
      | (at_builtin; refine wpList_bst_one 45 _ _ rfl _ _ rfl HB.out rfl rfl rfl (by omega) ?_; intro v1 w1 hb1; have HB := hideP hb1; clear hb1)
      | (at_builtin; refine wpList_bst_one 84 _ _ rfl _ _ rfl HB.out rfl rfl rfl (by omega) ?_; intro v1 w1 hb1; have HB := hideP hb1; clear hb1)
      | (at_builtin; refine wpList_bst_one 58 _ _ rfl _ _ rfl HB.out rfl rfl rfl (by omega) ?_; intro v1 w1 hb1; have HB := hideP hb1; clear hb1)
      | (at_builtin; refine wpList_bst_one 90 _ _ rfl _ _ rfl HB.out rfl rfl rfl (by omega) ?_; intro v1 w1 hb1; have HB := hideP hb1; clear hb1)
      | (at_builtin; refine wpList_bst_one 43 _ _ rfl _ _ rfl HB.out rfl rfl rfl (by omega) ?_; intro v1 w1 hb1; have HB := hideP hb1; clear hb1)
      | (go_at_call 105; refine (int_bstI _ _ HB.out (by omega) (by omega) (by decide) (by decide) (by omega)).mono ?_; rintro e w1 ⟨v1, rfl, hb1⟩; have HB := hideP hb1; clear hb1))
  have q0 := HB.out.cell HC0.out HNE.out
  have q1 := HB.out.cell HC1.out HNE.out
  have q2 := HB.out.cell HC2.out HNE.out
  go_wp2_with (first
      | (go_at_call 106; refine (locabs_any t base (.pointer ao) _ HO.out (HP.out.under ((Below.refl _ _).alloc HBASE.out _))).mono ?_; rw [HOFF.out]; rintro e w1 ⟨rfl, hbl⟩; have HBL := hideP ((below_alloc w _).trans (hbl.mono (by simp))); have HB := hideP (BSt.start (HV.out.kept HBL.out) (Nat.le_trans HBASE.out HBL.out.size)); have HC0 := hideP (show w1.cell? ⟨w.heap.size, 0, none⟩ = some (.int .u64 t.ns) from (hbl.cell (by simp)).trans (cell_of_row _ _ 0 _ _ (0, 0) (heap_alloc_new _ _))); have HC1 := hideP (show w1.cell? ⟨w.heap.size, 1, none⟩ = some (.int .i64 (unixOf t + 62135596800)) from (hbl.cell (by simp)).trans (cell_of_row _ _ 1 _ _ (0, 0) (heap_alloc_new _ _))); have HC2 := hideP (show w1.cell? ⟨w.heap.size, 2, none⟩ = some (.pointer ao) from (hbl.cell (by simp)).trans (cell_of_row _ _ 2 _ _ (0, 0) (heap_alloc_new _ _))); have HLT := hideP (show w.heap.size < w1.heap.size by have := hbl.size; simp at this; omega); clear hbl)
      | (go_at_call 99; refine (days_t t _ HO.out).mono ?_; rintro e w1 ⟨rfl, rfl⟩)
      | (go_at_call 100; refine (date_t t _ HO.out).mono ?_; rintro e w1 ⟨rfl, rfl⟩)
      | (go_at_call 101; refine (clock_t t _ HO.out).mono ?_; rintro e w1 ⟨rfl, rfl⟩)
      | (go_at_call 88; refine (fracsec 35 9 46 9 false _ rfl (by decide) rfl (by decide)).mono ?_; rintro e w1 ⟨rfl, rfl⟩)
      | (go_at_call 66; refine (nanosecond_any t.ns _ _ _ HN.out).mono ?_; rintro e w1 ⟨rfl, hbl⟩; have HB := hideP (HB.out.below hbl); clear hbl)
      | (go_at_call 107; refine (nano_bst 589859 35 9 t.ns false ⟨rfl, by decide, by decide⟩ (by omega) HN.out HB.out (by omega)).mono ?_; rintro e w1 ⟨v1, rfl, hb1⟩; have HB := hideP hb1; clear hb1)
      | (at_builtin; refine wpList_bst_one 45 _ _ rfl _ _ rfl HB.out rfl rfl rfl (by omega) ?_; intro v1 w1 hb1; have HB := hideP hb1; clear hb1)
      | (at_builtin; refine wpList_bst_one 84 _ _ rfl _ _ rfl HB.out rfl rfl rfl (by omega) ?_; intro v1 w1 hb1; have HB := hideP hb1; clear hb1)
      | (at_builtin; refine wpList_bst_one 58 _ _ rfl _ _ rfl HB.out rfl rfl rfl (by omega) ?_; intro v1 w1 hb1; have HB := hideP hb1; clear hb1)
      | (at_builtin; refine wpList_bst_one 90 _ _ rfl _ _ rfl HB.out rfl rfl rfl (by omega) ?_; intro v1 w1 hb1; have HB := hideP hb1; clear hb1)
      | (at_builtin; refine wpList_bst_one 43 _ _ rfl _ _ rfl HB.out rfl rfl rfl (by omega) ?_; intro v1 w1 hb1; have HB := hideP hb1; clear hb1)
      | (go_at_call 105; refine (int_bstI _ _ HB.out (by omega) (by omega) (by decide) (by decide) (by omega)).mono ?_; rintro e w1 ⟨v1, rfl, hb1⟩; have HB := hideP hb1; clear hb1))
  go_ret
  exact ⟨_, rfl, ((HB.out.rebase HBL.out HBASE.out).text (by unfold rfcL; simp only [HE.out, off_pos, zq1, zq2, show ((35 : Nat) == 35) = true from rfl, Int.toNat_natCast, Bool.false_eq_true, if_true, if_false, reduceIte, List.append_assoc, List.nil_append, List.append_nil, List.cons_append, List.singleton_append])).more (by omega)⟩
set_option maxRecDepth 1000000 in
set_option maxHeartbeats 6400000 in
theorem rfc_tn (t : Tm) (ao : Option Addr) (base : Nat) (v : Value) (xs : List Value) (w : World) (hO : TmOk t) (hp : PlaceAt w base t (.pointer ao)) (hv : Buf w base v xs) (hbase : base ≤ w.heap.size) (hlen : xs.length + 1000 ≤ 140737488351232) (z : Nat) (hz : 60 ≤ z) (hz2 : z ≤ 86399) (hoff : t.off = -(z : Int)) :
    Calls Tryd.prog 83 #[tmV t (.pointer ao), v, .bool true] w (BPost w v base xs (rfcL t true) (xs.length + 400)) := by
  have HV := hideP hv
  have HNE := hideP (show v.ownBlock ≠ some w.heap.size by obtain ⟨g, e1, _, e2⟩ := hv.own; rw [e1]; intro e; cases e; omega)
  have HO := hideP hO
  have HOFF := hideP hoff
  have HP := hideP hp
  have HBASE := hideP hbase
  have HN := hideP hO.ns
  have HE := hideP (show isoL t.off true false true = offL (-(z : Int)) true false true by rw [hoff]; exact if_neg (by omega))
  have HZ := hideP hz
  have ht := tdiv_neg z
  have ht2 := neg_ne z hz
  have ht3 := neg_lt z hz
  have zb1 : (60 : Int) ≤ z := by omega
  have zb2 : (z : Int) ≤ 86399 := by omega
  clear hz hz2
  have by1 : (t.y : Int) ≤ 9999 := by have := hO.day.1; omega
  have bm1 : (t.mo : Int) ≤ 12 := by have := hO.day.2.2.1; omega
  have bd1 : (t.d : Int) ≤ 31 := by
    have := hO.day.2.2.2.2.1
    unfold mLen at this; repeat' split at this
    all_goals omega
  obtain ⟨bh0, bmi0, bs0⟩ := hO.clock
  have bh1 : (t.h : Int) ≤ 23 := by omega
  have bmi1 : (t.mi : Int) ≤ 59 := by omega
  have bs1 : (t.s : Int) ≤ 59 := by omega
  clear bh0 bmi0 bs0 hv hbase hp hO hoff
  unfold tmV
  go_enter Tryd.func83, Tryd.ntmps83
  go_upto_region 17 with (first
      | (go_at_call 106; refine (locabs_any t base (.pointer ao) _ HO.out (HP.out.under ((Below.refl _ _).alloc HBASE.out _))).mono ?_; rw [HOFF.out]; rintro e w1 ⟨rfl, hbl⟩; have HBL := hideP ((below_alloc w _).trans (hbl.mono (by simp))); have HB := hideP (BSt.start (HV.out.kept HBL.out) (Nat.le_trans HBASE.out HBL.out.size)); have HC0 := hideP (show w1.cell? ⟨w.heap.size, 0, none⟩ = some (.int .u64 t.ns) from (hbl.cell (by simp)).trans (cell_of_row _ _ 0 _ _ (0, 0) (heap_alloc_new _ _))); have HC1 := hideP (show w1.cell? ⟨w.heap.size, 1, none⟩ = some (.int .i64 (unixOf t + 62135596800)) from (hbl.cell (by simp)).trans (cell_of_row _ _ 1 _ _ (0, 0) (heap_alloc_new _ _))); have HC2 := hideP (show w1.cell? ⟨w.heap.size, 2, none⟩ = some (.pointer ao) from (hbl.cell (by simp)).trans (cell_of_row _ _ 2 _ _ (0, 0) (heap_alloc_new _ _))); have HLT := hideP (show w.heap.size < w1.heap.size by have := hbl.size; simp at this; omega); clear hbl)
      | (go_at_call 99; refine (days_t t _ HO.out).mono ?_; rintro e w1 ⟨rfl, rfl⟩)
      | (go_at_call 100; refine (date_t t _ HO.out).mono ?_; rintro e w1 ⟨rfl, rfl⟩)
      | (go_at_call 101; refine (clock_t t _ HO.out).mono ?_; rintro e w1 ⟨rfl, rfl⟩)
      | (go_at_call 88; refine (fracsec 35 9 46 9 false _ rfl (by decide) rfl (by decide)).mono ?_; rintro e w1 ⟨rfl, rfl⟩)
      | (go_at_call 66; refine (nanosecond_any t.ns _ _ _ HN.out).mono ?_; rintro e w1 ⟨rfl, hbl⟩; have HB := hideP (HB.out.below hbl); clear hbl)
      | (go_at_call 107; refine (nano_bst 589859 35 9 t.ns false ⟨rfl, by decide, by decide⟩ (by omega) HN.out HB.out (by omega)).mono ?_; rintro e w1 ⟨v1, rfl, hb1⟩; have HB := hideP hb1; clear hb1)
      | (at_builtin; refine wpList_bst_one 45 _ _ rfl _ _ rfl HB.out rfl rfl rfl (by omega) ?_; intro v1 w1 hb1; have HB := hideP hb1; clear hb1)
      | (at_builtin; refine wpList_bst_one 84 _ _ rfl _ _ rfl HB.out rfl rfl rfl (by omega) ?_; intro v1 w1 hb1; have HB := hideP hb1; clear hb1)
      | (at_builtin; refine wpList_bst_one 58 _ _ rfl _ _ rfl HB.out rfl rfl rfl (by omega) ?_; intro v1 w1 hb1; have HB := hideP hb1; clear hb1)
      | (at_builtin; refine wpList_bst_one 90 _ _ rfl _ _ rfl HB.out rfl rfl rfl (by omega) ?_; intro v1 w1 hb1; have HB := hideP hb1; clear hb1)
      | (at_builtin; refine wpList_bst_one 43 _ _ rfl _ _ rfl HB.out rfl rfl rfl (by omega) ?_; intro v1 w1 hb1; have HB := hideP hb1; clear hb1)
      | (go_at_call 105; refine (int_bstI _ _ HB.out (by omega) (by omega) (by decide) (by decide) (by omega)).mono ?_; rintro e w1 ⟨v1, rfl, hb1⟩; have HB := hideP hb1; clear hb1))
  have q0 := HB.out.cell HC0.out HNE.out
  have q1 := HB.out.cell HC1.out HNE.out
  have q2 := HB.out.cell HC2.out HNE.out
  go_wp2_with (first
      | (go_at_call 106; refine (locabs_any t base (.pointer ao) _ HO.out (HP.out.under ((Below.refl _ _).alloc HBASE.out _))).mono ?_; rw [HOFF.out]; rintro e w1 ⟨rfl, hbl⟩; have HBL := hideP ((below_alloc w _).trans (hbl.mono (by simp))); have HB := hideP (BSt.start (HV.out.kept HBL.out) (Nat.le_trans HBASE.out HBL.out.size)); have HC0 := hideP (show w1.cell? ⟨w.heap.size, 0, none⟩ = some (.int .u64 t.ns) from (hbl.cell (by simp)).trans (cell_of_row _ _ 0 _ _ (0, 0) (heap_alloc_new _ _))); have HC1 := hideP (show w1.cell? ⟨w.heap.size, 1, none⟩ = some (.int .i64 (unixOf t + 62135596800)) from (hbl.cell (by simp)).trans (cell_of_row _ _ 1 _ _ (0, 0) (heap_alloc_new _ _))); have HC2 := hideP (show w1.cell? ⟨w.heap.size, 2, none⟩ = some (.pointer ao) from (hbl.cell (by simp)).trans (cell_of_row _ _ 2 _ _ (0, 0) (heap_alloc_new _ _))); have HLT := hideP (show w.heap.size < w1.heap.size by have := hbl.size; simp at this; omega); clear hbl)
      | (go_at_call 99; refine (days_t t _ HO.out).mono ?_; rintro e w1 ⟨rfl, rfl⟩)
      | (go_at_call 100; refine (date_t t _ HO.out).mono ?_; rintro e w1 ⟨rfl, rfl⟩)
      | (go_at_call 101; refine (clock_t t _ HO.out).mono ?_; rintro e w1 ⟨rfl, rfl⟩)
      | (go_at_call 88; refine (fracsec 35 9 46 9 false _ rfl (by decide) rfl (by decide)).mono ?_; rintro e w1 ⟨rfl, rfl⟩)
      | (go_at_call 66; refine (nanosecond_any t.ns _ _ _ HN.out).mono ?_; rintro e w1 ⟨rfl, hbl⟩; have HB := hideP (HB.out.below hbl); clear hbl)
      | (go_at_call 107; refine (nano_bst 589859 35 9 t.ns false ⟨rfl, by decide, by decide⟩ (by omega) HN.out HB.out (by omega)).mono ?_; rintro e w1 ⟨v1, rfl, hb1⟩; have HB := hideP hb1; clear hb1)
      | (at_builtin; refine wpList_bst_one 45 _ _ rfl _ _ rfl HB.out rfl rfl rfl (by omega) ?_; intro v1 w1 hb1; have HB := hideP hb1; clear hb1)
      | (at_builtin; refine wpList_bst_one 84 _ _ rfl _ _ rfl HB.out rfl rfl rfl (by omega) ?_; intro v1 w1 hb1; have HB := hideP hb1; clear hb1)
      | (at_builtin; refine wpList_bst_one 58 _ _ rfl _ _ rfl HB.out rfl rfl rfl (by omega) ?_; intro v1 w1 hb1; have HB := hideP hb1; clear hb1)
      | (at_builtin; refine wpList_bst_one 90 _ _ rfl _ _ rfl HB.out rfl rfl rfl (by omega) ?_; intro v1 w1 hb1; have HB := hideP hb1; clear hb1)
      | (at_builtin; refine wpList_bst_one 43 _ _ rfl _ _ rfl HB.out rfl rfl rfl (by omega) ?_; intro v1 w1 hb1; have HB := hideP hb1; clear hb1)
      | (go_at_call 105; refine (int_bstI _ _ HB.out (by omega) (by omega) (by decide) (by decide) (by omega)).mono ?_; rintro e w1 ⟨v1, rfl, hb1⟩; have HB := hideP hb1; clear hb1))
  go_ret
  exact ⟨_, rfl, ((HB.out.rebase HBL.out HBASE.out).text (by unfold rfcL; simp only [HE.out, off_neg _ HZ.out, zq1, zq2, show ((35 : Nat) == 35) = true from rfl, Int.toNat_natCast, Bool.false_eq_true, if_true, if_false, reduceIte, List.append_assoc, List.nil_append, List.append_nil, List.cons_append, List.singleton_append])).more (by omega)⟩
theorem rfc_any (t : Tm) (ao : Option Addr) (base : Nat) (v : Value) (xs : List Value) (nanos : Bool) (w : World) (hO : TmOk t) (hp : PlaceAt w base t (.pointer ao)) (hv : Buf w base v xs) (hbase : base ≤ w.heap.size) (hlen : xs.length + 1000 ≤ 140737488351232) :
    Calls Tryd.prog 83 #[tmV t (.pointer ao), v, .bool nanos] w (BPost w v base xs (rfcL t nanos) (xs.length + 400)) := by
  have o1 := hO.off0
  have o2 := hO.off1
  rcases hO.off2 with h | h | h
  · cases nanos
    · exact rfc_fz t ao base v xs w hO hp hv hbase hlen h
    · exact rfc_tz t ao base v xs w hO hp hv hbase hlen h
  · cases nanos
    · exact rfc_fn t ao base v xs w hO hp hv hbase hlen (-t.off).toNat (by omega) (by omega) (by omega)
    · exact rfc_tn t ao base v xs w hO hp hv hbase hlen (-t.off).toNat (by omega) (by omega) (by omega)
  · cases nanos
    · exact rfc_fp t ao base v xs w hO hp hv hbase hlen t.off.toNat (by omega) (by omega) (by omega)
    · exact rfc_tp t ao base v xs w hO hp hv hbase hlen t.off.toNat (by omega) (by omega) (by omega)
end Go.Proofs.YtigabjibdepoiaaDoor.Tm
