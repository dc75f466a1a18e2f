/- The plain law of the order: texts of fixed width have the order of their numbers. The walk of the reference's Before. The law FnFormatOrder: its walk. -/
import Derived.Test.YtigabjibdepoiaaDoorLayK
import Derived.Deep.RegionWith
namespace Go.Proofs.YtigabjibdepoiaaDoor.Tm
set_option linter.unusedSimpArgs false
set_option linter.unusedVariables false
open Go.RowKit Go
theorem less_cons (a b : UInt8) (x y : List UInt8) : Op.bytesLess (a :: x) (b :: y) = (decide (a < b) || (a == b && Op.bytesLess x y)) := rfl
theorem less_same (a : UInt8) (x y : List UInt8) : Op.bytesLess (a :: x) (a :: y) = Op.bytesLess x y := by
  rw [less_cons, decide_eq_false (UInt8.lt_irrefl a), beq_self_eq_true]; rfl
theorem less_more : ∀ x y : List UInt8, (!(Op.bytesLess x y) && !(x == y)) = Op.bytesLess y x
  | [], [] => rfl
  | [], b :: y => rfl
  | a :: x, [] => rfl
  | a :: x, b :: y => by
    have ih := less_more x y
    rw [less_cons, less_cons]
    by_cases h1 : a = b
    · subst h1
      have e : (a :: x == a :: y) = (x == y) := by simp
      rw [decide_eq_false (UInt8.lt_irrefl a), beq_self_eq_true, Bool.false_or, Bool.true_and, Bool.false_or, Bool.true_and, e, ih]
    · have e1 : (a == b) = false := beq_eq_false_iff_ne.2 h1
      have e2 : (b == a) = false := beq_eq_false_iff_ne.2 (Ne.symm h1)
      have e3 : (a :: x == b :: y) = false := beq_eq_false_iff_ne.2 (fun h => h1 (by injection h))
      rw [e1, e2, e3, Bool.false_and, Bool.false_and, Bool.or_false, Bool.or_false, Bool.not_false, Bool.and_true]
      rcases UInt8.lt_or_lt_of_ne h1 with h | h
      · rw [decide_eq_true h, decide_eq_false (UInt8.lt_asymm h)]; rfl
      · rw [decide_eq_true h, decide_eq_false (UInt8.lt_asymm h)]; rfl
theorem digC_less {m n : Nat} (hm : m < 10) (hn : n < 10) (A B : List UInt8) : Op.bytesLess (digC m :: A) (digC n :: B) = if m = n then Op.bytesLess A B else decide (m < n) := by
  by_cases h : m = n
  · subst h; rw [if_pos rfl, less_same]
  · rw [if_neg h, less_cons]
    have e1 : (digC m == digC n) = false := by
      rw [beq_eq_false_iff_ne]
      intro e
      have := congrArg UInt8.toNat e
      rw [digC_nat hm, digC_nat hn] at this
      omega
    rw [e1, Bool.false_and, Bool.or_false]
    rw [decide_eq_decide, UInt8.lt_iff_toNat_lt, digC_nat hm, digC_nat hn]
    omega
theorem less_fix (k : Nat) : ∀ (m n : Nat) (A B : List UInt8), m < 10 ^ k → n < 10 ^ k → Op.bytesLess (fixD k m ++ A) (fixD k n ++ B) = if m = n then Op.bytesLess A B else decide (m < n) := by
  induction k with
  | zero =>
    intro m n A B hm hn
    obtain rfl : m = 0 := by simpa using hm
    obtain rfl : n = 0 := by simpa using hn
    rw [if_pos rfl]; rfl
  | succ k ih =>
    intro m n A B hm hn
    have e : ∀ (i : Nat) (C : List UInt8), fixD (k + 1) i ++ C = fixD k (i / 10) ++ (digC (i % 10) :: C) := by
      intro i C
      show (fixD k (i / 10) ++ [digC (i % 10)]) ++ C = _
      rw [List.append_assoc]; rfl
    rw [e, e, ih (m / 10) (n / 10) _ _ (by rw [Nat.pow_succ] at hm; omega) (by rw [Nat.pow_succ] at hn; omega), digC_less (by omega) (by omega)]
    by_cases h : m = n
    · subst h; simp
    · rw [if_neg h]
      by_cases h1 : m / 10 = n / 10
      · rw [if_pos h1, if_neg (by omega), decide_eq_decide]; omega
      · rw [if_neg h1, decide_eq_decide]; omega
/-- The order of rows of numbers. -/
def ltL : List Nat → List Nat → Bool
  | a :: r, b :: s => if a = b then ltL r s else decide (a < b)
  | _, _ => false
def tupT (t : Tm) : List Nat := [t.y, t.mo, t.d, t.h, t.mi, t.s, t.ns]
def ordL (t : Tm) : List UInt8 := fixD 4 t.y ++ (45 :: (fixD 2 t.mo ++ (45 :: (fixD 2 t.d ++ (84 :: (fixD 2 t.h ++ (58 :: (fixD 2 t.mi ++ (58 :: (fixD 2 t.s ++ (46 :: (fixD 9 t.ns ++ []))))))))))))
theorem ord_bd {t : Tm} (hO : TmOk t) : t.y < 10 ^ 4 ∧ t.mo < 10 ^ 2 ∧ t.d < 10 ^ 2 ∧ t.h < 10 ^ 2 ∧ t.mi < 10 ^ 2 ∧ t.s < 10 ^ 2 ∧ t.ns < 10 ^ 9 := by
  have h1 := hO.day.1
  have h2 := hO.day.2.2.1
  have h3 := tday_le t hO
  obtain ⟨k1, k2, k3⟩ := hO.clock
  have h4 := hO.ns
  refine ⟨?_, ?_, ?_, ?_, ?_, ?_, ?_⟩ <;> omega
theorem ord_less {a b : Tm} (ha : TmOk a) (hb : TmOk b) : Op.bytesLess (ordL a) (ordL b) = ltL (tupT a) (tupT b) := by
  obtain ⟨a1, a2, a3, a4, a5, a6, a7⟩ := ord_bd ha
  obtain ⟨b1, b2, b3, b4, b5, b6, b7⟩ := ord_bd hb
  unfold ordL tupT
  rw [less_fix 4 _ _ _ _ a1 b1, less_same, less_fix 2 _ _ _ _ a2 b2, less_same, less_fix 2 _ _ _ _ a3 b3, less_same, less_fix 2 _ _ _ _ a4 b4, less_same, less_fix 2 _ _ _ _ a5 b5, less_same, less_fix 2 _ _ _ _ a6 b6, less_same, less_fix 9 _ _ _ _ a7 b7]
  rfl
theorem ord_len (t : Tm) : (ordL t).length = 29 := by
  unfold ordL
  simp only [List.length_append, List.length_cons, fixD_len, List.length_nil]
def litOrder : ByteArray := ⟨#[50, 48, 48, 54, 45, 48, 49, 45, 48, 50, 84, 49, 53, 58, 48, 52, 58, 48, 53, 46, 48, 48, 48, 48, 48, 48, 48, 48, 48]⟩
theorem nano9 (ns : Nat) (h : ns < 10 ^ 9) : nanoL ns 9 false false = 46 :: fixD 9 ns := by
  have hp := pad_fix 8 ns h
  have hl := fixD_len 9 ns
  unfold nanoL
  rw [if_neg (by simp), if_neg (by simp)]
  rw [show (padL 48 ns 9) = fixD 9 ns from hp, List.take_of_length_le (by omega)]
  rfl
set_option maxRecDepth 100000 in
theorem fmt_order (t : Tm) (hO : TmOk t) : fmtL t (bl litOrder) = ordL t := by
  obtain ⟨a1, a2, a3, a4, a5, a6, a7⟩ := ord_bd hO
  have h : fmtL t (bl litOrder) = padL 48 t.y 4 ++ (45 :: (padL 48 t.mo 2 ++ (45 :: (padL 48 t.d 2 ++ (84 :: (padL 48 t.h 2 ++ (58 :: (padL 48 t.mi 2 ++ (58 :: (padL 48 t.s 2 ++ (nanoL t.ns 9 false false ++ []))))))))))) := by kernel_rfl
  rw [h, nano9 _ a7, show padL 48 t.y 4 = fixD 4 t.y from pad_fix 3 _ a1, show padL 48 t.mo 2 = fixD 2 t.mo from pad_fix 1 _ a2, show padL 48 t.d 2 = fixD 2 t.d from pad_fix 1 _ a3, show padL 48 t.h 2 = fixD 2 t.h from pad_fix 1 _ a4, show padL 48 t.mi 2 = fixD 2 t.mi from pad_fix 1 _ a5, show padL 48 t.s 2 = fixD 2 t.s from pad_fix 1 _ a6]
  rfl
end Go.Proofs.YtigabjibdepoiaaDoor.Tm
namespace Go.Proofs.YtigabjibdepoiaaDoor.Tm
set_option linter.unusedSimpArgs false
set_option linter.unusedVariables false
open Go.RowKit Go
theorem below_dn {B : Nat} {a w : World} (h : Below B a w) (n : Nat) : Below B a (w.drewN n) := ⟨h.os, h.tape, h.output, h.size, h.block⟩
def BefPost (a b : Tm) (w : World) (e : Ending) (w' : World) : Prop := e = .returned (.bool (ltL (tupT a) (tupT b))) ∧ Below w.heap.size w w'
/-- A row of numbers in memory. -/
def NumsAt (w : World) (g : Nat) (l : List Nat) : Prop := ∀ i v, l[i]? = some v → w.cell? ⟨g, i, none⟩ = some (.int .i64 (v : Nat))
theorem NumsAt.kept {w w' : World} {g : Nat} {l : List Nat} (h : NumsAt w g l) (hb : Below w.heap.size w w') : NumsAt w' g l := fun i v hi => (hb.cell (World.block_lt_of_cell? _ _ (h i v hi))).trans (h i v hi)
theorem nums_new (w : World) (l : List Nat) (T : TypeId) : NumsAt (w.alloc (.cells (l.map fun v : Nat => Value.int .i64 v).toArray T)) w.heap.size l := fun i v hi => by
  rw [cell_of_row _ _ i _ _ (0, 0) (heap_alloc_new w _)]
  simp [hi]
theorem lt_step (x y : List Nat) (i a b : Nat) (ha : x[i]? = some a) (hb : y[i]? = some b) : ltL (x.drop i) (y.drop i) = if a = b then ltL (x.drop (i + 1)) (y.drop (i + 1)) else decide (a < b) := by
  obtain ⟨h1, rfl⟩ := List.getElem?_eq_some_iff.1 ha
  obtain ⟨h2, rfl⟩ := List.getElem?_eq_some_iff.1 hb
  rw [List.drop_eq_getElem_cons h1, List.drop_eq_getElem_cons h2]
  rfl
set_option maxRecDepth 100000 in
set_option maxHeartbeats 3200000 in
theorem before_any (a b : Tm) (w : World) (ha : TmOk a) (hb : TmOk b) : Calls Tryd.prog 32 #[cvV a, cvV b] w (BefPost a b w) := by
  unfold cvV
  go_enter Tryd.func32, Tryd.ntmps32
  go_wp2
  obtain ⟨W, hW⟩ : ∃ W, W = ((((w.alloc (.cells #[.int .i64 a.y, .int .i64 a.mo, .int .i64 a.d, .int .i64 a.h, .int .i64 a.mi, .int .i64 a.s, .int .i64 a.ns, .string a.zn, .int .i64 a.off] 28)).alloc (.cells #[.int .i64 b.y, .int .i64 b.mo, .int .i64 b.d, .int .i64 b.h, .int .i64 b.mi, .int .i64 b.s, .int .i64 b.ns, .string b.zn, .int .i64 b.off] 28)).alloc (.cells #[.int .i64 a.y, .int .i64 a.mo, .int .i64 a.d, .int .i64 a.h, .int .i64 a.mi, .int .i64 a.s, .int .i64 a.ns] 3)).alloc (.cells #[.int .i64 b.y, .int .i64 b.mo, .int .i64 b.d, .int .i64 b.h, .int .i64 b.mi, .int .i64 b.s, .int .i64 b.ns] 3)) := ⟨_, rfl⟩
  have HX := hideP (show NumsAt W (w.heap.size + 1 + 1) (tupT a) by
    have h := (nums_new ((w.alloc (.cells #[.int .i64 a.y, .int .i64 a.mo, .int .i64 a.d, .int .i64 a.h, .int .i64 a.mi, .int .i64 a.s, .int .i64 a.ns, .string a.zn, .int .i64 a.off] 28)).alloc (.cells #[.int .i64 b.y, .int .i64 b.mo, .int .i64 b.d, .int .i64 b.h, .int .i64 b.mi, .int .i64 b.s, .int .i64 b.ns, .string b.zn, .int .i64 b.off] 28)) (tupT a) 3).kept (below_alloc _ (.cells #[.int .i64 b.y, .int .i64 b.mo, .int .i64 b.d, .int .i64 b.h, .int .i64 b.mi, .int .i64 b.s, .int .i64 b.ns] 3))
    have e : ((w.alloc (.cells #[.int .i64 a.y, .int .i64 a.mo, .int .i64 a.d, .int .i64 a.h, .int .i64 a.mi, .int .i64 a.s, .int .i64 a.ns, .string a.zn, .int .i64 a.off] 28)).alloc (.cells #[.int .i64 b.y, .int .i64 b.mo, .int .i64 b.d, .int .i64 b.h, .int .i64 b.mi, .int .i64 b.s, .int .i64 b.ns, .string b.zn, .int .i64 b.off] 28)).heap.size = w.heap.size + 1 + 1 := by simp
    rw [e] at h
    rw [hW]; exact h)
  have HY := hideP (show NumsAt W (w.heap.size + 1 + 1 + 1) (tupT b) by
    have h := nums_new (((w.alloc (.cells #[.int .i64 a.y, .int .i64 a.mo, .int .i64 a.d, .int .i64 a.h, .int .i64 a.mi, .int .i64 a.s, .int .i64 a.ns, .string a.zn, .int .i64 a.off] 28)).alloc (.cells #[.int .i64 b.y, .int .i64 b.mo, .int .i64 b.d, .int .i64 b.h, .int .i64 b.mi, .int .i64 b.s, .int .i64 b.ns, .string b.zn, .int .i64 b.off] 28)).alloc (.cells #[.int .i64 a.y, .int .i64 a.mo, .int .i64 a.d, .int .i64 a.h, .int .i64 a.mi, .int .i64 a.s, .int .i64 a.ns] 3)) (tupT b) 3
    have e : (((w.alloc (.cells #[.int .i64 a.y, .int .i64 a.mo, .int .i64 a.d, .int .i64 a.h, .int .i64 a.mi, .int .i64 a.s, .int .i64 a.ns, .string a.zn, .int .i64 a.off] 28)).alloc (.cells #[.int .i64 b.y, .int .i64 b.mo, .int .i64 b.d, .int .i64 b.h, .int .i64 b.mi, .int .i64 b.s, .int .i64 b.ns, .string b.zn, .int .i64 b.off] 28)).alloc (.cells #[.int .i64 a.y, .int .i64 a.mo, .int .i64 a.d, .int .i64 a.h, .int .i64 a.mi, .int .i64 a.s, .int .i64 a.ns] 3)).heap.size = w.heap.size + 1 + 1 + 1 := by simp
    rw [e] at h
    rw [hW]; exact h)
  have HBW := hideP (show Below w.heap.size w W by rw [hW]; exact ((((below_alloc w _).alloc (by simp) _).alloc (by simp; omega) _).alloc (by simp; omega) _))
  go_loopw [7] (fun k wr => ∃ i : Nat, k = .int .i64 i ∧ i ≤ 7 ∧ Hd (ltL (tupT a) (tupT b) = ltL ((tupT a).drop i) ((tupT b).drop i)) ∧ Below W.heap.size W wr) (fun k _ => 7 - (intOf k).toNat)
  case atStart => exact ⟨0, rfl, Nat.zero_le _, hideP rfl, by rw [hW]; exact Below.refl _ _⟩
  case round =>
    obtain ⟨i, rfl, hi, HL, hb⟩ := hrel
    have HB := hideP hb
    have HWQ := hideP hW
    clear hb hW
    by_cases hlt : (i : Int) < 7
    · have hi7 : i < 7 := by omega
      obtain ⟨x, hx⟩ : ∃ x, (tupT a)[i]? = some x := ⟨_, List.getElem?_eq_getElem (show i < (tupT a).length from hi7)⟩
      obtain ⟨y, hy⟩ : ∃ y, (tupT b)[i]? = some y := ⟨_, List.getElem?_eq_getElem (show i < (tupT b).length from hi7)⟩
      have qx := (HX.out.kept HB.out) i x hx
      have qy := (HY.out.kept HB.out) i y hy
      have hi0 : (0 : Int) ≤ i := by omega
      have HST := hideP (lt_step (tupT a) (tupT b) i x y hx hy)
      clear hx hy
      by_cases hxy : x = y
      · have t1 : ((x : Int) != (y : Int)) = false := by rw [bne, show ((x : Int) == (y : Int)) = true from beq_iff_eq.2 (by rw [hxy])]; rfl
        have t2 : ((x : Int) == (y : Int)) = true := beq_iff_eq.2 (by rw [hxy])
        have HXY := hideP hxy
        clear hxy
        go_wp2
        go_quiet (fail)
        go_wp2
        go_roundw
        case rel => exact ⟨i + 1, by go_num, hi7, hideP (by rw [HL.out, HST.out, if_pos HXY.out]), below_dn HB.out _⟩
        case measure => simp [intOf]; omega
      · have t1 : ((x : Int) != (y : Int)) = true := by rw [bne, show ((x : Int) == (y : Int)) = false from beq_eq_false_iff_ne.2 (by omega)]; rfl
        have t2 : ((x : Int) == (y : Int)) = false := beq_eq_false_iff_ne.2 (by omega)
        have HXY := hideP hxy
        clear hxy
        go_wp2
        go_quiet (fail)
        go_wp2
        go_quiet (fail)
        go_wp2
        go_ret
        refine ⟨?_, HBW.out.trans ((below_dn (below_dn HB.out _) _).mono HBW.out.size)⟩
        rw [HL.out, HST.out, if_neg HXY.out]
        simp
    · obtain rfl : i = 7 := by omega
      go_wp2
      go_ret
      exact ⟨by rw [HL.out]; rfl, HBW.out.trans (HB.out.mono HBW.out.size)⟩
end Go.Proofs.YtigabjibdepoiaaDoor.Tm
namespace Go.Proofs.YtigabjibdepoiaaDoor.Tm
set_option linter.unusedSimpArgs false
set_option linter.unusedVariables false
open Go.RowKit Go
theorem box2 {w : World} {A B : Obj} : Below w.heap.size w ((w.alloc A).alloc B) := (below_alloc w A).alloc (by simp) B
theorem cvb2 (c d : Cv) (w : World) (T : TypeId) : CvB (w.heap.size + 1) d ((w.alloc (.cells #[.int .i64 c.y, .int .i64 c.mo, .int .i64 c.d, .int .i64 c.h, .int .i64 c.mi, .int .i64 c.s, .int .i64 c.ns, .string c.zn, .int .i64 c.off] 28)).alloc (.cells #[.int .i64 d.y, .int .i64 d.mo, .int .i64 d.d, .int .i64 d.h, .int .i64 d.mi, .int .i64 d.s, .int .i64 d.ns, .string d.zn, .int .i64 d.off] 28)) := by
  have h := cvb_new d (w.alloc (.cells #[.int .i64 c.y, .int .i64 c.mo, .int .i64 c.d, .int .i64 c.h, .int .i64 c.mi, .int .i64 c.s, .int .i64 c.ns, .string c.zn, .int .i64 c.off] 28)) 28
  have e : (w.alloc (.cells #[.int .i64 c.y, .int .i64 c.mo, .int .i64 c.d, .int .i64 c.h, .int .i64 c.mi, .int .i64 c.s, .int .i64 c.ns, .string c.zn, .int .i64 c.off] 28)).heap.size = w.heap.size + 1 := by simp
  rw [e] at h; exact h
theorem cb2 (c d : Tm) (w : World) (T : TypeId) : CB (w.heap.size + 1) d ((w.alloc (.cells #[.int .i64 c.y, .int .i64 c.mo, .int .i64 c.d, .int .i64 c.h, .int .i64 c.mi, .int .i64 c.s, .int .i64 c.ns, .string c.zn, .int .i64 c.off] 28)).alloc (.cells #[.int .i64 d.y, .int .i64 d.mo, .int .i64 d.d, .int .i64 d.h, .int .i64 d.mi, .int .i64 d.s, .int .i64 d.ns, .string d.zn, .int .i64 d.off] 28)) := by
  have h := cb_new d (w.alloc (.cells #[.int .i64 c.y, .int .i64 c.mo, .int .i64 c.d, .int .i64 c.h, .int .i64 c.mi, .int .i64 c.s, .int .i64 c.ns, .string c.zn, .int .i64 c.off] 28)) 28
  have e : (w.alloc (.cells #[.int .i64 c.y, .int .i64 c.mo, .int .i64 c.d, .int .i64 c.h, .int .i64 c.mi, .int .i64 c.s, .int .i64 c.ns, .string c.zn, .int .i64 c.off] 28)).heap.size = w.heap.size + 1 := by simp
  rw [e] at h; exact h
set_option maxRecDepth 100000 in
set_option maxHeartbeats 6400000 in
theorem orderNo1 (c d : Cv) (w : World) (hn : ¬ CivP c) : Calls Tryd.prog 8 #[civV c, civV d] w (TrueTo w) := by
  have HN := hideP hn
  clear hn
  have FT1 := fits3_any c; have CO1 := civilOk_any c
  have FT2 := fits3_any d; have CO2 := civilOk_any d
  unfold civV at FT1 CO1 FT2 CO2 ⊢
  have HA := hideP ((cvb_new c w 28).kept (below_alloc _ (.cells #[.int .i64 d.y, .int .i64 d.mo, .int .i64 d.d, .int .i64 d.h, .int .i64 d.mi, .int .i64 d.s, .int .i64 d.ns, .string d.zn, .int .i64 d.off] 28)))
  have HD := hideP (cvb2 c d w 28)
  have HW := hideP (box2 (w := w) (A := (.cells #[.int .i64 c.y, .int .i64 c.mo, .int .i64 c.d, .int .i64 c.h, .int .i64 c.mi, .int .i64 c.s, .int .i64 c.ns, .string c.zn, .int .i64 c.off] 28)) (B := (.cells #[.int .i64 d.y, .int .i64 d.mo, .int .i64 d.d, .int .i64 d.h, .int .i64 d.mi, .int .i64 d.s, .int .i64 d.ns, .string d.zn, .int .i64 d.off] 28)))
  obtain ⟨c0, c1, c2, c3, c4, c5, c6, c7, c8⟩ := HA.out; obtain ⟨d0, d1, d2, d3, d4, d5, d6, d7, d8⟩ := HD.out
  go_enter Tryd.func8, Tryd.ntmps8
  go_wp2_with (first
    | (go_at_call_of 20 (c.zn); refine (FT1 _).mono ?_; rintro e w1 (⟨rfl, hz, hb⟩ | ⟨rfl, hb⟩) <;> (try (have HZ1 := hideP hz; clear hz)) <;> (have HA := hideP (HA.out.kept hb); have HD := hideP (HD.out.kept hb); have HW := hideP (HW.out.trans (hb.mono HW.out.size)); obtain ⟨c0, c1, c2, c3, c4, c5, c6, c7, c8⟩ := HA.out; obtain ⟨d0, d1, d2, d3, d4, d5, d6, d7, d8⟩ := HD.out; clear hb))
    | (go_at_call_of 20 (d.zn); refine (FT2 _).mono ?_; rintro e w2 (⟨rfl, hz, hb⟩ | ⟨rfl, hb⟩) <;> (try (have HZ2 := hideP hz; clear hz)) <;> (have HA := hideP (HA.out.kept hb); have HD := hideP (HD.out.kept hb); have HW := hideP (HW.out.trans (hb.mono HW.out.size)); obtain ⟨c0, c1, c2, c3, c4, c5, c6, c7, c8⟩ := HA.out; obtain ⟨d0, d1, d2, d3, d4, d5, d6, d7, d8⟩ := HD.out; clear hb))
    | (go_at_call_of 22 (c.zn); refine (CO1 _ (Nat.le_trans HZ1.out (by decide))).mono ?_; rintro e w3 (⟨rfl, h, -⟩ | ⟨rfl, hb⟩); exact absurd h HN.out; have HA := hideP (HA.out.kept hb); have HD := hideP (HD.out.kept hb); have HW := hideP (HW.out.trans (hb.mono HW.out.size)); obtain ⟨c0, c1, c2, c3, c4, c5, c6, c7, c8⟩ := HA.out; obtain ⟨d0, d1, d2, d3, d4, d5, d6, d7, d8⟩ := HD.out; clear hb)
    | (go_at_call_of 22 (d.zn); refine (CO2 _ (Nat.le_trans HZ2.out (by decide))).mono ?_; rintro e w4 (⟨rfl, -, hb⟩ | ⟨rfl, hb⟩) <;> (have HA := hideP (HA.out.kept hb); have HD := hideP (HD.out.kept hb); have HW := hideP (HW.out.trans (hb.mono HW.out.size)); obtain ⟨c0, c1, c2, c3, c4, c5, c6, c7, c8⟩ := HA.out; obtain ⟨d0, d1, d2, d3, d4, d5, d6, d7, d8⟩ := HD.out; clear hb)))
  all_goals (go_ret; exact ⟨rfl, HW.out⟩)
set_option maxRecDepth 100000 in
set_option maxHeartbeats 6400000 in
theorem orderNo2 (c d : Cv) (w : World) (hn : ¬ CivP d) : Calls Tryd.prog 8 #[civV c, civV d] w (TrueTo w) := by
  have HN := hideP hn
  clear hn
  have FT1 := fits3_any c; have CO1 := civilOk_any c
  have FT2 := fits3_any d; have CO2 := civilOk_any d
  unfold civV at FT1 CO1 FT2 CO2 ⊢
  have HA := hideP ((cvb_new c w 28).kept (below_alloc _ (.cells #[.int .i64 d.y, .int .i64 d.mo, .int .i64 d.d, .int .i64 d.h, .int .i64 d.mi, .int .i64 d.s, .int .i64 d.ns, .string d.zn, .int .i64 d.off] 28)))
  have HD := hideP (cvb2 c d w 28)
  have HW := hideP (box2 (w := w) (A := (.cells #[.int .i64 c.y, .int .i64 c.mo, .int .i64 c.d, .int .i64 c.h, .int .i64 c.mi, .int .i64 c.s, .int .i64 c.ns, .string c.zn, .int .i64 c.off] 28)) (B := (.cells #[.int .i64 d.y, .int .i64 d.mo, .int .i64 d.d, .int .i64 d.h, .int .i64 d.mi, .int .i64 d.s, .int .i64 d.ns, .string d.zn, .int .i64 d.off] 28)))
  obtain ⟨c0, c1, c2, c3, c4, c5, c6, c7, c8⟩ := HA.out; obtain ⟨d0, d1, d2, d3, d4, d5, d6, d7, d8⟩ := HD.out
  go_enter Tryd.func8, Tryd.ntmps8
  go_wp2_with (first
    | (go_at_call_of 20 (c.zn); refine (FT1 _).mono ?_; rintro e w1 (⟨rfl, hz, hb⟩ | ⟨rfl, hb⟩) <;> (try (have HZ1 := hideP hz; clear hz)) <;> (have HA := hideP (HA.out.kept hb); have HD := hideP (HD.out.kept hb); have HW := hideP (HW.out.trans (hb.mono HW.out.size)); obtain ⟨c0, c1, c2, c3, c4, c5, c6, c7, c8⟩ := HA.out; obtain ⟨d0, d1, d2, d3, d4, d5, d6, d7, d8⟩ := HD.out; clear hb))
    | (go_at_call_of 20 (d.zn); refine (FT2 _).mono ?_; rintro e w2 (⟨rfl, hz, hb⟩ | ⟨rfl, hb⟩) <;> (try (have HZ2 := hideP hz; clear hz)) <;> (have HA := hideP (HA.out.kept hb); have HD := hideP (HD.out.kept hb); have HW := hideP (HW.out.trans (hb.mono HW.out.size)); obtain ⟨c0, c1, c2, c3, c4, c5, c6, c7, c8⟩ := HA.out; obtain ⟨d0, d1, d2, d3, d4, d5, d6, d7, d8⟩ := HD.out; clear hb))
    | (go_at_call_of 22 (c.zn); refine (CO1 _ (Nat.le_trans HZ1.out (by decide))).mono ?_; rintro e w3 (⟨rfl, -, hb⟩ | ⟨rfl, hb⟩) <;> (have HA := hideP (HA.out.kept hb); have HD := hideP (HD.out.kept hb); have HW := hideP (HW.out.trans (hb.mono HW.out.size)); obtain ⟨c0, c1, c2, c3, c4, c5, c6, c7, c8⟩ := HA.out; obtain ⟨d0, d1, d2, d3, d4, d5, d6, d7, d8⟩ := HD.out; clear hb))
    | (go_at_call_of 22 (d.zn); refine (CO2 _ (Nat.le_trans HZ2.out (by decide))).mono ?_; rintro e w4 (⟨rfl, h, -⟩ | ⟨rfl, hb⟩); exact absurd h HN.out; have HA := hideP (HA.out.kept hb); have HD := hideP (HD.out.kept hb); have HW := hideP (HW.out.trans (hb.mono HW.out.size)); obtain ⟨c0, c1, c2, c3, c4, c5, c6, c7, c8⟩ := HA.out; obtain ⟨d0, d1, d2, d3, d4, d5, d6, d7, d8⟩ := HD.out; clear hb))
  all_goals (go_ret; exact ⟨rfl, HW.out⟩)
theorem order_gt {X Y : ByteArray} {L1 L2 : Bool} (h1 : Op.bytesLess X.toList Y.toList = L1) (h2 : Op.bytesLess Y.toList X.toList = L2) : L2 = (!L1 && !(X.toList == Y.toList)) := by rw [← h1, ← h2, less_more]
set_option maxRecDepth 100000 in
set_option maxHeartbeats 12800000 in
theorem lawOrder (c d : Cv) (w : World) (hT : TabOk w) : Calls Tryd.prog 8 #[civV c, civV d] w (TrueTo w) := by
  by_cases h1 : CivP c
  case neg => exact orderNo1 c d w h1
  by_cases h2 : CivP d
  case neg => exact orderNo2 c d w h2
  obtain ⟨t, hO, hcv⟩ := civ_tm h1
  obtain ⟨u, hU, hcu⟩ := civ_tm h2
  have FT1 := fits3_any c; have CO1 := civilOk_any c
  have FT2 := fits3_any d; have CO2 := civilOk_any d
  rw [hcv] at FT1 CO1 ⊢
  rw [hcu] at FT2 CO2 ⊢
  have ex : mkB (fmtL t (bl litOrder)) = mkB (ordL t) := congrArg mkB (fmt_order t hO)
  have ey : mkB (fmtL u (bl litOrder)) = mkB (ordL u) := congrArg mkB (fmt_order u hU)
  have l1 : Op.bytesLess (mkB (ordL t)).toList (mkB (ordL u)).toList = ltL (tupT t) (tupT u) := by rw [toList_eq, toList_eq, bl_mkB, bl_mkB]; exact ord_less hO hU
  have l2 : Op.bytesLess (mkB (ordL u)).toList (mkB (ordL t)).toList = ltL (tupT u) (tupT t) := by rw [toList_eq, toList_eq, bl_mkB, bl_mkB]; exact ord_less hU hO
  have l3 : ((mkB (ordL t)).size : Int) = 29 := by rw [mkB_size, ord_len]; rfl
  generalize mkB (ordL t) = X at ex l1 l2 l3
  generalize mkB (ordL u) = Y at ey l1 l2
  have BF1 := before_any t u; have BF2 := before_any u t
  have hg := order_gt l1 l2
  have l29 : ((X.size : Int) == 29) = true := beq_iff_eq.2 l3
  have HX := hideP ex; have HY := hideP ey
  have HO := hideP hO; have HU := hideP hU; have HT := hideP hT
  unfold BefPost at BF1 BF2
  generalize ltL (tupT t) (tupT u) = L1 at *
  generalize ltL (tupT u) (tupT t) = L2 at *
  generalize hE : (X.toList == Y.toList) = E at *
  clear l2 l3 ex ey hO hU hT hcv hcu h1 h2
  subst hg
  have BB1 := hideP BF1; have BB2 := hideP BF2; clear BF1 BF2
  unfold cvV at FT1 CO1 FT2 CO2 ⊢
  have HA := hideP ((cb_new t w 28).kept (below_alloc _ (.cells #[.int .i64 u.y, .int .i64 u.mo, .int .i64 u.d, .int .i64 u.h, .int .i64 u.mi, .int .i64 u.s, .int .i64 u.ns, .string u.zn, .int .i64 u.off] 28)))
  have HD := hideP (cb2 t u w 28)
  have HW := hideP (box2 (w := w) (A := (.cells #[.int .i64 t.y, .int .i64 t.mo, .int .i64 t.d, .int .i64 t.h, .int .i64 t.mi, .int .i64 t.s, .int .i64 t.ns, .string t.zn, .int .i64 t.off] 28)) (B := (.cells #[.int .i64 u.y, .int .i64 u.mo, .int .i64 u.d, .int .i64 u.h, .int .i64 u.mi, .int .i64 u.s, .int .i64 u.ns, .string u.zn, .int .i64 u.off] 28)))
  obtain ⟨c0, c1, c2, c3, c4, c5, c6, c7, c8⟩ := HA.out; obtain ⟨d0, d1, d2, d3, d4, d5, d6, d7, d8⟩ := HD.out
  cases L1 <;> cases E
  all_goals
    go_enter Tryd.func8, Tryd.ntmps8
    go_wp2_with (first
      | (go_at_call_of 20 (t.zn); refine (FT1 _).mono ?_; rintro e w1 (⟨rfl, hz, hb⟩ | ⟨rfl, hb⟩) <;> (try (have HZ1 := hideP hz; clear hz)) <;> (have HA := hideP (HA.out.kept hb); have HD := hideP (HD.out.kept hb); have HW := hideP (HW.out.trans (hb.mono HW.out.size)); obtain ⟨c0, c1, c2, c3, c4, c5, c6, c7, c8⟩ := HA.out; obtain ⟨d0, d1, d2, d3, d4, d5, d6, d7, d8⟩ := HD.out; clear hb))
      | (go_at_call_of 20 (u.zn); refine (FT2 _).mono ?_; rintro e w2 (⟨rfl, hz, hb⟩ | ⟨rfl, hb⟩) <;> (try (have HZ2 := hideP hz; clear hz)) <;> (have HA := hideP (HA.out.kept hb); have HD := hideP (HD.out.kept hb); have HW := hideP (HW.out.trans (hb.mono HW.out.size)); obtain ⟨c0, c1, c2, c3, c4, c5, c6, c7, c8⟩ := HA.out; obtain ⟨d0, d1, d2, d3, d4, d5, d6, d7, d8⟩ := HD.out; clear hb))
      | (go_at_call_of 22 (t.zn); refine (CO1 _ (Nat.le_trans HZ1.out (by decide))).mono ?_; rintro e w3 (⟨rfl, -, hb⟩ | ⟨rfl, hb⟩) <;> (have HA := hideP (HA.out.kept hb); have HD := hideP (HD.out.kept hb); have HW := hideP (HW.out.trans (hb.mono HW.out.size)); obtain ⟨c0, c1, c2, c3, c4, c5, c6, c7, c8⟩ := HA.out; obtain ⟨d0, d1, d2, d3, d4, d5, d6, d7, d8⟩ := HD.out; clear hb))
      | (go_at_call_of 22 (u.zn); refine (CO2 _ (Nat.le_trans HZ2.out (by decide))).mono ?_; rintro e w4 (⟨rfl, -, hb⟩ | ⟨rfl, hb⟩) <;> (have HA := hideP (HA.out.kept hb); have HD := hideP (HD.out.kept hb); have HW := hideP (HW.out.trans (hb.mono HW.out.size)); obtain ⟨c0, c1, c2, c3, c4, c5, c6, c7, c8⟩ := HA.out; obtain ⟨d0, d1, d2, d3, d4, d5, d6, d7, d8⟩ := HD.out; clear hb))
      | (go_at_call_of 24 (t.zn); refine (fmtImpl_any t litOrder _ HO.out (HT.out.below HW.out) (by decide)).mono ?_; rintro e w5 ⟨rfl, hb⟩; rw [HX.out]; have HA := hideP (HA.out.kept hb); have HD := hideP (HD.out.kept hb); have HW := hideP (HW.out.trans (hb.mono HW.out.size)); obtain ⟨c0, c1, c2, c3, c4, c5, c6, c7, c8⟩ := HA.out; obtain ⟨d0, d1, d2, d3, d4, d5, d6, d7, d8⟩ := HD.out; clear hb)
      | (go_at_call_of 24 (u.zn); refine (fmtImpl_any u litOrder _ HU.out (HT.out.below HW.out) (by decide)).mono ?_; rintro e w6 ⟨rfl, hb⟩; rw [HY.out]; have HA := hideP (HA.out.kept hb); have HD := hideP (HD.out.kept hb); have HW := hideP (HW.out.trans (hb.mono HW.out.size)); obtain ⟨c0, c1, c2, c3, c4, c5, c6, c7, c8⟩ := HA.out; obtain ⟨d0, d1, d2, d3, d4, d5, d6, d7, d8⟩ := HD.out; clear hb)
      | (go_at_call_of 32 ([.agg #[.int .i64 u.y, .int .i64 u.mo, .int .i64 u.d, .int .i64 u.h, .int .i64 u.mi, .int .i64 u.s, .int .i64 u.ns, .string u.zn, .int .i64 u.off]] : List Value); refine (BB1.out _ HO.out HU.out).mono ?_; rintro e w7 ⟨rfl, hb⟩; have HA := hideP (HA.out.kept hb); have HD := hideP (HD.out.kept hb); have HW := hideP (HW.out.trans (hb.mono HW.out.size)); obtain ⟨c0, c1, c2, c3, c4, c5, c6, c7, c8⟩ := HA.out; obtain ⟨d0, d1, d2, d3, d4, d5, d6, d7, d8⟩ := HD.out; clear hb)
      | (go_at_call_of 32 ([.agg #[.int .i64 t.y, .int .i64 t.mo, .int .i64 t.d, .int .i64 t.h, .int .i64 t.mi, .int .i64 t.s, .int .i64 t.ns, .string t.zn, .int .i64 t.off]] : List Value); refine (BB2.out _ HU.out HO.out).mono ?_; rintro e w8 ⟨rfl, hb⟩; have HA := hideP (HA.out.kept hb); have HD := hideP (HD.out.kept hb); have HW := hideP (HW.out.trans (hb.mono HW.out.size)); obtain ⟨c0, c1, c2, c3, c4, c5, c6, c7, c8⟩ := HA.out; obtain ⟨d0, d1, d2, d3, d4, d5, d6, d7, d8⟩ := HD.out; clear hb)
      | (go_at_call 27; refine (writes_any _ (HT.out.below HW.out)).mono ?_; rintro e w9 ⟨rfl, hb⟩; have HA := hideP (HA.out.kept hb); have HD := hideP (HD.out.kept hb); have HW := hideP (HW.out.trans (hb.mono HW.out.size)); obtain ⟨c0, c1, c2, c3, c4, c5, c6, c7, c8⟩ := HA.out; obtain ⟨d0, d1, d2, d3, d4, d5, d6, d7, d8⟩ := HD.out; clear hb))
    all_goals (go_ret; exact ⟨by first | rfl | simp, HW.out⟩)
end Go.Proofs.YtigabjibdepoiaaDoor.Tm
