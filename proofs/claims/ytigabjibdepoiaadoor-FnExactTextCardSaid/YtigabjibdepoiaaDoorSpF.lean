/- The walks of the reference's questions: ranges, days, dates, zones, times. The walks of ZoneOk and CivilOk. The walks of the reference's words: names, numbers, fractions. The walks of the reference's words: day of the week, hours, fractions, offsets. The walks of the reference's fractions and offsets. The walks of the reference's offsets. -/
import Derived.Test.YtigabjibdepoiaaDoorFmtV
import Derived.Test.YtigabjibdepoiaaDoorFmtE
namespace Go.Proofs.YtigabjibdepoiaaDoor.Tm
set_option linter.unusedSimpArgs false
set_option linter.unusedVariables false
open Go.RowKit Go
def WithinTo (n lo hi : Int) (w : World) (e : Ending) (w' : World) : Prop := (e = .returned (.bool true) ∧ lo ≤ n ∧ n ≤ hi ∧ w = w') ∨ (e = .returned (.bool false) ∧ ¬ (lo ≤ n ∧ n ≤ hi) ∧ w = w')
set_option maxHeartbeats 400000 in
theorem within_any (n lo hi : Int) (w : World) : Calls Tryd.prog 28 #[.int .i64 n, .int .i64 lo, .int .i64 hi] w (WithinTo n lo hi w) := by
  by_cases h1 : lo ≤ n
  · by_cases h2 : n ≤ hi
    · go_enter Tryd.func28, Tryd.ntmps28
      go_wp2
      go_ret
      exact .inl ⟨by simp, h1, h2, rfl⟩
    · go_enter Tryd.func28, Tryd.ntmps28
      go_wp2
      go_ret
      exact .inr ⟨by simp [h2], (fun h => by omega), rfl⟩
  · go_enter Tryd.func28, Tryd.ntmps28
    go_wp2
    go_ret
    exact .inr ⟨by simp [h1], (fun h => by omega), rfl⟩
theorem leapB_eq (y : Nat) (a b c : Bool) (ha : ((y : Int) % 4 == 0) = a) (hb : ((y : Int) % 100 == 0) = b) (hc : ((y : Int) % 400 == 0) = c) : leapB y = (a && !b || c) := by
  have e4 : a = decide (y % 4 = 0) := by rw [← ha, Bool.eq_iff_iff]; simp; omega
  have e1 : b = decide (y % 100 = 0) := by rw [← hb, Bool.eq_iff_iff]; simp; omega
  have e5 : c = decide (y % 400 = 0) := by rw [← hc, Bool.eq_iff_iff]; simp; omega
  rw [e4, e1, e5]
  unfold leapB
  by_cases h1 : y % 4 = 0 <;> by_cases h2 : y % 100 = 0 <;> by_cases h3 : y % 400 = 0 <;> simp [h1, h2, h3]
set_option maxHeartbeats 800000 in
theorem leapS_any (y : Nat) (w : World) (hy : y ≤ 9999) : Calls Tryd.prog 82 #[.int .i64 y] w (QuietV (.bool (leapB y)) w) := by
  have hb : (y : Int) ≤ 9999 := by omega
  cases ha : ((y : Int) % 4 == 0) <;> cases hb2 : ((y : Int) % 100 == 0) <;> cases hc : ((y : Int) % 400 == 0)
  all_goals
    have hb3 : ((y : Int) % 100 != 0) = !((y : Int) % 100 == 0) := rfl
    rw [hb2] at hb3
    have HL := hideP (leapB_eq y _ _ _ ha hb2 hc)
    clear hy
    go_enter Tryd.func82, Tryd.ntmps82
    go_wp2
    go_ret
    exact ⟨by rw [HL.out]; rfl, rfl⟩
set_option maxHeartbeats 800000 in
theorem daysS_any (y m : Nat) (w : World) (hy : y ≤ 9999) (h1 : 1 ≤ m) (h2 : m ≤ 12) : Calls Tryd.prog 59 #[.int .i64 y, .int .i64 m] w (QuietV (.int .i64 (daysIn y m : Nat)) w) := by
  have : m = 1 ∨ m = 2 ∨ m = 3 ∨ m = 4 ∨ m = 5 ∨ m = 6 ∨ m = 7 ∨ m = 8 ∨ m = 9 ∨ m = 10 ∨ m = 11 ∨ m = 12 := by omega
  clear h1 h2
  have HY := hideP hy
  clear hy
  cases hl : leapB y <;> have HL := hideP hl
  all_goals
    rcases this with rfl | rfl | rfl | rfl | rfl | rfl | rfl | rfl | rfl | rfl | rfl | rfl
  all_goals
    clear hl
    go_enter Tryd.func59, Tryd.ntmps59
    go_wp2_with (go_at_call 82; refine (leapS_any y _ HY.out).mono ?_; rw [HL.out]; rintro e w1 ⟨rfl, rfl⟩)
    go_ret
    exact ⟨by unfold daysIn; simp [HL.out], rfl⟩
theorem daysIn_le (y m : Nat) : 28 ≤ daysIn y m ∧ daysIn y m ≤ 31 := by unfold daysIn; repeat' split
                                                                        all_goals omega
def BoolTo (P : Prop) (w : World) (e : Ending) (w' : World) : Prop := (e = .returned (.bool true) ∧ P ∧ Below w.heap.size w w') ∨ (e = .returned (.bool false) ∧ Below w.heap.size w w')
def DateP3 (y m d : Int) : Prop := 0 ≤ y ∧ y ≤ 9999 ∧ 1 ≤ m ∧ m ≤ 12 ∧ 1 ≤ d ∧ d ≤ (daysIn y.toNat m.toNat : Nat)
def BoolQ (P : Prop) (w : World) (e : Ending) (w' : World) : Prop := (e = .returned (.bool true) ∧ P ∧ w = w') ∨ (e = .returned (.bool false) ∧ w = w')
set_option maxHeartbeats 800000 in
theorem dateOk_any (y m d : Int) (w : World) : Calls Tryd.prog 49 #[.int .i64 y, .int .i64 m, .int .i64 d] w (BoolQ (DateP3 y m d) w) := by
  by_cases hy : 0 ≤ y ∧ y ≤ 9999
  · by_cases hm : 1 ≤ m ∧ m ≤ 12
    · obtain ⟨yn, rfl⟩ : ∃ n : Nat, y = n := ⟨y.toNat, by omega⟩
      obtain ⟨mn, rfl⟩ : ∃ n : Nat, m = n := ⟨m.toNat, by omega⟩
      have HY := hideP (show yn ≤ 9999 by omega)
      have HM1 := hideP (show 1 ≤ mn by omega)
      have HM2 := hideP (show mn ≤ 12 by omega)
      have HYM := hideP (And.intro hy hm)
      clear hy hm
      go_enter Tryd.func49, Tryd.ntmps49
      go_wp2_with (first
        | (go_at_call 59; refine (daysS_any yn mn _ HY.out HM1.out HM2.out).mono ?_; rintro e w1 ⟨rfl, rfl⟩)
        | (go_at_call 28; refine (within_any _ _ _ _).mono ?_; rintro e w1 (⟨rfl, q1, q2, rfl⟩ | ⟨rfl, q1, rfl⟩) <;> first | (exfalso; have := HYM.out; omega) | skip))
      all_goals (go_wp2; go_ret)
      · exact .inl ⟨rfl, ⟨HYM.out.1.1, HYM.out.1.2, HYM.out.2.1, HYM.out.2.2, by assumption, by simpa using (by assumption)⟩, rfl⟩
      · exact .inr ⟨rfl, rfl⟩
    · go_enter Tryd.func49, Tryd.ntmps49
      go_wp2_with (go_at_call 28; refine (within_any _ _ _ _).mono ?_; rintro e w1 (⟨rfl, q1, q2, rfl⟩ | ⟨rfl, q1, rfl⟩) <;> first | (exfalso; omega) | skip)
      all_goals (go_wp2; go_ret)
      all_goals exact .inr ⟨rfl, rfl⟩
  · go_enter Tryd.func49, Tryd.ntmps49
    go_wp2_with (go_at_call 28; refine (within_any _ _ _ _).mono ?_; rintro e w1 (⟨rfl, q1, q2, rfl⟩ | ⟨rfl, q1, rfl⟩) <;> first | (exfalso; omega) | skip)
    all_goals (go_wp2; go_ret)
    all_goals exact .inr ⟨rfl, rfl⟩
end Go.Proofs.YtigabjibdepoiaaDoor.Tm
namespace Go.Proofs.YtigabjibdepoiaaDoor.Tm
set_option linter.unusedSimpArgs false
set_option linter.unusedVariables false
open Go.RowKit Go
def ZoneP (zn : ByteArray) (off : Int) : Prop := 0 < zn.size ∧ zn.size ≤ 100 ∧ -86399 ≤ off ∧ off ≤ 86399 ∧ (off = 0 ∨ off ≤ -60 ∨ 60 ≤ off) ∧ (zn = utcB → off = 0)
theorem not_utc {zn : ByteArray} (h : (zn.toList == [85, 84, 67]) = false) : zn ≠ utcB := by
  rintro rfl
  rw [beq_eq_false_iff_ne, toList_eq] at h
  exact h rfl
set_option maxRecDepth 100000 in
set_option maxHeartbeats 800000 in
theorem zoneOk_any (zn : ByteArray) (off : Int) (w : World) (hsz : zn.size ≤ 140737488351232) : Calls Tryd.prog 50 #[.agg #[.string zn, .int .i64 off]] w (BoolTo (ZoneP zn off) w) := by
  by_cases h0 : zn.size = 0
  · obtain rfl := empty_of zn h0
    clear h0 hsz
    go_enter Tryd.func50, Tryd.ntmps50
    go_wp2_with (fail)
    go_ret
    exact .inr ⟨rfl, below_alloc w _⟩
  have t2 : zn.toList ≠ [] := toList_ne zn (by omega)
  have t3 : zn.toList.isEmpty = false := isEmpty_ne zn (by omega)
  have HS0 := hideP (show 0 < zn.size by omega)
  clear h0
  by_cases h1 : (zn.size : Int) ≤ 100
  case neg =>
    go_enter Tryd.func50, Tryd.ntmps50
    go_wp2_with (fail)
    go_ret
    exact .inr ⟨by first | rfl | simp, below_alloc w _⟩
  by_cases h2 : -86399 ≤ off ∧ off ≤ 86399
  case neg =>
    go_enter Tryd.func50, Tryd.ntmps50
    go_wp2_with (go_at_call 28; refine (within_any _ _ _ _).mono ?_; rintro e w1 (⟨rfl, q1, q2, rfl⟩ | ⟨rfl, q1, rfl⟩) <;> first | (exfalso; omega) | skip)
    all_goals (go_wp2; go_ret)
    all_goals exact .inr ⟨by first | rfl | simp, below_alloc w _⟩
  obtain ⟨h3, h4⟩ := h2
  rcases (show off = 0 ∨ off ≤ -60 ∨ 60 ≤ off ∨ ((off == 0) = false ∧ ¬ off ≤ -60 ∧ ¬ 60 ≤ off) by rw [beq_eq_false_iff_ne]; omega) with rfl | h5 | h5 | ⟨h5, h6, h7⟩
  · cases hu : zn.toList == [85, 84, 67]
    all_goals
      have hu2 : (zn.toList != [85, 84, 67]) = !(zn.toList == [85, 84, 67]) := rfl
      rw [hu] at hu2
      go_enter Tryd.func50, Tryd.ntmps50
      go_wp2_with (go_at_call 28; refine (within_any _ _ _ _).mono ?_; rintro e w1 (⟨rfl, q1, q2, rfl⟩ | ⟨rfl, q1, rfl⟩) <;> first | (exfalso; omega) | skip)
      all_goals (go_wp2; go_ret)
      all_goals exact .inl ⟨by first | rfl | simp, ⟨HS0.out, by omega, by omega, by omega, .inl rfl, fun _ => rfl⟩, below_alloc w _⟩
  · cases hu : zn.toList == [85, 84, 67]
    all_goals
      have hu2 : (zn.toList != [85, 84, 67]) = !(zn.toList == [85, 84, 67]) := rfl
      rw [hu] at hu2
      have HU := hideP hu
      have h50 : (off == 0) = false := by rw [beq_eq_false_iff_ne]; omega
      go_enter Tryd.func50, Tryd.ntmps50
      go_wp2_with (go_at_call 28; refine (within_any _ _ _ _).mono ?_; rintro e w1 (⟨rfl, q1, q2, rfl⟩ | ⟨rfl, q1, rfl⟩) <;> first | (exfalso; omega) | skip)
      all_goals (go_wp2; go_ret)
    · exact .inl ⟨by first | rfl | simp, ⟨HS0.out, by omega, by omega, by omega, .inr (.inl h5), fun e => absurd e (not_utc HU.out)⟩, below_alloc w _⟩
    · exact .inr ⟨by first | rfl | simp, below_alloc w _⟩
  · cases hu : zn.toList == [85, 84, 67]
    all_goals
      have hu2 : (zn.toList != [85, 84, 67]) = !(zn.toList == [85, 84, 67]) := rfl
      rw [hu] at hu2
      have HU := hideP hu
      have h50 : (off == 0) = false := by rw [beq_eq_false_iff_ne]; omega
      have h51 : ¬ off ≤ -60 := by omega
      go_enter Tryd.func50, Tryd.ntmps50
      go_wp2_with (go_at_call 28; refine (within_any _ _ _ _).mono ?_; rintro e w1 (⟨rfl, q1, q2, rfl⟩ | ⟨rfl, q1, rfl⟩) <;> first | (exfalso; omega) | skip)
      all_goals (go_wp2; go_ret)
    · exact .inl ⟨by first | rfl | simp, ⟨HS0.out, by omega, by omega, by omega, .inr (.inr h5), fun e => absurd e (not_utc HU.out)⟩, below_alloc w _⟩
    · exact .inr ⟨by first | rfl | simp, below_alloc w _⟩
  · go_enter Tryd.func50, Tryd.ntmps50
    go_wp2_with (go_at_call 28; refine (within_any _ _ _ _).mono ?_; rintro e w1 (⟨rfl, q1, q2, rfl⟩ | ⟨rfl, q1, rfl⟩) <;> first | (exfalso; omega) | skip)
    all_goals (go_wp2; go_ret)
    all_goals exact .inr ⟨by first | rfl | simp, below_alloc w _⟩
/-- A time as it comes in. -/
structure Cv where
  y : Int
  mo : Int
  d : Int
  h : Int
  mi : Int
  s : Int
  ns : Int
  zn : ByteArray
  off : Int
def civV (c : Cv) : Value := .agg #[.int .i64 c.y, .int .i64 c.mo, .int .i64 c.d, .int .i64 c.h, .int .i64 c.mi, .int .i64 c.s, .int .i64 c.ns, .string c.zn, .int .i64 c.off]
def CivP (c : Cv) : Prop := DateP3 c.y c.mo c.d ∧ 0 ≤ c.h ∧ c.h ≤ 23 ∧ 0 ≤ c.mi ∧ c.mi ≤ 59 ∧ 0 ≤ c.s ∧ c.s ≤ 59 ∧ 0 ≤ c.ns ∧ c.ns ≤ 999999999 ∧ ZoneP c.zn c.off
theorem mLen_days (y m d : Nat) (h1 : 1 ≤ m) (h2 : m ≤ 12) (h : d ≤ daysIn y m) : d ≤ mLen (m + 12 * jfOf m) ∧ (m = 2 → d = 29 → leapY y) := by
  have : m = 1 ∨ m = 2 ∨ m = 3 ∨ m = 4 ∨ m = 5 ∨ m = 6 ∨ m = 7 ∨ m = 8 ∨ m = 9 ∨ m = 10 ∨ m = 11 ∨ m = 12 := by omega
  refine ⟨?_, ?_⟩
  · have hm : daysIn y m ≤ mLen (m + 12 * jfOf m) := by
      rcases this with rfl | rfl | rfl | rfl | rfl | rfl | rfl | rfl | rfl | rfl | rfl | rfl
      all_goals first | (show daysIn y _ ≤ 31; exact (daysIn_le _ _).2) | (show (30 : Nat) ≤ 30; decide) | (show (if leapB y = true then 29 else 28) ≤ 29; split <;> decide)
    omega
  · rintro rfl rfl
    have h' : 29 ≤ if leapB y = true then 29 else 28 := h
    split at h'
    · exact (leapB_iff y).1 (by assumption)
    · omega
/-- The told time behind it. -/
theorem civ_tm {c : Cv} (h : CivP c) : ∃ t : Tm, TmOk t ∧ civV c = cvV t := by
  obtain ⟨⟨d1, d2, d3, d4, d5, d6⟩, a1, a2, a3, a4, a5, a6, a7, a8, z1, z2, z3, z4, z5, z6⟩ := h
  refine ⟨⟨c.y.toNat, c.mo.toNat, c.d.toNat, c.h.toNat, c.mi.toNat, c.s.toNat, c.ns.toNat, c.zn, c.off⟩, ⟨?_, ⟨by simp only; omega, by simp only; omega, by simp only; omega⟩, by simp only; omega, z1, z2, z3, z4, z5, fun e => z6 (ba_ext e)⟩, ?_⟩
  · obtain ⟨e1, e2⟩ := mLen_days c.y.toNat c.mo.toNat c.d.toNat (by omega) (by omega) (by omega)
    exact ⟨by simp only; omega, by simp only; omega, by simp only; omega, by simp only; omega, e1, e2⟩
  · unfold civV cvV
    simp only [Int.toNat_of_nonneg d1, Int.toNat_of_nonneg (show 0 ≤ c.mo by omega), Int.toNat_of_nonneg (show 0 ≤ c.d by omega), Int.toNat_of_nonneg a1, Int.toNat_of_nonneg a3, Int.toNat_of_nonneg a5, Int.toNat_of_nonneg a7]
set_option maxRecDepth 100000 in
set_option maxHeartbeats 1600000 in
theorem civilOk_any (c : Cv) (w : World) (hsz : c.zn.size ≤ 140737488351232) : Calls Tryd.prog 22 #[civV c] w (BoolTo (CivP c) w) := by
  obtain ⟨y, mo, d, h, mi, s, ns, zn, off⟩ := c
  unfold civV
  simp only at hsz ⊢
  have HSZ := hideP hsz
  clear hsz
  go_enter Tryd.func22, Tryd.ntmps22
  go_wp2_with (first
    | (go_at_call 49; refine (dateOk_any _ _ _ _).mono ?_; rintro e w1 (⟨rfl, q, rfl⟩ | ⟨rfl, rfl⟩))
    | (go_at_call 28; refine (within_any _ _ _ _).mono ?_; rintro e w1 (⟨rfl, q1, q2, rfl⟩ | ⟨rfl, q1, rfl⟩))
    | (go_at_call 50; refine (zoneOk_any _ _ _ HSZ.out).mono ?_; rintro e w1 (⟨rfl, q, hb⟩ | ⟨rfl, hb⟩)))
  all_goals go_ret
  all_goals first
    | exact .inl ⟨rfl, ⟨by assumption, by assumption, by assumption, by assumption, by assumption, by assumption, by assumption, by assumption, by assumption, by assumption⟩, (below_alloc w _).trans (Below.mono (by assumption) (by simp))⟩
    | exact .inr ⟨by first | rfl | simp, (below_alloc w _).trans (Below.mono (by assumption) (by simp))⟩
    | exact .inr ⟨by first | rfl | simp, below_alloc w _⟩
end Go.Proofs.YtigabjibdepoiaaDoor.Tm
namespace Go.Proofs.YtigabjibdepoiaaDoor.Tm
set_option linter.unusedSimpArgs false
set_option linter.unusedVariables false
open Go.RowKit Go
/-- A text of at most N bytes. -/
def TxtTo (l : List UInt8) (N : Nat) (w : World) (e : Ending) (w' : World) : Prop := ∃ s, e = .returned (.string s) ∧ s.size ≤ N ∧ bl s = l ∧ Below w.heap.size w w'
theorem txt_mk {l : List UInt8} {N : Nat} (h : l.length ≤ N) {w : World} {e : Ending} {w' : World} (g : e = .returned (.string (mkB l)) ∧ Below w.heap.size w w') : TxtTo l N w e w' :=
  ⟨mkB l, g.1, by rw [mkB_size]; exact h, bl_mkB l, g.2⟩
theorem digitsI (x wd : Int) (w : World) (h0 : 0 ≤ x) (h1 : x ≤ 999999999999) (hw1 : 0 ≤ wd) (hw2 : wd ≤ 20) :
    Calls Tryd.prog 29 #[.int .i64 x, .int .i64 wd] w (TxtTo (padL 48 x.toNat wd) 20 w) := by
  obtain ⟨m, rfl⟩ : ∃ m : Nat, x = m := ⟨x.toNat, by omega⟩
  refine (digits_any m wd w (by omega) (by omega) (by omega)).mono fun e w' h => txt_mk ?_ h
  have h1 := decL_len_le (n := m) (k := 12) (by omega) (by decide)
  rw [Int.toNat_natCast, padL, List.length_append, List.length_replicate]; omega
set_option maxHeartbeats 400000 in
theorem blankI (x wd : Int) (w : World) (h0 : 0 ≤ x) (h1 : x ≤ 999999999999) (hw1 : 0 ≤ wd) (hw2 : wd ≤ 20) :
    Calls Tryd.prog 35 #[.int .i64 x, .int .i64 wd] w (TxtTo (padL 32 x.toNat wd) 20 w) := by
  obtain ⟨m, rfl⟩ : ∃ m : Nat, x = m := ⟨x.toNat, by omega⟩
  go_enter Tryd.func35, Tryd.ntmps35
  go_wp2_with (go_at_call 56; refine (padded_any m wd 32 _ (by omega) (by omega) (by omega)).mono ?_; rintro e w1 ⟨rfl, hb⟩; have HB := hideP hb; clear hb)
  go_ret
  refine txt_mk ?_ ⟨rfl, HB.out⟩
  have h1 := decL_len_le (n := m) (k := 12) (by omega) (by decide)
  rw [Int.toNat_natCast, padL, List.length_append, List.length_replicate]; omega
set_option maxHeartbeats 800000 in
theorem monthS (m : Nat) (w : World) (h1 : 1 ≤ m) (h2 : m ≤ 12) : Calls Tryd.prog 74 #[.int .i64 m] w (TxtTo (monN m) 9 w) := by
  have : m = 1 ∨ m = 2 ∨ m = 3 ∨ m = 4 ∨ m = 5 ∨ m = 6 ∨ m = 7 ∨ m = 8 ∨ m = 9 ∨ m = 10 ∨ m = 11 ∨ m = 12 := by omega
  clear h1 h2
  rcases this with rfl | rfl | rfl | rfl | rfl | rfl | rfl | rfl | rfl | rfl | rfl | rfl
  all_goals
    go_enter Tryd.func74, Tryd.ntmps74
    go_wp2
    go_ret
    exact ⟨_, rfl, by decide, rfl, Below.refl _ _⟩
set_option maxHeartbeats 800000 in
theorem dayS (m : Nat) (w : World) (h2 : m ≤ 6) : Calls Tryd.prog 75 #[.int .i64 m] w (TxtTo (dayN m) 9 w) := by
  have : m = 0 ∨ m = 1 ∨ m = 2 ∨ m = 3 ∨ m = 4 ∨ m = 5 ∨ m = 6 := by omega
  clear h2
  rcases this with rfl | rfl | rfl | rfl | rfl | rfl | rfl
  all_goals
    go_enter Tryd.func75, Tryd.ntmps75
    go_wp2
    go_ret
    exact ⟨_, rfl, by decide, rfl, Below.refl _ _⟩
theorem cum_bd (y : Nat) : ∀ k, cumD y k ≤ 31 * k := by
  intro k
  induction k with
  | zero => exact Nat.le_refl _
  | succ k ih =>
    show cumD y k + (if k = 0 then 0 else daysIn y k) ≤ _
    have := (daysIn_le y k).2
    split <;> omega
def NatTo (n : Nat) (w : World) (e : Ending) (w' : World) : Prop := e = .returned (.int .i64 n) ∧ Below w.heap.size w w'
set_option maxRecDepth 100000 in
set_option maxHeartbeats 800000 in
theorem yearDayS (t : Tm) (w : World) (h : TmOk t) : Calls Tryd.prog 36 #[cvV t] w (NatTo (ydN t.y t.mo t.d) w) := by
  have HY := hideP h.day.1
  have hm1 := h.day.2.1
  have hm2 := h.day.2.2.1
  have bd1 : (t.d : Int) ≤ 31 := by
    have := h.day.2.2.2.2.1
    unfold mLen at this; repeat' split at this
    all_goals omega
  clear h
  unfold cvV
  go_enter Tryd.func36, Tryd.ntmps36
  go_wp2
  go_loop [3, 4] (fun a i => ∃ k : Nat, 1 ≤ k ∧ k ≤ t.mo ∧ i = .int .i64 k ∧ a = .int .i64 (t.d + cumD t.y k : Nat)) (fun _ i => t.mo - (intOf i).toNat)
  case atStart => exact ⟨1, Nat.le_refl _, hm1, rfl, rfl⟩
  case round =>
    obtain ⟨k, hk1, hk2, rfl, rfl⟩ := hrel
    have hdi := (daysIn_le t.y k).2
    have hcb : cumD t.y k ≤ 31 * k := cum_bd t.y k
    by_cases hlt : (k : Int) < t.mo
    · have HC := hideP (cumD_succ t.y k hk1)
      have HK := hideP (And.intro hk1 (show k ≤ 12 by omega))
      have hA : ((t.d + cumD t.y k : Nat) : Int) ≤ 1000 := by omega
      obtain ⟨A, hAe⟩ : ∃ A : Nat, A = t.d + cumD t.y k := ⟨_, rfl⟩
      rw [← hAe] at hA ⊢
      have HAE := hideP hAe
      have HMO := hideP (show k + 1 ≤ t.mo by omega)
      have hdi2 : ((daysIn t.y k : Nat) : Int) ≤ 31 := by omega
      clear hcb hAe hk1 hk2 hdi
      go_wp2_with (go_at_call 59; refine (daysS_any t.y k _ HY.out HK.out.1 HK.out.2).mono ?_; rintro e w1 ⟨rfl, rfl⟩)
      go_round
      case rel => exact ⟨k + 1, Nat.le_add_left _ _, HMO.out, by go_num, by rw [HC.out]; have := HAE.out; congr 1; omega⟩
      case measure => have := HMO.out; simp [intOf]; omega
    · have hkm : k = t.mo := by omega
      have HKM := hideP hkm
      clear hkm hcb hdi hk1 hk2
      go_wp2
      go_ret
      exact ⟨by rw [HKM.out]; rfl, below_alloc w _⟩
end Go.Proofs.YtigabjibdepoiaaDoor.Tm
namespace Go.Proofs.YtigabjibdepoiaaDoor.Tm
set_option linter.unusedSimpArgs false
set_option linter.unusedVariables false
open Go.RowKit Go
/-! Digits of a fixed width. -/
def fixD : Nat → Nat → List UInt8
  | 0, _ => []
  | k + 1, n => fixD k (n / 10) ++ [digC (n % 10)]
theorem fixD_len (k n : Nat) : (fixD k n).length = k := by
  induction k generalizing n with
  | zero => rfl
  | succ k ih => show (fixD k (n / 10) ++ [digC (n % 10)]).length = _; rw [List.length_append, ih]; rfl
theorem pad_fix (k : Nat) : ∀ n, n < 10 ^ (k + 1) → padL 48 n ((k + 1 : Nat) : Int) = fixD (k + 1) n := by
  induction k with
  | zero =>
    intro n h
    have h' : n < 10 := by simpa using h
    rw [padL, decL_lt h']
    show _ = [] ++ [digC (n % 10)]
    rw [Nat.mod_eq_of_lt h']; rfl
  | succ k ih =>
    intro n h
    show _ = fixD (k + 1) (n / 10) ++ [digC (n % 10)]
    by_cases h' : n < 10
    · rw [← ih (n / 10) (by rw [Nat.div_eq_of_lt h']; exact Nat.pow_pos (by decide)), Nat.div_eq_of_lt h', Nat.mod_eq_of_lt h', padL, padL, decL_lt h', decL_lt (by decide : (0 : Nat) < 10)]
      have e1 : (((k + 1 + 1 : Nat) : Int) - ([digC n].length : Nat)).toNat = k + 1 := by simp
      have e2 : (((k + 1 : Nat) : Int) - ([digC 0].length : Nat)).toNat = k := by simp
      rw [e1, e2, List.replicate_succ']
      rfl
    · have h1 : n / 10 < 10 ^ (k + 1) := by rw [Nat.pow_succ] at h; omega
      rw [← ih (n / 10) h1, padL, padL, decL_ge h', ← List.append_assoc]
      congr 2
      congr 1
      rw [List.length_append, List.length_singleton]; omega
theorem fix_take (j i : Nat) : ∀ n, (fixD (j + i) n).take j = fixD j (n / 10 ^ i) := by
  induction i with
  | zero => intro n; rw [Nat.pow_zero, Nat.div_one, Nat.add_zero, List.take_of_length_le (by rw [fixD_len]; exact Nat.le_refl _)]
  | succ i ih =>
    intro n
    show (fixD (j + i) (n / 10) ++ [digC (n % 10)]).take j = _
    rw [List.take_append_of_le_length (by rw [fixD_len]; omega), ih, Nat.div_div_eq_div_mul, Nat.pow_succ, Nat.mul_comm]
/-- The first digits of a fraction. -/
theorem take_pad (ns k : Nat) (h : ns ≤ 999999999) (h1 : 1 ≤ k) (h2 : k ≤ 9) : (padL 48 ns 9).take k = padL 48 (ns / 10 ^ (9 - k)) (k : Int) := by
  have e9 : padL 48 ns 9 = fixD 9 ns := pad_fix 8 ns (by omega)
  obtain ⟨i, rfl⟩ : ∃ i, k = i + 1 := ⟨k - 1, by omega⟩
  rw [e9, show fixD 9 ns = fixD ((i + 1) + (9 - (i + 1))) ns from by rw [show (i + 1) + (9 - (i + 1)) = 9 from by omega], fix_take]
  refine (pad_fix i _ ?_).symm
  refine Nat.div_lt_of_lt_mul ?_
  rw [← Nat.pow_add, show 9 - (i + 1) + (i + 1) = 9 from by omega]; omega
theorem take_succ_pad (ns j : Nat) (h : ns ≤ 999999999) (h2 : j + 1 ≤ 9) : (padL 48 ns 9).take (j + 1) = (padL 48 ns 9).take j ++ [digC (ns / 10 ^ (9 - (j + 1)) % 10)] := by
  have e9 : padL 48 ns 9 = fixD 9 ns := pad_fix 8 ns (by omega)
  have e1 : fixD 9 ns = fixD ((j + 1) + (9 - (j + 1))) ns := by rw [show (j + 1) + (9 - (j + 1)) = 9 from by omega]
  have e2 : fixD 9 ns = fixD (j + (9 - j)) ns := by rw [show j + (9 - j) = 9 from by omega]
  have a1 : (fixD 9 ns).take (j + 1) = fixD (j + 1) (ns / 10 ^ (9 - (j + 1))) := by rw [e1, fix_take]
  have a2 : (fixD 9 ns).take j = fixD j (ns / 10 ^ (9 - j)) := by rw [e2, fix_take]
  rw [e9, a1, a2]
  show fixD j (ns / 10 ^ (9 - (j + 1)) / 10) ++ _ = _
  rw [Nat.div_div_eq_div_mul, ← Nat.pow_succ, show (9 - (j + 1)).succ = 9 - j from by omega]
theorem digC_48 {n : Nat} (h : n < 10) : digC n = 48 ↔ n = 0 := by
  constructor
  · intro e
    have := congrArg UInt8.toNat e
    rw [digC_nat h] at this
    have : (48 : UInt8).toNat = 48 := rfl
    omega
  · rintro rfl; rfl
/-! The walks. -/
set_option maxRecDepth 100000 in
set_option maxHeartbeats 800000 in
theorem weekdayS (t : Tm) (w : World) (h : TmOk t) : Calls Tryd.prog 76 #[cvV t] w (NatTo (wdN t.y t.mo t.d) w) := by
  have HO := hideP h
  have by1 : (t.y : Int) ≤ 9999 := by have := h.day.1; omega
  have byd := (ydN_le h.day).2
  have byd0 := (ydN_le h.day).1
  obtain ⟨Y, hY⟩ : ∃ Y, Y = ydN t.y t.mo t.d := ⟨_, rfl⟩
  have HYD := hideP hY
  have HW := hideP (show wdN t.y t.mo t.d = (365 * t.y + (t.y + 3) / 4 - (t.y + 99) / 100 + (t.y + 399) / 400 + Y - 1 + 6) % 7 by rw [hY]; rfl)
  rw [← hY] at byd byd0
  have b1 : (Y : Int) ≤ 366 := by omega
  have b0 : (1 : Int) ≤ Y := by omega
  obtain ⟨A, hA⟩ : ∃ A, A = (t.y + 3) / 4 := ⟨_, rfl⟩
  obtain ⟨B, hB⟩ : ∃ B, B = (t.y + 99) / 100 := ⟨_, rfl⟩
  obtain ⟨C, hC⟩ : ∃ C, C = (t.y + 399) / 400 := ⟨_, rfl⟩
  have HN := hideP (show wdN t.y t.mo t.d = (365 * t.y + A - B + C + Y - 1 + 6) % 7 by rw [HW.out, hA, hB, hC])
  have e1 : ((t.y : Int) + 3) / 4 = A := by omega
  have e2 : ((t.y : Int) + 99) / 100 = B := by omega
  have e3 : ((t.y : Int) + 399) / 400 = C := by omega
  have b3 : (A : Int) ≤ 3000 := by omega
  have b4 : (B : Int) ≤ 200 := by omega
  have b5 : (C : Int) ≤ 30 := by omega
  have b6 : (B : Int) ≤ 365 * t.y + A := by omega
  clear h hY byd byd0 hA hB hC HW
  unfold cvV
  go_enter Tryd.func76, Tryd.ntmps76
  go_wp2_with (go_at_call 36; refine (yearDayS t _ HO.out).mono ?_; rw [← HYD.out]; rintro e w1 ⟨rfl, hb⟩; have HB := hideP hb; clear hb)
  go_ret
  exact ⟨ret_int (by rw [HN.out]; omega), (below_alloc w _).trans (HB.out.mono (by simp))⟩
set_option maxHeartbeats 400000 in
theorem hour12S (h : Nat) (w : World) (hh : h ≤ 23) : Calls Tryd.prog 77 #[.int .i64 h] w (QuietV (.int .i64 (h12 h : Nat)) w) := by
  have hb : (h : Int) ≤ 23 := by omega
  by_cases h0 : h % 12 = 0
  · have hz : ((h : Int) % 12 == 0) = true := by rw [beq_iff_eq]; omega
    have HE := hideP (show h12 h = 12 from if_pos h0)
    clear hh h0
    go_enter Tryd.func77, Tryd.ntmps77
    go_wp2
    go_ret
    exact ⟨by rw [HE.out]; rfl, rfl⟩
  · have hz : ((h : Int) % 12 == 0) = false := by rw [beq_eq_false_iff_ne]; omega
    have HE := hideP (show h12 h = h % 12 from if_neg h0)
    clear hh h0
    go_enter Tryd.func77, Tryd.ntmps77
    go_wp2
    go_ret
    exact ⟨by rw [HE.out]; rfl, rfl⟩
def halfL (h : Nat) : List UInt8 := if 12 ≤ h then [80, 77] else [65, 77]
set_option maxHeartbeats 400000 in
theorem halfS (h : Nat) (w : World) : Calls Tryd.prog 78 #[.int .i64 h] w (TxtTo (halfL h) 2 w) := by
  by_cases h0 : (12 : Int) ≤ h
  · have HE := hideP (show halfL h = [80, 77] from if_pos (by omega))
    go_enter Tryd.func78, Tryd.ntmps78
    go_wp2
    go_ret
    exact ⟨_, rfl, by decide, by rw [HE.out]; rfl, Below.refl _ _⟩
  · have HE := hideP (show halfL h = [65, 77] from if_neg (by omega))
    go_enter Tryd.func78, Tryd.ntmps78
    go_wp2
    go_ret
    exact ⟨_, rfl, by decide, by rw [HE.out]; rfl, Below.refl _ _⟩
set_option maxHeartbeats 400000 in
theorem markS (comma : Bool) (w : World) : Calls Tryd.prog 57 #[.bool comma] w (QuietV (.string ⟨#[markC comma]⟩) w) := by
  cases comma
  all_goals
    go_enter Tryd.func57, Tryd.ntmps57
    go_wp2
    go_ret
    exact ⟨rfl, rfl⟩
def powN (n : Nat) : Nat := 10 ^ n
set_option maxHeartbeats 800000 in
theorem powerS (n : Nat) (w : World) (hn : n ≤ 9) : Calls Tryd.prog 58 #[.int .i64 n] w (QuietV (.int .i64 (powN n : Nat)) w) := by
  go_enter Tryd.func58, Tryd.ntmps58
  go_wp2
  go_loop [0, 3] (fun a o => ∃ k p : Nat, k ≤ n ∧ a = .int .i64 k ∧ o = .int .i64 p ∧ p * 10 ^ k = 10 ^ n ∧ p ≤ 1000000000) (fun a _ => (intOf a).toNat)
  case atStart => exact ⟨n, 1, Nat.le_refl _, rfl, rfl, by simp, by decide⟩
  case round =>
    obtain ⟨k, p, hk, rfl, rfl, hp, hpb⟩ := hrel
    have hpb2 : (p : Int) ≤ 1000000000 := by omega
    have hk9 : (k : Int) ≤ 9 := by omega
    by_cases h0 : 0 < k
    · have h0' : (0 : Int) < k := by omega
      obtain ⟨j, rfl⟩ : ∃ j, k = j + 1 := ⟨k - 1, by omega⟩
      have HP := hideP (show p * 10 * 10 ^ j = 10 ^ n by rw [← hp, Nat.pow_succ, Nat.mul_assoc, Nat.mul_comm 10]; )
      have HB := hideP (show p * 10 ≤ 1000000000 by
        have h1 := HP.out
        have h2 : 10 ^ n ≤ 10 ^ 9 := Nat.pow_le_pow_right (by decide) hn
        have h3 : 1 ≤ 10 ^ j := Nat.pow_pos (by decide)
        have h4 : p * 10 * 1 ≤ p * 10 * 10 ^ j := Nat.mul_le_mul_left _ h3
        omega)
      clear hp hpb
      go_wp2
      go_round
      case rel => exact ⟨j, p * 10, by omega, by go_num, by go_num, HP.out, HB.out⟩
      case measure => simp [intOf]
    · obtain rfl : k = 0 := by omega
      have HP := hideP (show p = powN n by unfold powN; rw [← hp]; simp)
      clear hp hpb h0
      go_wp2
      go_ret
      exact ⟨by rw [← HP.out]; rfl, rfl⟩
end Go.Proofs.YtigabjibdepoiaaDoor.Tm
namespace Go.Proofs.YtigabjibdepoiaaDoor.Tm
set_option linter.unusedSimpArgs false
set_option linter.unusedVariables false
open Go.RowKit Go
theorem powerP (j P : Nat) (w : World) (hj : j ≤ 9) (hP : P = powN j) : Calls Tryd.prog 58 #[.int .i64 j] w (QuietV (.int .i64 P) w) := by
  subst hP; exact powerS j w hj
theorem powN_pos (j : Nat) : 1 ≤ powN j := Nat.pow_pos (by decide)
theorem powN_le (j : Nat) (h : j ≤ 9) : powN j ≤ 1000000000 := Nat.pow_le_pow_right (n := 10) (by decide) h
theorem div_cast (a b q : Nat) (h : q = a / b) : (a : Int) / (b : Int) = q := by subst h; rfl
theorem tdiv_cast (a b q : Nat) (h : q = a / b) : (a : Int).tdiv (b : Int) = q := by subst h; rw [Int.tdiv_eq_ediv_of_nonneg (by omega)]; rfl
theorem padL_20 (m wd : Nat) (hm : m ≤ 999999999999) (hw : wd ≤ 20) : (padL 48 m (wd : Int)).length ≤ 20 := by
  have h1 := decL_len_le (n := m) (k := 12) (by omega) (by decide)
  rw [padL, List.length_append, List.length_replicate]; omega
set_option maxRecDepth 100000 in
set_option maxHeartbeats 800000 in
theorem fracS (ns k : Nat) (comma : Bool) (w : World) (hns : ns ≤ 999999999) (h1 : 1 ≤ k) (h2 : k ≤ 9) :
    Calls Tryd.prog 30 #[.int .i64 ns, .int .i64 k, .bool comma] w (TxtTo (nanoL ns k comma false) 30 w) := by
  obtain ⟨j, hj⟩ : ∃ j, j = 9 - k := ⟨_, rfl⟩
  obtain ⟨P, hP⟩ : ∃ P, P = powN j := ⟨_, rfl⟩
  obtain ⟨q, hq⟩ : ∃ q, q = ns / P := ⟨_, rfl⟩
  have HL := hideP (show nanoL ns k comma false = markC comma :: padL 48 q k by
    rw [hq, hP, hj]; unfold powN; rw [← take_pad ns k hns h1 h2]; unfold nanoL markC; simp)
  have e1 : (9 : Int) - k = j := by omega
  have e2 := div_cast ns P q hq
  have e3 := tdiv_cast ns P q hq
  have p1 : (1 : Int) ≤ P := by have := powN_pos j; omega
  have HJ := hideP (show j ≤ 9 by omega)
  have HP := hideP hP
  have hqb : q ≤ 999999999 := by rw [hq]; exact Nat.le_trans (Nat.div_le_self _ _) hns
  have q1 : (q : Int) ≤ 999999999 := by omega
  have k1 : (k : Int) ≤ 9 := by omega
  have n1 : (ns : Int) ≤ 999999999 := by omega
  clear hP hq hj hns h1 h2 hqb
  go_enter Tryd.func30, Tryd.ntmps30
  go_wp2_with (first
    | (go_at_call 57; refine (markS comma _).mono ?_; rintro e w1 ⟨rfl, rfl⟩)
    | (go_at_call 58; refine (powerP j P _ HJ.out HP.out).mono ?_; rintro e w1 ⟨rfl, rfl⟩)
    | (go_at_call 29; refine (digitsI _ _ _ (by omega) (by omega) (by omega) (by omega)).mono ?_; rintro e w1 ⟨s, rfl, hs, hbl, hb⟩; have HBL := hideP hbl; have HB := hideP hb; have hsum : ¬ 9223372036854775807 < (ByteArray.mk #[markC comma]).size + s.size := (by have : (ByteArray.mk #[markC comma]).size = 1 := rfl; omega); have HS := hideP hs; clear hbl hb hs))
  go_ret
  refine ⟨_, rfl, ?_, ?_, HB.out⟩
  · rw [ByteArray.size_append]; have : (ByteArray.mk #[markC comma]).size = 1 := rfl; have := HS.out; omega
  · rw [HL.out, bl_append, HBL.out]; rfl
theorem trim_nano (ns k : Nat) (comma : Bool) (hns : ns ≤ 999999999) (hk : 1 ≤ k) (l : List UInt8) (h : trimZ ((padL 48 ns 9).take k) = l) : nanoL ns k comma true = if l = [] then [] else markC comma :: l := by
  subst h
  by_cases h0 : ns = 0
  · subst h0
    have e : trimZ ((padL 48 0 9).take k) = [] := by
      have : ∀ c ∈ (padL 48 0 9).take k, c = 48 := by
        intro c hc
        have := List.mem_of_mem_take hc
        rcases List.mem_append.1 this with g | g
        · exact (List.mem_replicate.1 g).2
        · rw [decL_lt (by decide)] at g; exact List.mem_singleton.1 g
      unfold trimZ
      have hd : ∀ m : List UInt8, (∀ c ∈ m, c = 48) → m.dropWhile (fun c => c == 48) = [] := by
        intro m hm
        induction m with
        | nil => rfl
        | cons c m ih => rw [List.dropWhile_cons_of_pos (by simp [hm c (by simp)]), ih (fun d hd => hm d (by simp [hd]))]
      rw [hd _ (fun c hc => this c (by simpa using hc))]; rfl
    rw [if_pos e]; unfold nanoL; rw [if_pos ⟨rfl, .inr rfl⟩]
  · unfold nanoL markC
    rw [if_neg (by omega), if_pos rfl]
set_option maxRecDepth 100000 in
set_option maxHeartbeats 1600000 in
theorem trimS (ns k : Nat) (comma : Bool) (w : World) (hns : ns ≤ 999999999) (h1 : 1 ≤ k) (h2 : k ≤ 9) :
    Calls Tryd.prog 79 #[.int .i64 ns, .int .i64 k, .bool comma] w (TxtTo (nanoL ns k comma true) 30 w) := by
  obtain ⟨j, hj⟩ : ∃ j, j = 9 - k := ⟨_, rfl⟩
  obtain ⟨P, hP⟩ : ∃ P, P = powN j := ⟨_, rfl⟩
  obtain ⟨q, hq⟩ : ∃ q, q = ns / P := ⟨_, rfl⟩
  have HL := hideP (fun l h => trim_nano ns k comma hns h1 l h)
  have HQ := hideP (show q = ns / 10 ^ (9 - k) by rw [hq, hP, hj]; rfl)
  have e1 : (9 : Int) - k = j := by omega
  have e2 := div_cast ns P q hq
  have e3 := tdiv_cast ns P q hq
  have p1 : (1 : Int) ≤ P := by have := powN_pos j; omega
  have HJ := hideP (show j ≤ 9 by omega)
  have HP := hideP hP
  have HNS := hideP hns
  have HK := hideP (And.intro h1 h2)
  have hqb : q ≤ 999999999 := by rw [hq]; exact Nat.le_trans (Nat.div_le_self _ _) hns
  have q1 : (q : Int) ≤ 999999999 := by omega
  have k1 : (k : Int) ≤ 9 := by omega
  have n1 : (ns : Int) ≤ 999999999 := by omega
  clear hP hq hj hns h1 h2 hqb
  go_enter Tryd.func79, Tryd.ntmps79
  go_wp2_with (go_at_call 58; refine (powerP j P _ HJ.out HP.out).mono ?_; rintro e w1 ⟨rfl, rfl⟩)
  clear e1 e2 e3 p1
  go_loop [1, 7] (fun a b => ∃ i m : Nat, i ≤ k ∧ a = .int .i64 i ∧ b = .int .i64 m ∧ m = ns / 10 ^ (9 - i) ∧ m ≤ 999999999 ∧ trimZ ((padL 48 ns 9).take k) = trimZ ((padL 48 ns 9).take i)) (fun a _ => (intOf a).toNat)
  case atStart => exact ⟨k, q, Nat.le_refl _, rfl, rfl, HQ.out, by omega, rfl⟩
  case round =>
    obtain ⟨i, m, hi, rfl, rfl, hm, hmb, htr⟩ := hrel
    have hmb2 : (m : Int) ≤ 999999999 := by omega
    have hi9 : (i : Int) ≤ 9 := by omega
    have HTR := hideP htr
    have HM := hideP hm
    have HI := hideP hi
    clear htr hm hmb
    rcases Nat.eq_zero_or_pos i with rfl | h0
    · have HE := hideP ((HL.out [] HTR.out).trans (if_pos rfl))
      go_wp2
      go_ret
      exact ⟨_, rfl, by decide, by rw [HE.out]; rfl, Below.refl _ _⟩
    · obtain ⟨g, rfl⟩ : ∃ g, i = g + 1 := ⟨i - 1, by omega⟩
      have HTS := hideP (take_succ_pad ns g HNS.out (by have := HI.out; have := HK.out; omega))
      have h0' : (0 : Int) < ((g + 1 : Nat) : Int) := by omega
      by_cases hz : m % 10 = 0
      · have hz2 : ((m : Int) % 10 == 0) = true := by rw [beq_iff_eq]; omega
        have HN := hideP (show m / 10 = ns / 10 ^ (9 - g) by
          have hk := HK.out.2
          have hg := HI.out
          rw [HM.out, Nat.div_div_eq_div_mul, ← Nat.pow_succ, show (9 - (g + 1)).succ = 9 - g from by omega])
        have HT2 := hideP (show trimZ ((padL 48 ns 9).take k) = trimZ ((padL 48 ns 9).take g) by
          have hmm := HM.out
          rw [HTR.out, HTS.out, ← hmm, (digC_48 (n := m % 10) (by omega)).2 hz, trimZ_zero])
        have HG := hideP (show g ≤ k by have := HI.out; omega)
        clear hz
        go_wp2
        go_round
        case rel => exact ⟨g, m / 10, HG.out, by go_num, by go_num, HN.out, by omega, HT2.out⟩
        case measure => simp [intOf]
      · have hz2 : ((m : Int) % 10 == 0) = false := by rw [beq_eq_false_iff_ne]; omega
        have hg0 : (((g + 1 : Nat) : Int) == 0) = false := by rw [beq_eq_false_iff_ne]; omega
        have HE := hideP (show nanoL ns k comma true = markC comma :: padL 48 m ((g + 1 : Nat) : Int) by
          have hmm := HM.out
          have hk := HK.out
          have hg := HI.out
          have ht : trimZ ((padL 48 ns 9).take k) = padL 48 m ((g + 1 : Nat) : Int) := by
            have hne : digC (m % 10) ≠ 48 := fun e => hz ((digC_48 (n := m % 10) (by omega)).1 e)
            rw [HTR.out, HTS.out, ← hmm, trimZ_keep _ _ hne, hmm, ← HTS.out, take_pad ns (g + 1) HNS.out (by omega) (by omega)]
          rw [HL.out _ ht, if_neg]
          intro e
          have hlen := congrArg List.length e
          rw [padL, List.length_append, List.length_nil] at hlen
          have hpos := decL_pos m
          omega)
        clear hz
        go_wp2_with (first
          | (go_at_call 57; refine (markS comma _).mono ?_; rintro e w1 ⟨rfl, rfl⟩)
          | (go_at_call 29; refine (digitsI _ _ _ (by omega) (by omega) (by omega) (by omega)).mono ?_; rintro e w1 ⟨s, rfl, hs, hbl, hb⟩; have HBL := hideP hbl; have HB := hideP hb; have hsum : ¬ 9223372036854775807 < (ByteArray.mk #[markC comma]).size + s.size := (by have : (ByteArray.mk #[markC comma]).size = 1 := rfl; omega); have HS := hideP hs; clear hbl hb hs))
        go_ret
        refine ⟨_, rfl, ?_, ?_, HB.out⟩
        · rw [ByteArray.size_append]; have : (ByteArray.mk #[markC comma]).size = 1 := rfl; have := HS.out; omega
        · rw [HE.out, bl_append, HBL.out]; rfl
end Go.Proofs.YtigabjibdepoiaaDoor.Tm
namespace Go.Proofs.YtigabjibdepoiaaDoor.Tm
set_option linter.unusedSimpArgs false
set_option linter.unusedVariables false
open Go.RowKit Go
theorem bl_lit1 (c : UInt8) : bl (⟨#[c]⟩ : ByteArray) = [c] := rfl
theorem zs1 (z : Nat) : ((z : Int) / 3600).toNat = z / 3600 := by omega
theorem txt_of {s : ByteArray} {l : List UInt8} {N : Nat} {w w' : World} (h : bl s = l) (hn : l.length ≤ N) (hb : Below w.heap.size w w') : TxtTo l N w (.returned (.string s)) w' :=
  ⟨s, rfl, by rw [← bl_length, h]; exact hn, h, hb⟩
set_option maxRecDepth 100000 in
set_option maxHeartbeats 1600000 in
theorem offS (off : Int) (a b c : Bool) (w : World) (h0 : -86399 ≤ off) (h1 : off ≤ 86399) (h2 : off = 0 ∨ off ≤ -60 ∨ 60 ≤ off) :
    Calls Tryd.prog 31 #[.int .i64 off, .bool a, .bool b, .bool c] w (TxtTo (offL off a b c) 100 w) := by
  have hsp : (∃ z : Nat, off = z ∧ z ≤ 86399) ∨ (∃ z : Nat, off = -(z : Int) ∧ 60 ≤ z ∧ z ≤ 86399) := by
    rcases h2 with h | h | h
    · exact .inl ⟨0, by omega, by omega⟩
    · exact .inr ⟨(-off).toNat, by omega, by omega, by omega⟩
    · exact .inl ⟨off.toNat, by omega, by omega⟩
  have HOL := hideP (show (offL off a b c).length ≤ 100 from Nat.le_trans (off_le off a b c h0 h1) (by decide))
  have HB := hideP (Below.refl w.heap.size w)
  clear h0 h1 h2
  rcases hsp with ⟨z, rfl, hz⟩ | ⟨z, rfl, hz1, hz2⟩
  · have hb0 : (z : Int) ≤ 86399 := by omega
    clear hz
    cases a <;> cases b <;> cases c
    all_goals
      go_enter Tryd.func31, Tryd.ntmps31
      go_wp2_with (go_at_call 29; refine (digitsI _ _ _ (by omega) (by omega) (by omega) (by omega)).mono ?_; rintro e w1 ⟨s, rfl, hs, hbl, hb⟩; have HB := hideP (HB.out.trans (hb.mono HB.out.size)); clear hb)
      go_ret
      have hn := HOL.out
      refine txt_of ?_ hn HB.out
      simp only [bl_append, bl_lit1, bl_empty, off_pos, zs1, zq2, zq3, *, Bool.false_eq_true, if_true, if_false, reduceIte, List.append_assoc, List.nil_append, List.append_nil, List.cons_append, List.singleton_append]
  · have HZ := hideP hz1
    have hb0 : (z : Int) ≤ 86399 := by omega
    have hb1 : (60 : Int) ≤ z := by omega
    have ht3 : -(z : Int) < 0 := by omega
    clear hz1 hz2
    cases a <;> cases b <;> cases c
    all_goals
      go_enter Tryd.func31, Tryd.ntmps31
      go_wp2_with (go_at_call 29; refine (digitsI _ _ _ (by omega) (by omega) (by omega) (by omega)).mono ?_; rintro e w1 ⟨s, rfl, hs, hbl, hb⟩; have HB := hideP (HB.out.trans (hb.mono HB.out.size)); clear hb)
      go_ret
      have hn := HOL.out
      refine txt_of ?_ hn HB.out
      simp only [bl_append, bl_lit1, bl_empty, off_neg z HZ.out, zs1, zq2, zq3, *, Bool.false_eq_true, if_true, if_false, reduceIte, List.append_assoc, List.nil_append, List.append_nil, List.cons_append, List.singleton_append]
end Go.Proofs.YtigabjibdepoiaaDoor.Tm
