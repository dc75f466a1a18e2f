/- NanoS: what is needed here. -/
import Derived.Test.YtdgckbjfnbljkaaDoorProg
import Derived.Test.YtdgckbjfnbljkaaDoorAtoiS
namespace Go.Proofs.YtdgckbjfnbljkaaDoor.Tm
set_option linter.unusedSimpArgs false
set_option linter.unusedVariables false
open Go.RowKit Go
/-- The text of a fraction's number: what stands behind the mark, at most nine bytes of it. -/
def fracOf (l : List UInt8) (n : Nat) : List UInt8 := (l.take (min n 10)).drop 1
theorem frac_short (s : ByteArray) (n : Nat) (h : n ≤ 10) : bl (s.extract 1 n) = fracOf (bl s) n := by
  rw [bl_extract, fracOf, Nat.min_eq_left h]
theorem frac_long (s : ByteArray) (n : Nat) (h : 10 < n) : bl ((s.extract 0 10).extract 1 10) = fracOf (bl s) n := by
  rw [bl_extract, bl_extract, fracOf, Nat.min_eq_right (by omega), List.drop_zero, List.take_take, Nat.min_self]
theorem fracOf_length (l : List UInt8) (n : Nat) : (fracOf l n).length ≤ min n 10 - 1 := by
  rw [fracOf, List.length_drop, List.length_take]; omega
/-- The scaling loop, when it has gone round i times. -/
def ScaleAt (x : Nat) (m i : Nat) (y : Int) : Prop := y = (x * 10 ^ i : Nat) ∧ x * 10 ^ i < 10 ^ (m - 1 + i) ∧ m - 1 + i ≤ 9
theorem scale_start (x m : Nat) (h : x < 10 ^ (m - 1)) (hm : m ≤ 10) : ScaleAt x m 0 x := ⟨by simp, by simpa using h, by omega⟩
theorem scale_small {x m i : Nat} {y : Int} (h : ScaleAt x m i y) : 0 ≤ y ∧ y < 1000000000 := by
  obtain ⟨h1, h2, h3⟩ := h
  have := Nat.lt_of_lt_of_le h2 (Nat.pow_le_pow_right (show 0 < 10 by decide) h3)
  omega
theorem scale_step {x m i : Nat} {y : Int} (h : ScaleAt x m i y) (hm : 1 ≤ m) (hi : m + i < 10) : ScaleAt x m (i + 1) (y * 10) := by
  obtain ⟨h1, h2, h3⟩ := h
  refine ⟨?_, ?_, by omega⟩
  · rw [h1, Nat.pow_succ]; simp [Int.mul_assoc]
  · rw [Nat.pow_succ, ← Nat.mul_assoc, ← Nat.add_assoc, Nat.pow_succ]; exact Nat.mul_lt_mul_of_pos_right h2 (by decide)
theorem body_le (l : List UInt8) : (bodyOf l).length ≤ l.length := by
  cases l with
  | nil => simp [bodyOf]
  | cons c r => rw [bodyOf_cons]; split <;> simp
/-- The fraction that a text of at most nine bytes tells, if it is a number from 0 on. -/
theorem frac_lt (l : List UInt8) (n : Nat) (h : ∀ c ∈ bodyOf (fracOf l n), isDig c = true) : dval (bodyOf (fracOf l n)) < 10 ^ (min n 10 - 1) := by
  have h1 := dvalFrom_lt _ h 0
  rw [Nat.zero_add, Nat.one_mul] at h1
  refine Nat.lt_of_lt_of_le h1 (Nat.pow_le_pow_right (by decide) ?_)
  have := body_le (fracOf l n)
  have := fracOf_length l n
  omega
def MarkAt (s : ByteArray) (h0 : 0 < s.size) : Prop := s[0].toNat = 46 ∨ s[0].toNat = 44
theorem mark_tests (s : ByteArray) (h0 : 0 < s.size) (h : MarkAt s h0) : ((s[0].toNat : Int) == 46) = true ∨ (((s[0].toNat : Int) == 46) = false ∧ ((s[0].toNat : Int) == 44) = true) := by
  simp only [beq_iff_eq, beq_eq_false_iff_ne]
  rcases h with h | h
  · exact .inl (by omega)
  · exact .inr ⟨by omega, by omega⟩
theorem ret3_int {a b : Int} {E F : Value} (h : a = b) : Ending.returned (.tuple #[.int .i64 a, E, F]) = .returned (.tuple #[.int .i64 b, E, F]) := by rw [h]
theorem comma_yes (c : Int) (w : World) (h : (c == 46) = true ∨ ((c == 46) = false ∧ (c == 44) = true)) :
    Calls Tryd.prog 29 #[.int .u8 c] w fun e w' => e = .returned (.bool true) ∧ w = w' := by
  rcases h with t1 | ⟨t1, t2⟩
  all_goals
    go_enter Tryd.func29, Tryd.ntmps29
    go_wp2
    go_ret
    exact ⟨rfl, rfl⟩
theorem comma_no (c : Int) (w : World) (h1 : (c == 46) = false) (h2 : (c == 44) = false) :
    Calls Tryd.prog 29 #[.int .u8 c] w fun e w' => e = .returned (.bool false) ∧ w = w' := by
  go_enter Tryd.func29, Tryd.ntmps29
  go_wp2
  go_ret
  exact ⟨rfl, rfl⟩
/-- The nanoseconds that a fraction tells. -/
def nanoVal (l : List UInt8) (n : Nat) : Nat := dval (bodyOf (fracOf l n)) * 10 ^ (10 - min n 10)
def NanoYes (v : Nat) (w : World) (e : Ending) (w' : World) : Prop := e = .returned (.tuple #[.int .i64 (v : Int), .string ⟨#[]⟩, .nilIface]) ∧ Below w.heap.size w w'
set_option maxHeartbeats 1600000 in
theorem nano_yes (s : ByteArray) (n : Nat) (V : Value) (w : World) (hs : s.size ≤ 140737488351232) (h0 : 0 < s.size) (h1 : 1 ≤ n) (hn : n ≤ s.size) (hV : w.cell? ⟨2, 0, none⟩ = some V)
    (hm : MarkAt s h0) (h : ∀ c ∈ bodyOf (fracOf (bl s) n), isDig c = true) (hneg : isNeg (fracOf (bl s) n) = false) :
    Calls Tryd.prog 16 #[.string s, .int .i64 n] w (NanoYes (nanoVal (bl s) n) w) := by
  have hlt := frac_lt (bl s) n h
  have hb9 : dval (bodyOf (fracOf (bl s) n)) < 1000000000 := Nat.lt_of_lt_of_le hlt (Nat.pow_le_pow_right (n := 10) (by decide) (show min n 10 - 1 ≤ 9 by omega))
  have hnum : numOf (fracOf (bl s) n) = (dval (bodyOf (fracOf (bl s) n)) : Nat) := by rw [numOf, hneg]; simp
  have hst := scale_start _ _ hlt (show min n 10 ≤ 10 by omega)
  have hval : nanoVal (bl s) n = dval (bodyOf (fracOf (bl s) n)) * 10 ^ (10 - min n 10) := rfl
  generalize nanoVal (bl s) n = v at hval ⊢
  obtain ⟨x, hx⟩ : ∃ x : Nat, x = dval (bodyOf (fracOf (bl s) n)) := ⟨_, rfl⟩
  rw [← hx] at hlt hb9 hnum hst hval
  have HVal := hideP hval; clear hval
  have ht := mark_tests s h0 hm
  have HB := hideP hb9; clear hb9
  have HH := hideP h; clear h
  have HX := hideP hx; clear hx
  have HN := hideP hnum; clear hnum
  have HL := hideP hlt; clear hlt
  have HS := hideP hst; clear hst
  clear hm hneg
  by_cases h10 : 10 < n
  · have e := frac_long s n h10
    have HE := hideP e; clear e
    have hmin : min n 10 = 10 := Nat.min_eq_right (by omega)
    have HM := hideP hmin; clear hmin
    have hsz : ((s.extract 0 10).extract 1 10).size ≤ 140737488351232 := by rw [ByteArray.size_extract]; omega
    have HSZ := hideP hsz; clear hsz
    have HT := hideP ht; clear ht
    go_enter Tryd.func16, Tryd.ntmps16
    go_wp2_with (first | (go_at_call 30; refine (atoi_yes _ x V _ HSZ.out (by assumption) (by rw [HE.out]; exact HH.out) (by rw [HE.out, ← HX.out]; have := HB.out; omega) (by rw [HE.out]; exact HN.out)).mono ?_; rintro e w1 ⟨rfl, hb⟩) | (go_at_call 29; refine (comma_yes _ _ HT.out).mono ?_; rintro e w1 ⟨rfl, rfl⟩))
    go_loop [4, 8] (fun y i => ∃ (k : Nat) (z : Int), i = .int .i64 k ∧ y = .int .i64 z ∧ ScaleAt x (min n 10) k z ∧ k ≤ 10 - min n 10) (fun _ i => 10 - (intOf i).toNat)
    case atStart => exact ⟨0, _, rfl, rfl, HS.out, Nat.zero_le _⟩
    case round =>
      obtain ⟨k, z, rfl, rfl, hsc, hk⟩ := hrel
      have hz := scale_small hsc
      have HSC := hideP hsc; clear hsc
      rw [HM.out] at hk
      by_cases hgo : k < 10 - 10
      · omega
      · have hend : z = (v : Nat) := by
          have h3 := HSC.out.1
          have h4 := HVal.out
          rw [HM.out] at h4
          have h5 : k = 10 - 10 := by omega
          rw [h3, h4, h5]
        have HE2 := hideP hend; clear hend
        go_wp2
        go_ret3
        exact ⟨ret3_int HE2.out, hb⟩
  · have e := frac_short s n (by omega)
    have HE := hideP e; clear e
    have hmin : min n 10 = n := Nat.min_eq_left (by omega)
    have HM := hideP hmin; clear hmin
    have hsz : (s.extract 1 n).size ≤ 140737488351232 := by rw [ByteArray.size_extract]; omega
    have HSZ := hideP hsz; clear hsz
    have HT := hideP ht; clear ht
    go_enter Tryd.func16, Tryd.ntmps16
    go_wp2_with (first | (go_at_call 30; refine (atoi_yes _ x V _ HSZ.out (by assumption) (by rw [HE.out]; exact HH.out) (by rw [HE.out, ← HX.out]; have := HB.out; omega) (by rw [HE.out]; exact HN.out)).mono ?_; rintro e w1 ⟨rfl, hb⟩) | (go_at_call 29; refine (comma_yes _ _ HT.out).mono ?_; rintro e w1 ⟨rfl, rfl⟩))
    go_loop [4, 8] (fun y i => ∃ (k : Nat) (z : Int), i = .int .i64 k ∧ y = .int .i64 z ∧ ScaleAt x (min n 10) k z ∧ k ≤ 10 - min n 10) (fun _ i => 10 - (intOf i).toNat)
    case atStart => exact ⟨0, _, rfl, rfl, HS.out, Nat.zero_le _⟩
    case round =>
      obtain ⟨k, z, rfl, rfl, hsc, hk⟩ := hrel
      have hz := scale_small hsc
      have HSC := hideP hsc; clear hsc
      rw [HM.out] at hk
      by_cases hgo : k < 10 - n
      · go_wp2
        go_round
        case rel => exact ⟨k + 1, _, by go_num, rfl, by rw [HM.out] at HSC ⊢; exact scale_step HSC.out (by omega) (by omega), by rw [HM.out]; omega⟩
        case measure => simp [intOf]; omega
      · have hend : z = (v : Nat) := by
          have h3 := HSC.out.1
          have h4 := HVal.out
          rw [HM.out] at h4
          have h5 : k = 10 - n := by omega
          rw [h3, h4, h5]
        have HE2 := hideP hend; clear hend
        go_wp2
        go_ret3
        exact ⟨ret3_int HE2.out, hb⟩
set_option maxHeartbeats 1600000 in
theorem nano_no (s : ByteArray) (n : Nat) (T TA : TypeId) (x xA : Value) (w : World) (hs : s.size ≤ 140737488351232) (h0 : 0 < s.size) (h1 : 1 ≤ n) (hn : n ≤ s.size) (hV : w.cell? ⟨2, 0, none⟩ = some (.iface T x)) (hgA : 1 < w.heap.size) (hA : w.cell? ⟨1, 0, none⟩ = some (.iface TA xA))
    (hm : MarkAt s h0) (h : ¬ ∀ c ∈ bodyOf (fracOf (bl s) n), isDig c = true) :
    Calls Tryd.prog 16 #[.string s, .int .i64 n] w fun e w' => e = .returned (.tuple #[.int .i64 0, .string ⟨#[]⟩, .iface TA xA]) ∧ Below w.heap.size w w' := by
  have ht := mark_tests s h0 hm
  have HH := hideP h; clear h
  have HT := hideP ht; clear ht
  clear hm
  by_cases h10 : 10 < n
  · have e := frac_long s n h10
    have HE := hideP e; clear e
    have hsz : ((s.extract 0 10).extract 1 10).size ≤ 140737488351232 := by rw [ByteArray.size_extract]; omega
    have HSZ := hideP hsz; clear hsz
    go_enter Tryd.func16, Tryd.ntmps16
    go_wp2_with (first | (go_at_call 30; refine (atoi_no _ T TA x xA _ HSZ.out hV hgA hA (by rw [HE.out]; exact HH.out)).mono ?_; rintro e w1 ⟨rfl, hb⟩) | (go_at_call 29; refine (comma_yes _ _ HT.out).mono ?_; rintro e w1 ⟨rfl, rfl⟩))
    go_ret3
    exact ⟨rfl, hb⟩
  · have e := frac_short s n (by omega)
    have HE := hideP e; clear e
    have hsz : (s.extract 1 n).size ≤ 140737488351232 := by rw [ByteArray.size_extract]; omega
    have HSZ := hideP hsz; clear hsz
    go_enter Tryd.func16, Tryd.ntmps16
    go_wp2_with (first | (go_at_call 30; refine (atoi_no _ T TA x xA _ HSZ.out hV hgA hA (by rw [HE.out]; exact HH.out)).mono ?_; rintro e w1 ⟨rfl, hb⟩) | (go_at_call 29; refine (comma_yes _ _ HT.out).mono ?_; rintro e w1 ⟨rfl, rfl⟩))
    go_ret3
    exact ⟨rfl, hb⟩
set_option maxHeartbeats 400000 in
theorem nano_mark (s : ByteArray) (n : Int) (TB : TypeId) (xB : Value) (w : World) (h0 : 0 < s.size) (hB : w.cell? ⟨0, 0, none⟩ = some (.iface TB xB)) (hm : ¬ MarkAt s h0) :
    Calls Tryd.prog 16 #[.string s, .int .i64 n] w fun e w' => e = .returned (.tuple #[.int .i64 0, .string ⟨#[]⟩, .iface TB xB]) ∧ Below w.heap.size w w' := by
  have t1 : ((s[0].toNat : Int) == 46) = false := by rw [beq_eq_false_iff_ne]; intro e; exact hm (.inl (by omega))
  have t2 : ((s[0].toNat : Int) == 44) = false := by rw [beq_eq_false_iff_ne]; intro e; exact hm (.inr (by omega))
  clear hm
  go_enter Tryd.func16, Tryd.ntmps16
  go_wp2_with (go_at_call 29; refine (comma_no _ _ t1 t2).mono ?_; rintro e w1 ⟨rfl, rfl⟩)
  go_ret3
  exact ⟨rfl, Below.refl _ _⟩
set_option maxHeartbeats 1600000 in
theorem nano_neg (s : ByteArray) (n : Nat) (z : Int) (V : Value) (w : World) (hs : s.size ≤ 140737488351232) (h0 : 0 < s.size) (h1 : 1 ≤ n) (hn : n ≤ s.size) (hV : w.cell? ⟨2, 0, none⟩ = some V)
    (hm : MarkAt s h0) (h : ∀ c ∈ bodyOf (fracOf (bl s) n), isDig c = true) (hz : numOf (fracOf (bl s) n) = z) (hz0 : z < 0) :
    Calls Tryd.prog 16 #[.string s, .int .i64 n] w fun e w' => e = .returned (.tuple #[.int .i64 z, .string ⟨#[102, 114, 97, 99, 116, 105, 111, 110, 97, 108, 32, 115, 101, 99, 111, 110, 100]⟩, .nilIface]) ∧ Below w.heap.size w w' := by
  have hlt := frac_lt (bl s) n h
  have hb9 : dval (bodyOf (fracOf (bl s) n)) < 1000000000 := Nat.lt_of_lt_of_le hlt (Nat.pow_le_pow_right (n := 10) (by decide) (show min n 10 - 1 ≤ 9 by omega))
  have ht := mark_tests s h0 hm
  have HB := hideP hb9; clear hb9 hlt
  have HH := hideP h; clear h
  have HN := hideP hz; clear hz
  have HT := hideP ht; clear ht
  clear hm
  by_cases h10 : 10 < n
  · have e := frac_long s n h10
    have HE := hideP e; clear e
    have hsz : ((s.extract 0 10).extract 1 10).size ≤ 140737488351232 := by rw [ByteArray.size_extract]; omega
    have HSZ := hideP hsz; clear hsz
    go_enter Tryd.func16, Tryd.ntmps16
    go_wp2_with (first | (go_at_call 30; refine (atoi_yes _ z V _ HSZ.out hV (by rw [HE.out]; exact HH.out) (by rw [HE.out]; have := HB.out; omega) (by rw [HE.out]; exact HN.out)).mono ?_; rintro e w1 ⟨rfl, hb⟩) | (go_at_call 29; refine (comma_yes _ _ HT.out).mono ?_; rintro e w1 ⟨rfl, rfl⟩))
    go_ret3
    exact ⟨rfl, hb⟩
  · have e := frac_short s n (by omega)
    have HE := hideP e; clear e
    have hsz : (s.extract 1 n).size ≤ 140737488351232 := by rw [ByteArray.size_extract]; omega
    have HSZ := hideP hsz; clear hsz
    go_enter Tryd.func16, Tryd.ntmps16
    go_wp2_with (first | (go_at_call 30; refine (atoi_yes _ z V _ HSZ.out hV (by rw [HE.out]; exact HH.out) (by rw [HE.out]; have := HB.out; omega) (by rw [HE.out]; exact HN.out)).mono ?_; rintro e w1 ⟨rfl, hb⟩) | (go_at_call 29; refine (comma_yes _ _ HT.out).mono ?_; rintro e w1 ⟨rfl, rfl⟩))
    go_ret3
    exact ⟨rfl, hb⟩
end Go.Proofs.YtdgckbjfnbljkaaDoor.Tm
