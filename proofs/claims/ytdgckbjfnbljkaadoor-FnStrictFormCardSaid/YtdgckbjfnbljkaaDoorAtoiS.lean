/- AtoiS: what is needed here. -/
import Derived.Test.YtdgckbjfnbljkaaDoorProg
import Derived.Test.YtdgckbjfnbljkaaDoorSOffS
namespace Go.Proofs.YtdgckbjfnbljkaaDoor.Tm
set_option linter.unusedSimpArgs false
set_option linter.unusedVariables false
open Go.RowKit Go
def isSign (c : UInt8) : Bool := c.toNat == 43 || c.toNat == 45
/-- A number's text without its sign. -/
def bodyOf (l : List UInt8) : List UInt8 := match l with
  | [] => []
  | c :: r => if isSign c then r else c :: r
def isNeg (l : List UInt8) : Bool := match l with
  | [] => false
  | c :: _ => c.toNat == 45
theorem bodyOf_cons (c : UInt8) (r : List UInt8) : bodyOf (c :: r) = if isSign c then r else c :: r := by rw [bodyOf]
theorem isNeg_cons (c : UInt8) (r : List UInt8) : isNeg (c :: r) = (c.toNat == 45) := by rw [isNeg]
def numOf (l : List UInt8) : Int := if isNeg l then - (dval (bodyOf l) : Int) else dval (bodyOf l)
theorem digs_all (l : List UInt8) (h : ∀ c ∈ l, isDig c = true) : digs l = l := by
  have := takeWhile_all_append isDig l [] h (by simp)
  simpa [digs] using this
theorem digs_mem (l : List UInt8) : ∀ c ∈ digs l, isDig c = true := by
  induction l with
  | nil => simp [digs]
  | cons a r ih =>
    intro c hc
    rw [digs, List.takeWhile_cons] at hc
    by_cases h : isDig a = true
    · rw [if_pos h] at hc
      rcases List.mem_cons.1 hc with rfl | hc
      · exact h
      · exact ih c hc
    · rw [if_neg h] at hc; cases hc
theorem digs_prefix (l : List UInt8) : digs l = l.take (digs l).length := by
  have h : digs l ++ l.dropWhile isDig = l := List.takeWhile_append_dropWhile
  conv => rhs; arg 2; rw [← h]
  rw [List.take_left]
theorem digs_eq_of_len (l : List UInt8) (h : (digs l).length = l.length) : digs l = l := by
  rw [digs_prefix, h, List.take_length]
theorem digs_lt (l : List UInt8) (h : ¬ ∀ c ∈ l, isDig c = true) : (digs l).length < l.length := by
  rcases Nat.lt_or_ge (digs l).length l.length with g | g
  · exact g
  · have := digs_le l
    have e := digs_eq_of_len l (by omega)
    exact absurd (fun c hc => digs_mem l c (by rw [e]; exact hc)) h
theorem lead_full (s : ByteArray) (V : Value) (w : World) (hs : s.size ≤ 140737488351232) (hV : w.cell? ⟨2, 0, none⟩ = some V) (h : ∀ c ∈ bl s, isDig c = true) (hle : dval (bl s) ≤ 9223372036854775808) :
    Calls Tryd.prog 44 #[.string s] w fun e w' => ∃ rem, e = .returned (.tuple #[.int .u64 (dval (bl s) : Nat), .string rem, .nilIface]) ∧ rem.size = 0 ∧ Below w.heap.size w w' := by
  have hd := digs_all _ h
  refine (lead_any s V w hs hV).mono fun e w' he => ?_
  rcases he with ⟨rfl, _, hb⟩ | ⟨_, hgt, _⟩
  · exact ⟨_, by rw [hd], by rw [bl_length, ByteArray.size_extract]; omega, hb⟩
  · rw [hd] at hgt; omega
theorem lead_part (s : ByteArray) (T : TypeId) (x : Value) (w : World) (hs : s.size ≤ 140737488351232) (hV : w.cell? ⟨2, 0, none⟩ = some (.iface T x)) (h : ¬ ∀ c ∈ bl s, isDig c = true) :
    Calls Tryd.prog 44 #[.string s] w fun e w' => ∃ v rem E, e = .returned (.tuple #[.int .u64 v, .string rem, E]) ∧ 0 ≤ v ∧ v ≤ 9223372036854775808 ∧ ((E = .nilIface ∧ 0 < rem.size ∧ rem.size ≤ s.size) ∨ (E = .iface T x)) ∧ Below w.heap.size w w' := by
  have hl := digs_lt _ h
  rw [bl_length] at hl
  refine (lead_any s _ w hs hV).mono fun e w' he => ?_
  rcases he with ⟨rfl, hle, hb⟩ | ⟨rfl, _, hb⟩
  · exact ⟨_, _, _, rfl, by omega, by omega, .inl ⟨rfl, by rw [ByteArray.size_extract]; omega, by rw [ByteArray.size_extract]; omega⟩, hb⟩
  · exact ⟨_, _, _, rfl, by omega, by omega, .inr rfl, hb⟩
theorem sign_cases (s : ByteArray) (h0 : 0 < s.size) :
    (bodyOf (bl s) = bl (s.extract 1 s.size) ∧ isNeg (bl s) = true ∧ ((s[0].toNat : Int) == 45) = true) ∨
    (bodyOf (bl s) = bl (s.extract 1 s.size) ∧ isNeg (bl s) = false ∧ ((s[0].toNat : Int) == 45) = false ∧ ((s[0].toNat : Int) == 43) = true) ∨
    (bodyOf (bl s) = bl s ∧ isNeg (bl s) = false ∧ ((s[0].toNat : Int) == 45) = false ∧ ((s[0].toNat : Int) == 43) = false) := by
  rw [bl_first s h0, bodyOf_cons, isNeg_cons]
  simp only [beq_iff_eq, beq_eq_false_iff_ne]
  by_cases h1 : s[0].toNat = 45
  · exact .inl ⟨by rw [if_pos (by simp [isSign, h1])], h1, by omega⟩
  · by_cases h2 : s[0].toNat = 43
    · exact .inr (.inl ⟨by rw [if_pos (by simp [isSign, h2])], h1, by omega, by omega⟩)
    · exact .inr (.inr ⟨by rw [if_neg (by simp [isSign, h1, h2])], h1, by omega, by omega⟩)
theorem ret2_int {a b : Int} {E : Value} (h : a = b) : Ending.returned (.tuple #[.int .i64 a, E]) = .returned (.tuple #[.int .i64 b, E]) := by rw [h]
set_option maxHeartbeats 1600000 in
theorem atoi_yes (s : ByteArray) (z : Int) (V : Value) (w : World) (hs : s.size ≤ 140737488351232) (hV : w.cell? ⟨2, 0, none⟩ = some V) (h : ∀ c ∈ bodyOf (bl s), isDig c = true) (hle : dval (bodyOf (bl s)) ≤ 9223372036854775807) (hz : numOf (bl s) = z) :
    Calls Tryd.prog 30 #[.string s] w fun e w' => e = .returned (.tuple #[.int .i64 z, .nilIface]) ∧ Below w.heap.size w w' := by
  rcases Nat.eq_zero_or_pos s.size with e | h0
  · obtain rfl := empty_of s e
    obtain rfl : (0 : Int) = z := by rw [← hz]; decide
    clear hz h hle
    go_enter Tryd.func30, Tryd.ntmps30
    go_wp2_with (go_at_call 44; refine (lead_none _ V _ hs hV rfl).mono ?_; rintro e w1 ⟨rfl, hb⟩)
    go_ret2
    exact ⟨rfl, hb⟩
  have hz1 : (s.extract 1 s.size).size ≤ 140737488351232 := by rw [ByteArray.size_extract]; omega
  rw [numOf] at hz
  obtain ⟨v, hv⟩ : ∃ v : Nat, v = dval (bodyOf (bl s)) := ⟨_, rfl⟩
  rw [← hv] at hz hle
  rcases sign_cases s h0 with ⟨e1, e2, t1⟩ | ⟨e1, e2, t1, t2⟩ | ⟨e1, e2, t1, t2⟩
  all_goals
    rw [e1] at h hv
    simp only [e2, if_true, Bool.false_eq_true, if_false] at hz
    clear e1 e2
    have HH := hideP h; clear h
    have HV := hideP hv; clear hv
    have HZ := hideP hz; clear hz
    go_enter Tryd.func30, Tryd.ntmps30
    go_wp2_with (go_at_call 44; refine (lead_full _ V _ (by assumption) hV HH.out (by have := HV.out; omega)).mono ?_; rintro e w1 ⟨rem, rfl, hrem, hb⟩; rw [← HV.out])
    go_ret2
    exact ⟨ret2_int HZ.out, hb⟩
set_option maxHeartbeats 1600000 in
theorem atoi_no (s : ByteArray) (T TA : TypeId) (x xA : Value) (w : World) (hs : s.size ≤ 140737488351232) (hV : w.cell? ⟨2, 0, none⟩ = some (.iface T x)) (hg : 1 < w.heap.size) (hA : w.cell? ⟨1, 0, none⟩ = some (.iface TA xA)) (h : ¬ ∀ c ∈ bodyOf (bl s), isDig c = true) :
    Calls Tryd.prog 30 #[.string s] w fun e w' => e = .returned (.tuple #[.int .i64 0, .iface TA xA]) ∧ Below w.heap.size w w' := by
  rcases Nat.eq_zero_or_pos s.size with e | h0
  · obtain rfl := empty_of s e
    exact absurd (fun c hc => by cases hc) h
  have hz1 : (s.extract 1 s.size).size ≤ 140737488351232 := by rw [ByteArray.size_extract]; omega
  rcases sign_cases s h0 with ⟨e1, _, t1⟩ | ⟨e1, _, t1, t2⟩ | ⟨e1, _, t1, t2⟩
  all_goals
    rw [e1] at h
    clear e1
    have HH := hideP h; clear h
    go_enter Tryd.func30, Tryd.ntmps30
    go_wp2_with (go_at_call 44; refine (lead_part _ T x _ (by assumption) hV HH.out).mono ?_; rintro e w1 ⟨v, rem, E, rfl, hv0, hv1, (⟨rfl, hr, hr2⟩ | rfl), hb⟩; (all_goals have hA1 := (hb.cell (p := ⟨1, 0, none⟩) hg).trans hA))
    all_goals
      go_quiet (fail)
      go_wp2
      go_ret2
      exact ⟨rfl, below_drewN hb _⟩
end Go.Proofs.YtdgckbjfnbljkaaDoor.Tm
