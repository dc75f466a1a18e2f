/- The walks of the reference's Within, ZoneOk. -/
import Derived.Test.YtmojdmgpfpbpeaaDoorProg
import Derived.Test.YtmojdmgpfpbpeaaDoorBase
namespace Go.Proofs.YtmojdmgpfpbpeaaDoor.Tm
open Go.RowKit Go

theorem within_yes (n lo hi : Int) (w : World) (h1 : lo ≤ n) (h2 : n ≤ hi) : Calls Tryd.prog 24 #[.int .i64 n, .int .i64 lo, .int .i64 hi] w fun e w' => e = .returned (.bool true) ∧ w = w' := by
  go_enter Tryd.func24, Tryd.ntmps24
  go_wp2
  go_ret
  exact ⟨by simp, rfl⟩
theorem within_no (n lo hi : Int) (w : World) (h : n < lo ∨ hi < n) : Calls Tryd.prog 24 #[.int .i64 n, .int .i64 lo, .int .i64 hi] w fun e w' => e = .returned (.bool false) ∧ w = w' := by
  by_cases h1 : n < lo
  · go_enter Tryd.func24, Tryd.ntmps24
    go_wp2
    go_ret
    exact ⟨by first | rfl | (simp; omega), rfl⟩
  · have h2 : hi < n := by omega
    have h3 : lo ≤ n := by omega
    clear h h1
    go_enter Tryd.func24, Tryd.ntmps24
    go_wp2
    go_ret
    exact ⟨by first | rfl | (simp; omega), rfl⟩

def ZoneOkP (nm : ByteArray) (off : Int) : Prop := 0 < nm.size ∧ nm.size ≤ 100 ∧ (-86399 ≤ off ∧ off ≤ 86399) ∧ (off = 0 ∨ off ≤ -60 ∨ 60 ≤ off) ∧ (bl nm ≠ [85, 84, 67] ∨ off = 0)
instance (nm : ByteArray) (off : Int) : Decidable (ZoneOkP nm off) := by unfold ZoneOkP; infer_instance
def utcB (nm : ByteArray) : Bool := nm.toList == [85, 84, 67]
theorem utcB_iff (nm : ByteArray) : utcB nm = true ↔ bl nm = [85, 84, 67] := by rw [utcB, toList_eq, beq_iff_eq]

set_option maxHeartbeats 1600000 in
theorem zoneOk_yes (nm : ByteArray) (off : Int) (w : World) (h : ZoneOkP nm off) : Calls Tryd.prog 18 #[.agg #[.string nm, .int .i64 off]] w fun e w' => e = .returned (.bool true) ∧ Below w.heap.size w w' := by
  obtain ⟨h1, h2, ⟨h3, h4⟩, h5, h6⟩ := h
  have hne := toList_ne nm h1
  have hne2 := isEmpty_ne nm h1
  have t3 : (nm.toList == [85, 84, 67]) = false ∨ ((nm.toList == [85, 84, 67]) = true ∧ off = 0) := by
    cases e : utcB nm
    · exact .inl e
    · exact .inr ⟨e, h6.resolve_left (fun g => g ((utcB_iff nm).1 e))⟩
  have t5 : (off == 0) = true ∨ ((off == 0) = false ∧ off ≤ -60) ∨ ((off == 0) = false ∧ ¬ off ≤ -60 ∧ 60 ≤ off) := by
    simp only [beq_iff_eq, beq_eq_false_iff_ne]; omega
  clear h5 h6
  rcases t5 with t5 | ⟨t5, t6⟩ | ⟨t5, t6, t7⟩
  all_goals
    rcases t3 with t3 | ⟨t3, t4⟩
    all_goals first
      | (exfalso; simp only [beq_eq_false_iff_ne] at t5; omega)
      | (try clear t4
         go_enter Tryd.func18, Tryd.ntmps18
         go_wp2_with (go_at_call 24; refine (within_yes _ _ _ _ h3 h4).mono ?_; rintro e w1 ⟨rfl, rfl⟩)
         go_ret
         exact ⟨by simp [*], (Below.refl _ _).alloc (Nat.le_refl _) _⟩)

set_option maxHeartbeats 1600000 in
theorem zoneOk_no (nm : ByteArray) (off : Int) (w : World) (h : ¬ ZoneOkP nm off) (hs : nm.size ≤ 140737488351232) : Calls Tryd.prog 18 #[.agg #[.string nm, .int .i64 off]] w fun e w' => e = .returned (.bool false) ∧ Below w.heap.size w w' := by
  rcases Nat.eq_zero_or_pos nm.size with e0 | h1
  · obtain rfl := empty_of nm e0
    clear h
    go_enter Tryd.func18, Tryd.ntmps18
    go_wp2
    go_ret
    exact ⟨by simp [*], (Below.refl _ _).alloc (Nat.le_refl _) _⟩
  have hne := toList_ne nm h1
  have hne2 := isEmpty_ne nm h1
  by_cases h2 : nm.size ≤ 100
  case neg =>
    have h2i : ¬ (nm.size : Int) ≤ 100 := by omega
    clear h
    go_enter Tryd.func18, Tryd.ntmps18
    go_wp2
    go_ret
    exact ⟨by simp [*], (Below.refl _ _).alloc (Nat.le_refl _) _⟩
  by_cases h34 : -86399 ≤ off ∧ off ≤ 86399
  case neg =>
    have hno : off < -86399 ∨ 86399 < off := by omega
    clear h h34
    go_enter Tryd.func18, Tryd.ntmps18
    go_wp2_with (go_at_call 24; refine (within_no _ _ _ _ hno).mono ?_; rintro e w1 ⟨rfl, rfl⟩)
    go_ret
    exact ⟨by simp [*], (Below.refl _ _).alloc (Nat.le_refl _) _⟩
  obtain ⟨h3, h4⟩ := h34
  by_cases h5 : off = 0 ∨ off ≤ -60 ∨ 60 ≤ off
  case neg =>
    have t1 : (off == 0) = false := by rw [beq_eq_false_iff_ne]; omega
    have t2 : ¬ off ≤ -60 := by omega
    have t3 : ¬ 60 ≤ off := by omega
    clear h h5
    go_enter Tryd.func18, Tryd.ntmps18
    go_wp2_with (go_at_call 24; refine (within_yes _ _ _ _ h3 h4).mono ?_; rintro e w1 ⟨rfl, rfl⟩)
    go_ret
    exact ⟨by simp [*], (Below.refl _ _).alloc (Nat.le_refl _) _⟩
  have h6 : bl nm = [85, 84, 67] ∧ off ≠ 0 := by
    by_cases g : bl nm = [85, 84, 67]
    · exact ⟨g, fun g2 => h ⟨h1, h2, ⟨h3, h4⟩, h5, .inr g2⟩⟩
    · exact absurd ⟨h1, h2, ⟨h3, h4⟩, h5, .inl g⟩ h
  have t3 : (nm.toList == [85, 84, 67]) = true := (utcB_iff nm).2 h6.1
  have t5 : (off == 0) = false := by rw [beq_eq_false_iff_ne]; exact h6.2
  have t6 : off ≤ -60 ∨ (¬ off ≤ -60 ∧ 60 ≤ off) := by omega
  clear h h5 h6
  rcases t6 with t6 | ⟨t6, t7⟩
  all_goals
    go_enter Tryd.func18, Tryd.ntmps18
    go_wp2_with (go_at_call 24; refine (within_yes _ _ _ _ h3 h4).mono ?_; rintro e w1 ⟨rfl, rfl⟩)
    go_ret
    exact ⟨by simp [*], (Below.refl _ _).alloc (Nat.le_refl _) _⟩
end Go.Proofs.YtmojdmgpfpbpeaaDoor.Tm
