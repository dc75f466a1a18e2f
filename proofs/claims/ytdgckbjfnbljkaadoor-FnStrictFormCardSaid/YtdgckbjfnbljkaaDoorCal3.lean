/- Cal3: what is needed here. -/
import Derived.Test.YtdgckbjfnbljkaaDoorProg
import Derived.Test.YtdgckbjfnbljkaaDoorCal2
namespace Go.Proofs.YtdgckbjfnbljkaaDoor.Tm
set_option linter.unusedSimpArgs false
set_option linter.unusedVariables false
open Go.RowKit Go
theorem ret_u64 {a b : Int} (h : a = b) : Ending.returned (.int .u64 a) = .returned (.int .u64 b) := by rw [h]
theorem dayOf_int (y m d : Nat) (Yi am : Int) (hm : 1 ≤ m) (hd : 1 ≤ d) (hY : (yAbs y m : Int) = Yi) (ha : ((m + 12 * jfOf m : Nat) : Int) = am) :
    (dayOf y m d : Int) = 146097 * (Yi / 100) / 4 + (1461 * (Yi % 100) / 4 + (979 * am - 2919) / 32 + d - 1) := by
  subst hY ha
  unfold dayOf dayNo ayOf mStart
  have h3 : 3 ≤ m + 12 * jfOf m := by rcases jf_cases m with ⟨_, hj⟩ | ⟨_, hj⟩ <;> rw [hj] <;> omega
  generalize m + 12 * jfOf m = a at *
  generalize yAbs y m = Y
  obtain ⟨k, hk⟩ : ∃ k, 979 * a = 2919 + k := ⟨979 * a - 2919, by omega⟩
  have q3 : 979 * a - 2919 = k := by omega
  have q4 : 979 * (a : Int) - 2919 = k := by omega
  rw [q3, q4]
  have q1 : ((146097 * (Y / 100) / 4 : Nat) : Int) = 146097 * ((Y : Int) / 100) / 4 := rfl
  have q2 : ((1461 * (Y % 100) / 4 : Nat) : Int) = 1461 * ((Y : Int) % 100) / 4 := rfl
  rw [← q1, ← q2]
  have q5 : ((k / 32 : Nat) : Int) = (k : Int) / 32 := rfl
  rw [← q5]
  generalize 146097 * (Y / 100) / 4 = A
  generalize 1461 * (Y % 100) / 4 = B
  generalize k / 32 = C
  omega
set_option maxRecDepth 10000 in
set_option maxHeartbeats 800000 in
theorem toDays_any (y m d : Nat) (w : World) (h : DayOk y m d) :
    Calls Tryd.prog 32 #[.int .i64 y, .int .i64 m, .int .i64 d] w (QuietV (.int .u64 (dayOf y m d : Nat)) w) := by
  have HD := hideP (fun Yi am => dayOf_int y m d Yi am h.2.1 h.2.2.2.1)
  obtain ⟨hy, h1, h2, h3, h4, _⟩ := h
  have hd : d ≤ 31 := by unfold mLen at h4; repeat' split at h4
                         all_goals omega
  have hw1 : IntKind.u64.wrap (-1) = 18446744073709551615 := by kernel_rfl
  have hw2 : IntKind.u64.wrap (18446744073709551615 + 292277022400) = 292277022399 := by kernel_rfl
  have hw3 : IntKind.u64.wrap 18446744365986574015 = 292277022399 := by kernel_rfl
  have b1 : (y : Int) ≤ 9999 := by omega
  have b2 : (m : Int) ≤ 12 := by omega
  have b3 : (1 : Int) ≤ m := by omega
  have b4 : (d : Int) ≤ 31 := by omega
  have b5 : (1 : Int) ≤ d := by omega

  clear h4 h1 h2 h3 hd
  rcases jf_cases m with ⟨hm, hj⟩ | ⟨hm, hj⟩
  · rcases Nat.eq_zero_or_pos y with rfl | h0
    · have HE := hideP (show yAbs 0 m = 292277022399 by unfold yAbs; rw [hj])
      have hm' : (m : Int) < 3 := by omega
      have HJ := hideP hj
      clear hm hj hy
      go_enter Tryd.func32, Tryd.ntmps32
      go_wp2
      go_ret
      exact ⟨ret_u64 (by rw [HD.out 292277022399 (m + 12) (by rw [HE.out]; rfl) (by rw [HJ.out]; omega)]; omega), rfl⟩
    · have HE := hideP (show yAbs y m = y + 292277022400 - 1 by unfold yAbs; rw [hj])
      have hm' : (m : Int) < 3 := by omega
      have h0' : (1 : Int) ≤ y := by omega
      have HJ := hideP hj
      clear hm hj hy h0
      go_enter Tryd.func32, Tryd.ntmps32
      go_wp2
      go_ret
      exact ⟨ret_u64 (by rw [HD.out (y - 1 + 292277022400) (m + 12) (by rw [HE.out]; omega) (by rw [HJ.out]; omega)]; try omega), rfl⟩
  · have HE := hideP (show yAbs y m = y + 292277022400 by unfold yAbs; rw [hj]; rfl)
    have hm' : ¬ (m : Int) < 3 := by omega
    have HJ := hideP hj
    clear hm hj hy
    go_enter Tryd.func32, Tryd.ntmps32
    go_wp2
    go_ret
    exact ⟨ret_u64 (by rw [HD.out (y + 292277022400) m (by rw [HE.out]; omega) (by rw [HJ.out]; omega)]; try omega), rfl⟩
end Go.Proofs.YtdgckbjfnbljkaaDoor.Tm
