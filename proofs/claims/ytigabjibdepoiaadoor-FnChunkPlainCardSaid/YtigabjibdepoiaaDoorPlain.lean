/- The walk of the reference's Plain. -/
import Derived.Test.YtigabjibdepoiaaDoorProg
import Derived.Test.YtigabjibdepoiaaDoorBase
namespace Go.Proofs.YtigabjibdepoiaaDoor.Tm
set_option linter.unusedSimpArgs false
set_option linter.unusedVariables false
open Go.RowKit Go
/-- The bytes of a plain text. -/
def okB (n : Nat) : Prop := (65 ≤ n ∧ n ≤ 73) ∨ n = 84 ∨ n = 87 ∨ n = 88 ∨ (32 ≤ n ∧ n ≤ 43) ∨ n = 45 ∨ n = 47 ∨ (58 ≤ n ∧ n ≤ 64) ∨ (91 ≤ n ∧ n ≤ 94) ∨ (123 ≤ n ∧ n ≤ 126)
def PlainTo (s : ByteArray) (k : Nat) : Prop := k ≤ s.size ∧ ∀ c ∈ (bl s).take k, okB c.toNat
theorem plain_step (s : ByteArray) (k : Nat) (h : PlainTo s k) (hlt : k < s.size) (hc : okB s[k].toNat) : PlainTo s (k + 1) := by
  refine ⟨hlt, ?_⟩
  rw [bl_take s k hlt]
  intro c hcm
  rcases List.mem_append.1 hcm with g | g
  · exact h.2 c g
  · obtain rfl := List.mem_singleton.1 g; exact hc
def PlainPost (s : ByteArray) (w : World) (e : Ending) (w' : World) : Prop := ∃ b, e = .returned (.bool b) ∧ (b = true → s.size ≤ 1000 ∧ ∀ c ∈ bl s, okB c.toNat) ∧ w = w'
set_option maxRecDepth 100000 in
set_option maxHeartbeats 100000000 in
theorem plain_any (s : ByteArray) (w : World) (hs : s.size ≤ 140737488351232) :
    Calls Tryd.prog 16 #[.string s] w (PlainPost s w) := by
  go_enter Tryd.func16, Tryd.ntmps16
  go_wp2
  go_loop [3] (fun i => ∃ k : Nat, i = .int .i64 k ∧ PlainTo s k) (fun i => s.size - (intOf i).toNat)
  case atStart => exact ⟨0, rfl, Nat.zero_le _, by simp⟩
  case round =>
    obtain ⟨k, rfl, hp⟩ := hrel
    have hk := hp.1
    have HP := hideP hp
    clear hp
    by_cases hlt : k < s.size
    · have hbyte := s[k].toNat_lt
      have hsp : ((0 : Int) ≤ s[k].toNat ∧ (s[k].toNat : Int) ≤ 31) ∨ ((32 : Int) ≤ s[k].toNat ∧ (s[k].toNat : Int) ≤ 32) ∨ ((33 : Int) ≤ s[k].toNat ∧ (s[k].toNat : Int) ≤ 43) ∨ ((44 : Int) ≤ s[k].toNat ∧ (s[k].toNat : Int) ≤ 44) ∨ ((45 : Int) ≤ s[k].toNat ∧ (s[k].toNat : Int) ≤ 45) ∨ ((46 : Int) ≤ s[k].toNat ∧ (s[k].toNat : Int) ≤ 46) ∨ ((47 : Int) ≤ s[k].toNat ∧ (s[k].toNat : Int) ≤ 47) ∨ ((48 : Int) ≤ s[k].toNat ∧ (s[k].toNat : Int) ≤ 57) ∨ ((58 : Int) ≤ s[k].toNat ∧ (s[k].toNat : Int) ≤ 64) ∨ ((65 : Int) ≤ s[k].toNat ∧ (s[k].toNat : Int) ≤ 73) ∨ ((74 : Int) ≤ s[k].toNat ∧ (s[k].toNat : Int) ≤ 83) ∨ ((84 : Int) ≤ s[k].toNat ∧ (s[k].toNat : Int) ≤ 84) ∨ ((85 : Int) ≤ s[k].toNat ∧ (s[k].toNat : Int) ≤ 86) ∨ ((87 : Int) ≤ s[k].toNat ∧ (s[k].toNat : Int) ≤ 87) ∨ ((88 : Int) ≤ s[k].toNat ∧ (s[k].toNat : Int) ≤ 88) ∨ ((89 : Int) ≤ s[k].toNat ∧ (s[k].toNat : Int) ≤ 90) ∨ ((91 : Int) ≤ s[k].toNat ∧ (s[k].toNat : Int) ≤ 94) ∨ ((95 : Int) ≤ s[k].toNat ∧ (s[k].toNat : Int) ≤ 122) ∨ ((123 : Int) ≤ s[k].toNat ∧ (s[k].toNat : Int) ≤ 126) ∨ ((127 : Int) ≤ s[k].toNat ∧ (s[k].toNat : Int) ≤ 255) := by omega
      rcases hsp with ⟨b1, b2⟩ | ⟨b1, b2⟩ | ⟨b1, b2⟩ | ⟨b1, b2⟩ | ⟨b1, b2⟩ | ⟨b1, b2⟩ | ⟨b1, b2⟩ | ⟨b1, b2⟩ | ⟨b1, b2⟩ | ⟨b1, b2⟩ | ⟨b1, b2⟩ | ⟨b1, b2⟩ | ⟨b1, b2⟩ | ⟨b1, b2⟩ | ⟨b1, b2⟩ | ⟨b1, b2⟩ | ⟨b1, b2⟩ | ⟨b1, b2⟩ | ⟨b1, b2⟩ | ⟨b1, b2⟩
      · skip
        have f65 : ¬ (65 : Int) ≤ (s[k].toNat : Int) := by omega
        have f33 : ¬ (33 : Int) ≤ (s[k].toNat : Int) := by omega
        have f58 : ¬ (58 : Int) ≤ (s[k].toNat : Int) := by omega
        have f91 : ¬ (91 : Int) ≤ (s[k].toNat : Int) := by omega
        have f123 : ¬ (123 : Int) ≤ (s[k].toNat : Int) := by omega
        have f73 : (s[k].toNat : Int) ≤ 73 := by omega
        have f43 : (s[k].toNat : Int) ≤ 43 := by omega
        have f64 : (s[k].toNat : Int) ≤ 64 := by omega
        have f94 : (s[k].toNat : Int) ≤ 94 := by omega
        have f126 : (s[k].toNat : Int) ≤ 126 := by omega
        have f84 : ((s[k].toNat : Int) == 84) = false := by rw [beq_eq_false_iff_ne]; omega
        have f87 : ((s[k].toNat : Int) == 87) = false := by rw [beq_eq_false_iff_ne]; omega
        have f88 : ((s[k].toNat : Int) == 88) = false := by rw [beq_eq_false_iff_ne]; omega
        have f32 : ((s[k].toNat : Int) == 32) = false := by rw [beq_eq_false_iff_ne]; omega
        have f45 : ((s[k].toNat : Int) == 45) = false := by rw [beq_eq_false_iff_ne]; omega
        have f47 : ((s[k].toNat : Int) == 47) = false := by rw [beq_eq_false_iff_ne]; omega
        clear b1 b2 hbyte
        go_wp2
        all_goals (go_ret; exact ⟨false, rfl, fun h => (by cases h), rfl⟩)
      · have HOK := hideP (show okB s[k].toNat by unfold okB; omega)
        have f65 : ¬ (65 : Int) ≤ (s[k].toNat : Int) := by omega
        have f33 : ¬ (33 : Int) ≤ (s[k].toNat : Int) := by omega
        have f58 : ¬ (58 : Int) ≤ (s[k].toNat : Int) := by omega
        have f91 : ¬ (91 : Int) ≤ (s[k].toNat : Int) := by omega
        have f123 : ¬ (123 : Int) ≤ (s[k].toNat : Int) := by omega
        have f73 : (s[k].toNat : Int) ≤ 73 := by omega
        have f43 : (s[k].toNat : Int) ≤ 43 := by omega
        have f64 : (s[k].toNat : Int) ≤ 64 := by omega
        have f94 : (s[k].toNat : Int) ≤ 94 := by omega
        have f126 : (s[k].toNat : Int) ≤ 126 := by omega
        have f84 : ((s[k].toNat : Int) == 84) = false := by rw [beq_eq_false_iff_ne]; omega
        have f87 : ((s[k].toNat : Int) == 87) = false := by rw [beq_eq_false_iff_ne]; omega
        have f88 : ((s[k].toNat : Int) == 88) = false := by rw [beq_eq_false_iff_ne]; omega
        have f32 : ((s[k].toNat : Int) == 32) = true := by rw [beq_iff_eq]; omega
        have f45 : ((s[k].toNat : Int) == 45) = false := by rw [beq_eq_false_iff_ne]; omega
        have f47 : ((s[k].toNat : Int) == 47) = false := by rw [beq_eq_false_iff_ne]; omega
        clear b1 b2 hbyte
        go_wp2
        go_round
        case rel => exact ⟨k + 1, by go_num, plain_step s k HP.out hlt HOK.out⟩
        case measure => simp [intOf]; omega
      · have HOK := hideP (show okB s[k].toNat by unfold okB; omega)
        have f65 : ¬ (65 : Int) ≤ (s[k].toNat : Int) := by omega
        have f33 : (33 : Int) ≤ (s[k].toNat : Int) := by omega
        have f58 : ¬ (58 : Int) ≤ (s[k].toNat : Int) := by omega
        have f91 : ¬ (91 : Int) ≤ (s[k].toNat : Int) := by omega
        have f123 : ¬ (123 : Int) ≤ (s[k].toNat : Int) := by omega
        have f73 : (s[k].toNat : Int) ≤ 73 := by omega
        have f43 : (s[k].toNat : Int) ≤ 43 := by omega
        have f64 : (s[k].toNat : Int) ≤ 64 := by omega
        have f94 : (s[k].toNat : Int) ≤ 94 := by omega
        have f126 : (s[k].toNat : Int) ≤ 126 := by omega
        have f84 : ((s[k].toNat : Int) == 84) = false := by rw [beq_eq_false_iff_ne]; omega
        have f87 : ((s[k].toNat : Int) == 87) = false := by rw [beq_eq_false_iff_ne]; omega
        have f88 : ((s[k].toNat : Int) == 88) = false := by rw [beq_eq_false_iff_ne]; omega
        have f32 : ((s[k].toNat : Int) == 32) = false := by rw [beq_eq_false_iff_ne]; omega
        have f45 : ((s[k].toNat : Int) == 45) = false := by rw [beq_eq_false_iff_ne]; omega
        have f47 : ((s[k].toNat : Int) == 47) = false := by rw [beq_eq_false_iff_ne]; omega
        clear b1 b2 hbyte
        go_wp2
        go_round
        case rel => exact ⟨k + 1, by go_num, plain_step s k HP.out hlt HOK.out⟩
        case measure => simp [intOf]; omega
      · skip
        have f65 : ¬ (65 : Int) ≤ (s[k].toNat : Int) := by omega
        have f33 : (33 : Int) ≤ (s[k].toNat : Int) := by omega
        have f58 : ¬ (58 : Int) ≤ (s[k].toNat : Int) := by omega
        have f91 : ¬ (91 : Int) ≤ (s[k].toNat : Int) := by omega
        have f123 : ¬ (123 : Int) ≤ (s[k].toNat : Int) := by omega
        have f73 : (s[k].toNat : Int) ≤ 73 := by omega
        have f43 : ¬ (s[k].toNat : Int) ≤ 43 := by omega
        have f64 : (s[k].toNat : Int) ≤ 64 := by omega
        have f94 : (s[k].toNat : Int) ≤ 94 := by omega
        have f126 : (s[k].toNat : Int) ≤ 126 := by omega
        have f84 : ((s[k].toNat : Int) == 84) = false := by rw [beq_eq_false_iff_ne]; omega
        have f87 : ((s[k].toNat : Int) == 87) = false := by rw [beq_eq_false_iff_ne]; omega
        have f88 : ((s[k].toNat : Int) == 88) = false := by rw [beq_eq_false_iff_ne]; omega
        have f32 : ((s[k].toNat : Int) == 32) = false := by rw [beq_eq_false_iff_ne]; omega
        have f45 : ((s[k].toNat : Int) == 45) = false := by rw [beq_eq_false_iff_ne]; omega
        have f47 : ((s[k].toNat : Int) == 47) = false := by rw [beq_eq_false_iff_ne]; omega
        clear b1 b2 hbyte
        go_wp2
        all_goals (go_ret; exact ⟨false, rfl, fun h => (by cases h), rfl⟩)
      · have HOK := hideP (show okB s[k].toNat by unfold okB; omega)
        have f65 : ¬ (65 : Int) ≤ (s[k].toNat : Int) := by omega
        have f33 : (33 : Int) ≤ (s[k].toNat : Int) := by omega
        have f58 : ¬ (58 : Int) ≤ (s[k].toNat : Int) := by omega
        have f91 : ¬ (91 : Int) ≤ (s[k].toNat : Int) := by omega
        have f123 : ¬ (123 : Int) ≤ (s[k].toNat : Int) := by omega
        have f73 : (s[k].toNat : Int) ≤ 73 := by omega
        have f43 : ¬ (s[k].toNat : Int) ≤ 43 := by omega
        have f64 : (s[k].toNat : Int) ≤ 64 := by omega
        have f94 : (s[k].toNat : Int) ≤ 94 := by omega
        have f126 : (s[k].toNat : Int) ≤ 126 := by omega
        have f84 : ((s[k].toNat : Int) == 84) = false := by rw [beq_eq_false_iff_ne]; omega
        have f87 : ((s[k].toNat : Int) == 87) = false := by rw [beq_eq_false_iff_ne]; omega
        have f88 : ((s[k].toNat : Int) == 88) = false := by rw [beq_eq_false_iff_ne]; omega
        have f32 : ((s[k].toNat : Int) == 32) = false := by rw [beq_eq_false_iff_ne]; omega
        have f45 : ((s[k].toNat : Int) == 45) = true := by rw [beq_iff_eq]; omega
        have f47 : ((s[k].toNat : Int) == 47) = false := by rw [beq_eq_false_iff_ne]; omega
        clear b1 b2 hbyte
        go_wp2
        go_round
        case rel => exact ⟨k + 1, by go_num, plain_step s k HP.out hlt HOK.out⟩
        case measure => simp [intOf]; omega
      · skip
        have f65 : ¬ (65 : Int) ≤ (s[k].toNat : Int) := by omega
        have f33 : (33 : Int) ≤ (s[k].toNat : Int) := by omega
        have f58 : ¬ (58 : Int) ≤ (s[k].toNat : Int) := by omega
        have f91 : ¬ (91 : Int) ≤ (s[k].toNat : Int) := by omega
        have f123 : ¬ (123 : Int) ≤ (s[k].toNat : Int) := by omega
        have f73 : (s[k].toNat : Int) ≤ 73 := by omega
        have f43 : ¬ (s[k].toNat : Int) ≤ 43 := by omega
        have f64 : (s[k].toNat : Int) ≤ 64 := by omega
        have f94 : (s[k].toNat : Int) ≤ 94 := by omega
        have f126 : (s[k].toNat : Int) ≤ 126 := by omega
        have f84 : ((s[k].toNat : Int) == 84) = false := by rw [beq_eq_false_iff_ne]; omega
        have f87 : ((s[k].toNat : Int) == 87) = false := by rw [beq_eq_false_iff_ne]; omega
        have f88 : ((s[k].toNat : Int) == 88) = false := by rw [beq_eq_false_iff_ne]; omega
        have f32 : ((s[k].toNat : Int) == 32) = false := by rw [beq_eq_false_iff_ne]; omega
        have f45 : ((s[k].toNat : Int) == 45) = false := by rw [beq_eq_false_iff_ne]; omega
        have f47 : ((s[k].toNat : Int) == 47) = false := by rw [beq_eq_false_iff_ne]; omega
        clear b1 b2 hbyte
        go_wp2
        all_goals (go_ret; exact ⟨false, rfl, fun h => (by cases h), rfl⟩)
      · have HOK := hideP (show okB s[k].toNat by unfold okB; omega)
        have f65 : ¬ (65 : Int) ≤ (s[k].toNat : Int) := by omega
        have f33 : (33 : Int) ≤ (s[k].toNat : Int) := by omega
        have f58 : ¬ (58 : Int) ≤ (s[k].toNat : Int) := by omega
        have f91 : ¬ (91 : Int) ≤ (s[k].toNat : Int) := by omega
        have f123 : ¬ (123 : Int) ≤ (s[k].toNat : Int) := by omega
        have f73 : (s[k].toNat : Int) ≤ 73 := by omega
        have f43 : ¬ (s[k].toNat : Int) ≤ 43 := by omega
        have f64 : (s[k].toNat : Int) ≤ 64 := by omega
        have f94 : (s[k].toNat : Int) ≤ 94 := by omega
        have f126 : (s[k].toNat : Int) ≤ 126 := by omega
        have f84 : ((s[k].toNat : Int) == 84) = false := by rw [beq_eq_false_iff_ne]; omega
        have f87 : ((s[k].toNat : Int) == 87) = false := by rw [beq_eq_false_iff_ne]; omega
        have f88 : ((s[k].toNat : Int) == 88) = false := by rw [beq_eq_false_iff_ne]; omega
        have f32 : ((s[k].toNat : Int) == 32) = false := by rw [beq_eq_false_iff_ne]; omega
        have f45 : ((s[k].toNat : Int) == 45) = false := by rw [beq_eq_false_iff_ne]; omega
        have f47 : ((s[k].toNat : Int) == 47) = true := by rw [beq_iff_eq]; omega
        clear b1 b2 hbyte
        go_wp2
        go_round
        case rel => exact ⟨k + 1, by go_num, plain_step s k HP.out hlt HOK.out⟩
        case measure => simp [intOf]; omega
      · skip
        have f65 : ¬ (65 : Int) ≤ (s[k].toNat : Int) := by omega
        have f33 : (33 : Int) ≤ (s[k].toNat : Int) := by omega
        have f58 : ¬ (58 : Int) ≤ (s[k].toNat : Int) := by omega
        have f91 : ¬ (91 : Int) ≤ (s[k].toNat : Int) := by omega
        have f123 : ¬ (123 : Int) ≤ (s[k].toNat : Int) := by omega
        have f73 : (s[k].toNat : Int) ≤ 73 := by omega
        have f43 : ¬ (s[k].toNat : Int) ≤ 43 := by omega
        have f64 : (s[k].toNat : Int) ≤ 64 := by omega
        have f94 : (s[k].toNat : Int) ≤ 94 := by omega
        have f126 : (s[k].toNat : Int) ≤ 126 := by omega
        have f84 : ((s[k].toNat : Int) == 84) = false := by rw [beq_eq_false_iff_ne]; omega
        have f87 : ((s[k].toNat : Int) == 87) = false := by rw [beq_eq_false_iff_ne]; omega
        have f88 : ((s[k].toNat : Int) == 88) = false := by rw [beq_eq_false_iff_ne]; omega
        have f32 : ((s[k].toNat : Int) == 32) = false := by rw [beq_eq_false_iff_ne]; omega
        have f45 : ((s[k].toNat : Int) == 45) = false := by rw [beq_eq_false_iff_ne]; omega
        have f47 : ((s[k].toNat : Int) == 47) = false := by rw [beq_eq_false_iff_ne]; omega
        clear b1 b2 hbyte
        go_wp2
        all_goals (go_ret; exact ⟨false, rfl, fun h => (by cases h), rfl⟩)
      · have HOK := hideP (show okB s[k].toNat by unfold okB; omega)
        have f65 : ¬ (65 : Int) ≤ (s[k].toNat : Int) := by omega
        have f33 : (33 : Int) ≤ (s[k].toNat : Int) := by omega
        have f58 : (58 : Int) ≤ (s[k].toNat : Int) := by omega
        have f91 : ¬ (91 : Int) ≤ (s[k].toNat : Int) := by omega
        have f123 : ¬ (123 : Int) ≤ (s[k].toNat : Int) := by omega
        have f73 : (s[k].toNat : Int) ≤ 73 := by omega
        have f43 : ¬ (s[k].toNat : Int) ≤ 43 := by omega
        have f64 : (s[k].toNat : Int) ≤ 64 := by omega
        have f94 : (s[k].toNat : Int) ≤ 94 := by omega
        have f126 : (s[k].toNat : Int) ≤ 126 := by omega
        have f84 : ((s[k].toNat : Int) == 84) = false := by rw [beq_eq_false_iff_ne]; omega
        have f87 : ((s[k].toNat : Int) == 87) = false := by rw [beq_eq_false_iff_ne]; omega
        have f88 : ((s[k].toNat : Int) == 88) = false := by rw [beq_eq_false_iff_ne]; omega
        have f32 : ((s[k].toNat : Int) == 32) = false := by rw [beq_eq_false_iff_ne]; omega
        have f45 : ((s[k].toNat : Int) == 45) = false := by rw [beq_eq_false_iff_ne]; omega
        have f47 : ((s[k].toNat : Int) == 47) = false := by rw [beq_eq_false_iff_ne]; omega
        clear b1 b2 hbyte
        go_wp2
        go_round
        case rel => exact ⟨k + 1, by go_num, plain_step s k HP.out hlt HOK.out⟩
        case measure => simp [intOf]; omega
      · have HOK := hideP (show okB s[k].toNat by unfold okB; omega)
        by_cases hk0 : k = 0
        · subst hk0
          have z : (((0 : Nat) : Int) == 0) = true := rfl
          have f65 : (65 : Int) ≤ (s[0].toNat : Int) := by omega
          have f33 : (33 : Int) ≤ (s[0].toNat : Int) := by omega
          have f58 : (58 : Int) ≤ (s[0].toNat : Int) := by omega
          have f91 : ¬ (91 : Int) ≤ (s[0].toNat : Int) := by omega
          have f123 : ¬ (123 : Int) ≤ (s[0].toNat : Int) := by omega
          have f73 : (s[0].toNat : Int) ≤ 73 := by omega
          have f43 : ¬ (s[0].toNat : Int) ≤ 43 := by omega
          have f64 : ¬ (s[0].toNat : Int) ≤ 64 := by omega
          have f94 : (s[0].toNat : Int) ≤ 94 := by omega
          have f126 : (s[0].toNat : Int) ≤ 126 := by omega
          have f84 : ((s[0].toNat : Int) == 84) = false := by rw [beq_eq_false_iff_ne]; omega
          have f87 : ((s[0].toNat : Int) == 87) = false := by rw [beq_eq_false_iff_ne]; omega
          have f88 : ((s[0].toNat : Int) == 88) = false := by rw [beq_eq_false_iff_ne]; omega
          have f32 : ((s[0].toNat : Int) == 32) = false := by rw [beq_eq_false_iff_ne]; omega
          have f45 : ((s[0].toNat : Int) == 45) = false := by rw [beq_eq_false_iff_ne]; omega
          have f47 : ((s[0].toNat : Int) == 47) = false := by rw [beq_eq_false_iff_ne]; omega
          clear b1 b2 hbyte
          go_wp2
          all_goals (go_ret; exact ⟨false, rfl, fun h => (by cases h), rfl⟩)
        · have z : ((k : Int) == 0) = false := by rw [beq_eq_false_iff_ne]; omega
          have f65 : (65 : Int) ≤ (s[k].toNat : Int) := by omega
          have f33 : (33 : Int) ≤ (s[k].toNat : Int) := by omega
          have f58 : (58 : Int) ≤ (s[k].toNat : Int) := by omega
          have f91 : ¬ (91 : Int) ≤ (s[k].toNat : Int) := by omega
          have f123 : ¬ (123 : Int) ≤ (s[k].toNat : Int) := by omega
          have f73 : (s[k].toNat : Int) ≤ 73 := by omega
          have f43 : ¬ (s[k].toNat : Int) ≤ 43 := by omega
          have f64 : ¬ (s[k].toNat : Int) ≤ 64 := by omega
          have f94 : (s[k].toNat : Int) ≤ 94 := by omega
          have f126 : (s[k].toNat : Int) ≤ 126 := by omega
          have f84 : ((s[k].toNat : Int) == 84) = false := by rw [beq_eq_false_iff_ne]; omega
          have f87 : ((s[k].toNat : Int) == 87) = false := by rw [beq_eq_false_iff_ne]; omega
          have f88 : ((s[k].toNat : Int) == 88) = false := by rw [beq_eq_false_iff_ne]; omega
          have f32 : ((s[k].toNat : Int) == 32) = false := by rw [beq_eq_false_iff_ne]; omega
          have f45 : ((s[k].toNat : Int) == 45) = false := by rw [beq_eq_false_iff_ne]; omega
          have f47 : ((s[k].toNat : Int) == 47) = false := by rw [beq_eq_false_iff_ne]; omega
          clear b1 b2 hbyte
          go_wp2
          go_round
          case rel => exact ⟨k + 1, by go_num, plain_step s k HP.out hlt HOK.out⟩
          case measure => simp [intOf]; omega
      · skip
        have f65 : (65 : Int) ≤ (s[k].toNat : Int) := by omega
        have f33 : (33 : Int) ≤ (s[k].toNat : Int) := by omega
        have f58 : (58 : Int) ≤ (s[k].toNat : Int) := by omega
        have f91 : ¬ (91 : Int) ≤ (s[k].toNat : Int) := by omega
        have f123 : ¬ (123 : Int) ≤ (s[k].toNat : Int) := by omega
        have f73 : ¬ (s[k].toNat : Int) ≤ 73 := by omega
        have f43 : ¬ (s[k].toNat : Int) ≤ 43 := by omega
        have f64 : ¬ (s[k].toNat : Int) ≤ 64 := by omega
        have f94 : (s[k].toNat : Int) ≤ 94 := by omega
        have f126 : (s[k].toNat : Int) ≤ 126 := by omega
        have f84 : ((s[k].toNat : Int) == 84) = false := by rw [beq_eq_false_iff_ne]; omega
        have f87 : ((s[k].toNat : Int) == 87) = false := by rw [beq_eq_false_iff_ne]; omega
        have f88 : ((s[k].toNat : Int) == 88) = false := by rw [beq_eq_false_iff_ne]; omega
        have f32 : ((s[k].toNat : Int) == 32) = false := by rw [beq_eq_false_iff_ne]; omega
        have f45 : ((s[k].toNat : Int) == 45) = false := by rw [beq_eq_false_iff_ne]; omega
        have f47 : ((s[k].toNat : Int) == 47) = false := by rw [beq_eq_false_iff_ne]; omega
        clear b1 b2 hbyte
        go_wp2
        all_goals (go_ret; exact ⟨false, rfl, fun h => (by cases h), rfl⟩)
      · have HOK := hideP (show okB s[k].toNat by unfold okB; omega)
        by_cases hk0 : k = 0
        · subst hk0
          have z : (((0 : Nat) : Int) == 0) = true := rfl
          have f65 : (65 : Int) ≤ (s[0].toNat : Int) := by omega
          have f33 : (33 : Int) ≤ (s[0].toNat : Int) := by omega
          have f58 : (58 : Int) ≤ (s[0].toNat : Int) := by omega
          have f91 : ¬ (91 : Int) ≤ (s[0].toNat : Int) := by omega
          have f123 : ¬ (123 : Int) ≤ (s[0].toNat : Int) := by omega
          have f73 : ¬ (s[0].toNat : Int) ≤ 73 := by omega
          have f43 : ¬ (s[0].toNat : Int) ≤ 43 := by omega
          have f64 : ¬ (s[0].toNat : Int) ≤ 64 := by omega
          have f94 : (s[0].toNat : Int) ≤ 94 := by omega
          have f126 : (s[0].toNat : Int) ≤ 126 := by omega
          have f84 : ((s[0].toNat : Int) == 84) = true := by rw [beq_iff_eq]; omega
          have f87 : ((s[0].toNat : Int) == 87) = false := by rw [beq_eq_false_iff_ne]; omega
          have f88 : ((s[0].toNat : Int) == 88) = false := by rw [beq_eq_false_iff_ne]; omega
          have f32 : ((s[0].toNat : Int) == 32) = false := by rw [beq_eq_false_iff_ne]; omega
          have f45 : ((s[0].toNat : Int) == 45) = false := by rw [beq_eq_false_iff_ne]; omega
          have f47 : ((s[0].toNat : Int) == 47) = false := by rw [beq_eq_false_iff_ne]; omega
          clear b1 b2 hbyte
          go_wp2
          all_goals (go_ret; exact ⟨false, rfl, fun h => (by cases h), rfl⟩)
        · have z : ((k : Int) == 0) = false := by rw [beq_eq_false_iff_ne]; omega
          have f65 : (65 : Int) ≤ (s[k].toNat : Int) := by omega
          have f33 : (33 : Int) ≤ (s[k].toNat : Int) := by omega
          have f58 : (58 : Int) ≤ (s[k].toNat : Int) := by omega
          have f91 : ¬ (91 : Int) ≤ (s[k].toNat : Int) := by omega
          have f123 : ¬ (123 : Int) ≤ (s[k].toNat : Int) := by omega
          have f73 : ¬ (s[k].toNat : Int) ≤ 73 := by omega
          have f43 : ¬ (s[k].toNat : Int) ≤ 43 := by omega
          have f64 : ¬ (s[k].toNat : Int) ≤ 64 := by omega
          have f94 : (s[k].toNat : Int) ≤ 94 := by omega
          have f126 : (s[k].toNat : Int) ≤ 126 := by omega
          have f84 : ((s[k].toNat : Int) == 84) = true := by rw [beq_iff_eq]; omega
          have f87 : ((s[k].toNat : Int) == 87) = false := by rw [beq_eq_false_iff_ne]; omega
          have f88 : ((s[k].toNat : Int) == 88) = false := by rw [beq_eq_false_iff_ne]; omega
          have f32 : ((s[k].toNat : Int) == 32) = false := by rw [beq_eq_false_iff_ne]; omega
          have f45 : ((s[k].toNat : Int) == 45) = false := by rw [beq_eq_false_iff_ne]; omega
          have f47 : ((s[k].toNat : Int) == 47) = false := by rw [beq_eq_false_iff_ne]; omega
          clear b1 b2 hbyte
          go_wp2
          go_round
          case rel => exact ⟨k + 1, by go_num, plain_step s k HP.out hlt HOK.out⟩
          case measure => simp [intOf]; omega
      · skip
        have f65 : (65 : Int) ≤ (s[k].toNat : Int) := by omega
        have f33 : (33 : Int) ≤ (s[k].toNat : Int) := by omega
        have f58 : (58 : Int) ≤ (s[k].toNat : Int) := by omega
        have f91 : ¬ (91 : Int) ≤ (s[k].toNat : Int) := by omega
        have f123 : ¬ (123 : Int) ≤ (s[k].toNat : Int) := by omega
        have f73 : ¬ (s[k].toNat : Int) ≤ 73 := by omega
        have f43 : ¬ (s[k].toNat : Int) ≤ 43 := by omega
        have f64 : ¬ (s[k].toNat : Int) ≤ 64 := by omega
        have f94 : (s[k].toNat : Int) ≤ 94 := by omega
        have f126 : (s[k].toNat : Int) ≤ 126 := by omega
        have f84 : ((s[k].toNat : Int) == 84) = false := by rw [beq_eq_false_iff_ne]; omega
        have f87 : ((s[k].toNat : Int) == 87) = false := by rw [beq_eq_false_iff_ne]; omega
        have f88 : ((s[k].toNat : Int) == 88) = false := by rw [beq_eq_false_iff_ne]; omega
        have f32 : ((s[k].toNat : Int) == 32) = false := by rw [beq_eq_false_iff_ne]; omega
        have f45 : ((s[k].toNat : Int) == 45) = false := by rw [beq_eq_false_iff_ne]; omega
        have f47 : ((s[k].toNat : Int) == 47) = false := by rw [beq_eq_false_iff_ne]; omega
        clear b1 b2 hbyte
        go_wp2
        all_goals (go_ret; exact ⟨false, rfl, fun h => (by cases h), rfl⟩)
      · have HOK := hideP (show okB s[k].toNat by unfold okB; omega)
        by_cases hk0 : k = 0
        · subst hk0
          have z : (((0 : Nat) : Int) == 0) = true := rfl
          have f65 : (65 : Int) ≤ (s[0].toNat : Int) := by omega
          have f33 : (33 : Int) ≤ (s[0].toNat : Int) := by omega
          have f58 : (58 : Int) ≤ (s[0].toNat : Int) := by omega
          have f91 : ¬ (91 : Int) ≤ (s[0].toNat : Int) := by omega
          have f123 : ¬ (123 : Int) ≤ (s[0].toNat : Int) := by omega
          have f73 : ¬ (s[0].toNat : Int) ≤ 73 := by omega
          have f43 : ¬ (s[0].toNat : Int) ≤ 43 := by omega
          have f64 : ¬ (s[0].toNat : Int) ≤ 64 := by omega
          have f94 : (s[0].toNat : Int) ≤ 94 := by omega
          have f126 : (s[0].toNat : Int) ≤ 126 := by omega
          have f84 : ((s[0].toNat : Int) == 84) = false := by rw [beq_eq_false_iff_ne]; omega
          have f87 : ((s[0].toNat : Int) == 87) = true := by rw [beq_iff_eq]; omega
          have f88 : ((s[0].toNat : Int) == 88) = false := by rw [beq_eq_false_iff_ne]; omega
          have f32 : ((s[0].toNat : Int) == 32) = false := by rw [beq_eq_false_iff_ne]; omega
          have f45 : ((s[0].toNat : Int) == 45) = false := by rw [beq_eq_false_iff_ne]; omega
          have f47 : ((s[0].toNat : Int) == 47) = false := by rw [beq_eq_false_iff_ne]; omega
          clear b1 b2 hbyte
          go_wp2
          all_goals (go_ret; exact ⟨false, rfl, fun h => (by cases h), rfl⟩)
        · have z : ((k : Int) == 0) = false := by rw [beq_eq_false_iff_ne]; omega
          have f65 : (65 : Int) ≤ (s[k].toNat : Int) := by omega
          have f33 : (33 : Int) ≤ (s[k].toNat : Int) := by omega
          have f58 : (58 : Int) ≤ (s[k].toNat : Int) := by omega
          have f91 : ¬ (91 : Int) ≤ (s[k].toNat : Int) := by omega
          have f123 : ¬ (123 : Int) ≤ (s[k].toNat : Int) := by omega
          have f73 : ¬ (s[k].toNat : Int) ≤ 73 := by omega
          have f43 : ¬ (s[k].toNat : Int) ≤ 43 := by omega
          have f64 : ¬ (s[k].toNat : Int) ≤ 64 := by omega
          have f94 : (s[k].toNat : Int) ≤ 94 := by omega
          have f126 : (s[k].toNat : Int) ≤ 126 := by omega
          have f84 : ((s[k].toNat : Int) == 84) = false := by rw [beq_eq_false_iff_ne]; omega
          have f87 : ((s[k].toNat : Int) == 87) = true := by rw [beq_iff_eq]; omega
          have f88 : ((s[k].toNat : Int) == 88) = false := by rw [beq_eq_false_iff_ne]; omega
          have f32 : ((s[k].toNat : Int) == 32) = false := by rw [beq_eq_false_iff_ne]; omega
          have f45 : ((s[k].toNat : Int) == 45) = false := by rw [beq_eq_false_iff_ne]; omega
          have f47 : ((s[k].toNat : Int) == 47) = false := by rw [beq_eq_false_iff_ne]; omega
          clear b1 b2 hbyte
          go_wp2
          go_round
          case rel => exact ⟨k + 1, by go_num, plain_step s k HP.out hlt HOK.out⟩
          case measure => simp [intOf]; omega
      · have HOK := hideP (show okB s[k].toNat by unfold okB; omega)
        by_cases hk0 : k = 0
        · subst hk0
          have z : (((0 : Nat) : Int) == 0) = true := rfl
          have f65 : (65 : Int) ≤ (s[0].toNat : Int) := by omega
          have f33 : (33 : Int) ≤ (s[0].toNat : Int) := by omega
          have f58 : (58 : Int) ≤ (s[0].toNat : Int) := by omega
          have f91 : ¬ (91 : Int) ≤ (s[0].toNat : Int) := by omega
          have f123 : ¬ (123 : Int) ≤ (s[0].toNat : Int) := by omega
          have f73 : ¬ (s[0].toNat : Int) ≤ 73 := by omega
          have f43 : ¬ (s[0].toNat : Int) ≤ 43 := by omega
          have f64 : ¬ (s[0].toNat : Int) ≤ 64 := by omega
          have f94 : (s[0].toNat : Int) ≤ 94 := by omega
          have f126 : (s[0].toNat : Int) ≤ 126 := by omega
          have f84 : ((s[0].toNat : Int) == 84) = false := by rw [beq_eq_false_iff_ne]; omega
          have f87 : ((s[0].toNat : Int) == 87) = false := by rw [beq_eq_false_iff_ne]; omega
          have f88 : ((s[0].toNat : Int) == 88) = true := by rw [beq_iff_eq]; omega
          have f32 : ((s[0].toNat : Int) == 32) = false := by rw [beq_eq_false_iff_ne]; omega
          have f45 : ((s[0].toNat : Int) == 45) = false := by rw [beq_eq_false_iff_ne]; omega
          have f47 : ((s[0].toNat : Int) == 47) = false := by rw [beq_eq_false_iff_ne]; omega
          clear b1 b2 hbyte
          go_wp2
          all_goals (go_ret; exact ⟨false, rfl, fun h => (by cases h), rfl⟩)
        · have z : ((k : Int) == 0) = false := by rw [beq_eq_false_iff_ne]; omega
          have f65 : (65 : Int) ≤ (s[k].toNat : Int) := by omega
          have f33 : (33 : Int) ≤ (s[k].toNat : Int) := by omega
          have f58 : (58 : Int) ≤ (s[k].toNat : Int) := by omega
          have f91 : ¬ (91 : Int) ≤ (s[k].toNat : Int) := by omega
          have f123 : ¬ (123 : Int) ≤ (s[k].toNat : Int) := by omega
          have f73 : ¬ (s[k].toNat : Int) ≤ 73 := by omega
          have f43 : ¬ (s[k].toNat : Int) ≤ 43 := by omega
          have f64 : ¬ (s[k].toNat : Int) ≤ 64 := by omega
          have f94 : (s[k].toNat : Int) ≤ 94 := by omega
          have f126 : (s[k].toNat : Int) ≤ 126 := by omega
          have f84 : ((s[k].toNat : Int) == 84) = false := by rw [beq_eq_false_iff_ne]; omega
          have f87 : ((s[k].toNat : Int) == 87) = false := by rw [beq_eq_false_iff_ne]; omega
          have f88 : ((s[k].toNat : Int) == 88) = true := by rw [beq_iff_eq]; omega
          have f32 : ((s[k].toNat : Int) == 32) = false := by rw [beq_eq_false_iff_ne]; omega
          have f45 : ((s[k].toNat : Int) == 45) = false := by rw [beq_eq_false_iff_ne]; omega
          have f47 : ((s[k].toNat : Int) == 47) = false := by rw [beq_eq_false_iff_ne]; omega
          clear b1 b2 hbyte
          go_wp2
          go_round
          case rel => exact ⟨k + 1, by go_num, plain_step s k HP.out hlt HOK.out⟩
          case measure => simp [intOf]; omega
      · skip
        have f65 : (65 : Int) ≤ (s[k].toNat : Int) := by omega
        have f33 : (33 : Int) ≤ (s[k].toNat : Int) := by omega
        have f58 : (58 : Int) ≤ (s[k].toNat : Int) := by omega
        have f91 : ¬ (91 : Int) ≤ (s[k].toNat : Int) := by omega
        have f123 : ¬ (123 : Int) ≤ (s[k].toNat : Int) := by omega
        have f73 : ¬ (s[k].toNat : Int) ≤ 73 := by omega
        have f43 : ¬ (s[k].toNat : Int) ≤ 43 := by omega
        have f64 : ¬ (s[k].toNat : Int) ≤ 64 := by omega
        have f94 : (s[k].toNat : Int) ≤ 94 := by omega
        have f126 : (s[k].toNat : Int) ≤ 126 := by omega
        have f84 : ((s[k].toNat : Int) == 84) = false := by rw [beq_eq_false_iff_ne]; omega
        have f87 : ((s[k].toNat : Int) == 87) = false := by rw [beq_eq_false_iff_ne]; omega
        have f88 : ((s[k].toNat : Int) == 88) = false := by rw [beq_eq_false_iff_ne]; omega
        have f32 : ((s[k].toNat : Int) == 32) = false := by rw [beq_eq_false_iff_ne]; omega
        have f45 : ((s[k].toNat : Int) == 45) = false := by rw [beq_eq_false_iff_ne]; omega
        have f47 : ((s[k].toNat : Int) == 47) = false := by rw [beq_eq_false_iff_ne]; omega
        clear b1 b2 hbyte
        go_wp2
        all_goals (go_ret; exact ⟨false, rfl, fun h => (by cases h), rfl⟩)
      · have HOK := hideP (show okB s[k].toNat by unfold okB; omega)
        have f65 : (65 : Int) ≤ (s[k].toNat : Int) := by omega
        have f33 : (33 : Int) ≤ (s[k].toNat : Int) := by omega
        have f58 : (58 : Int) ≤ (s[k].toNat : Int) := by omega
        have f91 : (91 : Int) ≤ (s[k].toNat : Int) := by omega
        have f123 : ¬ (123 : Int) ≤ (s[k].toNat : Int) := by omega
        have f73 : ¬ (s[k].toNat : Int) ≤ 73 := by omega
        have f43 : ¬ (s[k].toNat : Int) ≤ 43 := by omega
        have f64 : ¬ (s[k].toNat : Int) ≤ 64 := by omega
        have f94 : (s[k].toNat : Int) ≤ 94 := by omega
        have f126 : (s[k].toNat : Int) ≤ 126 := by omega
        have f84 : ((s[k].toNat : Int) == 84) = false := by rw [beq_eq_false_iff_ne]; omega
        have f87 : ((s[k].toNat : Int) == 87) = false := by rw [beq_eq_false_iff_ne]; omega
        have f88 : ((s[k].toNat : Int) == 88) = false := by rw [beq_eq_false_iff_ne]; omega
        have f32 : ((s[k].toNat : Int) == 32) = false := by rw [beq_eq_false_iff_ne]; omega
        have f45 : ((s[k].toNat : Int) == 45) = false := by rw [beq_eq_false_iff_ne]; omega
        have f47 : ((s[k].toNat : Int) == 47) = false := by rw [beq_eq_false_iff_ne]; omega
        clear b1 b2 hbyte
        go_wp2
        go_round
        case rel => exact ⟨k + 1, by go_num, plain_step s k HP.out hlt HOK.out⟩
        case measure => simp [intOf]; omega
      · skip
        have f65 : (65 : Int) ≤ (s[k].toNat : Int) := by omega
        have f33 : (33 : Int) ≤ (s[k].toNat : Int) := by omega
        have f58 : (58 : Int) ≤ (s[k].toNat : Int) := by omega
        have f91 : (91 : Int) ≤ (s[k].toNat : Int) := by omega
        have f123 : ¬ (123 : Int) ≤ (s[k].toNat : Int) := by omega
        have f73 : ¬ (s[k].toNat : Int) ≤ 73 := by omega
        have f43 : ¬ (s[k].toNat : Int) ≤ 43 := by omega
        have f64 : ¬ (s[k].toNat : Int) ≤ 64 := by omega
        have f94 : ¬ (s[k].toNat : Int) ≤ 94 := by omega
        have f126 : (s[k].toNat : Int) ≤ 126 := by omega
        have f84 : ((s[k].toNat : Int) == 84) = false := by rw [beq_eq_false_iff_ne]; omega
        have f87 : ((s[k].toNat : Int) == 87) = false := by rw [beq_eq_false_iff_ne]; omega
        have f88 : ((s[k].toNat : Int) == 88) = false := by rw [beq_eq_false_iff_ne]; omega
        have f32 : ((s[k].toNat : Int) == 32) = false := by rw [beq_eq_false_iff_ne]; omega
        have f45 : ((s[k].toNat : Int) == 45) = false := by rw [beq_eq_false_iff_ne]; omega
        have f47 : ((s[k].toNat : Int) == 47) = false := by rw [beq_eq_false_iff_ne]; omega
        clear b1 b2 hbyte
        go_wp2
        all_goals (go_ret; exact ⟨false, rfl, fun h => (by cases h), rfl⟩)
      · have HOK := hideP (show okB s[k].toNat by unfold okB; omega)
        have f65 : (65 : Int) ≤ (s[k].toNat : Int) := by omega
        have f33 : (33 : Int) ≤ (s[k].toNat : Int) := by omega
        have f58 : (58 : Int) ≤ (s[k].toNat : Int) := by omega
        have f91 : (91 : Int) ≤ (s[k].toNat : Int) := by omega
        have f123 : (123 : Int) ≤ (s[k].toNat : Int) := by omega
        have f73 : ¬ (s[k].toNat : Int) ≤ 73 := by omega
        have f43 : ¬ (s[k].toNat : Int) ≤ 43 := by omega
        have f64 : ¬ (s[k].toNat : Int) ≤ 64 := by omega
        have f94 : ¬ (s[k].toNat : Int) ≤ 94 := by omega
        have f126 : (s[k].toNat : Int) ≤ 126 := by omega
        have f84 : ((s[k].toNat : Int) == 84) = false := by rw [beq_eq_false_iff_ne]; omega
        have f87 : ((s[k].toNat : Int) == 87) = false := by rw [beq_eq_false_iff_ne]; omega
        have f88 : ((s[k].toNat : Int) == 88) = false := by rw [beq_eq_false_iff_ne]; omega
        have f32 : ((s[k].toNat : Int) == 32) = false := by rw [beq_eq_false_iff_ne]; omega
        have f45 : ((s[k].toNat : Int) == 45) = false := by rw [beq_eq_false_iff_ne]; omega
        have f47 : ((s[k].toNat : Int) == 47) = false := by rw [beq_eq_false_iff_ne]; omega
        clear b1 b2 hbyte
        go_wp2
        go_round
        case rel => exact ⟨k + 1, by go_num, plain_step s k HP.out hlt HOK.out⟩
        case measure => simp [intOf]; omega
      · skip
        have f65 : (65 : Int) ≤ (s[k].toNat : Int) := by omega
        have f33 : (33 : Int) ≤ (s[k].toNat : Int) := by omega
        have f58 : (58 : Int) ≤ (s[k].toNat : Int) := by omega
        have f91 : (91 : Int) ≤ (s[k].toNat : Int) := by omega
        have f123 : (123 : Int) ≤ (s[k].toNat : Int) := by omega
        have f73 : ¬ (s[k].toNat : Int) ≤ 73 := by omega
        have f43 : ¬ (s[k].toNat : Int) ≤ 43 := by omega
        have f64 : ¬ (s[k].toNat : Int) ≤ 64 := by omega
        have f94 : ¬ (s[k].toNat : Int) ≤ 94 := by omega
        have f126 : ¬ (s[k].toNat : Int) ≤ 126 := by omega
        have f84 : ((s[k].toNat : Int) == 84) = false := by rw [beq_eq_false_iff_ne]; omega
        have f87 : ((s[k].toNat : Int) == 87) = false := by rw [beq_eq_false_iff_ne]; omega
        have f88 : ((s[k].toNat : Int) == 88) = false := by rw [beq_eq_false_iff_ne]; omega
        have f32 : ((s[k].toNat : Int) == 32) = false := by rw [beq_eq_false_iff_ne]; omega
        have f45 : ((s[k].toNat : Int) == 45) = false := by rw [beq_eq_false_iff_ne]; omega
        have f47 : ((s[k].toNat : Int) == 47) = false := by rw [beq_eq_false_iff_ne]; omega
        clear b1 b2 hbyte
        go_wp2
        all_goals (go_ret; exact ⟨false, rfl, fun h => (by cases h), rfl⟩)
    · have HA := hideP (show ∀ c ∈ bl s, okB c.toNat by
        have := HP.out.2
        rwa [List.take_of_length_le (by rw [bl_length]; omega)] at this)
      go_wp2
      go_ret
      refine ⟨_, rfl, fun h => ⟨?_, HA.out⟩, rfl⟩
      have h2 : decide ((s.size : Int) ≤ 1000) = true := h
      have h3 := of_decide_eq_true h2
      omega
end Go.Proofs.YtigabjibdepoiaaDoor.Tm
