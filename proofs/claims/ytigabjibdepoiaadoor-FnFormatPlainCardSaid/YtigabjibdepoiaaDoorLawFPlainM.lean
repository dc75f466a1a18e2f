/- The walk of the reference's Plain. A plain text has no element. The law FnFormatPlain: its walk. -/
import Derived.Test.YtigabjibdepoiaaDoorProg
import Derived.Test.YtigabjibdepoiaaDoorBase
import Derived.Test.YtigabjibdepoiaaDoorChunkA
import Derived.Test.YtigabjibdepoiaaDoorLayK
namespace Go.Proofs.YtigabjibdepoiaaDoor.Tm
set_option linter.unusedSimpArgs false
set_option linter.unusedVariables false
open Go.RowKit Go
/-- The bytes of a plain text. -/
def okB (n : Nat) : Prop := (65 ≤ n ∧ n ≤ 73) ∨ n = 84 ∨ n = 87 ∨ n = 88 ∨ (32 ≤ n ∧ n ≤ 43) ∨ n = 45 ∨ n = 47 ∨ (58 ≤ n ∧ n ≤ 64) ∨ (91 ≤ n ∧ n ≤ 94) ∨ (123 ≤ n ∧ n ≤ 126)
def PlainTo (s : ByteArray) (k : Nat) : Prop := k ≤ s.size ∧ ∀ c ∈ (bl s).take k, okB c.toNat
theorem plain_step (s : ByteArray) (k : Nat) (h : PlainTo s k) (hlt : k < s.size) (hc : okB s[k].toNat) : PlainTo s (k + 1) := by
  refine ⟨hlt, ?_⟩
  rw [bl_take s k hlt]
  intro c hcm
  rcases List.mem_append.1 hcm with g | g
  · exact h.2 c g
  · obtain rfl := List.mem_singleton.1 g; exact hc
def PlainPost (s : ByteArray) (w : World) (e : Ending) (w' : World) : Prop := ∃ b, e = .returned (.bool b) ∧ (b = true → s.size ≤ 1000 ∧ ∀ c ∈ bl s, okB c.toNat) ∧ w = w'
set_option maxRecDepth 100000 in
set_option maxHeartbeats 100000000 in
theorem plain_any (s : ByteArray) (w : World) (hs : s.size ≤ 140737488351232) :
    Calls Tryd.prog 16 #[.string s] w (PlainPost s w) := by
  go_enter Tryd.func16, Tryd.ntmps16
  go_wp2
  go_loop [3] (fun i => ∃ k : Nat, i = .int .i64 k ∧ PlainTo s k) (fun i => s.size - (intOf i).toNat)
  case atStart => exact ⟨0, rfl, Nat.zero_le _, by simp⟩
  case round =>
    obtain ⟨k, rfl, hp⟩ := hrel
    have hk := hp.1
    have HP := hideP hp
    clear hp
    by_cases hlt : k < s.size
    · have hbyte := s[k].toNat_lt
      have hsp : ((0 : Int) ≤ s[k].toNat ∧ (s[k].toNat : Int) ≤ 31) ∨ ((32 : Int) ≤ s[k].toNat ∧ (s[k].toNat : Int) ≤ 32) ∨ ((33 : Int) ≤ s[k].toNat ∧ (s[k].toNat : Int) ≤ 43) ∨ ((44 : Int) ≤ s[k].toNat ∧ (s[k].toNat : Int) ≤ 44) ∨ ((45 : Int) ≤ s[k].toNat ∧ (s[k].toNat : Int) ≤ 45) ∨ ((46 : Int) ≤ s[k].toNat ∧ (s[k].toNat : Int) ≤ 46) ∨ ((47 : Int) ≤ s[k].toNat ∧ (s[k].toNat : Int) ≤ 47) ∨ ((48 : Int) ≤ s[k].toNat ∧ (s[k].toNat : Int) ≤ 57) ∨ ((58 : Int) ≤ s[k].toNat ∧ (s[k].toNat : Int) ≤ 64) ∨ ((65 : Int) ≤ s[k].toNat ∧ (s[k].toNat : Int) ≤ 73) ∨ ((74 : Int) ≤ s[k].toNat ∧ (s[k].toNat : Int) ≤ 83) ∨ ((84 : Int) ≤ s[k].toNat ∧ (s[k].toNat : Int) ≤ 84) ∨ ((85 : Int) ≤ s[k].toNat ∧ (s[k].toNat : Int) ≤ 86) ∨ ((87 : Int) ≤ s[k].toNat ∧ (s[k].toNat : Int) ≤ 87) ∨ ((88 : Int) ≤ s[k].toNat ∧ (s[k].toNat : Int) ≤ 88) ∨ ((89 : Int) ≤ s[k].toNat ∧ (s[k].toNat : Int) ≤ 90) ∨ ((91 : Int) ≤ s[k].toNat ∧ (s[k].toNat : Int) ≤ 94) ∨ ((95 : Int) ≤ s[k].toNat ∧ (s[k].toNat : Int) ≤ 122) ∨ ((123 : Int) ≤ s[k].toNat ∧ (s[k].toNat : Int) ≤ 126) ∨ ((127 : Int) ≤ s[k].toNat ∧ (s[k].toNat : Int) ≤ 255) := by omega
      rcases hsp with ⟨b1, b2⟩ | ⟨b1, b2⟩ | ⟨b1, b2⟩ | ⟨b1, b2⟩ | ⟨b1, b2⟩ | ⟨b1, b2⟩ | ⟨b1, b2⟩ | ⟨b1, b2⟩ | ⟨b1, b2⟩ | ⟨b1, b2⟩ | ⟨b1, b2⟩ | ⟨b1, b2⟩ | ⟨b1, b2⟩ | ⟨b1, b2⟩ | ⟨b1, b2⟩ | ⟨b1, b2⟩ | ⟨b1, b2⟩ | ⟨b1, b2⟩ | ⟨b1, b2⟩ | ⟨b1, b2⟩
      · skip
        have f65 : ¬ (65 : Int) ≤ (s[k].toNat : Int) := by omega
        have f33 : ¬ (33 : Int) ≤ (s[k].toNat : Int) := by omega
        have f58 : ¬ (58 : Int) ≤ (s[k].toNat : Int) := by omega
        have f91 : ¬ (91 : Int) ≤ (s[k].toNat : Int) := by omega
        have f123 : ¬ (123 : Int) ≤ (s[k].toNat : Int) := by omega
        have f73 : (s[k].toNat : Int) ≤ 73 := by omega
        have f43 : (s[k].toNat : Int) ≤ 43 := by omega
        have f64 : (s[k].toNat : Int) ≤ 64 := by omega
        have f94 : (s[k].toNat : Int) ≤ 94 := by omega
        have f126 : (s[k].toNat : Int) ≤ 126 := by omega
        have f84 : ((s[k].toNat : Int) == 84) = false := by rw [beq_eq_false_iff_ne]; omega
        have f87 : ((s[k].toNat : Int) == 87) = false := by rw [beq_eq_false_iff_ne]; omega
        have f88 : ((s[k].toNat : Int) == 88) = false := by rw [beq_eq_false_iff_ne]; omega
        have f32 : ((s[k].toNat : Int) == 32) = false := by rw [beq_eq_false_iff_ne]; omega
        have f45 : ((s[k].toNat : Int) == 45) = false := by rw [beq_eq_false_iff_ne]; omega
        have f47 : ((s[k].toNat : Int) == 47) = false := by rw [beq_eq_false_iff_ne]; omega
        clear b1 b2 hbyte
        go_wp2
        all_goals (go_ret; exact ⟨false, rfl, fun h => (by cases h), rfl⟩)
      · have HOK := hideP (show okB s[k].toNat by unfold okB; omega)
        have f65 : ¬ (65 : Int) ≤ (s[k].toNat : Int) := by omega
        have f33 : ¬ (33 : Int) ≤ (s[k].toNat : Int) := by omega
        have f58 : ¬ (58 : Int) ≤ (s[k].toNat : Int) := by omega
        have f91 : ¬ (91 : Int) ≤ (s[k].toNat : Int) := by omega
        have f123 : ¬ (123 : Int) ≤ (s[k].toNat : Int) := by omega
        have f73 : (s[k].toNat : Int) ≤ 73 := by omega
        have f43 : (s[k].toNat : Int) ≤ 43 := by omega
        have f64 : (s[k].toNat : Int) ≤ 64 := by omega
        have f94 : (s[k].toNat : Int) ≤ 94 := by omega
        have f126 : (s[k].toNat : Int) ≤ 126 := by omega
        have f84 : ((s[k].toNat : Int) == 84) = false := by rw [beq_eq_false_iff_ne]; omega
        have f87 : ((s[k].toNat : Int) == 87) = false := by rw [beq_eq_false_iff_ne]; omega
        have f88 : ((s[k].toNat : Int) == 88) = false := by rw [beq_eq_false_iff_ne]; omega
        have f32 : ((s[k].toNat : Int) == 32) = true := by rw [beq_iff_eq]; omega
        have f45 : ((s[k].toNat : Int) == 45) = false := by rw [beq_eq_false_iff_ne]; omega
        have f47 : ((s[k].toNat : Int) == 47) = false := by rw [beq_eq_false_iff_ne]; omega
        clear b1 b2 hbyte
        go_wp2
        go_round
        case rel => exact ⟨k + 1, by go_num, plain_step s k HP.out hlt HOK.out⟩
        case measure => simp [intOf]; omega
      · have HOK := hideP (show okB s[k].toNat by unfold okB; omega)
        have f65 : ¬ (65 : Int) ≤ (s[k].toNat : Int) := by omega
        have f33 : (33 : Int) ≤ (s[k].toNat : Int) := by omega
        have f58 : ¬ (58 : Int) ≤ (s[k].toNat : Int) := by omega
        have f91 : ¬ (91 : Int) ≤ (s[k].toNat : Int) := by omega
        have f123 : ¬ (123 : Int) ≤ (s[k].toNat : Int) := by omega
        have f73 : (s[k].toNat : Int) ≤ 73 := by omega
        have f43 : (s[k].toNat : Int) ≤ 43 := by omega
        have f64 : (s[k].toNat : Int) ≤ 64 := by omega
        have f94 : (s[k].toNat : Int) ≤ 94 := by omega
        have f126 : (s[k].toNat : Int) ≤ 126 := by omega
        have f84 : ((s[k].toNat : Int) == 84) = false := by rw [beq_eq_false_iff_ne]; omega
        have f87 : ((s[k].toNat : Int) == 87) = false := by rw [beq_eq_false_iff_ne]; omega
        have f88 : ((s[k].toNat : Int) == 88) = false := by rw [beq_eq_false_iff_ne]; omega
        have f32 : ((s[k].toNat : Int) == 32) = false := by rw [beq_eq_false_iff_ne]; omega
        have f45 : ((s[k].toNat : Int) == 45) = false := by rw [beq_eq_false_iff_ne]; omega
        have f47 : ((s[k].toNat : Int) == 47) = false := by rw [beq_eq_false_iff_ne]; omega
        clear b1 b2 hbyte
        go_wp2
        go_round
        case rel => exact ⟨k + 1, by go_num, plain_step s k HP.out hlt HOK.out⟩
        case measure => simp [intOf]; omega
      · skip
        have f65 : ¬ (65 : Int) ≤ (s[k].toNat : Int) := by omega
        have f33 : (33 : Int) ≤ (s[k].toNat : Int) := by omega
        have f58 : ¬ (58 : Int) ≤ (s[k].toNat : Int) := by omega
        have f91 : ¬ (91 : Int) ≤ (s[k].toNat : Int) := by omega
        have f123 : ¬ (123 : Int) ≤ (s[k].toNat : Int) := by omega
        have f73 : (s[k].toNat : Int) ≤ 73 := by omega
        have f43 : ¬ (s[k].toNat : Int) ≤ 43 := by omega
        have f64 : (s[k].toNat : Int) ≤ 64 := by omega
        have f94 : (s[k].toNat : Int) ≤ 94 := by omega
        have f126 : (s[k].toNat : Int) ≤ 126 := by omega
        have f84 : ((s[k].toNat : Int) == 84) = false := by rw [beq_eq_false_iff_ne]; omega
        have f87 : ((s[k].toNat : Int) == 87) = false := by rw [beq_eq_false_iff_ne]; omega
        have f88 : ((s[k].toNat : Int) == 88) = false := by rw [beq_eq_false_iff_ne]; omega
        have f32 : ((s[k].toNat : Int) == 32) = false := by rw [beq_eq_false_iff_ne]; omega
        have f45 : ((s[k].toNat : Int) == 45) = false := by rw [beq_eq_false_iff_ne]; omega
        have f47 : ((s[k].toNat : Int) == 47) = false := by rw [beq_eq_false_iff_ne]; omega
        clear b1 b2 hbyte
        go_wp2
        all_goals (go_ret; exact ⟨false, rfl, fun h => (by cases h), rfl⟩)
      · have HOK := hideP (show okB s[k].toNat by unfold okB; omega)
        have f65 : ¬ (65 : Int) ≤ (s[k].toNat : Int) := by omega
        have f33 : (33 : Int) ≤ (s[k].toNat : Int) := by omega
        have f58 : ¬ (58 : Int) ≤ (s[k].toNat : Int) := by omega
        have f91 : ¬ (91 : Int) ≤ (s[k].toNat : Int) := by omega
        have f123 : ¬ (123 : Int) ≤ (s[k].toNat : Int) := by omega
        have f73 : (s[k].toNat : Int) ≤ 73 := by omega
        have f43 : ¬ (s[k].toNat : Int) ≤ 43 := by omega
        have f64 : (s[k].toNat : Int) ≤ 64 := by omega
        have f94 : (s[k].toNat : Int) ≤ 94 := by omega
        have f126 : (s[k].toNat : Int) ≤ 126 := by omega
        have f84 : ((s[k].toNat : Int) == 84) = false := by rw [beq_eq_false_iff_ne]; omega
        have f87 : ((s[k].toNat : Int) == 87) = false := by rw [beq_eq_false_iff_ne]; omega
        have f88 : ((s[k].toNat : Int) == 88) = false := by rw [beq_eq_false_iff_ne]; omega
        have f32 : ((s[k].toNat : Int) == 32) = false := by rw [beq_eq_false_iff_ne]; omega
        have f45 : ((s[k].toNat : Int) == 45) = true := by rw [beq_iff_eq]; omega
        have f47 : ((s[k].toNat : Int) == 47) = false := by rw [beq_eq_false_iff_ne]; omega
        clear b1 b2 hbyte
        go_wp2
        go_round
        case rel => exact ⟨k + 1, by go_num, plain_step s k HP.out hlt HOK.out⟩
        case measure => simp [intOf]; omega
      · skip
        have f65 : ¬ (65 : Int) ≤ (s[k].toNat : Int) := by omega
        have f33 : (33 : Int) ≤ (s[k].toNat : Int) := by omega
        have f58 : ¬ (58 : Int) ≤ (s[k].toNat : Int) := by omega
        have f91 : ¬ (91 : Int) ≤ (s[k].toNat : Int) := by omega
        have f123 : ¬ (123 : Int) ≤ (s[k].toNat : Int) := by omega
        have f73 : (s[k].toNat : Int) ≤ 73 := by omega
        have f43 : ¬ (s[k].toNat : Int) ≤ 43 := by omega
        have f64 : (s[k].toNat : Int) ≤ 64 := by omega
        have f94 : (s[k].toNat : Int) ≤ 94 := by omega
        have f126 : (s[k].toNat : Int) ≤ 126 := by omega
        have f84 : ((s[k].toNat : Int) == 84) = false := by rw [beq_eq_false_iff_ne]; omega
        have f87 : ((s[k].toNat : Int) == 87) = false := by rw [beq_eq_false_iff_ne]; omega
        have f88 : ((s[k].toNat : Int) == 88) = false := by rw [beq_eq_false_iff_ne]; omega
        have f32 : ((s[k].toNat : Int) == 32) = false := by rw [beq_eq_false_iff_ne]; omega
        have f45 : ((s[k].toNat : Int) == 45) = false := by rw [beq_eq_false_iff_ne]; omega
        have f47 : ((s[k].toNat : Int) == 47) = false := by rw [beq_eq_false_iff_ne]; omega
        clear b1 b2 hbyte
        go_wp2
        all_goals (go_ret; exact ⟨false, rfl, fun h => (by cases h), rfl⟩)
      · have HOK := hideP (show okB s[k].toNat by unfold okB; omega)
        have f65 : ¬ (65 : Int) ≤ (s[k].toNat : Int) := by omega
        have f33 : (33 : Int) ≤ (s[k].toNat : Int) := by omega
        have f58 : ¬ (58 : Int) ≤ (s[k].toNat : Int) := by omega
        have f91 : ¬ (91 : Int) ≤ (s[k].toNat : Int) := by omega
        have f123 : ¬ (123 : Int) ≤ (s[k].toNat : Int) := by omega
        have f73 : (s[k].toNat : Int) ≤ 73 := by omega
        have f43 : ¬ (s[k].toNat : Int) ≤ 43 := by omega
        have f64 : (s[k].toNat : Int) ≤ 64 := by omega
        have f94 : (s[k].toNat : Int) ≤ 94 := by omega
        have f126 : (s[k].toNat : Int) ≤ 126 := by omega
        have f84 : ((s[k].toNat : Int) == 84) = false := by rw [beq_eq_false_iff_ne]; omega
        have f87 : ((s[k].toNat : Int) == 87) = false := by rw [beq_eq_false_iff_ne]; omega
        have f88 : ((s[k].toNat : Int) == 88) = false := by rw [beq_eq_false_iff_ne]; omega
        have f32 : ((s[k].toNat : Int) == 32) = false := by rw [beq_eq_false_iff_ne]; omega
        have f45 : ((s[k].toNat : Int) == 45) = false := by rw [beq_eq_false_iff_ne]; omega
        have f47 : ((s[k].toNat : Int) == 47) = true := by rw [beq_iff_eq]; omega
        clear b1 b2 hbyte
        go_wp2
        go_round
        case rel => exact ⟨k + 1, by go_num, plain_step s k HP.out hlt HOK.out⟩
        case measure => simp [intOf]; omega
      · skip
        have f65 : ¬ (65 : Int) ≤ (s[k].toNat : Int) := by omega
        have f33 : (33 : Int) ≤ (s[k].toNat : Int) := by omega
        have f58 : ¬ (58 : Int) ≤ (s[k].toNat : Int) := by omega
        have f91 : ¬ (91 : Int) ≤ (s[k].toNat : Int) := by omega
        have f123 : ¬ (123 : Int) ≤ (s[k].toNat : Int) := by omega
        have f73 : (s[k].toNat : Int) ≤ 73 := by omega
        have f43 : ¬ (s[k].toNat : Int) ≤ 43 := by omega
        have f64 : (s[k].toNat : Int) ≤ 64 := by omega
        have f94 : (s[k].toNat : Int) ≤ 94 := by omega
        have f126 : (s[k].toNat : Int) ≤ 126 := by omega
        have f84 : ((s[k].toNat : Int) == 84) = false := by rw [beq_eq_false_iff_ne]; omega
        have f87 : ((s[k].toNat : Int) == 87) = false := by rw [beq_eq_false_iff_ne]; omega
        have f88 : ((s[k].toNat : Int) == 88) = false := by rw [beq_eq_false_iff_ne]; omega
        have f32 : ((s[k].toNat : Int) == 32) = false := by rw [beq_eq_false_iff_ne]; omega
        have f45 : ((s[k].toNat : Int) == 45) = false := by rw [beq_eq_false_iff_ne]; omega
        have f47 : ((s[k].toNat : Int) == 47) = false := by rw [beq_eq_false_iff_ne]; omega
        clear b1 b2 hbyte
        go_wp2
        all_goals (go_ret; exact ⟨false, rfl, fun h => (by cases h), rfl⟩)
      · have HOK := hideP (show okB s[k].toNat by unfold okB; omega)
        have f65 : ¬ (65 : Int) ≤ (s[k].toNat : Int) := by omega
        have f33 : (33 : Int) ≤ (s[k].toNat : Int) := by omega
        have f58 : (58 : Int) ≤ (s[k].toNat : Int) := by omega
        have f91 : ¬ (91 : Int) ≤ (s[k].toNat : Int) := by omega
        have f123 : ¬ (123 : Int) ≤ (s[k].toNat : Int) := by omega
        have f73 : (s[k].toNat : Int) ≤ 73 := by omega
        have f43 : ¬ (s[k].toNat : Int) ≤ 43 := by omega
        have f64 : (s[k].toNat : Int) ≤ 64 := by omega
        have f94 : (s[k].toNat : Int) ≤ 94 := by omega
        have f126 : (s[k].toNat : Int) ≤ 126 := by omega
        have f84 : ((s[k].toNat : Int) == 84) = false := by rw [beq_eq_false_iff_ne]; omega
        have f87 : ((s[k].toNat : Int) == 87) = false := by rw [beq_eq_false_iff_ne]; omega
        have f88 : ((s[k].toNat : Int) == 88) = false := by rw [beq_eq_false_iff_ne]; omega
        have f32 : ((s[k].toNat : Int) == 32) = false := by rw [beq_eq_false_iff_ne]; omega
        have f45 : ((s[k].toNat : Int) == 45) = false := by rw [beq_eq_false_iff_ne]; omega
        have f47 : ((s[k].toNat : Int) == 47) = false := by rw [beq_eq_false_iff_ne]; omega
        clear b1 b2 hbyte
        go_wp2
        go_round
        case rel => exact ⟨k + 1, by go_num, plain_step s k HP.out hlt HOK.out⟩
        case measure => simp [intOf]; omega
      · have HOK := hideP (show okB s[k].toNat by unfold okB; omega)
        by_cases hk0 : k = 0
        · subst hk0
          have z : (((0 : Nat) : Int) == 0) = true := rfl
          have f65 : (65 : Int) ≤ (s[0].toNat : Int) := by omega
          have f33 : (33 : Int) ≤ (s[0].toNat : Int) := by omega
          have f58 : (58 : Int) ≤ (s[0].toNat : Int) := by omega
          have f91 : ¬ (91 : Int) ≤ (s[0].toNat : Int) := by omega
          have f123 : ¬ (123 : Int) ≤ (s[0].toNat : Int) := by omega
          have f73 : (s[0].toNat : Int) ≤ 73 := by omega
          have f43 : ¬ (s[0].toNat : Int) ≤ 43 := by omega
          have f64 : ¬ (s[0].toNat : Int) ≤ 64 := by omega
          have f94 : (s[0].toNat : Int) ≤ 94 := by omega
          have f126 : (s[0].toNat : Int) ≤ 126 := by omega
          have f84 : ((s[0].toNat : Int) == 84) = false := by rw [beq_eq_false_iff_ne]; omega
          have f87 : ((s[0].toNat : Int) == 87) = false := by rw [beq_eq_false_iff_ne]; omega
          have f88 : ((s[0].toNat : Int) == 88) = false := by rw [beq_eq_false_iff_ne]; omega
          have f32 : ((s[0].toNat : Int) == 32) = false := by rw [beq_eq_false_iff_ne]; omega
          have f45 : ((s[0].toNat : Int) == 45) = false := by rw [beq_eq_false_iff_ne]; omega
          have f47 : ((s[0].toNat : Int) == 47) = false := by rw [beq_eq_false_iff_ne]; omega
          clear b1 b2 hbyte
          go_wp2
          all_goals (go_ret; exact ⟨false, rfl, fun h => (by cases h), rfl⟩)
        · have z : ((k : Int) == 0) = false := by rw [beq_eq_false_iff_ne]; omega
          have f65 : (65 : Int) ≤ (s[k].toNat : Int) := by omega
          have f33 : (33 : Int) ≤ (s[k].toNat : Int) := by omega
          have f58 : (58 : Int) ≤ (s[k].toNat : Int) := by omega
          have f91 : ¬ (91 : Int) ≤ (s[k].toNat : Int) := by omega
          have f123 : ¬ (123 : Int) ≤ (s[k].toNat : Int) := by omega
          have f73 : (s[k].toNat : Int) ≤ 73 := by omega
          have f43 : ¬ (s[k].toNat : Int) ≤ 43 := by omega
          have f64 : ¬ (s[k].toNat : Int) ≤ 64 := by omega
          have f94 : (s[k].toNat : Int) ≤ 94 := by omega
          have f126 : (s[k].toNat : Int) ≤ 126 := by omega
          have f84 : ((s[k].toNat : Int) == 84) = false := by rw [beq_eq_false_iff_ne]; omega
          have f87 : ((s[k].toNat : Int) == 87) = false := by rw [beq_eq_false_iff_ne]; omega
          have f88 : ((s[k].toNat : Int) == 88) = false := by rw [beq_eq_false_iff_ne]; omega
          have f32 : ((s[k].toNat : Int) == 32) = false := by rw [beq_eq_false_iff_ne]; omega
          have f45 : ((s[k].toNat : Int) == 45) = false := by rw [beq_eq_false_iff_ne]; omega
          have f47 : ((s[k].toNat : Int) == 47) = false := by rw [beq_eq_false_iff_ne]; omega
          clear b1 b2 hbyte
          go_wp2
          go_round
          case rel => exact ⟨k + 1, by go_num, plain_step s k HP.out hlt HOK.out⟩
          case measure => simp [intOf]; omega
      · skip
        have f65 : (65 : Int) ≤ (s[k].toNat : Int) := by omega
        have f33 : (33 : Int) ≤ (s[k].toNat : Int) := by omega
        have f58 : (58 : Int) ≤ (s[k].toNat : Int) := by omega
        have f91 : ¬ (91 : Int) ≤ (s[k].toNat : Int) := by omega
        have f123 : ¬ (123 : Int) ≤ (s[k].toNat : Int) := by omega
        have f73 : ¬ (s[k].toNat : Int) ≤ 73 := by omega
        have f43 : ¬ (s[k].toNat : Int) ≤ 43 := by omega
        have f64 : ¬ (s[k].toNat : Int) ≤ 64 := by omega
        have f94 : (s[k].toNat : Int) ≤ 94 := by omega
        have f126 : (s[k].toNat : Int) ≤ 126 := by omega
        have f84 : ((s[k].toNat : Int) == 84) = false := by rw [beq_eq_false_iff_ne]; omega
        have f87 : ((s[k].toNat : Int) == 87) = false := by rw [beq_eq_false_iff_ne]; omega
        have f88 : ((s[k].toNat : Int) == 88) = false := by rw [beq_eq_false_iff_ne]; omega
        have f32 : ((s[k].toNat : Int) == 32) = false := by rw [beq_eq_false_iff_ne]; omega
        have f45 : ((s[k].toNat : Int) == 45) = false := by rw [beq_eq_false_iff_ne]; omega
        have f47 : ((s[k].toNat : Int) == 47) = false := by rw [beq_eq_false_iff_ne]; omega
        clear b1 b2 hbyte
        go_wp2
        all_goals (go_ret; exact ⟨false, rfl, fun h => (by cases h), rfl⟩)
      · have HOK := hideP (show okB s[k].toNat by unfold okB; omega)
        by_cases hk0 : k = 0
        · subst hk0
          have z : (((0 : Nat) : Int) == 0) = true := rfl
          have f65 : (65 : Int) ≤ (s[0].toNat : Int) := by omega
          have f33 : (33 : Int) ≤ (s[0].toNat : Int) := by omega
          have f58 : (58 : Int) ≤ (s[0].toNat : Int) := by omega
          have f91 : ¬ (91 : Int) ≤ (s[0].toNat : Int) := by omega
          have f123 : ¬ (123 : Int) ≤ (s[0].toNat : Int) := by omega
          have f73 : ¬ (s[0].toNat : Int) ≤ 73 := by omega
          have f43 : ¬ (s[0].toNat : Int) ≤ 43 := by omega
          have f64 : ¬ (s[0].toNat : Int) ≤ 64 := by omega
          have f94 : (s[0].toNat : Int) ≤ 94 := by omega
          have f126 : (s[0].toNat : Int) ≤ 126 := by omega
          have f84 : ((s[0].toNat : Int) == 84) = true := by rw [beq_iff_eq]; omega
          have f87 : ((s[0].toNat : Int) == 87) = false := by rw [beq_eq_false_iff_ne]; omega
          have f88 : ((s[0].toNat : Int) == 88) = false := by rw [beq_eq_false_iff_ne]; omega
          have f32 : ((s[0].toNat : Int) == 32) = false := by rw [beq_eq_false_iff_ne]; omega
          have f45 : ((s[0].toNat : Int) == 45) = false := by rw [beq_eq_false_iff_ne]; omega
          have f47 : ((s[0].toNat : Int) == 47) = false := by rw [beq_eq_false_iff_ne]; omega
          clear b1 b2 hbyte
          go_wp2
          all_goals (go_ret; exact ⟨false, rfl, fun h => (by cases h), rfl⟩)
        · have z : ((k : Int) == 0) = false := by rw [beq_eq_false_iff_ne]; omega
          have f65 : (65 : Int) ≤ (s[k].toNat : Int) := by omega
          have f33 : (33 : Int) ≤ (s[k].toNat : Int) := by omega
          have f58 : (58 : Int) ≤ (s[k].toNat : Int) := by omega
          have f91 : ¬ (91 : Int) ≤ (s[k].toNat : Int) := by omega
          have f123 : ¬ (123 : Int) ≤ (s[k].toNat : Int) := by omega
          have f73 : ¬ (s[k].toNat : Int) ≤ 73 := by omega
          have f43 : ¬ (s[k].toNat : Int) ≤ 43 := by omega
          have f64 : ¬ (s[k].toNat : Int) ≤ 64 := by omega
          have f94 : (s[k].toNat : Int) ≤ 94 := by omega
          have f126 : (s[k].toNat : Int) ≤ 126 := by omega
          have f84 : ((s[k].toNat : Int) == 84) = true := by rw [beq_iff_eq]; omega
          have f87 : ((s[k].toNat : Int) == 87) = false := by rw [beq_eq_false_iff_ne]; omega
          have f88 : ((s[k].toNat : Int) == 88) = false := by rw [beq_eq_false_iff_ne]; omega
          have f32 : ((s[k].toNat : Int) == 32) = false := by rw [beq_eq_false_iff_ne]; omega
          have f45 : ((s[k].toNat : Int) == 45) = false := by rw [beq_eq_false_iff_ne]; omega
          have f47 : ((s[k].toNat : Int) == 47) = false := by rw [beq_eq_false_iff_ne]; omega
          clear b1 b2 hbyte
          go_wp2
          go_round
          case rel => exact ⟨k + 1, by go_num, plain_step s k HP.out hlt HOK.out⟩
          case measure => simp [intOf]; omega
      · skip
        have f65 : (65 : Int) ≤ (s[k].toNat : Int) := by omega
        have f33 : (33 : Int) ≤ (s[k].toNat : Int) := by omega
        have f58 : (58 : Int) ≤ (s[k].toNat : Int) := by omega
        have f91 : ¬ (91 : Int) ≤ (s[k].toNat : Int) := by omega
        have f123 : ¬ (123 : Int) ≤ (s[k].toNat : Int) := by omega
        have f73 : ¬ (s[k].toNat : Int) ≤ 73 := by omega
        have f43 : ¬ (s[k].toNat : Int) ≤ 43 := by omega
        have f64 : ¬ (s[k].toNat : Int) ≤ 64 := by omega
        have f94 : (s[k].toNat : Int) ≤ 94 := by omega
        have f126 : (s[k].toNat : Int) ≤ 126 := by omega
        have f84 : ((s[k].toNat : Int) == 84) = false := by rw [beq_eq_false_iff_ne]; omega
        have f87 : ((s[k].toNat : Int) == 87) = false := by rw [beq_eq_false_iff_ne]; omega
        have f88 : ((s[k].toNat : Int) == 88) = false := by rw [beq_eq_false_iff_ne]; omega
        have f32 : ((s[k].toNat : Int) == 32) = false := by rw [beq_eq_false_iff_ne]; omega
        have f45 : ((s[k].toNat : Int) == 45) = false := by rw [beq_eq_false_iff_ne]; omega
        have f47 : ((s[k].toNat : Int) == 47) = false := by rw [beq_eq_false_iff_ne]; omega
        clear b1 b2 hbyte
        go_wp2
        all_goals (go_ret; exact ⟨false, rfl, fun h => (by cases h), rfl⟩)
      · have HOK := hideP (show okB s[k].toNat by unfold okB; omega)
        by_cases hk0 : k = 0
        · subst hk0
          have z : (((0 : Nat) : Int) == 0) = true := rfl
          have f65 : (65 : Int) ≤ (s[0].toNat : Int) := by omega
          have f33 : (33 : Int) ≤ (s[0].toNat : Int) := by omega
          have f58 : (58 : Int) ≤ (s[0].toNat : Int) := by omega
          have f91 : ¬ (91 : Int) ≤ (s[0].toNat : Int) := by omega
          have f123 : ¬ (123 : Int) ≤ (s[0].toNat : Int) := by omega
          have f73 : ¬ (s[0].toNat : Int) ≤ 73 := by omega
          have f43 : ¬ (s[0].toNat : Int) ≤ 43 := by omega
          have f64 : ¬ (s[0].toNat : Int) ≤ 64 := by omega
          have f94 : (s[0].toNat : Int) ≤ 94 := by omega
          have f126 : (s[0].toNat : Int) ≤ 126 := by omega
          have f84 : ((s[0].toNat : Int) == 84) = false := by rw [beq_eq_false_iff_ne]; omega
          have f87 : ((s[0].toNat : Int) == 87) = true := by rw [beq_iff_eq]; omega
          have f88 : ((s[0].toNat : Int) == 88) = false := by rw [beq_eq_false_iff_ne]; omega
          have f32 : ((s[0].toNat : Int) == 32) = false := by rw [beq_eq_false_iff_ne]; omega
          have f45 : ((s[0].toNat : Int) == 45) = false := by rw [beq_eq_false_iff_ne]; omega
          have f47 : ((s[0].toNat : Int) == 47) = false := by rw [beq_eq_false_iff_ne]; omega
          clear b1 b2 hbyte
          go_wp2
          all_goals (go_ret; exact ⟨false, rfl, fun h => (by cases h), rfl⟩)
        · have z : ((k : Int) == 0) = false := by rw [beq_eq_false_iff_ne]; omega
          have f65 : (65 : Int) ≤ (s[k].toNat : Int) := by omega
          have f33 : (33 : Int) ≤ (s[k].toNat : Int) := by omega
          have f58 : (58 : Int) ≤ (s[k].toNat : Int) := by omega
          have f91 : ¬ (91 : Int) ≤ (s[k].toNat : Int) := by omega
          have f123 : ¬ (123 : Int) ≤ (s[k].toNat : Int) := by omega
          have f73 : ¬ (s[k].toNat : Int) ≤ 73 := by omega
          have f43 : ¬ (s[k].toNat : Int) ≤ 43 := by omega
          have f64 : ¬ (s[k].toNat : Int) ≤ 64 := by omega
          have f94 : (s[k].toNat : Int) ≤ 94 := by omega
          have f126 : (s[k].toNat : Int) ≤ 126 := by omega
          have f84 : ((s[k].toNat : Int) == 84) = false := by rw [beq_eq_false_iff_ne]; omega
          have f87 : ((s[k].toNat : Int) == 87) = true := by rw [beq_iff_eq]; omega
          have f88 : ((s[k].toNat : Int) == 88) = false := by rw [beq_eq_false_iff_ne]; omega
          have f32 : ((s[k].toNat : Int) == 32) = false := by rw [beq_eq_false_iff_ne]; omega
          have f45 : ((s[k].toNat : Int) == 45) = false := by rw [beq_eq_false_iff_ne]; omega
          have f47 : ((s[k].toNat : Int) == 47) = false := by rw [beq_eq_false_iff_ne]; omega
          clear b1 b2 hbyte
          go_wp2
          go_round
          case rel => exact ⟨k + 1, by go_num, plain_step s k HP.out hlt HOK.out⟩
          case measure => simp [intOf]; omega
      · have HOK := hideP (show okB s[k].toNat by unfold okB; omega)
        by_cases hk0 : k = 0
        · subst hk0
          have z : (((0 : Nat) : Int) == 0) = true := rfl
          have f65 : (65 : Int) ≤ (s[0].toNat : Int) := by omega
          have f33 : (33 : Int) ≤ (s[0].toNat : Int) := by omega
          have f58 : (58 : Int) ≤ (s[0].toNat : Int) := by omega
          have f91 : ¬ (91 : Int) ≤ (s[0].toNat : Int) := by omega
          have f123 : ¬ (123 : Int) ≤ (s[0].toNat : Int) := by omega
          have f73 : ¬ (s[0].toNat : Int) ≤ 73 := by omega
          have f43 : ¬ (s[0].toNat : Int) ≤ 43 := by omega
          have f64 : ¬ (s[0].toNat : Int) ≤ 64 := by omega
          have f94 : (s[0].toNat : Int) ≤ 94 := by omega
          have f126 : (s[0].toNat : Int) ≤ 126 := by omega
          have f84 : ((s[0].toNat : Int) == 84) = false := by rw [beq_eq_false_iff_ne]; omega
          have f87 : ((s[0].toNat : Int) == 87) = false := by rw [beq_eq_false_iff_ne]; omega
          have f88 : ((s[0].toNat : Int) == 88) = true := by rw [beq_iff_eq]; omega
          have f32 : ((s[0].toNat : Int) == 32) = false := by rw [beq_eq_false_iff_ne]; omega
          have f45 : ((s[0].toNat : Int) == 45) = false := by rw [beq_eq_false_iff_ne]; omega
          have f47 : ((s[0].toNat : Int) == 47) = false := by rw [beq_eq_false_iff_ne]; omega
          clear b1 b2 hbyte
          go_wp2
          all_goals (go_ret; exact ⟨false, rfl, fun h => (by cases h), rfl⟩)
        · have z : ((k : Int) == 0) = false := by rw [beq_eq_false_iff_ne]; omega
          have f65 : (65 : Int) ≤ (s[k].toNat : Int) := by omega
          have f33 : (33 : Int) ≤ (s[k].toNat : Int) := by omega
          have f58 : (58 : Int) ≤ (s[k].toNat : Int) := by omega
          have f91 : ¬ (91 : Int) ≤ (s[k].toNat : Int) := by omega
          have f123 : ¬ (123 : Int) ≤ (s[k].toNat : Int) := by omega
          have f73 : ¬ (s[k].toNat : Int) ≤ 73 := by omega
          have f43 : ¬ (s[k].toNat : Int) ≤ 43 := by omega
          have f64 : ¬ (s[k].toNat : Int) ≤ 64 := by omega
          have f94 : (s[k].toNat : Int) ≤ 94 := by omega
          have f126 : (s[k].toNat : Int) ≤ 126 := by omega
          have f84 : ((s[k].toNat : Int) == 84) = false := by rw [beq_eq_false_iff_ne]; omega
          have f87 : ((s[k].toNat : Int) == 87) = false := by rw [beq_eq_false_iff_ne]; omega
          have f88 : ((s[k].toNat : Int) == 88) = true := by rw [beq_iff_eq]; omega
          have f32 : ((s[k].toNat : Int) == 32) = false := by rw [beq_eq_false_iff_ne]; omega
          have f45 : ((s[k].toNat : Int) == 45) = false := by rw [beq_eq_false_iff_ne]; omega
          have f47 : ((s[k].toNat : Int) == 47) = false := by rw [beq_eq_false_iff_ne]; omega
          clear b1 b2 hbyte
          go_wp2
          go_round
          case rel => exact ⟨k + 1, by go_num, plain_step s k HP.out hlt HOK.out⟩
          case measure => simp [intOf]; omega
      · skip
        have f65 : (65 : Int) ≤ (s[k].toNat : Int) := by omega
        have f33 : (33 : Int) ≤ (s[k].toNat : Int) := by omega
        have f58 : (58 : Int) ≤ (s[k].toNat : Int) := by omega
        have f91 : ¬ (91 : Int) ≤ (s[k].toNat : Int) := by omega
        have f123 : ¬ (123 : Int) ≤ (s[k].toNat : Int) := by omega
        have f73 : ¬ (s[k].toNat : Int) ≤ 73 := by omega
        have f43 : ¬ (s[k].toNat : Int) ≤ 43 := by omega
        have f64 : ¬ (s[k].toNat : Int) ≤ 64 := by omega
        have f94 : (s[k].toNat : Int) ≤ 94 := by omega
        have f126 : (s[k].toNat : Int) ≤ 126 := by omega
        have f84 : ((s[k].toNat : Int) == 84) = false := by rw [beq_eq_false_iff_ne]; omega
        have f87 : ((s[k].toNat : Int) == 87) = false := by rw [beq_eq_false_iff_ne]; omega
        have f88 : ((s[k].toNat : Int) == 88) = false := by rw [beq_eq_false_iff_ne]; omega
        have f32 : ((s[k].toNat : Int) == 32) = false := by rw [beq_eq_false_iff_ne]; omega
        have f45 : ((s[k].toNat : Int) == 45) = false := by rw [beq_eq_false_iff_ne]; omega
        have f47 : ((s[k].toNat : Int) == 47) = false := by rw [beq_eq_false_iff_ne]; omega
        clear b1 b2 hbyte
        go_wp2
        all_goals (go_ret; exact ⟨false, rfl, fun h => (by cases h), rfl⟩)
      · have HOK := hideP (show okB s[k].toNat by unfold okB; omega)
        have f65 : (65 : Int) ≤ (s[k].toNat : Int) := by omega
        have f33 : (33 : Int) ≤ (s[k].toNat : Int) := by omega
        have f58 : (58 : Int) ≤ (s[k].toNat : Int) := by omega
        have f91 : (91 : Int) ≤ (s[k].toNat : Int) := by omega
        have f123 : ¬ (123 : Int) ≤ (s[k].toNat : Int) := by omega
        have f73 : ¬ (s[k].toNat : Int) ≤ 73 := by omega
        have f43 : ¬ (s[k].toNat : Int) ≤ 43 := by omega
        have f64 : ¬ (s[k].toNat : Int) ≤ 64 := by omega
        have f94 : (s[k].toNat : Int) ≤ 94 := by omega
        have f126 : (s[k].toNat : Int) ≤ 126 := by omega
        have f84 : ((s[k].toNat : Int) == 84) = false := by rw [beq_eq_false_iff_ne]; omega
        have f87 : ((s[k].toNat : Int) == 87) = false := by rw [beq_eq_false_iff_ne]; omega
        have f88 : ((s[k].toNat : Int) == 88) = false := by rw [beq_eq_false_iff_ne]; omega
        have f32 : ((s[k].toNat : Int) == 32) = false := by rw [beq_eq_false_iff_ne]; omega
        have f45 : ((s[k].toNat : Int) == 45) = false := by rw [beq_eq_false_iff_ne]; omega
        have f47 : ((s[k].toNat : Int) == 47) = false := by rw [beq_eq_false_iff_ne]; omega
        clear b1 b2 hbyte
        go_wp2
        go_round
        case rel => exact ⟨k + 1, by go_num, plain_step s k HP.out hlt HOK.out⟩
        case measure => simp [intOf]; omega
      · skip
        have f65 : (65 : Int) ≤ (s[k].toNat : Int) := by omega
        have f33 : (33 : Int) ≤ (s[k].toNat : Int) := by omega
        have f58 : (58 : Int) ≤ (s[k].toNat : Int) := by omega
        have f91 : (91 : Int) ≤ (s[k].toNat : Int) := by omega
        have f123 : ¬ (123 : Int) ≤ (s[k].toNat : Int) := by omega
        have f73 : ¬ (s[k].toNat : Int) ≤ 73 := by omega
        have f43 : ¬ (s[k].toNat : Int) ≤ 43 := by omega
        have f64 : ¬ (s[k].toNat : Int) ≤ 64 := by omega
        have f94 : ¬ (s[k].toNat : Int) ≤ 94 := by omega
        have f126 : (s[k].toNat : Int) ≤ 126 := by omega
        have f84 : ((s[k].toNat : Int) == 84) = false := by rw [beq_eq_false_iff_ne]; omega
        have f87 : ((s[k].toNat : Int) == 87) = false := by rw [beq_eq_false_iff_ne]; omega
        have f88 : ((s[k].toNat : Int) == 88) = false := by rw [beq_eq_false_iff_ne]; omega
        have f32 : ((s[k].toNat : Int) == 32) = false := by rw [beq_eq_false_iff_ne]; omega
        have f45 : ((s[k].toNat : Int) == 45) = false := by rw [beq_eq_false_iff_ne]; omega
        have f47 : ((s[k].toNat : Int) == 47) = false := by rw [beq_eq_false_iff_ne]; omega
        clear b1 b2 hbyte
        go_wp2
        all_goals (go_ret; exact ⟨false, rfl, fun h => (by cases h), rfl⟩)
      · have HOK := hideP (show okB s[k].toNat by unfold okB; omega)
        have f65 : (65 : Int) ≤ (s[k].toNat : Int) := by omega
        have f33 : (33 : Int) ≤ (s[k].toNat : Int) := by omega
        have f58 : (58 : Int) ≤ (s[k].toNat : Int) := by omega
        have f91 : (91 : Int) ≤ (s[k].toNat : Int) := by omega
        have f123 : (123 : Int) ≤ (s[k].toNat : Int) := by omega
        have f73 : ¬ (s[k].toNat : Int) ≤ 73 := by omega
        have f43 : ¬ (s[k].toNat : Int) ≤ 43 := by omega
        have f64 : ¬ (s[k].toNat : Int) ≤ 64 := by omega
        have f94 : ¬ (s[k].toNat : Int) ≤ 94 := by omega
        have f126 : (s[k].toNat : Int) ≤ 126 := by omega
        have f84 : ((s[k].toNat : Int) == 84) = false := by rw [beq_eq_false_iff_ne]; omega
        have f87 : ((s[k].toNat : Int) == 87) = false := by rw [beq_eq_false_iff_ne]; omega
        have f88 : ((s[k].toNat : Int) == 88) = false := by rw [beq_eq_false_iff_ne]; omega
        have f32 : ((s[k].toNat : Int) == 32) = false := by rw [beq_eq_false_iff_ne]; omega
        have f45 : ((s[k].toNat : Int) == 45) = false := by rw [beq_eq_false_iff_ne]; omega
        have f47 : ((s[k].toNat : Int) == 47) = false := by rw [beq_eq_false_iff_ne]; omega
        clear b1 b2 hbyte
        go_wp2
        go_round
        case rel => exact ⟨k + 1, by go_num, plain_step s k HP.out hlt HOK.out⟩
        case measure => simp [intOf]; omega
      · skip
        have f65 : (65 : Int) ≤ (s[k].toNat : Int) := by omega
        have f33 : (33 : Int) ≤ (s[k].toNat : Int) := by omega
        have f58 : (58 : Int) ≤ (s[k].toNat : Int) := by omega
        have f91 : (91 : Int) ≤ (s[k].toNat : Int) := by omega
        have f123 : (123 : Int) ≤ (s[k].toNat : Int) := by omega
        have f73 : ¬ (s[k].toNat : Int) ≤ 73 := by omega
        have f43 : ¬ (s[k].toNat : Int) ≤ 43 := by omega
        have f64 : ¬ (s[k].toNat : Int) ≤ 64 := by omega
        have f94 : ¬ (s[k].toNat : Int) ≤ 94 := by omega
        have f126 : ¬ (s[k].toNat : Int) ≤ 126 := by omega
        have f84 : ((s[k].toNat : Int) == 84) = false := by rw [beq_eq_false_iff_ne]; omega
        have f87 : ((s[k].toNat : Int) == 87) = false := by rw [beq_eq_false_iff_ne]; omega
        have f88 : ((s[k].toNat : Int) == 88) = false := by rw [beq_eq_false_iff_ne]; omega
        have f32 : ((s[k].toNat : Int) == 32) = false := by rw [beq_eq_false_iff_ne]; omega
        have f45 : ((s[k].toNat : Int) == 45) = false := by rw [beq_eq_false_iff_ne]; omega
        have f47 : ((s[k].toNat : Int) == 47) = false := by rw [beq_eq_false_iff_ne]; omega
        clear b1 b2 hbyte
        go_wp2
        all_goals (go_ret; exact ⟨false, rfl, fun h => (by cases h), rfl⟩)
    · have HA := hideP (show ∀ c ∈ bl s, okB c.toNat by
        have := HP.out.2
        rwa [List.take_of_length_le (by rw [bl_length]; omega)] at this)
      go_wp2
      go_ret
      refine ⟨_, rfl, fun h => ⟨?_, HA.out⟩, rfl⟩
      have h2 : decide ((s.size : Int) ≤ 1000) = true := h
      have h3 := of_decide_eq_true h2
      omega
end Go.Proofs.YtigabjibdepoiaaDoor.Tm
namespace Go.Proofs.YtigabjibdepoiaaDoor.Tm
set_option linter.unusedSimpArgs false
set_option linter.unusedVariables false
open Go.RowKit Go
def No07 (R : List UInt8) : Prop := ¬ (R[0]? = some 48 ∧ R[1]? = some 55)
theorem take_beq_get {l t : List UInt8} {n j : Nat} {c : UInt8} (h : (l.take n == t) = true) (hc : t[j]? = some c) : l[j]? = some c := by
  have e := eq_of_beq h
  rw [← e, List.getElem?_take] at hc
  split at hc
  · exact hc
  · cases hc
theorem ne_take {l t : List UInt8} {n j : Nat} {d : UInt8} (h : l[j]? ≠ some d) (ht : t[j]? = some d) : ¬ (l.take n == t) = true := fun e => h (take_beq_get e ht)
theorem zone_none (c : UInt8) (l : List UInt8) (a b d e f : Nat) (h : ¬ (l[1]? = some 48 ∧ l[2]? = some 55)) : stdZone c l a b d e f = none := by
  have k : ∀ (n : Nat) (t : List UInt8), t[1]? = some 48 → t[2]? = some 55 → ¬ (l.take n == t) = true := by
    intro n t h1 h2 hb
    exact h ⟨take_beq_get hb h1, take_beq_get hb h2⟩
  unfold stdZone
  rw [if_neg (k 7 _ rfl rfl), if_neg (k 9 _ rfl rfl), if_neg (k 5 _ rfl rfl), if_neg (k 6 _ rfl rfl), if_neg (k 3 _ rfl rfl)]
theorem plain_none (c : UInt8) (r : List UInt8) (h : okB c.toNat) (h7 : No07 r) : stdL (c :: r) = none := by
  show stdN c.toNat (c :: r) = none
  unfold okB at h
  unfold stdN
  by_cases h45 : c.toNat = 45
  · rw [if_neg (by omega), if_neg (by omega), if_neg (by omega), if_neg (by omega), if_neg (by omega), if_neg (by omega), if_neg (by omega), if_neg (by omega), if_neg (by omega), if_neg (by omega), if_neg (by omega), if_pos h45]
    exact zone_none 45 _ _ _ _ _ _ h7
  · rw [if_neg (by omega), if_neg (by omega), if_neg (by omega), if_neg (by omega), if_neg (by omega), if_neg (by omega), if_neg (by omega), if_neg (by omega), if_neg (by omega), if_neg (by omega), if_neg (by omega), if_neg h45, if_neg (by omega), if_neg (by omega), if_neg (by omega)]
theorem okB_48 {c : UInt8} (h : okB c.toNat) : c ≠ 48 := by
  rintro rfl
  revert h
  unfold okB
  decide
theorem no07_ok {c : UInt8} {r : List UInt8} (h : okB c.toNat) : No07 (c :: r) := by
  rintro ⟨e, _⟩
  exact okB_48 h (Option.some.inj e)
end Go.Proofs.YtigabjibdepoiaaDoor.Tm
namespace Go.Proofs.YtigabjibdepoiaaDoor.Tm
set_option linter.unusedSimpArgs false
set_option linter.unusedVariables false
open Go.RowKit Go
theorem fmtL_text0 (t : Tm) (R : List UInt8) (h7 : No07 R) : ∀ (tx : List UInt8), (∀ c ∈ tx, okB c.toNat) → fmtL t (tx ++ R) = tx ++ fmtL t R := by
  intro tx
  induction tx with
  | nil => intro _; rfl
  | cons c r ih =>
    intro h
    have hr := ih (fun d hd => h d (by simp [hd]))
    have hn : stdL (c :: (r ++ R)) = none := by
      refine plain_none c _ (h c (by simp)) ?_
      cases r with
      | nil => exact h7
      | cons d r => exact no07_ok (h d (by simp))
    rw [List.cons_append, fmtL_none t c (r ++ R) hn, hr, List.cons_append]
theorem fmt_plain (t : Tm) (s : ByteArray) (h : ∀ c ∈ bl s, okB c.toNat) : mkB (fmtL t (bl s)) = s := by
  have e := fmtL_text0 t [] (fun ⟨e, _⟩ => by cases e) (bl s) h
  rw [List.append_nil, fmtL_nil, List.append_nil] at e
  rw [e]
  exact ba_ext (bl_mkB _)
set_option maxRecDepth 100000 in
set_option maxHeartbeats 3200000 in
theorem lawFPlain (s : ByteArray) (c : Cv) (w : World) (hs : s.size ≤ 140737488351232) (hT : TabOk w) : Calls Tryd.prog 9 #[.string s, civV c] w (TrueTo w) := by
  by_cases hm : (s.size : Int) ≤ 2147483647
  case neg =>
    unfold civV
    go_enter Tryd.func9, Tryd.ntmps9
    go_wp2
    go_ret
    exact ⟨rfl, below_alloc w _⟩
  have PL := plain_any s
  by_cases hciv : CivP c
  case neg =>
    have HN := hideP hciv
    clear hciv hT
    have FT := fits3_any c; have CO := civilOk_any c
    unfold civV at FT CO ⊢
    go_enter Tryd.func9, Tryd.ntmps9
    go_wp2_with (first
      | (go_at_call 20; refine (FT _).mono ?_; rintro e w1 (⟨rfl, hz, hb⟩ | ⟨rfl, hb⟩) <;> (try (have HZ := hideP hz; clear hz)) <;> (have HB := hideP hb; have HCB := hideP ((cvb_new c w 28).kept hb); obtain ⟨c0, c1, c2, c3, c4, c5, c6, c7, c8⟩ := HCB.out; clear hb))
      | (go_at_call 16; refine (PL _ hs).mono ?_; rintro e w2 ⟨b, rfl, hp, rfl⟩; clear hp; cases b)
      | (go_at_call 22; refine (CO _ (Nat.le_trans HZ.out (by decide))).mono ?_; rintro e w3 (⟨rfl, h, -⟩ | ⟨rfl, hb⟩); exact absurd h HN.out; have HB3 := hideP hb; clear hb))
    all_goals go_ret
    all_goals first
      | exact ⟨rfl, ((below_alloc w _).trans (HB.out.mono (by simp))).trans (HB3.out.mono (Nat.le_trans (by simp) HB.out.size))⟩
      | exact ⟨rfl, (below_alloc w _).trans (HB.out.mono (by simp))⟩
  obtain ⟨t, hO, hcv⟩ := civ_tm hciv
  have FT := fits3_any c; have CO := civilOk_any c
  rw [hcv] at FT CO ⊢
  have HO := hideP hO
  have HT := hideP hT
  clear hO hT hcv hciv
  unfold cvV at FT CO ⊢
  go_enter Tryd.func9, Tryd.ntmps9
  go_wp2_with (first
    | (go_at_call 20; refine (FT _).mono ?_; rintro e w1 (⟨rfl, hz, hb⟩ | ⟨rfl, hb⟩) <;> (try (have HZ := hideP hz; clear hz)) <;> (have HB := hideP hb; have HCB := hideP ((cb_new t w 28).kept hb); obtain ⟨c0, c1, c2, c3, c4, c5, c6, c7, c8⟩ := HCB.out; have HW := hideP ((below_alloc w _).trans (hb.mono (by simp))); clear hb))
    | (go_at_call 16; refine (PL _ hs).mono ?_; rintro e w2 ⟨b, rfl, hp, rfl⟩; have HPL := hideP hp; clear hp; cases b)
    | (go_at_call 22; refine (CO _ (Nat.le_trans HZ.out (by decide))).mono ?_; rintro e w4 (⟨rfl, -, hb⟩ | ⟨rfl, hb⟩) <;> (have HCB := hideP (HCB.out.kept hb); have HW := hideP (HW.out.trans (hb.mono HW.out.size)); obtain ⟨c0', c1', c2', c3', c4', c5', c6', c7', c8'⟩ := HCB.out; clear hb))
    | fail)
  all_goals first
    | (go_wp2_with (fail); go_ret; exact ⟨rfl, HW.out⟩)
    | skip
  clear c0 c1 c2 c3 c4 c5 c6 c7 c8 FT CO PL
  have HC := hideP (Below.refl w4.heap.size w4)
  have HX := hideP (fmt_plain t s (HPL.out (by first | trivial | rfl)).2)
  have HS := hideP (show s.size ≤ 2147483647 by omega)
  have hXX : (s.toList == s.toList) = true := beq_self_eq_true _
  go_wp2_with
    (first
      | (go_at_call 24; refine (fmtImpl_any t s _ HO.out (HT.out.below (HW.out.trans (HC.out.mono HW.out.size))) HS.out).mono ?_; rintro e w5 ⟨rfl, hb⟩; rw [HX.out]; have HC := hideP (HC.out.trans (hb.mono HC.out.size)); obtain ⟨d0, d1, d2, d3, d4, d5, d6, d7, d8⟩ := HCB.out.kept HC.out; clear hb)
      | (go_at_call 27; refine (writes_any _ (HT.out.below (HW.out.trans (HC.out.mono HW.out.size)))).mono ?_; rintro e w7 ⟨rfl, hb⟩; have HC := hideP (HC.out.trans (hb.mono HC.out.size)); obtain ⟨d0, d1, d2, d3, d4, d5, d6, d7, d8⟩ := HCB.out.kept HC.out; clear hb))
  all_goals (go_wp2; go_ret; exact ⟨by simp, HW.out.trans (HC.out.mono HW.out.size)⟩)
end Go.Proofs.YtigabjibdepoiaaDoor.Tm
