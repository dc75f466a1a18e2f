/- The walk of the reference's Plain. A plain text has no element. The walk of the reference's element: what stands for an element in a layout. The plain law of layouts: what Format writes by the layout of pieces that may stand side by side is the pieces' texts. A buffer that began as a string's bytes: its block bears a mark behind its last cell. The walk of the reference's element for fractions and for any piece, and of Layout. The walk of the reference's Layout. The law FnFormatFraction: its walk. -/
import Derived.Test.YtigabjibdepoiaaDoorProg
import Derived.Test.YtigabjibdepoiaaDoorBase
import Derived.Test.YtigabjibdepoiaaDoorChunkA
import Derived.Test.YtigabjibdepoiaaDoorLayK
import Derived.Laws.IdiomStrings
import Derived.Test.YtigabjibdepoiaaDoorPad
namespace Go.Proofs.YtigabjibdepoiaaDoor.Tm
set_option linter.unusedSimpArgs false
set_option linter.unusedVariables false
open Go.RowKit Go
/-- The bytes of a plain text. -/
def okB (n : Nat) : Prop := (65 ≤ n ∧ n ≤ 73) ∨ n = 84 ∨ n = 87 ∨ n = 88 ∨ (32 ≤ n ∧ n ≤ 43) ∨ n = 45 ∨ n = 47 ∨ (58 ≤ n ∧ n ≤ 64) ∨ (91 ≤ n ∧ n ≤ 94) ∨ (123 ≤ n ∧ n ≤ 126)
def PlainTo (s : ByteArray) (k : Nat) : Prop := k ≤ s.size ∧ ∀ c ∈ (bl s).take k, okB c.toNat
theorem plain_step (s : ByteArray) (k : Nat) (h : PlainTo s k) (hlt : k < s.size) (hc : okB s[k].toNat) : PlainTo s (k + 1) := by
  refine ⟨hlt, ?_⟩
  rw [bl_take s k hlt]
  intro c hcm
  rcases List.mem_append.1 hcm with g | g
  · exact h.2 c g
  · obtain rfl := List.mem_singleton.1 g; exact hc
def PlainPost (s : ByteArray) (w : World) (e : Ending) (w' : World) : Prop := ∃ b, e = .returned (.bool b) ∧ (b = true → s.size ≤ 1000 ∧ ∀ c ∈ bl s, okB c.toNat) ∧ w = w'
set_option maxRecDepth 100000 in
set_option maxHeartbeats 100000000 in
theorem plain_any (s : ByteArray) (w : World) (hs : s.size ≤ 140737488351232) :
    Calls Tryd.prog 16 #[.string s] w (PlainPost s w) := by
  go_enter Tryd.func16, Tryd.ntmps16
  go_wp2
  go_loop [3] (fun i => ∃ k : Nat, i = .int .i64 k ∧ PlainTo s k) (fun i => s.size - (intOf i).toNat)
  case atStart => exact ⟨0, rfl, Nat.zero_le _, by simp⟩
  case round =>
    obtain ⟨k, rfl, hp⟩ := hrel
    have hk := hp.1
    have HP := hideP hp
    clear hp
    by_cases hlt : k < s.size
    · have hbyte := s[k].toNat_lt
      have hsp : ((0 : Int) ≤ s[k].toNat ∧ (s[k].toNat : Int) ≤ 31) ∨ ((32 : Int) ≤ s[k].toNat ∧ (s[k].toNat : Int) ≤ 32) ∨ ((33 : Int) ≤ s[k].toNat ∧ (s[k].toNat : Int) ≤ 43) ∨ ((44 : Int) ≤ s[k].toNat ∧ (s[k].toNat : Int) ≤ 44) ∨ ((45 : Int) ≤ s[k].toNat ∧ (s[k].toNat : Int) ≤ 45) ∨ ((46 : Int) ≤ s[k].toNat ∧ (s[k].toNat : Int) ≤ 46) ∨ ((47 : Int) ≤ s[k].toNat ∧ (s[k].toNat : Int) ≤ 47) ∨ ((48 : Int) ≤ s[k].toNat ∧ (s[k].toNat : Int) ≤ 57) ∨ ((58 : Int) ≤ s[k].toNat ∧ (s[k].toNat : Int) ≤ 64) ∨ ((65 : Int) ≤ s[k].toNat ∧ (s[k].toNat : Int) ≤ 73) ∨ ((74 : Int) ≤ s[k].toNat ∧ (s[k].toNat : Int) ≤ 83) ∨ ((84 : Int) ≤ s[k].toNat ∧ (s[k].toNat : Int) ≤ 84) ∨ ((85 : Int) ≤ s[k].toNat ∧ (s[k].toNat : Int) ≤ 86) ∨ ((87 : Int) ≤ s[k].toNat ∧ (s[k].toNat : Int) ≤ 87) ∨ ((88 : Int) ≤ s[k].toNat ∧ (s[k].toNat : Int) ≤ 88) ∨ ((89 : Int) ≤ s[k].toNat ∧ (s[k].toNat : Int) ≤ 90) ∨ ((91 : Int) ≤ s[k].toNat ∧ (s[k].toNat : Int) ≤ 94) ∨ ((95 : Int) ≤ s[k].toNat ∧ (s[k].toNat : Int) ≤ 122) ∨ ((123 : Int) ≤ s[k].toNat ∧ (s[k].toNat : Int) ≤ 126) ∨ ((127 : Int) ≤ s[k].toNat ∧ (s[k].toNat : Int) ≤ 255) := by omega
      rcases hsp with ⟨b1, b2⟩ | ⟨b1, b2⟩ | ⟨b1, b2⟩ | ⟨b1, b2⟩ | ⟨b1, b2⟩ | ⟨b1, b2⟩ | ⟨b1, b2⟩ | ⟨b1, b2⟩ | ⟨b1, b2⟩ | ⟨b1, b2⟩ | ⟨b1, b2⟩ | ⟨b1, b2⟩ | ⟨b1, b2⟩ | ⟨b1, b2⟩ | ⟨b1, b2⟩ | ⟨b1, b2⟩ | ⟨b1, b2⟩ | ⟨b1, b2⟩ | ⟨b1, b2⟩ | ⟨b1, b2⟩
      · skip
        have f65 : ¬ (65 : Int) ≤ (s[k].toNat : Int) := by omega
        have f33 : ¬ (33 : Int) ≤ (s[k].toNat : Int) := by omega
        have f58 : ¬ (58 : Int) ≤ (s[k].toNat : Int) := by omega
        have f91 : ¬ (91 : Int) ≤ (s[k].toNat : Int) := by omega
        have f123 : ¬ (123 : Int) ≤ (s[k].toNat : Int) := by omega
        have f73 : (s[k].toNat : Int) ≤ 73 := by omega
        have f43 : (s[k].toNat : Int) ≤ 43 := by omega
        have f64 : (s[k].toNat : Int) ≤ 64 := by omega
        have f94 : (s[k].toNat : Int) ≤ 94 := by omega
        have f126 : (s[k].toNat : Int) ≤ 126 := by omega
        have f84 : ((s[k].toNat : Int) == 84) = false := by rw [beq_eq_false_iff_ne]; omega
        have f87 : ((s[k].toNat : Int) == 87) = false := by rw [beq_eq_false_iff_ne]; omega
        have f88 : ((s[k].toNat : Int) == 88) = false := by rw [beq_eq_false_iff_ne]; omega
        have f32 : ((s[k].toNat : Int) == 32) = false := by rw [beq_eq_false_iff_ne]; omega
        have f45 : ((s[k].toNat : Int) == 45) = false := by rw [beq_eq_false_iff_ne]; omega
        have f47 : ((s[k].toNat : Int) == 47) = false := by rw [beq_eq_false_iff_ne]; omega
        clear b1 b2 hbyte
        go_wp2
        all_goals (go_ret; exact ⟨false, rfl, fun h => (by cases h), rfl⟩)
      · have HOK := hideP (show okB s[k].toNat by unfold okB; omega)
        have f65 : ¬ (65 : Int) ≤ (s[k].toNat : Int) := by omega
        have f33 : ¬ (33 : Int) ≤ (s[k].toNat : Int) := by omega
        have f58 : ¬ (58 : Int) ≤ (s[k].toNat : Int) := by omega
        have f91 : ¬ (91 : Int) ≤ (s[k].toNat : Int) := by omega
        have f123 : ¬ (123 : Int) ≤ (s[k].toNat : Int) := by omega
        have f73 : (s[k].toNat : Int) ≤ 73 := by omega
        have f43 : (s[k].toNat : Int) ≤ 43 := by omega
        have f64 : (s[k].toNat : Int) ≤ 64 := by omega
        have f94 : (s[k].toNat : Int) ≤ 94 := by omega
        have f126 : (s[k].toNat : Int) ≤ 126 := by omega
        have f84 : ((s[k].toNat : Int) == 84) = false := by rw [beq_eq_false_iff_ne]; omega
        have f87 : ((s[k].toNat : Int) == 87) = false := by rw [beq_eq_false_iff_ne]; omega
        have f88 : ((s[k].toNat : Int) == 88) = false := by rw [beq_eq_false_iff_ne]; omega
        have f32 : ((s[k].toNat : Int) == 32) = true := by rw [beq_iff_eq]; omega
        have f45 : ((s[k].toNat : Int) == 45) = false := by rw [beq_eq_false_iff_ne]; omega
        have f47 : ((s[k].toNat : Int) == 47) = false := by rw [beq_eq_false_iff_ne]; omega
        clear b1 b2 hbyte
        go_wp2
        go_round
        case rel => exact ⟨k + 1, by go_num, plain_step s k HP.out hlt HOK.out⟩
        case measure => simp [intOf]; omega
      · have HOK := hideP (show okB s[k].toNat by unfold okB; omega)
        have f65 : ¬ (65 : Int) ≤ (s[k].toNat : Int) := by omega
        have f33 : (33 : Int) ≤ (s[k].toNat : Int) := by omega
        have f58 : ¬ (58 : Int) ≤ (s[k].toNat : Int) := by omega
        have f91 : ¬ (91 : Int) ≤ (s[k].toNat : Int) := by omega
        have f123 : ¬ (123 : Int) ≤ (s[k].toNat : Int) := by omega
        have f73 : (s[k].toNat : Int) ≤ 73 := by omega
        have f43 : (s[k].toNat : Int) ≤ 43 := by omega
        have f64 : (s[k].toNat : Int) ≤ 64 := by omega
        have f94 : (s[k].toNat : Int) ≤ 94 := by omega
        have f126 : (s[k].toNat : Int) ≤ 126 := by omega
        have f84 : ((s[k].toNat : Int) == 84) = false := by rw [beq_eq_false_iff_ne]; omega
        have f87 : ((s[k].toNat : Int) == 87) = false := by rw [beq_eq_false_iff_ne]; omega
        have f88 : ((s[k].toNat : Int) == 88) = false := by rw [beq_eq_false_iff_ne]; omega
        have f32 : ((s[k].toNat : Int) == 32) = false := by rw [beq_eq_false_iff_ne]; omega
        have f45 : ((s[k].toNat : Int) == 45) = false := by rw [beq_eq_false_iff_ne]; omega
        have f47 : ((s[k].toNat : Int) == 47) = false := by rw [beq_eq_false_iff_ne]; omega
        clear b1 b2 hbyte
        go_wp2
        go_round
        case rel => exact ⟨k + 1, by go_num, plain_step s k HP.out hlt HOK.out⟩
        case measure => simp [intOf]; omega
      · skip
        have f65 : ¬ (65 : Int) ≤ (s[k].toNat : Int) := by omega
        have f33 : (33 : Int) ≤ (s[k].toNat : Int) := by omega
        have f58 : ¬ (58 : Int) ≤ (s[k].toNat : Int) := by omega
        have f91 : ¬ (91 : Int) ≤ (s[k].toNat : Int) := by omega
        have f123 : ¬ (123 : Int) ≤ (s[k].toNat : Int) := by omega
        have f73 : (s[k].toNat : Int) ≤ 73 := by omega
        have f43 : ¬ (s[k].toNat : Int) ≤ 43 := by omega
        have f64 : (s[k].toNat : Int) ≤ 64 := by omega
        have f94 : (s[k].toNat : Int) ≤ 94 := by omega
        have f126 : (s[k].toNat : Int) ≤ 126 := by omega
        have f84 : ((s[k].toNat : Int) == 84) = false := by rw [beq_eq_false_iff_ne]; omega
        have f87 : ((s[k].toNat : Int) == 87) = false := by rw [beq_eq_false_iff_ne]; omega
        have f88 : ((s[k].toNat : Int) == 88) = false := by rw [beq_eq_false_iff_ne]; omega
        have f32 : ((s[k].toNat : Int) == 32) = false := by rw [beq_eq_false_iff_ne]; omega
        have f45 : ((s[k].toNat : Int) == 45) = false := by rw [beq_eq_false_iff_ne]; omega
        have f47 : ((s[k].toNat : Int) == 47) = false := by rw [beq_eq_false_iff_ne]; omega
        clear b1 b2 hbyte
        go_wp2
        all_goals (go_ret; exact ⟨false, rfl, fun h => (by cases h), rfl⟩)
      · have HOK := hideP (show okB s[k].toNat by unfold okB; omega)
        have f65 : ¬ (65 : Int) ≤ (s[k].toNat : Int) := by omega
        have f33 : (33 : Int) ≤ (s[k].toNat : Int) := by omega
        have f58 : ¬ (58 : Int) ≤ (s[k].toNat : Int) := by omega
        have f91 : ¬ (91 : Int) ≤ (s[k].toNat : Int) := by omega
        have f123 : ¬ (123 : Int) ≤ (s[k].toNat : Int) := by omega
        have f73 : (s[k].toNat : Int) ≤ 73 := by omega
        have f43 : ¬ (s[k].toNat : Int) ≤ 43 := by omega
        have f64 : (s[k].toNat : Int) ≤ 64 := by omega
        have f94 : (s[k].toNat : Int) ≤ 94 := by omega
        have f126 : (s[k].toNat : Int) ≤ 126 := by omega
        have f84 : ((s[k].toNat : Int) == 84) = false := by rw [beq_eq_false_iff_ne]; omega
        have f87 : ((s[k].toNat : Int) == 87) = false := by rw [beq_eq_false_iff_ne]; omega
        have f88 : ((s[k].toNat : Int) == 88) = false := by rw [beq_eq_false_iff_ne]; omega
        have f32 : ((s[k].toNat : Int) == 32) = false := by rw [beq_eq_false_iff_ne]; omega
        have f45 : ((s[k].toNat : Int) == 45) = true := by rw [beq_iff_eq]; omega
        have f47 : ((s[k].toNat : Int) == 47) = false := by rw [beq_eq_false_iff_ne]; omega
        clear b1 b2 hbyte
        go_wp2
        go_round
        case rel => exact ⟨k + 1, by go_num, plain_step s k HP.out hlt HOK.out⟩
        case measure => simp [intOf]; omega
      · skip
        have f65 : ¬ (65 : Int) ≤ (s[k].toNat : Int) := by omega
        have f33 : (33 : Int) ≤ (s[k].toNat : Int) := by omega
        have f58 : ¬ (58 : Int) ≤ (s[k].toNat : Int) := by omega
        have f91 : ¬ (91 : Int) ≤ (s[k].toNat : Int) := by omega
        have f123 : ¬ (123 : Int) ≤ (s[k].toNat : Int) := by omega
        have f73 : (s[k].toNat : Int) ≤ 73 := by omega
        have f43 : ¬ (s[k].toNat : Int) ≤ 43 := by omega
        have f64 : (s[k].toNat : Int) ≤ 64 := by omega
        have f94 : (s[k].toNat : Int) ≤ 94 := by omega
        have f126 : (s[k].toNat : Int) ≤ 126 := by omega
        have f84 : ((s[k].toNat : Int) == 84) = false := by rw [beq_eq_false_iff_ne]; omega
        have f87 : ((s[k].toNat : Int) == 87) = false := by rw [beq_eq_false_iff_ne]; omega
        have f88 : ((s[k].toNat : Int) == 88) = false := by rw [beq_eq_false_iff_ne]; omega
        have f32 : ((s[k].toNat : Int) == 32) = false := by rw [beq_eq_false_iff_ne]; omega
        have f45 : ((s[k].toNat : Int) == 45) = false := by rw [beq_eq_false_iff_ne]; omega
        have f47 : ((s[k].toNat : Int) == 47) = false := by rw [beq_eq_false_iff_ne]; omega
        clear b1 b2 hbyte
        go_wp2
        all_goals (go_ret; exact ⟨false, rfl, fun h => (by cases h), rfl⟩)
      · have HOK := hideP (show okB s[k].toNat by unfold okB; omega)
        have f65 : ¬ (65 : Int) ≤ (s[k].toNat : Int) := by omega
        have f33 : (33 : Int) ≤ (s[k].toNat : Int) := by omega
        have f58 : ¬ (58 : Int) ≤ (s[k].toNat : Int) := by omega
        have f91 : ¬ (91 : Int) ≤ (s[k].toNat : Int) := by omega
        have f123 : ¬ (123 : Int) ≤ (s[k].toNat : Int) := by omega
        have f73 : (s[k].toNat : Int) ≤ 73 := by omega
        have f43 : ¬ (s[k].toNat : Int) ≤ 43 := by omega
        have f64 : (s[k].toNat : Int) ≤ 64 := by omega
        have f94 : (s[k].toNat : Int) ≤ 94 := by omega
        have f126 : (s[k].toNat : Int) ≤ 126 := by omega
        have f84 : ((s[k].toNat : Int) == 84) = false := by rw [beq_eq_false_iff_ne]; omega
        have f87 : ((s[k].toNat : Int) == 87) = false := by rw [beq_eq_false_iff_ne]; omega
        have f88 : ((s[k].toNat : Int) == 88) = false := by rw [beq_eq_false_iff_ne]; omega
        have f32 : ((s[k].toNat : Int) == 32) = false := by rw [beq_eq_false_iff_ne]; omega
        have f45 : ((s[k].toNat : Int) == 45) = false := by rw [beq_eq_false_iff_ne]; omega
        have f47 : ((s[k].toNat : Int) == 47) = true := by rw [beq_iff_eq]; omega
        clear b1 b2 hbyte
        go_wp2
        go_round
        case rel => exact ⟨k + 1, by go_num, plain_step s k HP.out hlt HOK.out⟩
        case measure => simp [intOf]; omega
      · skip
        have f65 : ¬ (65 : Int) ≤ (s[k].toNat : Int) := by omega
        have f33 : (33 : Int) ≤ (s[k].toNat : Int) := by omega
        have f58 : ¬ (58 : Int) ≤ (s[k].toNat : Int) := by omega
        have f91 : ¬ (91 : Int) ≤ (s[k].toNat : Int) := by omega
        have f123 : ¬ (123 : Int) ≤ (s[k].toNat : Int) := by omega
        have f73 : (s[k].toNat : Int) ≤ 73 := by omega
        have f43 : ¬ (s[k].toNat : Int) ≤ 43 := by omega
        have f64 : (s[k].toNat : Int) ≤ 64 := by omega
        have f94 : (s[k].toNat : Int) ≤ 94 := by omega
        have f126 : (s[k].toNat : Int) ≤ 126 := by omega
        have f84 : ((s[k].toNat : Int) == 84) = false := by rw [beq_eq_false_iff_ne]; omega
        have f87 : ((s[k].toNat : Int) == 87) = false := by rw [beq_eq_false_iff_ne]; omega
        have f88 : ((s[k].toNat : Int) == 88) = false := by rw [beq_eq_false_iff_ne]; omega
        have f32 : ((s[k].toNat : Int) == 32) = false := by rw [beq_eq_false_iff_ne]; omega
        have f45 : ((s[k].toNat : Int) == 45) = false := by rw [beq_eq_false_iff_ne]; omega
        have f47 : ((s[k].toNat : Int) == 47) = false := by rw [beq_eq_false_iff_ne]; omega
        clear b1 b2 hbyte
        go_wp2
        all_goals (go_ret; exact ⟨false, rfl, fun h => (by cases h), rfl⟩)
      · have HOK := hideP (show okB s[k].toNat by unfold okB; omega)
        have f65 : ¬ (65 : Int) ≤ (s[k].toNat : Int) := by omega
        have f33 : (33 : Int) ≤ (s[k].toNat : Int) := by omega
        have f58 : (58 : Int) ≤ (s[k].toNat : Int) := by omega
        have f91 : ¬ (91 : Int) ≤ (s[k].toNat : Int) := by omega
        have f123 : ¬ (123 : Int) ≤ (s[k].toNat : Int) := by omega
        have f73 : (s[k].toNat : Int) ≤ 73 := by omega
        have f43 : ¬ (s[k].toNat : Int) ≤ 43 := by omega
        have f64 : (s[k].toNat : Int) ≤ 64 := by omega
        have f94 : (s[k].toNat : Int) ≤ 94 := by omega
        have f126 : (s[k].toNat : Int) ≤ 126 := by omega
        have f84 : ((s[k].toNat : Int) == 84) = false := by rw [beq_eq_false_iff_ne]; omega
        have f87 : ((s[k].toNat : Int) == 87) = false := by rw [beq_eq_false_iff_ne]; omega
        have f88 : ((s[k].toNat : Int) == 88) = false := by rw [beq_eq_false_iff_ne]; omega
        have f32 : ((s[k].toNat : Int) == 32) = false := by rw [beq_eq_false_iff_ne]; omega
        have f45 : ((s[k].toNat : Int) == 45) = false := by rw [beq_eq_false_iff_ne]; omega
        have f47 : ((s[k].toNat : Int) == 47) = false := by rw [beq_eq_false_iff_ne]; omega
        clear b1 b2 hbyte
        go_wp2
        go_round
        case rel => exact ⟨k + 1, by go_num, plain_step s k HP.out hlt HOK.out⟩
        case measure => simp [intOf]; omega
      · have HOK := hideP (show okB s[k].toNat by unfold okB; omega)
        by_cases hk0 : k = 0
        · subst hk0
          have z : (((0 : Nat) : Int) == 0) = true := rfl
          have f65 : (65 : Int) ≤ (s[0].toNat : Int) := by omega
          have f33 : (33 : Int) ≤ (s[0].toNat : Int) := by omega
          have f58 : (58 : Int) ≤ (s[0].toNat : Int) := by omega
          have f91 : ¬ (91 : Int) ≤ (s[0].toNat : Int) := by omega
          have f123 : ¬ (123 : Int) ≤ (s[0].toNat : Int) := by omega
          have f73 : (s[0].toNat : Int) ≤ 73 := by omega
          have f43 : ¬ (s[0].toNat : Int) ≤ 43 := by omega
          have f64 : ¬ (s[0].toNat : Int) ≤ 64 := by omega
          have f94 : (s[0].toNat : Int) ≤ 94 := by omega
          have f126 : (s[0].toNat : Int) ≤ 126 := by omega
          have f84 : ((s[0].toNat : Int) == 84) = false := by rw [beq_eq_false_iff_ne]; omega
          have f87 : ((s[0].toNat : Int) == 87) = false := by rw [beq_eq_false_iff_ne]; omega
          have f88 : ((s[0].toNat : Int) == 88) = false := by rw [beq_eq_false_iff_ne]; omega
          have f32 : ((s[0].toNat : Int) == 32) = false := by rw [beq_eq_false_iff_ne]; omega
          have f45 : ((s[0].toNat : Int) == 45) = false := by rw [beq_eq_false_iff_ne]; omega
          have f47 : ((s[0].toNat : Int) == 47) = false := by rw [beq_eq_false_iff_ne]; omega
          clear b1 b2 hbyte
          go_wp2
          all_goals (go_ret; exact ⟨false, rfl, fun h => (by cases h), rfl⟩)
        · have z : ((k : Int) == 0) = false := by rw [beq_eq_false_iff_ne]; omega
          have f65 : (65 : Int) ≤ (s[k].toNat : Int) := by omega
          have f33 : (33 : Int) ≤ (s[k].toNat : Int) := by omega
          have f58 : (58 : Int) ≤ (s[k].toNat : Int) := by omega
          have f91 : ¬ (91 : Int) ≤ (s[k].toNat : Int) := by omega
          have f123 : ¬ (123 : Int) ≤ (s[k].toNat : Int) := by omega
          have f73 : (s[k].toNat : Int) ≤ 73 := by omega
          have f43 : ¬ (s[k].toNat : Int) ≤ 43 := by omega
          have f64 : ¬ (s[k].toNat : Int) ≤ 64 := by omega
          have f94 : (s[k].toNat : Int) ≤ 94 := by omega
          have f126 : (s[k].toNat : Int) ≤ 126 := by omega
          have f84 : ((s[k].toNat : Int) == 84) = false := by rw [beq_eq_false_iff_ne]; omega
          have f87 : ((s[k].toNat : Int) == 87) = false := by rw [beq_eq_false_iff_ne]; omega
          have f88 : ((s[k].toNat : Int) == 88) = false := by rw [beq_eq_false_iff_ne]; omega
          have f32 : ((s[k].toNat : Int) == 32) = false := by rw [beq_eq_false_iff_ne]; omega
          have f45 : ((s[k].toNat : Int) == 45) = false := by rw [beq_eq_false_iff_ne]; omega
          have f47 : ((s[k].toNat : Int) == 47) = false := by rw [beq_eq_false_iff_ne]; omega
          clear b1 b2 hbyte
          go_wp2
          go_round
          case rel => exact ⟨k + 1, by go_num, plain_step s k HP.out hlt HOK.out⟩
          case measure => simp [intOf]; omega
      · skip
        have f65 : (65 : Int) ≤ (s[k].toNat : Int) := by omega
        have f33 : (33 : Int) ≤ (s[k].toNat : Int) := by omega
        have f58 : (58 : Int) ≤ (s[k].toNat : Int) := by omega
        have f91 : ¬ (91 : Int) ≤ (s[k].toNat : Int) := by omega
        have f123 : ¬ (123 : Int) ≤ (s[k].toNat : Int) := by omega
        have f73 : ¬ (s[k].toNat : Int) ≤ 73 := by omega
        have f43 : ¬ (s[k].toNat : Int) ≤ 43 := by omega
        have f64 : ¬ (s[k].toNat : Int) ≤ 64 := by omega
        have f94 : (s[k].toNat : Int) ≤ 94 := by omega
        have f126 : (s[k].toNat : Int) ≤ 126 := by omega
        have f84 : ((s[k].toNat : Int) == 84) = false := by rw [beq_eq_false_iff_ne]; omega
        have f87 : ((s[k].toNat : Int) == 87) = false := by rw [beq_eq_false_iff_ne]; omega
        have f88 : ((s[k].toNat : Int) == 88) = false := by rw [beq_eq_false_iff_ne]; omega
        have f32 : ((s[k].toNat : Int) == 32) = false := by rw [beq_eq_false_iff_ne]; omega
        have f45 : ((s[k].toNat : Int) == 45) = false := by rw [beq_eq_false_iff_ne]; omega
        have f47 : ((s[k].toNat : Int) == 47) = false := by rw [beq_eq_false_iff_ne]; omega
        clear b1 b2 hbyte
        go_wp2
        all_goals (go_ret; exact ⟨false, rfl, fun h => (by cases h), rfl⟩)
      · have HOK := hideP (show okB s[k].toNat by unfold okB; omega)
        by_cases hk0 : k = 0
        · subst hk0
          have z : (((0 : Nat) : Int) == 0) = true := rfl
          have f65 : (65 : Int) ≤ (s[0].toNat : Int) := by omega
          have f33 : (33 : Int) ≤ (s[0].toNat : Int) := by omega
          have f58 : (58 : Int) ≤ (s[0].toNat : Int) := by omega
          have f91 : ¬ (91 : Int) ≤ (s[0].toNat : Int) := by omega
          have f123 : ¬ (123 : Int) ≤ (s[0].toNat : Int) := by omega
          have f73 : ¬ (s[0].toNat : Int) ≤ 73 := by omega
          have f43 : ¬ (s[0].toNat : Int) ≤ 43 := by omega
          have f64 : ¬ (s[0].toNat : Int) ≤ 64 := by omega
          have f94 : (s[0].toNat : Int) ≤ 94 := by omega
          have f126 : (s[0].toNat : Int) ≤ 126 := by omega
          have f84 : ((s[0].toNat : Int) == 84) = true := by rw [beq_iff_eq]; omega
          have f87 : ((s[0].toNat : Int) == 87) = false := by rw [beq_eq_false_iff_ne]; omega
          have f88 : ((s[0].toNat : Int) == 88) = false := by rw [beq_eq_false_iff_ne]; omega
          have f32 : ((s[0].toNat : Int) == 32) = false := by rw [beq_eq_false_iff_ne]; omega
          have f45 : ((s[0].toNat : Int) == 45) = false := by rw [beq_eq_false_iff_ne]; omega
          have f47 : ((s[0].toNat : Int) == 47) = false := by rw [beq_eq_false_iff_ne]; omega
          clear b1 b2 hbyte
          go_wp2
          all_goals (go_ret; exact ⟨false, rfl, fun h => (by cases h), rfl⟩)
        · have z : ((k : Int) == 0) = false := by rw [beq_eq_false_iff_ne]; omega
          have f65 : (65 : Int) ≤ (s[k].toNat : Int) := by omega
          have f33 : (33 : Int) ≤ (s[k].toNat : Int) := by omega
          have f58 : (58 : Int) ≤ (s[k].toNat : Int) := by omega
          have f91 : ¬ (91 : Int) ≤ (s[k].toNat : Int) := by omega
          have f123 : ¬ (123 : Int) ≤ (s[k].toNat : Int) := by omega
          have f73 : ¬ (s[k].toNat : Int) ≤ 73 := by omega
          have f43 : ¬ (s[k].toNat : Int) ≤ 43 := by omega
          have f64 : ¬ (s[k].toNat : Int) ≤ 64 := by omega
          have f94 : (s[k].toNat : Int) ≤ 94 := by omega
          have f126 : (s[k].toNat : Int) ≤ 126 := by omega
          have f84 : ((s[k].toNat : Int) == 84) = true := by rw [beq_iff_eq]; omega
          have f87 : ((s[k].toNat : Int) == 87) = false := by rw [beq_eq_false_iff_ne]; omega
          have f88 : ((s[k].toNat : Int) == 88) = false := by rw [beq_eq_false_iff_ne]; omega
          have f32 : ((s[k].toNat : Int) == 32) = false := by rw [beq_eq_false_iff_ne]; omega
          have f45 : ((s[k].toNat : Int) == 45) = false := by rw [beq_eq_false_iff_ne]; omega
          have f47 : ((s[k].toNat : Int) == 47) = false := by rw [beq_eq_false_iff_ne]; omega
          clear b1 b2 hbyte
          go_wp2
          go_round
          case rel => exact ⟨k + 1, by go_num, plain_step s k HP.out hlt HOK.out⟩
          case measure => simp [intOf]; omega
      · skip
        have f65 : (65 : Int) ≤ (s[k].toNat : Int) := by omega
        have f33 : (33 : Int) ≤ (s[k].toNat : Int) := by omega
        have f58 : (58 : Int) ≤ (s[k].toNat : Int) := by omega
        have f91 : ¬ (91 : Int) ≤ (s[k].toNat : Int) := by omega
        have f123 : ¬ (123 : Int) ≤ (s[k].toNat : Int) := by omega
        have f73 : ¬ (s[k].toNat : Int) ≤ 73 := by omega
        have f43 : ¬ (s[k].toNat : Int) ≤ 43 := by omega
        have f64 : ¬ (s[k].toNat : Int) ≤ 64 := by omega
        have f94 : (s[k].toNat : Int) ≤ 94 := by omega
        have f126 : (s[k].toNat : Int) ≤ 126 := by omega
        have f84 : ((s[k].toNat : Int) == 84) = false := by rw [beq_eq_false_iff_ne]; omega
        have f87 : ((s[k].toNat : Int) == 87) = false := by rw [beq_eq_false_iff_ne]; omega
        have f88 : ((s[k].toNat : Int) == 88) = false := by rw [beq_eq_false_iff_ne]; omega
        have f32 : ((s[k].toNat : Int) == 32) = false := by rw [beq_eq_false_iff_ne]; omega
        have f45 : ((s[k].toNat : Int) == 45) = false := by rw [beq_eq_false_iff_ne]; omega
        have f47 : ((s[k].toNat : Int) == 47) = false := by rw [beq_eq_false_iff_ne]; omega
        clear b1 b2 hbyte
        go_wp2
        all_goals (go_ret; exact ⟨false, rfl, fun h => (by cases h), rfl⟩)
      · have HOK := hideP (show okB s[k].toNat by unfold okB; omega)
        by_cases hk0 : k = 0
        · subst hk0
          have z : (((0 : Nat) : Int) == 0) = true := rfl
          have f65 : (65 : Int) ≤ (s[0].toNat : Int) := by omega
          have f33 : (33 : Int) ≤ (s[0].toNat : Int) := by omega
          have f58 : (58 : Int) ≤ (s[0].toNat : Int) := by omega
          have f91 : ¬ (91 : Int) ≤ (s[0].toNat : Int) := by omega
          have f123 : ¬ (123 : Int) ≤ (s[0].toNat : Int) := by omega
          have f73 : ¬ (s[0].toNat : Int) ≤ 73 := by omega
          have f43 : ¬ (s[0].toNat : Int) ≤ 43 := by omega
          have f64 : ¬ (s[0].toNat : Int) ≤ 64 := by omega
          have f94 : (s[0].toNat : Int) ≤ 94 := by omega
          have f126 : (s[0].toNat : Int) ≤ 126 := by omega
          have f84 : ((s[0].toNat : Int) == 84) = false := by rw [beq_eq_false_iff_ne]; omega
          have f87 : ((s[0].toNat : Int) == 87) = true := by rw [beq_iff_eq]; omega
          have f88 : ((s[0].toNat : Int) == 88) = false := by rw [beq_eq_false_iff_ne]; omega
          have f32 : ((s[0].toNat : Int) == 32) = false := by rw [beq_eq_false_iff_ne]; omega
          have f45 : ((s[0].toNat : Int) == 45) = false := by rw [beq_eq_false_iff_ne]; omega
          have f47 : ((s[0].toNat : Int) == 47) = false := by rw [beq_eq_false_iff_ne]; omega
          clear b1 b2 hbyte
          go_wp2
          all_goals (go_ret; exact ⟨false, rfl, fun h => (by cases h), rfl⟩)
        · have z : ((k : Int) == 0) = false := by rw [beq_eq_false_iff_ne]; omega
          have f65 : (65 : Int) ≤ (s[k].toNat : Int) := by omega
          have f33 : (33 : Int) ≤ (s[k].toNat : Int) := by omega
          have f58 : (58 : Int) ≤ (s[k].toNat : Int) := by omega
          have f91 : ¬ (91 : Int) ≤ (s[k].toNat : Int) := by omega
          have f123 : ¬ (123 : Int) ≤ (s[k].toNat : Int) := by omega
          have f73 : ¬ (s[k].toNat : Int) ≤ 73 := by omega
          have f43 : ¬ (s[k].toNat : Int) ≤ 43 := by omega
          have f64 : ¬ (s[k].toNat : Int) ≤ 64 := by omega
          have f94 : (s[k].toNat : Int) ≤ 94 := by omega
          have f126 : (s[k].toNat : Int) ≤ 126 := by omega
          have f84 : ((s[k].toNat : Int) == 84) = false := by rw [beq_eq_false_iff_ne]; omega
          have f87 : ((s[k].toNat : Int) == 87) = true := by rw [beq_iff_eq]; omega
          have f88 : ((s[k].toNat : Int) == 88) = false := by rw [beq_eq_false_iff_ne]; omega
          have f32 : ((s[k].toNat : Int) == 32) = false := by rw [beq_eq_false_iff_ne]; omega
          have f45 : ((s[k].toNat : Int) == 45) = false := by rw [beq_eq_false_iff_ne]; omega
          have f47 : ((s[k].toNat : Int) == 47) = false := by rw [beq_eq_false_iff_ne]; omega
          clear b1 b2 hbyte
          go_wp2
          go_round
          case rel => exact ⟨k + 1, by go_num, plain_step s k HP.out hlt HOK.out⟩
          case measure => simp [intOf]; omega
      · have HOK := hideP (show okB s[k].toNat by unfold okB; omega)
        by_cases hk0 : k = 0
        · subst hk0
          have z : (((0 : Nat) : Int) == 0) = true := rfl
          have f65 : (65 : Int) ≤ (s[0].toNat : Int) := by omega
          have f33 : (33 : Int) ≤ (s[0].toNat : Int) := by omega
          have f58 : (58 : Int) ≤ (s[0].toNat : Int) := by omega
          have f91 : ¬ (91 : Int) ≤ (s[0].toNat : Int) := by omega
          have f123 : ¬ (123 : Int) ≤ (s[0].toNat : Int) := by omega
          have f73 : ¬ (s[0].toNat : Int) ≤ 73 := by omega
          have f43 : ¬ (s[0].toNat : Int) ≤ 43 := by omega
          have f64 : ¬ (s[0].toNat : Int) ≤ 64 := by omega
          have f94 : (s[0].toNat : Int) ≤ 94 := by omega
          have f126 : (s[0].toNat : Int) ≤ 126 := by omega
          have f84 : ((s[0].toNat : Int) == 84) = false := by rw [beq_eq_false_iff_ne]; omega
          have f87 : ((s[0].toNat : Int) == 87) = false := by rw [beq_eq_false_iff_ne]; omega
          have f88 : ((s[0].toNat : Int) == 88) = true := by rw [beq_iff_eq]; omega
          have f32 : ((s[0].toNat : Int) == 32) = false := by rw [beq_eq_false_iff_ne]; omega
          have f45 : ((s[0].toNat : Int) == 45) = false := by rw [beq_eq_false_iff_ne]; omega
          have f47 : ((s[0].toNat : Int) == 47) = false := by rw [beq_eq_false_iff_ne]; omega
          clear b1 b2 hbyte
          go_wp2
          all_goals (go_ret; exact ⟨false, rfl, fun h => (by cases h), rfl⟩)
        · have z : ((k : Int) == 0) = false := by rw [beq_eq_false_iff_ne]; omega
          have f65 : (65 : Int) ≤ (s[k].toNat : Int) := by omega
          have f33 : (33 : Int) ≤ (s[k].toNat : Int) := by omega
          have f58 : (58 : Int) ≤ (s[k].toNat : Int) := by omega
          have f91 : ¬ (91 : Int) ≤ (s[k].toNat : Int) := by omega
          have f123 : ¬ (123 : Int) ≤ (s[k].toNat : Int) := by omega
          have f73 : ¬ (s[k].toNat : Int) ≤ 73 := by omega
          have f43 : ¬ (s[k].toNat : Int) ≤ 43 := by omega
          have f64 : ¬ (s[k].toNat : Int) ≤ 64 := by omega
          have f94 : (s[k].toNat : Int) ≤ 94 := by omega
          have f126 : (s[k].toNat : Int) ≤ 126 := by omega
          have f84 : ((s[k].toNat : Int) == 84) = false := by rw [beq_eq_false_iff_ne]; omega
          have f87 : ((s[k].toNat : Int) == 87) = false := by rw [beq_eq_false_iff_ne]; omega
          have f88 : ((s[k].toNat : Int) == 88) = true := by rw [beq_iff_eq]; omega
          have f32 : ((s[k].toNat : Int) == 32) = false := by rw [beq_eq_false_iff_ne]; omega
          have f45 : ((s[k].toNat : Int) == 45) = false := by rw [beq_eq_false_iff_ne]; omega
          have f47 : ((s[k].toNat : Int) == 47) = false := by rw [beq_eq_false_iff_ne]; omega
          clear b1 b2 hbyte
          go_wp2
          go_round
          case rel => exact ⟨k + 1, by go_num, plain_step s k HP.out hlt HOK.out⟩
          case measure => simp [intOf]; omega
      · skip
        have f65 : (65 : Int) ≤ (s[k].toNat : Int) := by omega
        have f33 : (33 : Int) ≤ (s[k].toNat : Int) := by omega
        have f58 : (58 : Int) ≤ (s[k].toNat : Int) := by omega
        have f91 : ¬ (91 : Int) ≤ (s[k].toNat : Int) := by omega
        have f123 : ¬ (123 : Int) ≤ (s[k].toNat : Int) := by omega
        have f73 : ¬ (s[k].toNat : Int) ≤ 73 := by omega
        have f43 : ¬ (s[k].toNat : Int) ≤ 43 := by omega
        have f64 : ¬ (s[k].toNat : Int) ≤ 64 := by omega
        have f94 : (s[k].toNat : Int) ≤ 94 := by omega
        have f126 : (s[k].toNat : Int) ≤ 126 := by omega
        have f84 : ((s[k].toNat : Int) == 84) = false := by rw [beq_eq_false_iff_ne]; omega
        have f87 : ((s[k].toNat : Int) == 87) = false := by rw [beq_eq_false_iff_ne]; omega
        have f88 : ((s[k].toNat : Int) == 88) = false := by rw [beq_eq_false_iff_ne]; omega
        have f32 : ((s[k].toNat : Int) == 32) = false := by rw [beq_eq_false_iff_ne]; omega
        have f45 : ((s[k].toNat : Int) == 45) = false := by rw [beq_eq_false_iff_ne]; omega
        have f47 : ((s[k].toNat : Int) == 47) = false := by rw [beq_eq_false_iff_ne]; omega
        clear b1 b2 hbyte
        go_wp2
        all_goals (go_ret; exact ⟨false, rfl, fun h => (by cases h), rfl⟩)
      · have HOK := hideP (show okB s[k].toNat by unfold okB; omega)
        have f65 : (65 : Int) ≤ (s[k].toNat : Int) := by omega
        have f33 : (33 : Int) ≤ (s[k].toNat : Int) := by omega
        have f58 : (58 : Int) ≤ (s[k].toNat : Int) := by omega
        have f91 : (91 : Int) ≤ (s[k].toNat : Int) := by omega
        have f123 : ¬ (123 : Int) ≤ (s[k].toNat : Int) := by omega
        have f73 : ¬ (s[k].toNat : Int) ≤ 73 := by omega
        have f43 : ¬ (s[k].toNat : Int) ≤ 43 := by omega
        have f64 : ¬ (s[k].toNat : Int) ≤ 64 := by omega
        have f94 : (s[k].toNat : Int) ≤ 94 := by omega
        have f126 : (s[k].toNat : Int) ≤ 126 := by omega
        have f84 : ((s[k].toNat : Int) == 84) = false := by rw [beq_eq_false_iff_ne]; omega
        have f87 : ((s[k].toNat : Int) == 87) = false := by rw [beq_eq_false_iff_ne]; omega
        have f88 : ((s[k].toNat : Int) == 88) = false := by rw [beq_eq_false_iff_ne]; omega
        have f32 : ((s[k].toNat : Int) == 32) = false := by rw [beq_eq_false_iff_ne]; omega
        have f45 : ((s[k].toNat : Int) == 45) = false := by rw [beq_eq_false_iff_ne]; omega
        have f47 : ((s[k].toNat : Int) == 47) = false := by rw [beq_eq_false_iff_ne]; omega
        clear b1 b2 hbyte
        go_wp2
        go_round
        case rel => exact ⟨k + 1, by go_num, plain_step s k HP.out hlt HOK.out⟩
        case measure => simp [intOf]; omega
      · skip
        have f65 : (65 : Int) ≤ (s[k].toNat : Int) := by omega
        have f33 : (33 : Int) ≤ (s[k].toNat : Int) := by omega
        have f58 : (58 : Int) ≤ (s[k].toNat : Int) := by omega
        have f91 : (91 : Int) ≤ (s[k].toNat : Int) := by omega
        have f123 : ¬ (123 : Int) ≤ (s[k].toNat : Int) := by omega
        have f73 : ¬ (s[k].toNat : Int) ≤ 73 := by omega
        have f43 : ¬ (s[k].toNat : Int) ≤ 43 := by omega
        have f64 : ¬ (s[k].toNat : Int) ≤ 64 := by omega
        have f94 : ¬ (s[k].toNat : Int) ≤ 94 := by omega
        have f126 : (s[k].toNat : Int) ≤ 126 := by omega
        have f84 : ((s[k].toNat : Int) == 84) = false := by rw [beq_eq_false_iff_ne]; omega
        have f87 : ((s[k].toNat : Int) == 87) = false := by rw [beq_eq_false_iff_ne]; omega
        have f88 : ((s[k].toNat : Int) == 88) = false := by rw [beq_eq_false_iff_ne]; omega
        have f32 : ((s[k].toNat : Int) == 32) = false := by rw [beq_eq_false_iff_ne]; omega
        have f45 : ((s[k].toNat : Int) == 45) = false := by rw [beq_eq_false_iff_ne]; omega
        have f47 : ((s[k].toNat : Int) == 47) = false := by rw [beq_eq_false_iff_ne]; omega
        clear b1 b2 hbyte
        go_wp2
        all_goals (go_ret; exact ⟨false, rfl, fun h => (by cases h), rfl⟩)
      · have HOK := hideP (show okB s[k].toNat by unfold okB; omega)
        have f65 : (65 : Int) ≤ (s[k].toNat : Int) := by omega
        have f33 : (33 : Int) ≤ (s[k].toNat : Int) := by omega
        have f58 : (58 : Int) ≤ (s[k].toNat : Int) := by omega
        have f91 : (91 : Int) ≤ (s[k].toNat : Int) := by omega
        have f123 : (123 : Int) ≤ (s[k].toNat : Int) := by omega
        have f73 : ¬ (s[k].toNat : Int) ≤ 73 := by omega
        have f43 : ¬ (s[k].toNat : Int) ≤ 43 := by omega
        have f64 : ¬ (s[k].toNat : Int) ≤ 64 := by omega
        have f94 : ¬ (s[k].toNat : Int) ≤ 94 := by omega
        have f126 : (s[k].toNat : Int) ≤ 126 := by omega
        have f84 : ((s[k].toNat : Int) == 84) = false := by rw [beq_eq_false_iff_ne]; omega
        have f87 : ((s[k].toNat : Int) == 87) = false := by rw [beq_eq_false_iff_ne]; omega
        have f88 : ((s[k].toNat : Int) == 88) = false := by rw [beq_eq_false_iff_ne]; omega
        have f32 : ((s[k].toNat : Int) == 32) = false := by rw [beq_eq_false_iff_ne]; omega
        have f45 : ((s[k].toNat : Int) == 45) = false := by rw [beq_eq_false_iff_ne]; omega
        have f47 : ((s[k].toNat : Int) == 47) = false := by rw [beq_eq_false_iff_ne]; omega
        clear b1 b2 hbyte
        go_wp2
        go_round
        case rel => exact ⟨k + 1, by go_num, plain_step s k HP.out hlt HOK.out⟩
        case measure => simp [intOf]; omega
      · skip
        have f65 : (65 : Int) ≤ (s[k].toNat : Int) := by omega
        have f33 : (33 : Int) ≤ (s[k].toNat : Int) := by omega
        have f58 : (58 : Int) ≤ (s[k].toNat : Int) := by omega
        have f91 : (91 : Int) ≤ (s[k].toNat : Int) := by omega
        have f123 : (123 : Int) ≤ (s[k].toNat : Int) := by omega
        have f73 : ¬ (s[k].toNat : Int) ≤ 73 := by omega
        have f43 : ¬ (s[k].toNat : Int) ≤ 43 := by omega
        have f64 : ¬ (s[k].toNat : Int) ≤ 64 := by omega
        have f94 : ¬ (s[k].toNat : Int) ≤ 94 := by omega
        have f126 : ¬ (s[k].toNat : Int) ≤ 126 := by omega
        have f84 : ((s[k].toNat : Int) == 84) = false := by rw [beq_eq_false_iff_ne]; omega
        have f87 : ((s[k].toNat : Int) == 87) = false := by rw [beq_eq_false_iff_ne]; omega
        have f88 : ((s[k].toNat : Int) == 88) = false := by rw [beq_eq_false_iff_ne]; omega
        have f32 : ((s[k].toNat : Int) == 32) = false := by rw [beq_eq_false_iff_ne]; omega
        have f45 : ((s[k].toNat : Int) == 45) = false := by rw [beq_eq_false_iff_ne]; omega
        have f47 : ((s[k].toNat : Int) == 47) = false := by rw [beq_eq_false_iff_ne]; omega
        clear b1 b2 hbyte
        go_wp2
        all_goals (go_ret; exact ⟨false, rfl, fun h => (by cases h), rfl⟩)
    · have HA := hideP (show ∀ c ∈ bl s, okB c.toNat by
        have := HP.out.2
        rwa [List.take_of_length_le (by rw [bl_length]; omega)] at this)
      go_wp2
      go_ret
      refine ⟨_, rfl, fun h => ⟨?_, HA.out⟩, rfl⟩
      have h2 : decide ((s.size : Int) ≤ 1000) = true := h
      have h3 := of_decide_eq_true h2
      omega
end Go.Proofs.YtigabjibdepoiaaDoor.Tm
namespace Go.Proofs.YtigabjibdepoiaaDoor.Tm
set_option linter.unusedSimpArgs false
set_option linter.unusedVariables false
open Go.RowKit Go
def No07 (R : List UInt8) : Prop := ¬ (R[0]? = some 48 ∧ R[1]? = some 55)
theorem take_beq_get {l t : List UInt8} {n j : Nat} {c : UInt8} (h : (l.take n == t) = true) (hc : t[j]? = some c) : l[j]? = some c := by
  have e := eq_of_beq h
  rw [← e, List.getElem?_take] at hc
  split at hc
  · exact hc
  · cases hc
theorem ne_take {l t : List UInt8} {n j : Nat} {d : UInt8} (h : l[j]? ≠ some d) (ht : t[j]? = some d) : ¬ (l.take n == t) = true := fun e => h (take_beq_get e ht)
theorem zone_none (c : UInt8) (l : List UInt8) (a b d e f : Nat) (h : ¬ (l[1]? = some 48 ∧ l[2]? = some 55)) : stdZone c l a b d e f = none := by
  have k : ∀ (n : Nat) (t : List UInt8), t[1]? = some 48 → t[2]? = some 55 → ¬ (l.take n == t) = true := by
    intro n t h1 h2 hb
    exact h ⟨take_beq_get hb h1, take_beq_get hb h2⟩
  unfold stdZone
  rw [if_neg (k 7 _ rfl rfl), if_neg (k 9 _ rfl rfl), if_neg (k 5 _ rfl rfl), if_neg (k 6 _ rfl rfl), if_neg (k 3 _ rfl rfl)]
theorem plain_none (c : UInt8) (r : List UInt8) (h : okB c.toNat) (h7 : No07 r) : stdL (c :: r) = none := by
  show stdN c.toNat (c :: r) = none
  unfold okB at h
  unfold stdN
  by_cases h45 : c.toNat = 45
  · rw [if_neg (by omega), if_neg (by omega), if_neg (by omega), if_neg (by omega), if_neg (by omega), if_neg (by omega), if_neg (by omega), if_neg (by omega), if_neg (by omega), if_neg (by omega), if_neg (by omega), if_pos h45]
    exact zone_none 45 _ _ _ _ _ _ h7
  · rw [if_neg (by omega), if_neg (by omega), if_neg (by omega), if_neg (by omega), if_neg (by omega), if_neg (by omega), if_neg (by omega), if_neg (by omega), if_neg (by omega), if_neg (by omega), if_neg (by omega), if_neg h45, if_neg (by omega), if_neg (by omega), if_neg (by omega)]
theorem okB_48 {c : UInt8} (h : okB c.toNat) : c ≠ 48 := by
  rintro rfl
  revert h
  unfold okB
  decide
theorem no07_ok {c : UInt8} {r : List UInt8} (h : okB c.toNat) : No07 (c :: r) := by
  rintro ⟨e, _⟩
  exact okB_48 h (Option.some.inj e)
end Go.Proofs.YtigabjibdepoiaaDoor.Tm
namespace Go.Proofs.YtigabjibdepoiaaDoor.Tm
set_option linter.unusedSimpArgs false
set_option linter.unusedVariables false
open Go.RowKit Go
/-- The text of an element in a layout. -/
def elK (k : Nat) (tx : ByteArray) (n : Nat) (cm : Bool) : List UInt8 := match k with
  | 0 => bl tx
  | 1 => [50, 48, 48, 54]
  | 2 => [48, 54]
  | 3 => [74, 97, 110, 117, 97, 114, 121]
  | 4 => [74, 97, 110]
  | 5 => [48, 49]
  | 6 => [49]
  | 7 => [77, 111, 110, 100, 97, 121]
  | 8 => [77, 111, 110]
  | 9 => [50]
  | 10 => [95, 50]
  | 11 => [48, 50]
  | 12 => [95, 95, 50]
  | 13 => [48, 48, 50]
  | 14 => [49, 53]
  | 15 => [51]
  | 16 => [48, 51]
  | 17 => [52]
  | 18 => [48, 52]
  | 19 => [53]
  | 20 => [48, 53]
  | 21 => [80, 77]
  | 22 => [45, 48, 55, 48, 48]
  | 23 => [45, 48, 55, 58, 48, 48]
  | 24 => [45, 48, 55]
  | 25 => [45, 48, 55, 48, 48, 48, 48]
  | 26 => [45, 48, 55, 58, 48, 48, 58, 48, 48]
  | 27 => [90, 48, 55, 48, 48]
  | 28 => [90, 48, 55, 58, 48, 48]
  | 29 => [90, 48, 55]
  | 30 => [90, 48, 55, 48, 48, 48, 48]
  | 31 => [90, 48, 55, 58, 48, 48, 58, 48, 48]
  | 32 => [77, 83, 84]
  | 33 => (if cm then 44 else 46) :: List.replicate n 48
  | 34 => (if cm then 44 else 46) :: List.replicate n 57
  | _ => []
def elP (p : Pc) : List UInt8 := elK p.k p.tx p.n p.cm
set_option maxRecDepth 100000 in
set_option maxHeartbeats 800000 in
theorem elm_0 (tx : ByteArray) (n : Nat) (cm : Bool) (w : World) (htx : tx.size ≤ 1000) : Calls Tryd.prog 53 #[.agg #[.int .i64 0, .string tx, .int .i64 n, .bool cm]] w (TxtTo (elK 0 tx n cm) 1000 w) := by
  have HX := hideP htx
  clear htx
  go_enter Tryd.func53, Tryd.ntmps53
  go_wp2_with (fail)
  go_ret
  exact ⟨_, rfl, HX.out, rfl, below_alloc w _⟩
set_option maxRecDepth 100000 in
set_option maxHeartbeats 800000 in
theorem elm_1 (tx : ByteArray) (n : Nat) (cm : Bool) (w : World) (htx : tx.size ≤ 1000) : Calls Tryd.prog 53 #[.agg #[.int .i64 1, .string tx, .int .i64 n, .bool cm]] w (TxtTo (elK 1 tx n cm) 1000 w) := by
  have HX := hideP htx
  clear htx
  go_enter Tryd.func53, Tryd.ntmps53
  go_wp2_with (fail)
  go_ret
  exact ⟨_, rfl, by decide, rfl, below_alloc w _⟩
set_option maxRecDepth 100000 in
set_option maxHeartbeats 800000 in
theorem elm_2 (tx : ByteArray) (n : Nat) (cm : Bool) (w : World) (htx : tx.size ≤ 1000) : Calls Tryd.prog 53 #[.agg #[.int .i64 2, .string tx, .int .i64 n, .bool cm]] w (TxtTo (elK 2 tx n cm) 1000 w) := by
  have HX := hideP htx
  clear htx
  go_enter Tryd.func53, Tryd.ntmps53
  go_wp2_with (fail)
  go_ret
  exact ⟨_, rfl, by decide, rfl, below_alloc w _⟩
set_option maxRecDepth 100000 in
set_option maxHeartbeats 800000 in
theorem elm_3 (tx : ByteArray) (n : Nat) (cm : Bool) (w : World) (htx : tx.size ≤ 1000) : Calls Tryd.prog 53 #[.agg #[.int .i64 3, .string tx, .int .i64 n, .bool cm]] w (TxtTo (elK 3 tx n cm) 1000 w) := by
  have HX := hideP htx
  clear htx
  go_enter Tryd.func53, Tryd.ntmps53
  go_wp2_with (fail)
  go_ret
  exact ⟨_, rfl, by decide, rfl, below_alloc w _⟩
set_option maxRecDepth 100000 in
set_option maxHeartbeats 800000 in
theorem elm_4 (tx : ByteArray) (n : Nat) (cm : Bool) (w : World) (htx : tx.size ≤ 1000) : Calls Tryd.prog 53 #[.agg #[.int .i64 4, .string tx, .int .i64 n, .bool cm]] w (TxtTo (elK 4 tx n cm) 1000 w) := by
  have HX := hideP htx
  clear htx
  go_enter Tryd.func53, Tryd.ntmps53
  go_wp2_with (fail)
  go_ret
  exact ⟨_, rfl, by decide, rfl, below_alloc w _⟩
set_option maxRecDepth 100000 in
set_option maxHeartbeats 800000 in
theorem elm_5 (tx : ByteArray) (n : Nat) (cm : Bool) (w : World) (htx : tx.size ≤ 1000) : Calls Tryd.prog 53 #[.agg #[.int .i64 5, .string tx, .int .i64 n, .bool cm]] w (TxtTo (elK 5 tx n cm) 1000 w) := by
  have HX := hideP htx
  clear htx
  go_enter Tryd.func53, Tryd.ntmps53
  go_wp2_with (fail)
  go_ret
  exact ⟨_, rfl, by decide, rfl, below_alloc w _⟩
set_option maxRecDepth 100000 in
set_option maxHeartbeats 800000 in
theorem elm_6 (tx : ByteArray) (n : Nat) (cm : Bool) (w : World) (htx : tx.size ≤ 1000) : Calls Tryd.prog 53 #[.agg #[.int .i64 6, .string tx, .int .i64 n, .bool cm]] w (TxtTo (elK 6 tx n cm) 1000 w) := by
  have HX := hideP htx
  clear htx
  go_enter Tryd.func53, Tryd.ntmps53
  go_wp2_with (fail)
  go_ret
  exact ⟨_, rfl, by decide, rfl, below_alloc w _⟩
set_option maxRecDepth 100000 in
set_option maxHeartbeats 800000 in
theorem elm_7 (tx : ByteArray) (n : Nat) (cm : Bool) (w : World) (htx : tx.size ≤ 1000) : Calls Tryd.prog 53 #[.agg #[.int .i64 7, .string tx, .int .i64 n, .bool cm]] w (TxtTo (elK 7 tx n cm) 1000 w) := by
  have HX := hideP htx
  clear htx
  go_enter Tryd.func53, Tryd.ntmps53
  go_wp2_with (fail)
  go_ret
  exact ⟨_, rfl, by decide, rfl, below_alloc w _⟩
set_option maxRecDepth 100000 in
set_option maxHeartbeats 800000 in
theorem elm_8 (tx : ByteArray) (n : Nat) (cm : Bool) (w : World) (htx : tx.size ≤ 1000) : Calls Tryd.prog 53 #[.agg #[.int .i64 8, .string tx, .int .i64 n, .bool cm]] w (TxtTo (elK 8 tx n cm) 1000 w) := by
  have HX := hideP htx
  clear htx
  go_enter Tryd.func53, Tryd.ntmps53
  go_wp2_with (fail)
  go_ret
  exact ⟨_, rfl, by decide, rfl, below_alloc w _⟩
set_option maxRecDepth 100000 in
set_option maxHeartbeats 800000 in
theorem elm_9 (tx : ByteArray) (n : Nat) (cm : Bool) (w : World) (htx : tx.size ≤ 1000) : Calls Tryd.prog 53 #[.agg #[.int .i64 9, .string tx, .int .i64 n, .bool cm]] w (TxtTo (elK 9 tx n cm) 1000 w) := by
  have HX := hideP htx
  clear htx
  go_enter Tryd.func53, Tryd.ntmps53
  go_wp2_with (fail)
  go_ret
  exact ⟨_, rfl, by decide, rfl, below_alloc w _⟩
set_option maxRecDepth 100000 in
set_option maxHeartbeats 800000 in
theorem elm_10 (tx : ByteArray) (n : Nat) (cm : Bool) (w : World) (htx : tx.size ≤ 1000) : Calls Tryd.prog 53 #[.agg #[.int .i64 10, .string tx, .int .i64 n, .bool cm]] w (TxtTo (elK 10 tx n cm) 1000 w) := by
  have HX := hideP htx
  clear htx
  go_enter Tryd.func53, Tryd.ntmps53
  go_wp2_with (fail)
  go_ret
  exact ⟨_, rfl, by decide, rfl, below_alloc w _⟩
set_option maxRecDepth 100000 in
set_option maxHeartbeats 800000 in
theorem elm_11 (tx : ByteArray) (n : Nat) (cm : Bool) (w : World) (htx : tx.size ≤ 1000) : Calls Tryd.prog 53 #[.agg #[.int .i64 11, .string tx, .int .i64 n, .bool cm]] w (TxtTo (elK 11 tx n cm) 1000 w) := by
  have HX := hideP htx
  clear htx
  go_enter Tryd.func53, Tryd.ntmps53
  go_wp2_with (fail)
  go_ret
  exact ⟨_, rfl, by decide, rfl, below_alloc w _⟩
set_option maxRecDepth 100000 in
set_option maxHeartbeats 800000 in
theorem elm_12 (tx : ByteArray) (n : Nat) (cm : Bool) (w : World) (htx : tx.size ≤ 1000) : Calls Tryd.prog 53 #[.agg #[.int .i64 12, .string tx, .int .i64 n, .bool cm]] w (TxtTo (elK 12 tx n cm) 1000 w) := by
  have HX := hideP htx
  clear htx
  go_enter Tryd.func53, Tryd.ntmps53
  go_wp2_with (fail)
  go_ret
  exact ⟨_, rfl, by decide, rfl, below_alloc w _⟩
set_option maxRecDepth 100000 in
set_option maxHeartbeats 800000 in
theorem elm_13 (tx : ByteArray) (n : Nat) (cm : Bool) (w : World) (htx : tx.size ≤ 1000) : Calls Tryd.prog 53 #[.agg #[.int .i64 13, .string tx, .int .i64 n, .bool cm]] w (TxtTo (elK 13 tx n cm) 1000 w) := by
  have HX := hideP htx
  clear htx
  go_enter Tryd.func53, Tryd.ntmps53
  go_wp2_with (fail)
  go_ret
  exact ⟨_, rfl, by decide, rfl, below_alloc w _⟩
set_option maxRecDepth 100000 in
set_option maxHeartbeats 800000 in
theorem elm_14 (tx : ByteArray) (n : Nat) (cm : Bool) (w : World) (htx : tx.size ≤ 1000) : Calls Tryd.prog 53 #[.agg #[.int .i64 14, .string tx, .int .i64 n, .bool cm]] w (TxtTo (elK 14 tx n cm) 1000 w) := by
  have HX := hideP htx
  clear htx
  go_enter Tryd.func53, Tryd.ntmps53
  go_wp2_with (fail)
  go_ret
  exact ⟨_, rfl, by decide, rfl, below_alloc w _⟩
set_option maxRecDepth 100000 in
set_option maxHeartbeats 800000 in
theorem elm_15 (tx : ByteArray) (n : Nat) (cm : Bool) (w : World) (htx : tx.size ≤ 1000) : Calls Tryd.prog 53 #[.agg #[.int .i64 15, .string tx, .int .i64 n, .bool cm]] w (TxtTo (elK 15 tx n cm) 1000 w) := by
  have HX := hideP htx
  clear htx
  go_enter Tryd.func53, Tryd.ntmps53
  go_wp2_with (fail)
  go_ret
  exact ⟨_, rfl, by decide, rfl, below_alloc w _⟩
set_option maxRecDepth 100000 in
set_option maxHeartbeats 800000 in
theorem elm_16 (tx : ByteArray) (n : Nat) (cm : Bool) (w : World) (htx : tx.size ≤ 1000) : Calls Tryd.prog 53 #[.agg #[.int .i64 16, .string tx, .int .i64 n, .bool cm]] w (TxtTo (elK 16 tx n cm) 1000 w) := by
  have HX := hideP htx
  clear htx
  go_enter Tryd.func53, Tryd.ntmps53
  go_wp2_with (fail)
  go_ret
  exact ⟨_, rfl, by decide, rfl, below_alloc w _⟩
set_option maxRecDepth 100000 in
set_option maxHeartbeats 800000 in
theorem elm_17 (tx : ByteArray) (n : Nat) (cm : Bool) (w : World) (htx : tx.size ≤ 1000) : Calls Tryd.prog 53 #[.agg #[.int .i64 17, .string tx, .int .i64 n, .bool cm]] w (TxtTo (elK 17 tx n cm) 1000 w) := by
  have HX := hideP htx
  clear htx
  go_enter Tryd.func53, Tryd.ntmps53
  go_wp2_with (fail)
  go_ret
  exact ⟨_, rfl, by decide, rfl, below_alloc w _⟩
set_option maxRecDepth 100000 in
set_option maxHeartbeats 800000 in
theorem elm_18 (tx : ByteArray) (n : Nat) (cm : Bool) (w : World) (htx : tx.size ≤ 1000) : Calls Tryd.prog 53 #[.agg #[.int .i64 18, .string tx, .int .i64 n, .bool cm]] w (TxtTo (elK 18 tx n cm) 1000 w) := by
  have HX := hideP htx
  clear htx
  go_enter Tryd.func53, Tryd.ntmps53
  go_wp2_with (fail)
  go_ret
  exact ⟨_, rfl, by decide, rfl, below_alloc w _⟩
set_option maxRecDepth 100000 in
set_option maxHeartbeats 800000 in
theorem elm_19 (tx : ByteArray) (n : Nat) (cm : Bool) (w : World) (htx : tx.size ≤ 1000) : Calls Tryd.prog 53 #[.agg #[.int .i64 19, .string tx, .int .i64 n, .bool cm]] w (TxtTo (elK 19 tx n cm) 1000 w) := by
  have HX := hideP htx
  clear htx
  go_enter Tryd.func53, Tryd.ntmps53
  go_wp2_with (fail)
  go_ret
  exact ⟨_, rfl, by decide, rfl, below_alloc w _⟩
set_option maxRecDepth 100000 in
set_option maxHeartbeats 800000 in
theorem elm_20 (tx : ByteArray) (n : Nat) (cm : Bool) (w : World) (htx : tx.size ≤ 1000) : Calls Tryd.prog 53 #[.agg #[.int .i64 20, .string tx, .int .i64 n, .bool cm]] w (TxtTo (elK 20 tx n cm) 1000 w) := by
  have HX := hideP htx
  clear htx
  go_enter Tryd.func53, Tryd.ntmps53
  go_wp2_with (fail)
  go_ret
  exact ⟨_, rfl, by decide, rfl, below_alloc w _⟩
set_option maxRecDepth 100000 in
set_option maxHeartbeats 800000 in
theorem elm_21 (tx : ByteArray) (n : Nat) (cm : Bool) (w : World) (htx : tx.size ≤ 1000) : Calls Tryd.prog 53 #[.agg #[.int .i64 21, .string tx, .int .i64 n, .bool cm]] w (TxtTo (elK 21 tx n cm) 1000 w) := by
  have HX := hideP htx
  clear htx
  go_enter Tryd.func53, Tryd.ntmps53
  go_wp2_with (fail)
  go_ret
  exact ⟨_, rfl, by decide, rfl, below_alloc w _⟩
set_option maxRecDepth 100000 in
set_option maxHeartbeats 800000 in
theorem elm_22 (tx : ByteArray) (n : Nat) (cm : Bool) (w : World) (htx : tx.size ≤ 1000) : Calls Tryd.prog 53 #[.agg #[.int .i64 22, .string tx, .int .i64 n, .bool cm]] w (TxtTo (elK 22 tx n cm) 1000 w) := by
  have HX := hideP htx
  clear htx
  go_enter Tryd.func53, Tryd.ntmps53
  go_wp2_with (fail)
  go_ret
  exact ⟨_, rfl, by decide, rfl, below_alloc w _⟩
set_option maxRecDepth 100000 in
set_option maxHeartbeats 800000 in
theorem elm_23 (tx : ByteArray) (n : Nat) (cm : Bool) (w : World) (htx : tx.size ≤ 1000) : Calls Tryd.prog 53 #[.agg #[.int .i64 23, .string tx, .int .i64 n, .bool cm]] w (TxtTo (elK 23 tx n cm) 1000 w) := by
  have HX := hideP htx
  clear htx
  go_enter Tryd.func53, Tryd.ntmps53
  go_wp2_with (fail)
  go_ret
  exact ⟨_, rfl, by decide, rfl, below_alloc w _⟩
set_option maxRecDepth 100000 in
set_option maxHeartbeats 800000 in
theorem elm_24 (tx : ByteArray) (n : Nat) (cm : Bool) (w : World) (htx : tx.size ≤ 1000) : Calls Tryd.prog 53 #[.agg #[.int .i64 24, .string tx, .int .i64 n, .bool cm]] w (TxtTo (elK 24 tx n cm) 1000 w) := by
  have HX := hideP htx
  clear htx
  go_enter Tryd.func53, Tryd.ntmps53
  go_wp2_with (fail)
  go_ret
  exact ⟨_, rfl, by decide, rfl, below_alloc w _⟩
set_option maxRecDepth 100000 in
set_option maxHeartbeats 800000 in
theorem elm_25 (tx : ByteArray) (n : Nat) (cm : Bool) (w : World) (htx : tx.size ≤ 1000) : Calls Tryd.prog 53 #[.agg #[.int .i64 25, .string tx, .int .i64 n, .bool cm]] w (TxtTo (elK 25 tx n cm) 1000 w) := by
  have HX := hideP htx
  clear htx
  go_enter Tryd.func53, Tryd.ntmps53
  go_wp2_with (fail)
  go_ret
  exact ⟨_, rfl, by decide, rfl, below_alloc w _⟩
set_option maxRecDepth 100000 in
set_option maxHeartbeats 800000 in
theorem elm_26 (tx : ByteArray) (n : Nat) (cm : Bool) (w : World) (htx : tx.size ≤ 1000) : Calls Tryd.prog 53 #[.agg #[.int .i64 26, .string tx, .int .i64 n, .bool cm]] w (TxtTo (elK 26 tx n cm) 1000 w) := by
  have HX := hideP htx
  clear htx
  go_enter Tryd.func53, Tryd.ntmps53
  go_wp2_with (fail)
  go_ret
  exact ⟨_, rfl, by decide, rfl, below_alloc w _⟩
set_option maxRecDepth 100000 in
set_option maxHeartbeats 800000 in
theorem elm_27 (tx : ByteArray) (n : Nat) (cm : Bool) (w : World) (htx : tx.size ≤ 1000) : Calls Tryd.prog 53 #[.agg #[.int .i64 27, .string tx, .int .i64 n, .bool cm]] w (TxtTo (elK 27 tx n cm) 1000 w) := by
  have HX := hideP htx
  clear htx
  go_enter Tryd.func53, Tryd.ntmps53
  go_wp2_with (fail)
  go_ret
  exact ⟨_, rfl, by decide, rfl, below_alloc w _⟩
set_option maxRecDepth 100000 in
set_option maxHeartbeats 800000 in
theorem elm_28 (tx : ByteArray) (n : Nat) (cm : Bool) (w : World) (htx : tx.size ≤ 1000) : Calls Tryd.prog 53 #[.agg #[.int .i64 28, .string tx, .int .i64 n, .bool cm]] w (TxtTo (elK 28 tx n cm) 1000 w) := by
  have HX := hideP htx
  clear htx
  go_enter Tryd.func53, Tryd.ntmps53
  go_wp2_with (fail)
  go_ret
  exact ⟨_, rfl, by decide, rfl, below_alloc w _⟩
set_option maxRecDepth 100000 in
set_option maxHeartbeats 800000 in
theorem elm_29 (tx : ByteArray) (n : Nat) (cm : Bool) (w : World) (htx : tx.size ≤ 1000) : Calls Tryd.prog 53 #[.agg #[.int .i64 29, .string tx, .int .i64 n, .bool cm]] w (TxtTo (elK 29 tx n cm) 1000 w) := by
  have HX := hideP htx
  clear htx
  go_enter Tryd.func53, Tryd.ntmps53
  go_wp2_with (fail)
  go_ret
  exact ⟨_, rfl, by decide, rfl, below_alloc w _⟩
set_option maxRecDepth 100000 in
set_option maxHeartbeats 800000 in
theorem elm_30 (tx : ByteArray) (n : Nat) (cm : Bool) (w : World) (htx : tx.size ≤ 1000) : Calls Tryd.prog 53 #[.agg #[.int .i64 30, .string tx, .int .i64 n, .bool cm]] w (TxtTo (elK 30 tx n cm) 1000 w) := by
  have HX := hideP htx
  clear htx
  go_enter Tryd.func53, Tryd.ntmps53
  go_wp2_with (fail)
  go_ret
  exact ⟨_, rfl, by decide, rfl, below_alloc w _⟩
set_option maxRecDepth 100000 in
set_option maxHeartbeats 800000 in
theorem elm_31 (tx : ByteArray) (n : Nat) (cm : Bool) (w : World) (htx : tx.size ≤ 1000) : Calls Tryd.prog 53 #[.agg #[.int .i64 31, .string tx, .int .i64 n, .bool cm]] w (TxtTo (elK 31 tx n cm) 1000 w) := by
  have HX := hideP htx
  clear htx
  go_enter Tryd.func53, Tryd.ntmps53
  go_wp2_with (fail)
  go_ret
  exact ⟨_, rfl, by decide, rfl, below_alloc w _⟩
set_option maxRecDepth 100000 in
set_option maxHeartbeats 800000 in
theorem elm_32 (tx : ByteArray) (n : Nat) (cm : Bool) (w : World) (htx : tx.size ≤ 1000) : Calls Tryd.prog 53 #[.agg #[.int .i64 32, .string tx, .int .i64 n, .bool cm]] w (TxtTo (elK 32 tx n cm) 1000 w) := by
  have HX := hideP htx
  clear htx
  go_enter Tryd.func53, Tryd.ntmps53
  go_wp2_with (fail)
  go_ret
  exact ⟨_, rfl, by decide, rfl, below_alloc w _⟩
end Go.Proofs.YtigabjibdepoiaaDoor.Tm
namespace Go.Proofs.YtigabjibdepoiaaDoor.Tm
set_option linter.unusedSimpArgs false
set_option linter.unusedVariables false
open Go.RowKit Go
/-- What may stand right behind an element. -/
def NxOk (z : Bool) (R : List UInt8) : Prop := ∀ c, R[0]? = some c → ¬ (48 ≤ c.toNat ∧ c.toNat ≤ 57) ∧ ¬ (97 ≤ c.toNat ∧ c.toNat ≤ 122) ∧ (z = true → c.toNat ≠ 58)
theorem fmtL_text (t : Tm) (R : List UInt8) (h7 : No07 R) : ∀ (tx : List UInt8), (∀ c ∈ tx, okB c.toNat) → fmtL t (tx ++ R) = tx ++ fmtL t R := by
  intro tx
  induction tx with
  | nil => intro _; rfl
  | cons c r ih =>
    intro h
    have hr := ih (fun d hd => h d (by simp [hd]))
    have hn : stdL (c :: (r ++ R)) = none := by
      refine plain_none c _ (h c (by simp)) ?_
      cases r with
      | nil => exact h7
      | cons d r => exact no07_ok (h d (by simp))
    rw [List.cons_append, fmtL_none t c (r ++ R) hn, hr, List.cons_append]
theorem nx_dig {z : Bool} {R : List UInt8} (h : NxOk z R) (d : UInt8) (hd : (48 ≤ d.toNat ∧ d.toNat ≤ 57) ∨ (97 ≤ d.toNat ∧ d.toNat ≤ 122)) : R[0]? ≠ some d := by
  intro e
  have := h d e
  omega
theorem nx_colon {R : List UInt8} (h : NxOk true R) : R[0]? ≠ some 58 := fun e => (h _ e).2.2 rfl rfl
theorem nx_low {z : Bool} {R : List UInt8} (h : NxOk z R) : ¬ lowP R = true := by
  unfold lowP
  cases e : R[0]? with
  | none => simp
  | some c =>
    have := h c e
    simp only [Option.any_some, Bool.and_eq_true, decide_eq_true_eq]
    omega
theorem nx_isdig {z : Bool} {R : List UInt8} (h : NxOk z R) : (R[0]?.any isDig) = false := by
  cases e : R[0]? with
  | none => rfl
  | some c =>
    have := h c e
    rw [Option.any_some]
    unfold isDig
    rw [Bool.and_eq_false_iff, decide_eq_false_iff_not, decide_eq_false_iff_not]
    omega
theorem at_no {l : List UInt8} {j n : Nat} (h : ∀ c, l[j]? = some c → c.toNat ≠ n) : ¬ at_ l j n = true := by
  unfold at_
  cases e : l[j]? with
  | none => simp
  | some c => have := h c e; simpa using this
/-- The number of an element by its kind. -/
def stdK (k n : Nat) (cm : Bool) : Nat := match k with
  | 1 => 275 | 2 => 276 | 3 => 257 | 4 => 258 | 5 => 260 | 6 => 259 | 7 => 261 | 8 => 262 | 9 => 263 | 10 => 264 | 11 => 265 | 12 => 522 | 13 => 523 | 14 => 1036 | 15 => 1037 | 16 => 1038
  | 17 => 1039 | 18 => 1040 | 19 => 1041 | 20 => 1042 | 21 => 1045 | 22 => 29 | 23 => 32 | 24 => 31 | 25 => 30 | 26 => 33 | 27 => 24 | 28 => 27 | 29 => 26 | 30 => 25 | 31 => 28 | 32 => 23
  | 33 => fracStd 34 n cm | 34 => fracStd 35 n cm | _ => 0
def zoneK (k : Nat) : Bool := decide (22 ≤ k) && decide (k ≤ 31)
theorem run_rep (d : UInt8) (R : List UInt8) (h : R[0]? ≠ some d) : ∀ n, runOf d (List.replicate n d ++ R) = n := by
  intro n
  unfold runOf
  induction n with
  | zero =>
    cases R with
    | nil => rfl
    | cons c r =>
      have : ¬ c = d := fun e => h (by rw [e]; rfl)
      simp [this]
  | succ n ih => rw [List.replicate_succ, List.cons_append, List.takeWhile_cons, if_pos (by simp), List.length_cons, ih]
theorem frac_el (cm : Bool) (d : UInt8) (code n : Nat) (R : List UInt8) (hd : (d = 48 ∧ code = 34) ∨ (d = 57 ∧ code = 35)) (hn : 1 ≤ n) {z : Bool} (h : NxOk z R) : stdFrac cm ((if cm then 44 else 46) :: List.replicate n d ++ R) = some (fracStd code n cm, 0, n + 1) := by
  have h1 : ((if cm then (44 : UInt8) else 46) :: List.replicate n d ++ R)[1]? = some d := by
    obtain ⟨m, rfl⟩ : ∃ m, n = m + 1 := ⟨n - 1, by omega⟩
    rfl
  have hr : runOf d (((if cm then (44 : UInt8) else 46) :: List.replicate n d ++ R).drop 1) = n := by
    show runOf d (List.replicate n d ++ R) = n
    exact run_rep d R (nx_dig h d (by rcases hd with ⟨rfl, _⟩ | ⟨rfl, _⟩ <;> decide)) n
  have h2 : ((if cm then (44 : UInt8) else 46) :: List.replicate n d ++ R)[1 + n]? = R[0]? := by
    rw [Nat.add_comm 1 n, List.cons_append, List.getElem?_cons_succ, List.getElem?_append_right (by simp)]
    simp
  unfold stdFrac
  rw [h1]
  show (if d.toNat = 48 ∨ d.toNat = 57 then _ else _) = _
  rw [hr, h2, nx_isdig h, Nat.add_comm 1 n]
  rcases hd with ⟨rfl, rfl⟩ | ⟨rfl, rfl⟩ <;> rfl
set_option maxRecDepth 100000 in
theorem std_el (p : Pc) (R : List UInt8) (hk : 1 ≤ p.k) (hk2 : p.k ≤ 34) (hn : p.k = 33 ∨ p.k = 34 → 1 ≤ p.n) (hx : NxOk (zoneK p.k) R) : stdL (elP p ++ R) = some (stdK p.k p.n p.cm, 0, (elP p).length) := by
  obtain ⟨k, tx, n, cm⟩ := p
  simp only at hk hk2 hn hx
  have hkk : k = 1 ∨ k = 2 ∨ k = 3 ∨ k = 4 ∨ k = 5 ∨ k = 6 ∨ k = 7 ∨ k = 8 ∨ k = 9 ∨ k = 10 ∨ k = 11 ∨ k = 12 ∨ k = 13 ∨ k = 14 ∨ k = 15 ∨ k = 16 ∨ k = 17 ∨ k = 18 ∨ k = 19 ∨ k = 20 ∨ k = 21 ∨ k = 22 ∨ k = 23 ∨ k = 24 ∨ k = 25 ∨ k = 26 ∨ k = 27 ∨ k = 28 ∨ k = 29 ∨ k = 30 ∨ k = 31 ∨ k = 32 ∨ k = 33 ∨ k = 34 := by omega
  clear hk hk2
  show stdL (elK k tx n cm ++ R) = some (stdK k n cm, 0, (elK k tx n cm).length)
  have n48 := nx_dig hx 48 (by decide)
  have n53 := nx_dig hx 53 (by decide)
  have n117 := nx_dig hx 117 (by decide)
  have n100 := nx_dig hx 100 (by decide)
  have low := nx_low hx
  rcases hkk with rfl | rfl | rfl | rfl | rfl | rfl | rfl | rfl | rfl | rfl | rfl | rfl | rfl | rfl | rfl | rfl | rfl | rfl | rfl | rfl | rfl | rfl | rfl | rfl | rfl | rfl | rfl | rfl | rfl | rfl | rfl | rfl | rfl | rfl
  · exact (by kernel_rfl : stdL (elK 1 tx n cm ++ R) = some (stdK 1 n cm, 0, (elK 1 tx n cm).length))
  · exact (by kernel_rfl : stdL (elK 2 tx n cm ++ R) = some (stdK 2 n cm, 0, (elK 2 tx n cm).length))
  · exact (by kernel_rfl : stdL (elK 3 tx n cm ++ R) = some (stdK 3 n cm, 0, (elK 3 tx n cm).length))
  · have h : stdL (74 :: 97 :: 110 :: R) = (if ((74 :: 97 :: 110 :: R).take 7 == [74, 97, 110, 117, 97, 114, 121]) then some (257, 0, 7) else if lowP R then none else some (258, 0, 3)) := by kernel_rfl
    refine h.trans ?_
    rw [if_neg (ne_take (j := 3) (d := 117) n117 rfl), if_neg low]; rfl
  · exact (by kernel_rfl : stdL (elK 5 tx n cm ++ R) = some (stdK 5 n cm, 0, (elK 5 tx n cm).length))
  · have h : stdL (49 :: R) = (if at_ (49 :: R) 1 53 then some (1036, 0, 2) else some (259, 0, 1)) := by kernel_rfl
    refine h.trans ?_
    rw [if_neg (at_no fun c e h53 => n53 (by rw [show R[0]? = some c from e, ← UInt8.toNat_inj.1 (show c.toNat = (53 : UInt8).toNat from h53)]))]; rfl
  · exact (by kernel_rfl : stdL (elK 7 tx n cm ++ R) = some (stdK 7 n cm, 0, (elK 7 tx n cm).length))
  · have h : stdL (77 :: 111 :: 110 :: R) = (if ((77 :: 111 :: 110 :: R).take 6 == [77, 111, 110, 100, 97, 121]) then some (261, 0, 6) else if lowP R then none else some (262, 0, 3)) := by kernel_rfl
    refine h.trans ?_
    rw [if_neg (ne_take (j := 3) (d := 100) n100 rfl), if_neg low]; rfl
  · have h : stdL (50 :: R) = (if ((50 :: R).take 4 == [50, 48, 48, 54]) then some (275, 0, 4) else some (263, 0, 1)) := by kernel_rfl
    refine h.trans ?_
    rw [if_neg (ne_take (j := 1) (d := 48) n48 rfl)]; rfl
  · have h : stdL (95 :: 50 :: R) = (if ((50 :: R).take 4 == [50, 48, 48, 54]) then some (275, 1, 5) else some (264, 0, 2)) := by kernel_rfl
    refine h.trans ?_
    rw [if_neg (ne_take (j := 1) (d := 48) n48 rfl)]; rfl
  · exact (by kernel_rfl : stdL (elK 11 tx n cm ++ R) = some (stdK 11 n cm, 0, (elK 11 tx n cm).length))
  · exact (by kernel_rfl : stdL (elK 12 tx n cm ++ R) = some (stdK 12 n cm, 0, (elK 12 tx n cm).length))
  · exact (by kernel_rfl : stdL (elK 13 tx n cm ++ R) = some (stdK 13 n cm, 0, (elK 13 tx n cm).length))
  · exact (by kernel_rfl : stdL (elK 14 tx n cm ++ R) = some (stdK 14 n cm, 0, (elK 14 tx n cm).length))
  · exact (by kernel_rfl : stdL (elK 15 tx n cm ++ R) = some (stdK 15 n cm, 0, (elK 15 tx n cm).length))
  · exact (by kernel_rfl : stdL (elK 16 tx n cm ++ R) = some (stdK 16 n cm, 0, (elK 16 tx n cm).length))
  · exact (by kernel_rfl : stdL (elK 17 tx n cm ++ R) = some (stdK 17 n cm, 0, (elK 17 tx n cm).length))
  · exact (by kernel_rfl : stdL (elK 18 tx n cm ++ R) = some (stdK 18 n cm, 0, (elK 18 tx n cm).length))
  · exact (by kernel_rfl : stdL (elK 19 tx n cm ++ R) = some (stdK 19 n cm, 0, (elK 19 tx n cm).length))
  · exact (by kernel_rfl : stdL (elK 20 tx n cm ++ R) = some (stdK 20 n cm, 0, (elK 20 tx n cm).length))
  · exact (by kernel_rfl : stdL (elK 21 tx n cm ++ R) = some (stdK 21 n cm, 0, (elK 21 tx n cm).length))
  · have h : stdL (45 :: 48 :: 55 :: 48 :: 48 :: R) = stdZone 45 (45 :: 48 :: 55 :: 48 :: 48 :: R) 30 33 29 32 31 := by kernel_rfl
    refine h.trans ?_
    unfold stdZone
    rw [if_neg (ne_take (j := 5) (d := 48) n48 rfl), if_neg (ne_take (j := 3) (d := 58) (by show some (48 : UInt8) ≠ some 58; decide) rfl), if_pos (by kernel_rfl)]; rfl
  · have h : stdL (45 :: 48 :: 55 :: 58 :: 48 :: 48 :: R) = stdZone 45 (45 :: 48 :: 55 :: 58 :: 48 :: 48 :: R) 30 33 29 32 31 := by kernel_rfl
    refine h.trans ?_
    unfold stdZone
    rw [if_neg (ne_take (j := 3) (d := 48) (by show some (58 : UInt8) ≠ some 48; decide) rfl), if_neg (ne_take (j := 6) (d := 58) (nx_colon hx) rfl), if_neg (ne_take (j := 3) (d := 48) (by show some (58 : UInt8) ≠ some 48; decide) rfl), if_pos (by kernel_rfl)]; rfl
  · have h : stdL (45 :: 48 :: 55 :: R) = stdZone 45 (45 :: 48 :: 55 :: R) 30 33 29 32 31 := by kernel_rfl
    refine h.trans ?_
    unfold stdZone
    rw [if_neg (ne_take (j := 3) (d := 48) n48 rfl), if_neg (ne_take (j := 3) (d := 58) (nx_colon hx) rfl), if_neg (ne_take (j := 3) (d := 48) n48 rfl), if_neg (ne_take (j := 3) (d := 58) (nx_colon hx) rfl), if_pos (by kernel_rfl)]; rfl
  · exact (by kernel_rfl : stdL (elK 25 tx n cm ++ R) = some (stdK 25 n cm, 0, (elK 25 tx n cm).length))
  · exact (by kernel_rfl : stdL (elK 26 tx n cm ++ R) = some (stdK 26 n cm, 0, (elK 26 tx n cm).length))
  · have h : stdL (90 :: 48 :: 55 :: 48 :: 48 :: R) = stdZone 90 (90 :: 48 :: 55 :: 48 :: 48 :: R) 25 28 24 27 26 := by kernel_rfl
    refine h.trans ?_
    unfold stdZone
    rw [if_neg (ne_take (j := 5) (d := 48) n48 rfl), if_neg (ne_take (j := 3) (d := 58) (by show some (48 : UInt8) ≠ some 58; decide) rfl), if_pos (by kernel_rfl)]; rfl
  · have h : stdL (90 :: 48 :: 55 :: 58 :: 48 :: 48 :: R) = stdZone 90 (90 :: 48 :: 55 :: 58 :: 48 :: 48 :: R) 25 28 24 27 26 := by kernel_rfl
    refine h.trans ?_
    unfold stdZone
    rw [if_neg (ne_take (j := 3) (d := 48) (by show some (58 : UInt8) ≠ some 48; decide) rfl), if_neg (ne_take (j := 6) (d := 58) (nx_colon hx) rfl), if_neg (ne_take (j := 3) (d := 48) (by show some (58 : UInt8) ≠ some 48; decide) rfl), if_pos (by kernel_rfl)]; rfl
  · have h : stdL (90 :: 48 :: 55 :: R) = stdZone 90 (90 :: 48 :: 55 :: R) 25 28 24 27 26 := by kernel_rfl
    refine h.trans ?_
    unfold stdZone
    rw [if_neg (ne_take (j := 3) (d := 48) n48 rfl), if_neg (ne_take (j := 3) (d := 58) (nx_colon hx) rfl), if_neg (ne_take (j := 3) (d := 48) n48 rfl), if_neg (ne_take (j := 3) (d := 58) (nx_colon hx) rfl), if_pos (by kernel_rfl)]; rfl
  · exact (by kernel_rfl : stdL (elK 30 tx n cm ++ R) = some (stdK 30 n cm, 0, (elK 30 tx n cm).length))
  · exact (by kernel_rfl : stdL (elK 31 tx n cm ++ R) = some (stdK 31 n cm, 0, (elK 31 tx n cm).length))
  · exact (by kernel_rfl : stdL (elK 32 tx n cm ++ R) = some (stdK 32 n cm, 0, (elK 32 tx n cm).length))
  · have h := frac_el cm 48 34 n R (.inl ⟨rfl, rfl⟩) (hn (.inl rfl)) hx
    have hl : (elK 33 tx n cm).length = n + 1 := by show ((if cm then (44 : UInt8) else 46) :: List.replicate n 48).length = n + 1; simp
    rw [hl]
    cases cm <;> exact h
  · have h := frac_el cm 57 35 n R (.inr ⟨rfl, rfl⟩) (hn (.inr rfl)) hx
    have hl : (elK 34 tx n cm).length = n + 1 := by show ((if cm then (44 : UInt8) else 46) :: List.replicate n 57).length = n + 1; simp
    rw [hl]
    cases cm <;> exact h
theorem fr_no (c n : Nat) (cm : Bool) (hc : c < 65536) (hn : n ≤ 9) : FrNo (fracStd c n cm) c n cm := ⟨by unfold fracStd; rw [Nat.mod_eq_of_lt (by omega)], hc, by omega⟩
theorem el_writ (t : Tm) (hO : TmOk t) (k : Nat) (tx : ByteArray) (n : Nat) (cm : Bool) (hk : 1 ≤ k) (hk2 : k ≤ 34) (hn : k = 33 ∨ k = 34 → n ≤ 9) : elemL t (stdK k n cm) = writK t k tx n cm := by
  have hkk : k = 1 ∨ k = 2 ∨ k = 3 ∨ k = 4 ∨ k = 5 ∨ k = 6 ∨ k = 7 ∨ k = 8 ∨ k = 9 ∨ k = 10 ∨ k = 11 ∨ k = 12 ∨ k = 13 ∨ k = 14 ∨ k = 15 ∨ k = 16 ∨ k = 17 ∨ k = 18 ∨ k = 19 ∨ k = 20 ∨ k = 21 ∨ k = 22 ∨ k = 23 ∨ k = 24 ∨ k = 25 ∨ k = 26 ∨ k = 27 ∨ k = 28 ∨ k = 29 ∨ k = 30 ∨ k = 31 ∨ k = 32 ∨ k = 33 ∨ k = 34 := by omega
  clear hk hk2
  rcases hkk with rfl | rfl | rfl | rfl | rfl | rfl | rfl | rfl | rfl | rfl | rfl | rfl | rfl | rfl | rfl | rfl | rfl | rfl | rfl | rfl | rfl | rfl | rfl | rfl | rfl | rfl | rfl | rfl | rfl | rfl | rfl | rfl | rfl | rfl
  · exact el_1 t
  · exact el_2 t
  · exact el_3 t
  · exact el_4 t
  · exact el_5 t
  · exact el_6 t
  · exact el_7 t
  · exact el_8 t
  · exact el_9 t
  · exact el_10 t hO
  · exact el_11 t
  · exact el_12 t hO
  · exact el_13 t
  · exact el_14 t
  · exact el_15 t
  · exact el_16 t
  · exact el_17 t
  · exact el_18 t
  · exact el_19 t
  · exact el_20 t
  · exact el_21 t
  · exact el_22 t
  · exact el_23 t
  · exact el_24 t
  · exact el_25 t
  · exact el_26 t
  · exact el_27 t
  · exact el_28 t
  · exact el_29 t
  · exact el_30 t
  · exact el_31 t
  · exact el_32 t
  · exact el_33 t _ n cm (fr_no 34 n cm (by decide) (hn (.inl rfl)))
  · exact el_34 t _ n cm (fr_no 35 n cm (by decide) (hn (.inr rfl)))
theorem fmt_el (t : Tm) (hO : TmOk t) (p : Pc) (R : List UInt8) (hk : 1 ≤ p.k) (hk2 : p.k ≤ 34) (hn : p.k = 33 ∨ p.k = 34 → 1 ≤ p.n ∧ p.n ≤ 9) (hx : NxOk (zoneK p.k) R) : fmtL t (elP p ++ R) = writL t p ++ fmtL t R := by
  rw [fmtL_some t _ _ _ _ (std_el p R hk hk2 (fun h => (hn h).1) hx), List.take_zero, List.nil_append, List.drop_left, el_writ t hO p.k p.tx p.n p.cm hk hk2 (fun h => (hn h).2)]
  rfl
/-- May an element of kind b stand right behind one of kind a? -/
def touchB (a b : Nat) : Bool :=
  if b = 33 ∨ b = 34 then decide (a = 19 ∨ a = 20) else if b = 21 then decide ((15 ≤ a ∧ a ≤ 20) ∨ a = 33 ∨ a = 34) else if 27 ≤ b ∧ b ≤ 31 then decide (a = 18 ∨ a = 20 ∨ a = 33 ∨ a = 34) else false
def pcFine (p : Pc) : Prop := p.k ≤ 34 ∧ (p.k = 0 → 0 < p.tx.size ∧ p.tx.size ≤ 1000 ∧ ∀ c ∈ bl p.tx, okB c.toNat) ∧ (p.k ≠ 0 → p.tx.size = 0) ∧ (p.k = 33 ∨ p.k = 34 → 1 ≤ p.n ∧ p.n ≤ 9)
def pairOk (p q : Pc) : Prop := (q.k = 0 → zoneK p.k = true → ∀ c, (bl q.tx)[0]? = some c → c.toNat ≠ 58) ∧ (q.k ≠ 0 → (p.k ≠ 0 ∨ q.k = 33 ∨ q.k = 34) → touchB p.k q.k = true)
def PsOk (ps : List Pc) : Prop := (∀ p ∈ ps, pcFine p) ∧ ∀ (i : Nat) (p q : Pc), ps[i]? = some p → ps[i + 1]? = some q → pairOk p q
/-- The layout of pieces. -/
def layL (ps : List Pc) : List UInt8 := ps.flatMap elP
theorem lay_cons (p : Pc) (r : List Pc) : layL (p :: r) = elP p ++ layL r := by unfold layL; rw [List.flatMap_cons]
theorem get0_append {a b : List UInt8} (h : 0 < a.length) : (a ++ b)[0]? = a[0]? := List.getElem?_append_left h
theorem elP_pos (q : Pc) (h : pcFine q) : 0 < (elP q).length := by
  obtain ⟨k, tx, n, cm⟩ := q
  obtain ⟨h1, h2, h3, h4⟩ := h
  simp only at h1 h2 h3 h4
  show 0 < (elK k tx n cm).length
  have hkk : k = 0 ∨ k = 1 ∨ k = 2 ∨ k = 3 ∨ k = 4 ∨ k = 5 ∨ k = 6 ∨ k = 7 ∨ k = 8 ∨ k = 9 ∨ k = 10 ∨ k = 11 ∨ k = 12 ∨ k = 13 ∨ k = 14 ∨ k = 15 ∨ k = 16 ∨ k = 17 ∨ k = 18 ∨ k = 19 ∨ k = 20 ∨ k = 21 ∨ k = 22 ∨ k = 23 ∨ k = 24 ∨ k = 25 ∨ k = 26 ∨ k = 27 ∨ k = 28 ∨ k = 29 ∨ k = 30 ∨ k = 31 ∨ k = 32 ∨ k = 33 ∨ k = 34 := by omega
  rcases hkk with rfl | hkk
  · show 0 < (bl tx).length
    rw [bl_length]; exact (h2 rfl).1
  · clear h1 h2 h3 h4
    rcases hkk with rfl | rfl | rfl | rfl | rfl | rfl | rfl | rfl | rfl | rfl | rfl | rfl | rfl | rfl | rfl | rfl | rfl | rfl | rfl | rfl | rfl | rfl | rfl | rfl | rfl | rfl | rfl | rfl | rfl | rfl | rfl | rfl | rfl | rfl <;> exact Nat.succ_pos _
theorem nx_next (p q : Pc) (r : List Pc) (hq : pcFine q) (hp : p.k ≠ 0) (h : pairOk p q) : NxOk (zoneK p.k) (layL (q :: r)) := by
  intro c hc
  rw [lay_cons, get0_append (elP_pos q hq)] at hc
  obtain ⟨k, tx, n, cm⟩ := q
  obtain ⟨h1, h2, h3, h4⟩ := hq
  obtain ⟨g1, g2⟩ := h
  simp only at h1 h2 h3 h4 g1 g2
  change (elK k tx n cm)[0]? = some c at hc
  by_cases hk : k = 0
  · subst hk
    have hm : c ∈ bl tx := List.mem_of_getElem? hc
    have ho := (h2 rfl).2.2 c hm
    unfold okB at ho
    exact ⟨by omega, by omega, fun hz => g1 rfl hz c hc⟩
  · have ht := g2 hk (.inl hp)
    unfold touchB at ht
    have hz : c = 44 ∨ c = 46 ∨ c = 80 ∨ c = 90 := by
      split at ht
      · rename_i hf
        rcases hf with rfl | rfl
        · change (((if cm then (44 : UInt8) else 46) :: List.replicate n 48)[0]?) = some c at hc
          rw [List.getElem?_cons_zero] at hc
          cases cm
          · exact .inr (.inl (Option.some.inj hc).symm)
          · exact .inl (Option.some.inj hc).symm
        · change (((if cm then (44 : UInt8) else 46) :: List.replicate n 57)[0]?) = some c at hc
          rw [List.getElem?_cons_zero] at hc
          cases cm
          · exact .inr (.inl (Option.some.inj hc).symm)
          · exact .inl (Option.some.inj hc).symm
      · split at ht
        · rename_i hf
          subst hf
          exact .inr (.inr (.inl (Option.some.inj hc).symm))
        · split at ht
          · rename_i hf
            have hkk : k = 27 ∨ k = 28 ∨ k = 29 ∨ k = 30 ∨ k = 31 := by omega
            rcases hkk with rfl | rfl | rfl | rfl | rfl <;> exact .inr (.inr (.inr (Option.some.inj hc).symm))
          · cases ht
    rcases hz with rfl | rfl | rfl | rfl <;> exact ⟨by decide, by decide, fun _ => by decide⟩
theorem no07_next (q : Pc) (r : List Pc) (hq : pcFine q) : No07 (layL (q :: r)) := by
  have hpos := elP_pos q hq
  obtain ⟨k, tx, n, cm⟩ := q
  obtain ⟨h1, h2, h3, h4⟩ := hq
  simp only at h1 h2 h3 h4
  rintro ⟨e1, e2⟩
  rw [lay_cons] at e1 e2
  change (elK k tx n cm ++ layL r)[0]? = some 48 at e1
  change (elK k tx n cm ++ layL r)[1]? = some 55 at e2
  have hkk : k = 0 ∨ k = 1 ∨ k = 2 ∨ k = 3 ∨ k = 4 ∨ k = 5 ∨ k = 6 ∨ k = 7 ∨ k = 8 ∨ k = 9 ∨ k = 10 ∨ k = 11 ∨ k = 12 ∨ k = 13 ∨ k = 14 ∨ k = 15 ∨ k = 16 ∨ k = 17 ∨ k = 18 ∨ k = 19 ∨ k = 20 ∨ k = 21 ∨ k = 22 ∨ k = 23 ∨ k = 24 ∨ k = 25 ∨ k = 26 ∨ k = 27 ∨ k = 28 ∨ k = 29 ∨ k = 30 ∨ k = 31 ∨ k = 32 ∨ k = 33 ∨ k = 34 := by omega
  rcases hkk with rfl | hkk
  · have e3 : (elK 0 tx n cm)[0]? = some 48 := (get0_append (a := elK 0 tx n cm) hpos).symm.trans e1
    exact okB_48 ((h2 rfl).2.2 48 (List.mem_of_getElem? e3)) rfl
  · clear h1 h2 h3 h4 hpos
    rcases hkk with rfl | rfl | rfl | rfl | rfl | rfl | rfl | rfl | rfl | rfl | rfl | rfl | rfl | rfl | rfl | rfl | rfl | rfl | rfl | rfl | rfl | rfl | rfl | rfl | rfl | rfl | rfl | rfl | rfl | rfl | rfl | rfl | rfl | rfl
    all_goals first
      | (have := Option.some.inj e1; revert this; decide)
      | (have := Option.some.inj e2; revert this; decide)
      | (have := Option.some.inj e1; cases cm <;> (revert this; decide))
theorem PsOk.tail {p : Pc} {r : List Pc} (h : PsOk (p :: r)) : PsOk r := ⟨fun q hq => h.1 q (by simp [hq]), fun i a b ha hb => h.2 (i + 1) a b ha hb⟩
/-- WHAT FORMAT WRITES BY THE LAYOUT OF PIECES. -/
theorem fmt_pieces (t : Tm) (hO : TmOk t) : ∀ ps : List Pc, PsOk ps → fmtL t (layL ps) = writAll t ps := by
  intro ps
  induction ps with
  | nil => intro _; rfl
  | cons p r ih =>
    intro h
    have hr := ih h.tail
    have hp := h.1 p (by simp)
    have hw : writAll t (p :: r) = writL t p ++ writAll t r := by unfold writAll; rw [List.flatMap_cons]
    rw [lay_cons, hw]
    by_cases hk : p.k = 0
    · have e1 : elP p = bl p.tx := by obtain ⟨k, tx, n, cm⟩ := p; simp only at hk; subst hk; rfl
      have e2 : writL t p = bl p.tx := by obtain ⟨k, tx, n, cm⟩ := p; simp only at hk; subst hk; rfl
      rw [e1, e2, fmtL_text t (layL r) ?_ _ (hp.2.1 hk).2.2, hr]
      cases r with
      | nil => rintro ⟨e, _⟩; cases e
      | cons q r => exact no07_next q r (h.1 q (by simp))
    · rw [fmt_el t hO p (layL r) (by omega) hp.1 hp.2.2.2 ?_, hr]
      cases r with
      | nil => intro c e; cases e
      | cons q r => exact nx_next p q r (h.1 q (by simp)) hk (h.2 0 p q rfl rfl)
theorem psFine_ok {p : Pc} (h : pcFine p) : PcOk p := ⟨h.1, by
  by_cases hk : p.k = 0
  · exact (h.2.1 hk).2.1
  · have := h.2.2.1 hk; omega, h.2.2.2⟩
end Go.Proofs.YtigabjibdepoiaaDoor.Tm
namespace Go.Proofs.YtigabjibdepoiaaDoor.Tm
set_option linter.unusedSimpArgs false
set_option linter.unusedVariables false
open Go.RowKit Go
/-- Stores into a row, where no cell that is written is frozen. -/
theorem run_storeM (P : Program) (g o : Nat) (t : TypeId) (fz : Nat × Nat) : ∀ (vs : List Value) (i : Nat) (cur : Array Value) (w : World), w.heap[g]? = some (.cells cur t fz) → (∀ j, j < cur.size → ¬ (fz.1 ≤ j ∧ j < fz.2)) → o + i + vs.length ≤ cur.size → (∀ v ∈ vs, v.oneCell' = true) →
    (storeCells ⟨g, o, none⟩ vs i).run P w = .ok () (w.setRow g (cur.toList.take (o + i) ++ vs ++ cur.toList.drop (o + i + vs.length)).toArray)
  | [], i, cur, w, hg, _, _, _ => by
    simp only [storeCells, List.append_nil, List.length_nil, Nat.add_zero, List.take_append_drop, Array.toArray_toList]
    rw [setRow_self w g cur t fz hg]
    rfl
  | v :: rest, i, cur, w, hg, hfz, hl, h1 => by
    have hi : o + i < cur.size := by simp at hl; omega
    have hadd : (⟨g, o, none⟩ : Addr).add i = ⟨g, o + i, none⟩ := by unfold Addr.add; split <;> simp_all
    have hcell : w.cell? ⟨g, o + i, none⟩ = some cur[o + i] := by simp [World.cell?, hg, hi]
    have hfro : w.frozen? ⟨g, o + i, none⟩ = false := by
      have h2 := hfz (o + i) hi
      obtain ⟨lo, hi'⟩ := fz
      simp only [World.frozen?, hg, Bool.and_eq_false_iff, decide_eq_false_iff_not]
      simp only at h2
      omega
    have hst : (store ((⟨g, o, none⟩ : Addr).add i) v).run P w = .ok () (w.setRow g (cur.setIfInBounds (o + i) v)) := by
      rw [hadd, run_store P w _ v _ (h1 v (by simp)), hcell]
      simp [hfro, setCell_eq_setRow w g (o + i) cur t fz v hg]
    have ih := run_storeM P g o t fz rest (i + 1) (cur.setIfInBounds (o + i) v) (w.setRow g (cur.setIfInBounds (o + i) v)) (setRow_heap w g cur _ t _ hg) (by simpa using hfz) (by simp at hl ⊢; omega) (fun x hx => h1 x (by simp [hx]))
    simp only [storeCells, Sem.run_bind, hst, Result.andThen_ok, ih, setRow_setRow]
    congr 3
    have e := list_seg_step cur.toList (o + i) v rest (by simp at hl ⊢; omega)
    simpa [Array.toList_setIfInBounds, Nat.add_assoc] using e
/-- As Buf, the block's mark being whatever that freezes no cell of it. -/
def BufM (w : World) (base : Nat) (v : Value) (xs : List Value) : Prop :=
  ∃ g cap cur tag fz, v = .slice (some ⟨g, 0, none⟩) xs.length cap ∧ base ≤ g ∧ w.heap[g]? = some (.cells cur tag fz) ∧ (∀ j, j < cap → ¬ (fz.1 ≤ j ∧ j < fz.2)) ∧ xs.length ≤ cap ∧ cap ≤ maxLen ∧ cur.size = cap ∧ cur.toList.take xs.length = xs
theorem BufM.kept {w w' : World} {base : Nat} {v : Value} {xs : List Value} (h : BufM w base v xs) (hb : Below w.heap.size w w') : BufM w' base v xs := by
  obtain ⟨g, cap, cur, tag, fz, rfl, h1, hg, h2⟩ := h
  exact ⟨g, cap, cur, tag, fz, rfl, h1, (hb.block g (Array.getElem?_eq_some_iff.1 hg).1).trans hg, h2⟩
theorem BufM.alloc {w : World} {base : Nat} {v : Value} {xs : List Value} (h : BufM w base v xs) (o : Obj) : BufM (w.alloc o) base v xs := h.kept ((Below.refl _ _).alloc (Nat.le_refl _) o)
theorem runM_append (tx ty : TypeId) (w : World) (base : Nat) (v : Value) (xs : List Value) (hv : BufM w base v xs) (x : Value) (n : Nat) (news : List Value) (hs : Src Tryd.prog 1 tx x n news w)
    (hsz : xs.length + n ≤ 140737488355328) (hbase : base ≤ w.heap.size) :
    ∃ v' w', (Builtin.append_ #[51, tx] ty #[v, x]).run Tryd.prog w = .ok v' w' ∧ BufM w' base v' (xs ++ news) ∧ Below base w w' := by
  obtain ⟨i, hi, hz, hi1, hi2⟩ := info_parts info8
  obtain ⟨g, cap, cur, tag, fz, rfl, hb, hg, hf, h1, h2, h3, h4⟩ := hv
  have hnl : news.length = n := by rw [hs.newsLen, Nat.mul_one]
  have hlen : (xs ++ news).length = xs.length + n := by rw [List.length_append, hnl]
  by_cases hroom : xs.length + n ≤ cap
  · have hst := run_storeM Tryd.prog g xs.length tag fz news 0 cur w hg (by rw [h3]; exact hf) (by rw [hnl]; omega) hs.one
    simp only [Nat.add_zero] at hst
    refine ⟨.slice (some ⟨g, 0, none⟩) (xs.length + n) cap, w.setRow g (cur.toList.take xs.length ++ news ++ cur.toList.drop (xs.length + news.length)).toArray, ?_,
      ⟨g, cap, _, tag, fz, by rw [hlen], hb, setRow_heap w g cur _ tag _ hg, hf, by omega, h2, ?_, ?_⟩, ⟨rfl, rfl, rfl, by simp, fun k hk => setRow_other w g k _ (by omega)⟩⟩
    · simp only [List.append_assoc] at hst
      rcases hs.kind with ⟨e', hk⟩ | hk <;> simp [Builtin.append_, run_underlying Tryd.underlying51, run_underlying hk, sizeOf, typeInfo, hi, hs.len, hroom, hs.cells, Addr.add_lit, hi1, hst]
    · simp only [List.size_toArray, List.length_append, List.length_take, List.length_drop, Array.length_toList]
      omega
    · rw [h4, ← hnl] at *
      show ((xs ++ news) ++ cur.toList.drop (xs.length + news.length)).take (xs ++ news).length = xs ++ news
      exact List.take_left
  · have holds : ∀ j u, xs[j]? = some u → w.drew.cell? ((⟨g, 0, none⟩ : Addr).add j) = some u := by
      intro j u hu
      have hadd : (⟨g, 0, none⟩ : Addr).add j = ⟨g, j, none⟩ := by unfold Addr.add; split <;> simp_all
      rw [hadd, cell_of_row w.drew g j cur tag fz hg]
      rw [← h4, List.getElem?_take] at hu
      split at hu
      · simpa using hu
      · cases hu
    have hold : (Builtin.firstCells i.size xs.length (.slice (some ⟨g, 0, none⟩) xs.length cap)).run Tryd.prog w.drew = .ok xs.toArray w.drew :=
      run_firstCells_some w.drew i.size xs.length ⟨g, 0, none⟩ xs.length cap xs (by rw [hi1, Nat.mul_one]) holds
    have hr := run_append_grow_src (P := Tryd.prog) w 51 tx ty 5 i _ Tryd.underlying51 hi hz (some ⟨g, 0, none⟩) xs.length cap xs hold x n news (by rw [hi1]; exact hs) (by omega) (by omega)
      (by rw [hi2]; exact growslice_fits (by omega) (by omega))
    have hge := grownCap_ge w (xs.length + n) cap 5
    have hcm : grownCap w (xs.length + n) cap 5 ≤ maxLen := grownCap_le_maxLen w (xs.length + n) cap 5 (by simp only [maxLen]; omega)
    refine ⟨_, _, hr, ⟨w.heap.size, _, _, 5, (0, 0), by rw [hlen], hbase, heap_alloc_new w.drew _, fun j _ h => by have := h.2; simp at this, by omega, hcm, ?_, ?_⟩, ⟨rfl, rfl, rfl, by simp, fun k hk => Below.heap_alloc w.drew _ k (by show k < w.heap.size; omega)⟩⟩
    · simp only [Array.size_append, List.size_toArray, size_zeroCells, hlen]
      simp [Value.cells]
      omega
    · rw [Array.toList_append]
      exact List.take_left
/-- The operation 'b = append(b, ..)', for the walk. -/
theorem wpList_bufM_append {w : World} {ops : Array Oper} {rest : List Oper} {o : Oper} {a : Act} {Q : Exit → Act → World → Prop} (hgd : o.guard = none) (s y : Operand) (tx : TypeId)
    (ho : o.op = .call { callee := .builtin .append, args := #[s, y], argTypes := #[51, tx] })
    (base : Nat) (v : Value) (xs : List Value) (hsv : a.eval s = v) (hv : BufM w base v xs) (x : Value) (hxv : a.eval y = x) (n : Nat) (news : List Value) (hs : Src Tryd.prog 1 tx x n news w)
    (hsz : xs.length + n ≤ 140737488355328) (hbase : base ≤ w.heap.size)
    (h : ∀ v' w', BufM w' base v' (xs ++ news) → Below base w w' → wpList Tryd.prog ops Q rest (a.put o.dst v') w') : wpList Tryd.prog ops Q (o :: rest) a w := by
  refine wpList_plain hgd fun K hK => ?_
  obtain ⟨v', w', hr, h2, h3⟩ := runM_append tx o.type w base v xs hv x n news hs hsz hbase
  unfold Oper.wp execOp
  simp only [ho, resolve, invoke, builtin, Sem.run_bind, Sem.run_pure, Result.andThen_ok, List.map_toArray, List.map_cons, List.map_nil, hsv, hxv, hr]
  exact hK _ _ (h v' w' h2 h3)
theorem below_alloc1 (w : World) (o : Obj) : Below w.heap.size w (w.alloc o) := (Below.refl _ _).alloc (Nat.le_refl _) o
/-- A string's bytes, as a new buffer. -/
theorem conv_buf (w : World) (s : ByteArray) (hs : s.size ≤ 140737488355328) : ∃ v w', (convert 9 51 (.string s)).run Tryd.prog w = .ok v w' ∧ BufM w' w.heap.size v (bytes (bl s)) ∧ Below w.heap.size w w' := by
  have hr := run_bytes_of_string (P := Tryd.prog) w 9 51 5 s Tryd.underlying9 Tryd.underlying51 Tryd.underlying5
  have hge := grownCap_ge w s.size 0 5
  have hcm : grownCap w s.size 0 5 ≤ maxLen := grownCap_le_maxLen w s.size 0 5 (by simp only [maxLen]; omega)
  have hsz : (bytesRow s (grownCap w s.size 0 5)).size = grownCap w s.size 0 5 := by
    unfold bytesRow
    have : s.data.size = s.size := rfl
    simp [this]; omega
  have hl : (bytes (bl s)).length = s.size := by rw [bytes_length, bl_length]
  refine ⟨_, _, hr, ⟨w.heap.size, _, _, _, _, by rw [hl], Nat.le_refl _, heap_alloc_new w.drew _, ?_, by rw [hl]; exact hge, hcm, hsz, ?_⟩, ((Below.refl _ _).drew).trans (below_alloc1 w.drew _)⟩
  · intro j hj h; have := h.1; simp only [hsz] at this; omega
  · rw [hl]
    unfold bytesRow
    rw [Array.toList_append, List.take_append_of_le_length (by simp), List.take_of_length_le (by simp)]
    simp [bytes, bl, u8]
theorem run_string_bufM (w : World) (base : Nat) (v : Value) (l : List UInt8) (h : BufM w base v (bytes l)) : (convert 51 9 v).run Tryd.prog w = .ok (.string (mkB l)) w := by
  obtain ⟨g, cap, cur, tag, fz, rfl, hb, hg, hf, h1, h2, h3, h4⟩ := h
  rw [bytes_length] at h4 h1 ⊢
  refine run_convert_bytes_back (P := Tryd.prog) w 51 9 5 ⟨g, 0, none⟩ cap l Tryd.underlying51 Tryd.underlying5 Tryd.underlying9 ?_
  intro j hj
  have hadd : (⟨g, 0, none⟩ : Addr).add j = ⟨g, j, none⟩ := by unfold Addr.add; split <;> simp_all
  rw [hadd, cell_of_row w g j cur tag fz hg]
  have h5 : (bytes l)[j]? = some (.int .u8 (l[j].toNat : Int)) := by simp [bytes, u8, hj]
  rw [← h4, List.getElem?_take, if_pos hj] at h5
  simpa using h5
end Go.Proofs.YtigabjibdepoiaaDoor.Tm
namespace Go.Proofs.YtigabjibdepoiaaDoor.Tm
set_option linter.unusedSimpArgs false
set_option linter.unusedVariables false
open Go.RowKit Go
theorem frac_step33 (cm : Bool) (j : Nat) : bytes (markC cm :: List.replicate j 48) ++ [Value.int .u8 48] = bytes (markC cm :: List.replicate (j + 1) 48) := by
  rw [List.replicate_succ', ← List.cons_append, bytes_append]; rfl
set_option maxRecDepth 100000 in
set_option maxHeartbeats 1600000 in
theorem elm_33 (tx : ByteArray) (n : Nat) (cm : Bool) (w : World) (hn : 1 ≤ n ∧ n ≤ 9) : Calls Tryd.prog 53 #[.agg #[.int .i64 33, .string tx, .int .i64 n, .bool cm]] w (TxtTo (elK 33 tx n cm) 1000 w) := by
  obtain ⟨hn1, hn9⟩ := hn
  obtain ⟨v0, w2, hcv, hbuf, hbel⟩ := conv_buf (w.alloc (.cells #[.int .i64 33, .string tx, .int .i64 n, .bool cm] 42)) ⟨#[markC cm]⟩ (by show 1 ≤ _; decide)
  have HB0 := hideP hbuf
  have HE0 := hideP hbel
  have HBX := hideP (heap_alloc_new w (.cells #[.int .i64 33, .string tx, .int .i64 n, .bool cm] 42))
  have HN := hideP hn9
  have hsz1 : w.heap.size < (w.alloc (.cells #[.int .i64 33, .string tx, .int .i64 n, .bool cm] 42)).heap.size := by simp
  have HW1 := hideP (below_alloc w (.cells #[.int .i64 33, .string tx, .int .i64 n, .bool cm] 42))
  clear hbuf hbel
  generalize hW1 : (w.alloc (.cells #[.int .i64 33, .string tx, .int .i64 n, .bool cm] 42)) = W1 at hcv HB0 HE0 HBX HW1 hsz1
  rw [← hW1] at hcv
  have HWE := hideP hW1
  clear hW1
  go_enter Tryd.func53, Tryd.ntmps53
  go_wp2_with (go_at_call 57; refine (markS cm _).mono ?_; rintro e w1 ⟨rfl, rfl⟩)
  go_loopw [4, 5] (fun v i wr => ∃ j : Nat, i = .int .i64 j ∧ j ≤ n ∧ BufM wr W1.heap.size v (bytes (markC cm :: List.replicate j 48)) ∧ Below W1.heap.size W1 wr) (fun _ i _ => n - (intOf i).toNat)
  case atStart => exact ⟨0, rfl, Nat.zero_le _, HB0.out, HE0.out⟩
  case round =>
    obtain ⟨j, rfl, hj, hbm, hbl⟩ := hrel
    have HB := hideP hbm
    have HL := hideP hbl
    have c2 := (hbl.cell (p := ⟨w.heap.size, 2, none⟩) hsz1).trans (cell_of_row _ _ 2 _ _ (0, 0) HBX.out)
    have hbs := hbl.size
    have HBS := hideP hbs
    clear hbm hbl hbs
    by_cases hlt : (j : Int) < n
    · have HJ := hideP (show j + 1 ≤ n by omega)
      go_wp2_with (at_builtin; refine wpList_bufM_append rfl _ _ _ rfl W1.heap.size _ _ rfl (HB.out.alloc _) _ rfl 1 [_] (src_new _ [_] (one_cons rfl one_nil) _ 1) (by have := HJ.out; have := HN.out; rw [bytes_length, List.length_cons, List.length_replicate]; omega) (Nat.le_trans HBS.out (by simp)) ?_; intro v' w3 hv' hb'; rw [frac_step33] at hv'; have HV := hideP hv'; have HB3 := hideP hb'; clear hv' hb')
      go_roundw
      case rel => exact ⟨j + 1, by go_num, HJ.out, HV.out, (HL.out.alloc HBS.out _).trans HB3.out⟩
      case measure => have := HJ.out; simp [intOf]; omega
    · obtain rfl : j = n := by omega
      have hcv2 := run_string_bufM _ _ _ _ HB.out
      go_wp2
      go_ret
      refine ⟨_, rfl, ?_, ?_, HW1.out.trans (HL.out.mono HW1.out.size)⟩
      · have := HN.out; rw [mkB_size, List.length_cons, List.length_replicate]; omega
      · rw [bl_mkB]; cases cm <;> rfl
theorem frac_step34 (cm : Bool) (j : Nat) : bytes (markC cm :: List.replicate j 57) ++ [Value.int .u8 57] = bytes (markC cm :: List.replicate (j + 1) 57) := by
  rw [List.replicate_succ', ← List.cons_append, bytes_append]; rfl
set_option maxRecDepth 100000 in
set_option maxHeartbeats 1600000 in
theorem elm_34 (tx : ByteArray) (n : Nat) (cm : Bool) (w : World) (hn : 1 ≤ n ∧ n ≤ 9) : Calls Tryd.prog 53 #[.agg #[.int .i64 34, .string tx, .int .i64 n, .bool cm]] w (TxtTo (elK 34 tx n cm) 1000 w) := by
  obtain ⟨hn1, hn9⟩ := hn
  obtain ⟨v0, w2, hcv, hbuf, hbel⟩ := conv_buf (w.alloc (.cells #[.int .i64 34, .string tx, .int .i64 n, .bool cm] 42)) ⟨#[markC cm]⟩ (by show 1 ≤ _; decide)
  have HB0 := hideP hbuf
  have HE0 := hideP hbel
  have HBX := hideP (heap_alloc_new w (.cells #[.int .i64 34, .string tx, .int .i64 n, .bool cm] 42))
  have HN := hideP hn9
  have hsz1 : w.heap.size < (w.alloc (.cells #[.int .i64 34, .string tx, .int .i64 n, .bool cm] 42)).heap.size := by simp
  have HW1 := hideP (below_alloc w (.cells #[.int .i64 34, .string tx, .int .i64 n, .bool cm] 42))
  clear hbuf hbel
  generalize hW1 : (w.alloc (.cells #[.int .i64 34, .string tx, .int .i64 n, .bool cm] 42)) = W1 at hcv HB0 HE0 HBX HW1 hsz1
  rw [← hW1] at hcv
  have HWE := hideP hW1
  clear hW1
  go_enter Tryd.func53, Tryd.ntmps53
  go_wp2_with (go_at_call 57; refine (markS cm _).mono ?_; rintro e w1 ⟨rfl, rfl⟩)
  go_loopw [4, 5] (fun v i wr => ∃ j : Nat, i = .int .i64 j ∧ j ≤ n ∧ BufM wr W1.heap.size v (bytes (markC cm :: List.replicate j 57)) ∧ Below W1.heap.size W1 wr) (fun _ i _ => n - (intOf i).toNat)
  case atStart => exact ⟨0, rfl, Nat.zero_le _, HB0.out, HE0.out⟩
  case round =>
    obtain ⟨j, rfl, hj, hbm, hbl⟩ := hrel
    have HB := hideP hbm
    have HL := hideP hbl
    have c2 := (hbl.cell (p := ⟨w.heap.size, 2, none⟩) hsz1).trans (cell_of_row _ _ 2 _ _ (0, 0) HBX.out)
    have hbs := hbl.size
    have HBS := hideP hbs
    clear hbm hbl hbs
    by_cases hlt : (j : Int) < n
    · have HJ := hideP (show j + 1 ≤ n by omega)
      go_wp2_with (at_builtin; refine wpList_bufM_append rfl _ _ _ rfl W1.heap.size _ _ rfl (HB.out.alloc _) _ rfl 1 [_] (src_new _ [_] (one_cons rfl one_nil) _ 1) (by have := HJ.out; have := HN.out; rw [bytes_length, List.length_cons, List.length_replicate]; omega) (Nat.le_trans HBS.out (by simp)) ?_; intro v' w3 hv' hb'; rw [frac_step34] at hv'; have HV := hideP hv'; have HB3 := hideP hb'; clear hv' hb')
      go_roundw
      case rel => exact ⟨j + 1, by go_num, HJ.out, HV.out, (HL.out.alloc HBS.out _).trans HB3.out⟩
      case measure => have := HJ.out; simp [intOf]; omega
    · obtain rfl : j = n := by omega
      have hcv2 := run_string_bufM _ _ _ _ HB.out
      go_wp2
      go_ret
      refine ⟨_, rfl, ?_, ?_, HW1.out.trans (HL.out.mono HW1.out.size)⟩
      · have := HN.out; rw [mkB_size, List.length_cons, List.length_replicate]; omega
      · rw [bl_mkB]; cases cm <;> rfl
theorem element_any (p : Pc) (w : World) (hp : PcOk p) : Calls Tryd.prog 53 #[pcV p] w (TxtTo (elP p) 1000 w) := by
  obtain ⟨k, tx, n, cm⟩ := p
  obtain ⟨h1, h2, h3⟩ := hp
  simp only at h1 h2 h3
  have hk : k = 0 ∨ k = 1 ∨ k = 2 ∨ k = 3 ∨ k = 4 ∨ k = 5 ∨ k = 6 ∨ k = 7 ∨ k = 8 ∨ k = 9 ∨ k = 10 ∨ k = 11 ∨ k = 12 ∨ k = 13 ∨ k = 14 ∨ k = 15 ∨ k = 16 ∨ k = 17 ∨ k = 18 ∨ k = 19 ∨ k = 20 ∨ k = 21 ∨ k = 22 ∨ k = 23 ∨ k = 24 ∨ k = 25 ∨ k = 26 ∨ k = 27 ∨ k = 28 ∨ k = 29 ∨ k = 30 ∨ k = 31 ∨ k = 32 ∨ k = 33 ∨ k = 34 := by omega
  show Calls Tryd.prog 53 #[.agg #[.int .i64 (k : Nat), .string tx, .int .i64 n, .bool cm]] w (TxtTo (elK k tx n cm) 1000 w)
  rcases hk with rfl | rfl | rfl | rfl | rfl | rfl | rfl | rfl | rfl | rfl | rfl | rfl | rfl | rfl | rfl | rfl | rfl | rfl | rfl | rfl | rfl | rfl | rfl | rfl | rfl | rfl | rfl | rfl | rfl | rfl | rfl | rfl | rfl | rfl | rfl
  · exact elm_0 tx n cm w h2
  · exact elm_1 tx n cm w h2
  · exact elm_2 tx n cm w h2
  · exact elm_3 tx n cm w h2
  · exact elm_4 tx n cm w h2
  · exact elm_5 tx n cm w h2
  · exact elm_6 tx n cm w h2
  · exact elm_7 tx n cm w h2
  · exact elm_8 tx n cm w h2
  · exact elm_9 tx n cm w h2
  · exact elm_10 tx n cm w h2
  · exact elm_11 tx n cm w h2
  · exact elm_12 tx n cm w h2
  · exact elm_13 tx n cm w h2
  · exact elm_14 tx n cm w h2
  · exact elm_15 tx n cm w h2
  · exact elm_16 tx n cm w h2
  · exact elm_17 tx n cm w h2
  · exact elm_18 tx n cm w h2
  · exact elm_19 tx n cm w h2
  · exact elm_20 tx n cm w h2
  · exact elm_21 tx n cm w h2
  · exact elm_22 tx n cm w h2
  · exact elm_23 tx n cm w h2
  · exact elm_24 tx n cm w h2
  · exact elm_25 tx n cm w h2
  · exact elm_26 tx n cm w h2
  · exact elm_27 tx n cm w h2
  · exact elm_28 tx n cm w h2
  · exact elm_29 tx n cm w h2
  · exact elm_30 tx n cm w h2
  · exact elm_31 tx n cm w h2
  · exact elm_32 tx n cm w h2
  · exact elm_33 tx n cm w (h3 (.inl rfl))
  · exact elm_34 tx n cm w (h3 (.inr rfl))
end Go.Proofs.YtigabjibdepoiaaDoor.Tm
namespace Go.Proofs.YtigabjibdepoiaaDoor.Tm
set_option linter.unusedSimpArgs false
set_option linter.unusedVariables false
open Go.RowKit Go
theorem lay_take (ps : List Pc) (i : Nat) (p : Pc) (h : ps[i]? = some p) : layL (ps.take (i + 1)) = layL (ps.take i) ++ elP p := by
  obtain ⟨hi, rfl⟩ := List.getElem?_eq_some_iff.1 h
  unfold layL
  rw [List.take_succ_eq_append_getElem hi, List.flatMap_append]
  simp
set_option maxRecDepth 100000 in
set_option maxHeartbeats 1600000 in
theorem Layout_any (ps : List Pc) (g cap : Nat) (w : World) (hps : PcsOk ps) (hg : PcsAt w g ps) : Calls Tryd.prog 25 #[.slice (some ⟨g, 0, none⟩) ps.length cap] w (TxtTo (layL ps) 100000 w) := by
  have HPS := hideP hps
  have HG := hideP hg
  have hl : (ps.length : Int) ≤ 100 := by have := hps.1; omega
  clear hps hg
  go_enter Tryd.func25, Tryd.ntmps25
  go_wp2
  go_loopw [3, 4] (fun o k wr => ∃ (i : Nat) (s : ByteArray), k = .int .i64 i ∧ o = .string s ∧ i ≤ ps.length ∧ bl s = layL (ps.take i) ∧ s.size ≤ i * 1000 ∧ Below w.heap.size w wr) (fun _ k _ => ps.length - (intOf k).toNat)
  case atStart => exact ⟨0, ⟨#[]⟩, rfl, rfl, Nat.zero_le _, rfl, by decide, Below.refl _ _⟩
  case round =>
    obtain ⟨i, s, rfl, rfl, hi, hbl, hsz, hb⟩ := hrel
    have HB := hideP hb
    have HBL := hideP hbl
    have HSZ := hideP hsz
    clear hb hbl hsz
    by_cases hlt : (i : Int) < ps.length
    · obtain ⟨p, hp⟩ : ∃ p, ps[i]? = some p := ⟨_, List.getElem?_eq_getElem (by omega)⟩
      obtain ⟨q0, q1, q2, q3⟩ := (HG.out.kept HB.out) i p hp
      have HP := hideP hp
      have HPOK := hideP (HPS.out.2 p (List.mem_of_getElem? hp))
      have hi0 : (0 : Int) ≤ i := by omega
      have HSB := hideP (show s.size ≤ 100000 by have := HSZ.out; omega)
      have HI := hideP (show i + 1 ≤ ps.length by omega)
      clear hp
      go_wp2_with (go_at_call 53; refine (element_any p _ HPOK.out).mono ?_; rintro e w1 ⟨x, rfl, hs, hbl, hb⟩; have HX := hideP hbl; have HBW := hideP hb; have hsum : ¬ 9223372036854775807 < s.size + x.size := (by have := HSB.out; omega); have HS := hideP hs; clear hs hbl hb)
      go_roundw
      case rel =>
        refine ⟨i + 1, s ++ x, by go_num, rfl, HI.out, by rw [bl_append, HBL.out, HX.out, lay_take ps i p HP.out], ?_, HB.out.trans (HBW.out.mono HB.out.size)⟩
        have := HSZ.out; have := HS.out; rw [ByteArray.size_append]; omega
      case measure => have := HI.out; simp [intOf]; omega
    · have hie : i = ps.length := by omega
      have HE := hideP (show ps.take i = ps by rw [hie, List.take_length])
      clear hie
      go_wp2
      go_ret
      exact ⟨s, rfl, by have := HSZ.out; omega, by rw [HBL.out, HE.out], HB.out⟩
end Go.Proofs.YtigabjibdepoiaaDoor.Tm
namespace Go.Proofs.YtigabjibdepoiaaDoor.Tm
set_option linter.unusedSimpArgs false
set_option linter.unusedVariables false
open Go.RowKit Go
def psFr (n : Nat) (cm : Bool) : List Pc := [⟨20, ⟨#[]⟩, 0, false⟩, ⟨33, ⟨#[]⟩, n, cm⟩]
theorem psFr_ok (n : Nat) (cm : Bool) (h1 : 1 ≤ n) (h2 : n ≤ 9) : PsOk (psFr n cm) := by
  refine ⟨fun p hp => ?_, fun i p q hp hq => ?_⟩
  · simp only [psFr, List.mem_cons, List.not_mem_nil, or_false] at hp
    rcases hp with rfl | rfl
    · exact ⟨by decide, fun h => (by have h2 : (20 : Nat) = 0 := h; omega), fun _ => rfl, fun h => (by have h2 : (20 : Nat) = 33 ∨ (20 : Nat) = 34 := h; omega)⟩
    · exact ⟨by show (33 : Nat) ≤ 34; decide, fun h => (by have h2 : (33 : Nat) = 0 := h; omega), fun _ => rfl, fun _ => ⟨h1, h2⟩⟩
  · match i, hp, hq with
    | 0, hp, hq =>
      obtain rfl := Option.some.inj hp; obtain rfl := Option.some.inj hq
      exact ⟨fun h => (by have h2 : (33 : Nat) = 0 := h; omega), fun _ _ => rfl⟩
    | 1, hp, hq => cases hq
    | i + 2, hp, hq => cases hp
theorem txtFr (t : Tm) (hO : TmOk t) (n : Nat) (cm : Bool) (h1 : 1 ≤ n) (h2 : n ≤ 9) : fmtL t (layL (psFr n cm)) = padL 48 t.s 2 ++ nanoL t.ns n cm false := by
  rw [fmt_pieces t hO _ (psFr_ok n cm h1 h2)]
  show writL t _ ++ (writL t _ ++ []) = _
  rw [List.append_nil]; rfl
theorem digNFr (m : Nat) (wd : Int) (w : World) (h : m ≤ 9999) (hw1 : 0 ≤ wd) (hw2 : wd ≤ 20) : Calls Tryd.prog 29 #[.int .i64 m, .int .i64 wd] w (TxtTo (padL 48 m wd) 20 w) := digitsI m wd w (by omega) (by omega) hw1 hw2
set_option maxRecDepth 100000 in
set_option maxHeartbeats 3200000 in
theorem lawFracNo (n : Int) (cm : Bool) (c : Cv) (w : World) (hn : ¬ (1 ≤ n ∧ n ≤ 9)) : Calls Tryd.prog 6 #[.int .i64 n, .bool cm, civV c] w (TrueTo w) := by
  have HN := hideP hn
  clear hn
  have FT := fits3_any c
  unfold civV at FT ⊢
  go_enter Tryd.func6, Tryd.ntmps6
  go_wp2_with (first
    | (go_at_call 20; refine (FT _).mono ?_; rintro e w1 (⟨rfl, hz, hb⟩ | ⟨rfl, hb⟩) <;> (try (clear hz)) <;> (have HB := hideP hb; clear hb))
    | (go_at_call 28; refine (within_any _ _ _ _).mono ?_; rintro e w2 (⟨rfl, q1, q2, rfl⟩ | ⟨rfl, q1, rfl⟩); exact absurd ⟨q1, q2⟩ HN.out))
  all_goals (go_ret; exact ⟨rfl, (below_alloc w _).trans (HB.out.mono (by simp))⟩)
set_option maxRecDepth 100000 in
set_option maxHeartbeats 6400000 in
theorem lawFracYes (m : Nat) (cm : Bool) (c : Cv) (w : World) (hm1 : 1 ≤ m) (hm2 : m ≤ 9) (hT : TabOk w) : Calls Tryd.prog 6 #[.int .i64 m, .bool cm, civV c] w (TrueTo w) := by
  by_cases hciv : CivP c
  case neg =>
    have HN := hideP hciv
    clear hciv hT
    have FT := fits3_any c; have CO := civilOk_any c
    unfold civV at FT CO ⊢
    go_enter Tryd.func6, Tryd.ntmps6
    go_wp2_with (first
      | (go_at_call 20; refine (FT _).mono ?_; rintro e w1 (⟨rfl, hz, hb⟩ | ⟨rfl, hb⟩) <;> (try (have HZ := hideP hz; clear hz)) <;> (have HB := hideP hb; have HCB := hideP ((cvb_new c w 28).kept hb); obtain ⟨c0, c1, c2, c3, c4, c5, c6, c7, c8⟩ := HCB.out; clear hb))
      | (go_at_call 28; refine (within_any _ _ _ _).mono ?_; rintro e w2 (⟨rfl, q1, q2, rfl⟩ | ⟨rfl, q1, rfl⟩))
      | (go_at_call 22; refine (CO _ (Nat.le_trans HZ.out (by decide))).mono ?_; rintro e w3 (⟨rfl, h, -⟩ | ⟨rfl, hb⟩); exact absurd h HN.out; have HB3 := hideP hb; clear hb))
    all_goals go_ret
    all_goals first
      | exact ⟨rfl, ((below_alloc w _).trans (HB.out.mono (by simp))).trans (HB3.out.mono (Nat.le_trans (by simp) HB.out.size))⟩
      | exact ⟨rfl, (below_alloc w _).trans (HB.out.mono (by simp))⟩
  obtain ⟨t, hO, hcv⟩ := civ_tm hciv
  have FT := fits3_any c; have CO := civilOk_any c
  rw [hcv] at FT CO ⊢
  have HO := hideP hO
  have HT := hideP hT
  have hlay := txtFr t hO m cm hm1 hm2
  have HPK := hideP (show PcsOk (psFr m cm) from ⟨by show 2 ≤ 100; decide, fun p hp => psFine_ok ((psFr_ok m cm hm1 hm2).1 p hp)⟩)
  have HM := hideP (And.intro hm1 hm2)
  have HNS := hideP hO.ns
  have HSC := hideP (show t.s ≤ 9999 by have := hO.clock.2.2; omega)
  obtain ⟨L, hL⟩ : ∃ L, L = mkB (layL (psFr m cm)) := ⟨_, rfl⟩
  have hx : mkB (fmtL t (bl L)) = mkB (padL 48 t.s 2) ++ mkB (nanoL t.ns m cm false) := by rw [hL, bl_mkB, hlay, mkB_append]
  have hsum : ¬ 9223372036854775807 < (mkB (padL 48 t.s 2)).size + (mkB (nanoL t.ns m cm false)).size := by
    have h1 := padL_le (c := 48) (n := t.s) (k := 2) (by have := hO.clock.2.2; omega) (by decide) 2
    have h2 := nano_le t.ns m cm false hO.ns
    rw [mkB_size, mkB_size]; omega
  generalize hA : mkB (padL 48 t.s 2) = A at hx hsum
  generalize hB : mkB (nanoL t.ns m cm false) = B at hx hsum
  have HX := hideP hx; have HA := hideP hA; have HBB := hideP hB; have HL := hideP hL
  clear hx hA hB hL hlay hm1 hm2
  have hXX : ((A ++ B).toList == (A ++ B).toList) = true := beq_self_eq_true _
  clear hO hT hcv hciv
  unfold cvV at FT CO ⊢
  go_enter Tryd.func6, Tryd.ntmps6
  go_wp2_with (first
    | (go_at_call 20; refine (FT _).mono ?_; rintro e w1 (⟨rfl, hz, hb⟩ | ⟨rfl, hb⟩) <;> (try (have HZ := hideP hz; clear hz)) <;> (have HB := hideP hb; have HCB := hideP ((cb_new t w 28).kept hb); obtain ⟨c0, c1, c2, c3, c4, c5, c6, c7, c8⟩ := HCB.out; have HW := hideP ((below_alloc w _).trans (hb.mono (by simp))); clear hb))
    | (go_at_call 28; refine (within_any _ _ _ _).mono ?_; rintro e w2 (⟨rfl, q1, q2, rfl⟩ | ⟨rfl, q1, rfl⟩))
    | (go_at_call 22; refine (CO _ (Nat.le_trans HZ.out (by decide))).mono ?_; rintro e w4 (⟨rfl, -, hb⟩ | ⟨rfl, hb⟩) <;> (have HCB := hideP (HCB.out.kept hb); have HW := hideP (HW.out.trans (hb.mono HW.out.size)); obtain ⟨c0', c1', c2', c3', c4', c5', c6', c7', c8'⟩ := HCB.out; clear hb))
    | fail)
  all_goals first
    | (go_wp2_with (fail); go_ret; exact ⟨rfl, HW.out⟩)
    | skip
  clear c0 c1 c2 c3 c4 c5 c6 c7 c8 c0' c1' c2' c3' c4' c5' c6' c7' c8' FT CO
  go_wp2_with (fail)
  refine (Layout_any (psFr m cm) w4.heap.size 2 _ HPK.out (pcs_of_row (heap_alloc_new _ _))).mono ?_
  rintro e w5 ⟨x, rfl, hs5, hbl, hb⟩
  obtain rfl : x = L := by rw [HL.out]; exact ba_ext (hbl.trans (bl_mkB _).symm)
  have HS5 := hideP (show x.size ≤ 2147483647 by omega)
  have HC := hideP (show Below w4.heap.size w4 w5.drew from ((below_alloc w4 _).trans (hb.mono (by simp))).drew)
  clear hbl hs5 hb
  go_wp2_with (fail)
  obtain ⟨d0, d1, d2, d3, d4, d5, d6, d7, d8⟩ := HCB.out.kept HC.out
  go_region_held3 (fun w' => w'.cell? ⟨w.heap.size, 0, none⟩ = some (.int .i64 t.y) ∧ w'.cell? ⟨w.heap.size, 1, none⟩ = some (.int .i64 t.mo) ∧ w'.cell? ⟨w.heap.size, 2, none⟩ = some (.int .i64 t.d) ∧ w'.cell? ⟨w.heap.size, 3, none⟩ = some (.int .i64 t.h) ∧ w'.cell? ⟨w.heap.size, 4, none⟩ = some (.int .i64 t.mi) ∧ w'.cell? ⟨w.heap.size, 5, none⟩ = some (.int .i64 t.s) ∧ w'.cell? ⟨w.heap.size, 6, none⟩ = some (.int .i64 t.ns) ∧ w'.cell? ⟨w.heap.size, 7, none⟩ = some (.string t.zn) ∧ w'.cell? ⟨w.heap.size, 8, none⟩ = some (.int .i64 t.off)) (go_keep)
    (first
      | (go_at_call 24; refine (fmtImpl_any t x _ HO.out (HT.out.below (HW.out.trans (HC.out.mono HW.out.size))) HS5.out).mono ?_; rintro e w6 ⟨rfl, hb⟩; rw [HX.out]; have HC := hideP (HC.out.trans (hb.mono HC.out.size)); obtain ⟨d0, d1, d2, d3, d4, d5, d6, d7, d8⟩ := HCB.out.kept HC.out; clear hb)
      | (go_at_call 29; refine (digNFr t.s 2 _ HSC.out (by decide) (by decide)).mono ?_; rintro e w7 ⟨y, rfl, -, hbl, hb⟩; have hy := (ba_ext (hbl.trans (bl_mkB _).symm)).trans HA.out; subst hy; have HC := hideP (HC.out.trans (hb.mono HC.out.size)); obtain ⟨d0, d1, d2, d3, d4, d5, d6, d7, d8⟩ := HCB.out.kept HC.out; clear hb)
      | (go_at_call 30; refine (fracS t.ns m cm _ HNS.out HM.out.1 HM.out.2).mono ?_; rintro e w8 ⟨y, rfl, -, hbl, hb⟩; have hy := (ba_ext (hbl.trans (bl_mkB _).symm)).trans HBB.out; subst hy; have HC := hideP (HC.out.trans (hb.mono HC.out.size)); obtain ⟨d0, d1, d2, d3, d4, d5, d6, d7, d8⟩ := HCB.out.kept HC.out; clear hb)
      | (go_at_call 27; refine (writes_any _ (HT.out.below (HW.out.trans (HC.out.mono HW.out.size)))).mono ?_; rintro e w7 ⟨rfl, hb⟩; have HC := hideP (HC.out.trans (hb.mono HC.out.size)); obtain ⟨d0, d1, d2, d3, d4, d5, d6, d7, d8⟩ := HCB.out.kept HC.out; clear hb))
  all_goals (go_wp2; go_ret; exact ⟨by first | rfl | kernel_rfl | simp, HW.out.trans (HC.out.mono HW.out.size)⟩)
theorem lawFrac (n : Int) (cm : Bool) (c : Cv) (w : World) (hT : TabOk w) : Calls Tryd.prog 6 #[.int .i64 n, .bool cm, civV c] w (TrueTo w) := by
  by_cases hn : 1 ≤ n ∧ n ≤ 9
  · obtain ⟨m, rfl⟩ : ∃ m : Nat, n = m := ⟨n.toNat, by omega⟩
    exact lawFracYes m cm c w (by omega) (by omega) hT
  · exact lawFracNo n cm c w hn
end Go.Proofs.YtigabjibdepoiaaDoor.Tm
