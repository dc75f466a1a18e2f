/- The walk of the reference's Plain. A plain text has no element. The walk of the reference's element: what stands for an element in a layout. The plain law of layouts: what Format writes by the layout of pieces that may stand side by side is the pieces' texts. A buffer that began as a string's bytes: its block bears a mark behind its last cell. The walk of the reference's element for fractions and for any piece, and of Layout. The walk of the reference's Layout. The walks of the reference's checks of one piece. The walks of zzFits1 and PiecesOk, on a row of pieces that came in. The walks of Layout, Written and Fits on the row of pieces that came in. The law FnExactFormat: its walk. A row of pieces among the arguments of a row. -/
import Derived.Test.YtigabjibdepoiaaDoorProg
import Derived.Test.YtigabjibdepoiaaDoorBase
import Derived.Test.YtigabjibdepoiaaDoorChunkA
import Derived.Test.YtigabjibdepoiaaDoorLayK
import Derived.Laws.IdiomStrings
import Derived.Test.YtigabjibdepoiaaDoorPad
import Derived.ChangeSlices
import Derived.Deep.Slices
namespace Go.Proofs.YtigabjibdepoiaaDoor.Tm
set_option linter.unusedSimpArgs false
set_option linter.unusedVariables false
open Go.RowKit Go
/-- The bytes of a plain text. -/
def okB (n : Nat) : Prop := (65 ≤ n ∧ n ≤ 73) ∨ n = 84 ∨ n = 87 ∨ n = 88 ∨ (32 ≤ n ∧ n ≤ 43) ∨ n = 45 ∨ n = 47 ∨ (58 ≤ n ∧ n ≤ 64) ∨ (91 ≤ n ∧ n ≤ 94) ∨ (123 ≤ n ∧ n ≤ 126)
def PlainTo (s : ByteArray) (k : Nat) : Prop := k ≤ s.size ∧ ∀ c ∈ (bl s).take k, okB c.toNat
theorem plain_step (s : ByteArray) (k : Nat) (h : PlainTo s k) (hlt : k < s.size) (hc : okB s[k].toNat) : PlainTo s (k + 1) := by
  refine ⟨hlt, ?_⟩
  rw [bl_take s k hlt]
  intro c hcm
  rcases List.mem_append.1 hcm with g | g
  · exact h.2 c g
  · obtain rfl := List.mem_singleton.1 g; exact hc
def PlainPost (s : ByteArray) (w : World) (e : Ending) (w' : World) : Prop := ∃ b, e = .returned (.bool b) ∧ (b = true → s.size ≤ 1000 ∧ ∀ c ∈ bl s, okB c.toNat) ∧ w = w'
set_option maxRecDepth 100000 in
set_option maxHeartbeats 100000000 in
theorem plain_any (s : ByteArray) (w : World) (hs : s.size ≤ 140737488351232) :
    Calls Tryd.prog 16 #[.string s] w (PlainPost s w) := by
  go_enter Tryd.func16, Tryd.ntmps16
  go_wp2
  go_loop [3] (fun i => ∃ k : Nat, i = .int .i64 k ∧ PlainTo s k) (fun i => s.size - (intOf i).toNat)
  case atStart => exact ⟨0, rfl, Nat.zero_le _, by simp⟩
  case round =>
    obtain ⟨k, rfl, hp⟩ := hrel
    have hk := hp.1
    have HP := hideP hp
    clear hp
    by_cases hlt : k < s.size
    · have hbyte := s[k].toNat_lt
      have hsp : ((0 : Int) ≤ s[k].toNat ∧ (s[k].toNat : Int) ≤ 31) ∨ ((32 : Int) ≤ s[k].toNat ∧ (s[k].toNat : Int) ≤ 32) ∨ ((33 : Int) ≤ s[k].toNat ∧ (s[k].toNat : Int) ≤ 43) ∨ ((44 : Int) ≤ s[k].toNat ∧ (s[k].toNat : Int) ≤ 44) ∨ ((45 : Int) ≤ s[k].toNat ∧ (s[k].toNat : Int) ≤ 45) ∨ ((46 : Int) ≤ s[k].toNat ∧ (s[k].toNat : Int) ≤ 46) ∨ ((47 : Int) ≤ s[k].toNat ∧ (s[k].toNat : Int) ≤ 47) ∨ ((48 : Int) ≤ s[k].toNat ∧ (s[k].toNat : Int) ≤ 57) ∨ ((58 : Int) ≤ s[k].toNat ∧ (s[k].toNat : Int) ≤ 64) ∨ ((65 : Int) ≤ s[k].toNat ∧ (s[k].toNat : Int) ≤ 73) ∨ ((74 : Int) ≤ s[k].toNat ∧ (s[k].toNat : Int) ≤ 83) ∨ ((84 : Int) ≤ s[k].toNat ∧ (s[k].toNat : Int) ≤ 84) ∨ ((85 : Int) ≤ s[k].toNat ∧ (s[k].toNat : Int) ≤ 86) ∨ ((87 : Int) ≤ s[k].toNat ∧ (s[k].toNat : Int) ≤ 87) ∨ ((88 : Int) ≤ s[k].toNat ∧ (s[k].toNat : Int) ≤ 88) ∨ ((89 : Int) ≤ s[k].toNat ∧ (s[k].toNat : Int) ≤ 90) ∨ ((91 : Int) ≤ s[k].toNat ∧ (s[k].toNat : Int) ≤ 94) ∨ ((95 : Int) ≤ s[k].toNat ∧ (s[k].toNat : Int) ≤ 122) ∨ ((123 : Int) ≤ s[k].toNat ∧ (s[k].toNat : Int) ≤ 126) ∨ ((127 : Int) ≤ s[k].toNat ∧ (s[k].toNat : Int) ≤ 255) := by omega
      rcases hsp with ⟨b1, b2⟩ | ⟨b1, b2⟩ | ⟨b1, b2⟩ | ⟨b1, b2⟩ | ⟨b1, b2⟩ | ⟨b1, b2⟩ | ⟨b1, b2⟩ | ⟨b1, b2⟩ | ⟨b1, b2⟩ | ⟨b1, b2⟩ | ⟨b1, b2⟩ | ⟨b1, b2⟩ | ⟨b1, b2⟩ | ⟨b1, b2⟩ | ⟨b1, b2⟩ | ⟨b1, b2⟩ | ⟨b1, b2⟩ | ⟨b1, b2⟩ | ⟨b1, b2⟩ | ⟨b1, b2⟩
      · skip
        have f65 : ¬ (65 : Int) ≤ (s[k].toNat : Int) := by omega
        have f33 : ¬ (33 : Int) ≤ (s[k].toNat : Int) := by omega
        have f58 : ¬ (58 : Int) ≤ (s[k].toNat : Int) := by omega
        have f91 : ¬ (91 : Int) ≤ (s[k].toNat : Int) := by omega
        have f123 : ¬ (123 : Int) ≤ (s[k].toNat : Int) := by omega
        have f73 : (s[k].toNat : Int) ≤ 73 := by omega
        have f43 : (s[k].toNat : Int) ≤ 43 := by omega
        have f64 : (s[k].toNat : Int) ≤ 64 := by omega
        have f94 : (s[k].toNat : Int) ≤ 94 := by omega
        have f126 : (s[k].toNat : Int) ≤ 126 := by omega
        have f84 : ((s[k].toNat : Int) == 84) = false := by rw [beq_eq_false_iff_ne]; omega
        have f87 : ((s[k].toNat : Int) == 87) = false := by rw [beq_eq_false_iff_ne]; omega
        have f88 : ((s[k].toNat : Int) == 88) = false := by rw [beq_eq_false_iff_ne]; omega
        have f32 : ((s[k].toNat : Int) == 32) = false := by rw [beq_eq_false_iff_ne]; omega
        have f45 : ((s[k].toNat : Int) == 45) = false := by rw [beq_eq_false_iff_ne]; omega
        have f47 : ((s[k].toNat : Int) == 47) = false := by rw [beq_eq_false_iff_ne]; omega
        clear b1 b2 hbyte
        go_wp2
        all_goals (go_ret; exact ⟨false, rfl, fun h => (by cases h), rfl⟩)
      · have HOK := hideP (show okB s[k].toNat by unfold okB; omega)
        have f65 : ¬ (65 : Int) ≤ (s[k].toNat : Int) := by omega
        have f33 : ¬ (33 : Int) ≤ (s[k].toNat : Int) := by omega
        have f58 : ¬ (58 : Int) ≤ (s[k].toNat : Int) := by omega
        have f91 : ¬ (91 : Int) ≤ (s[k].toNat : Int) := by omega
        have f123 : ¬ (123 : Int) ≤ (s[k].toNat : Int) := by omega
        have f73 : (s[k].toNat : Int) ≤ 73 := by omega
        have f43 : (s[k].toNat : Int) ≤ 43 := by omega
        have f64 : (s[k].toNat : Int) ≤ 64 := by omega
        have f94 : (s[k].toNat : Int) ≤ 94 := by omega
        have f126 : (s[k].toNat : Int) ≤ 126 := by omega
        have f84 : ((s[k].toNat : Int) == 84) = false := by rw [beq_eq_false_iff_ne]; omega
        have f87 : ((s[k].toNat : Int) == 87) = false := by rw [beq_eq_false_iff_ne]; omega
        have f88 : ((s[k].toNat : Int) == 88) = false := by rw [beq_eq_false_iff_ne]; omega
        have f32 : ((s[k].toNat : Int) == 32) = true := by rw [beq_iff_eq]; omega
        have f45 : ((s[k].toNat : Int) == 45) = false := by rw [beq_eq_false_iff_ne]; omega
        have f47 : ((s[k].toNat : Int) == 47) = false := by rw [beq_eq_false_iff_ne]; omega
        clear b1 b2 hbyte
        go_wp2
        go_round
        case rel => exact ⟨k + 1, by go_num, plain_step s k HP.out hlt HOK.out⟩
        case measure => simp [intOf]; omega
      · have HOK := hideP (show okB s[k].toNat by unfold okB; omega)
        have f65 : ¬ (65 : Int) ≤ (s[k].toNat : Int) := by omega
        have f33 : (33 : Int) ≤ (s[k].toNat : Int) := by omega
        have f58 : ¬ (58 : Int) ≤ (s[k].toNat : Int) := by omega
        have f91 : ¬ (91 : Int) ≤ (s[k].toNat : Int) := by omega
        have f123 : ¬ (123 : Int) ≤ (s[k].toNat : Int) := by omega
        have f73 : (s[k].toNat : Int) ≤ 73 := by omega
        have f43 : (s[k].toNat : Int) ≤ 43 := by omega
        have f64 : (s[k].toNat : Int) ≤ 64 := by omega
        have f94 : (s[k].toNat : Int) ≤ 94 := by omega
        have f126 : (s[k].toNat : Int) ≤ 126 := by omega
        have f84 : ((s[k].toNat : Int) == 84) = false := by rw [beq_eq_false_iff_ne]; omega
        have f87 : ((s[k].toNat : Int) == 87) = false := by rw [beq_eq_false_iff_ne]; omega
        have f88 : ((s[k].toNat : Int) == 88) = false := by rw [beq_eq_false_iff_ne]; omega
        have f32 : ((s[k].toNat : Int) == 32) = false := by rw [beq_eq_false_iff_ne]; omega
        have f45 : ((s[k].toNat : Int) == 45) = false := by rw [beq_eq_false_iff_ne]; omega
        have f47 : ((s[k].toNat : Int) == 47) = false := by rw [beq_eq_false_iff_ne]; omega
        clear b1 b2 hbyte
        go_wp2
        go_round
        case rel => exact ⟨k + 1, by go_num, plain_step s k HP.out hlt HOK.out⟩
        case measure => simp [intOf]; omega
      · skip
        have f65 : ¬ (65 : Int) ≤ (s[k].toNat : Int) := by omega
        have f33 : (33 : Int) ≤ (s[k].toNat : Int) := by omega
        have f58 : ¬ (58 : Int) ≤ (s[k].toNat : Int) := by omega
        have f91 : ¬ (91 : Int) ≤ (s[k].toNat : Int) := by omega
        have f123 : ¬ (123 : Int) ≤ (s[k].toNat : Int) := by omega
        have f73 : (s[k].toNat : Int) ≤ 73 := by omega
        have f43 : ¬ (s[k].toNat : Int) ≤ 43 := by omega
        have f64 : (s[k].toNat : Int) ≤ 64 := by omega
        have f94 : (s[k].toNat : Int) ≤ 94 := by omega
        have f126 : (s[k].toNat : Int) ≤ 126 := by omega
        have f84 : ((s[k].toNat : Int) == 84) = false := by rw [beq_eq_false_iff_ne]; omega
        have f87 : ((s[k].toNat : Int) == 87) = false := by rw [beq_eq_false_iff_ne]; omega
        have f88 : ((s[k].toNat : Int) == 88) = false := by rw [beq_eq_false_iff_ne]; omega
        have f32 : ((s[k].toNat : Int) == 32) = false := by rw [beq_eq_false_iff_ne]; omega
        have f45 : ((s[k].toNat : Int) == 45) = false := by rw [beq_eq_false_iff_ne]; omega
        have f47 : ((s[k].toNat : Int) == 47) = false := by rw [beq_eq_false_iff_ne]; omega
        clear b1 b2 hbyte
        go_wp2
        all_goals (go_ret; exact ⟨false, rfl, fun h => (by cases h), rfl⟩)
      · have HOK := hideP (show okB s[k].toNat by unfold okB; omega)
        have f65 : ¬ (65 : Int) ≤ (s[k].toNat : Int) := by omega
        have f33 : (33 : Int) ≤ (s[k].toNat : Int) := by omega
        have f58 : ¬ (58 : Int) ≤ (s[k].toNat : Int) := by omega
        have f91 : ¬ (91 : Int) ≤ (s[k].toNat : Int) := by omega
        have f123 : ¬ (123 : Int) ≤ (s[k].toNat : Int) := by omega
        have f73 : (s[k].toNat : Int) ≤ 73 := by omega
        have f43 : ¬ (s[k].toNat : Int) ≤ 43 := by omega
        have f64 : (s[k].toNat : Int) ≤ 64 := by omega
        have f94 : (s[k].toNat : Int) ≤ 94 := by omega
        have f126 : (s[k].toNat : Int) ≤ 126 := by omega
        have f84 : ((s[k].toNat : Int) == 84) = false := by rw [beq_eq_false_iff_ne]; omega
        have f87 : ((s[k].toNat : Int) == 87) = false := by rw [beq_eq_false_iff_ne]; omega
        have f88 : ((s[k].toNat : Int) == 88) = false := by rw [beq_eq_false_iff_ne]; omega
        have f32 : ((s[k].toNat : Int) == 32) = false := by rw [beq_eq_false_iff_ne]; omega
        have f45 : ((s[k].toNat : Int) == 45) = true := by rw [beq_iff_eq]; omega
        have f47 : ((s[k].toNat : Int) == 47) = false := by rw [beq_eq_false_iff_ne]; omega
        clear b1 b2 hbyte
        go_wp2
        go_round
        case rel => exact ⟨k + 1, by go_num, plain_step s k HP.out hlt HOK.out⟩
        case measure => simp [intOf]; omega
      · skip
        have f65 : ¬ (65 : Int) ≤ (s[k].toNat : Int) := by omega
        have f33 : (33 : Int) ≤ (s[k].toNat : Int) := by omega
        have f58 : ¬ (58 : Int) ≤ (s[k].toNat : Int) := by omega
        have f91 : ¬ (91 : Int) ≤ (s[k].toNat : Int) := by omega
        have f123 : ¬ (123 : Int) ≤ (s[k].toNat : Int) := by omega
        have f73 : (s[k].toNat : Int) ≤ 73 := by omega
        have f43 : ¬ (s[k].toNat : Int) ≤ 43 := by omega
        have f64 : (s[k].toNat : Int) ≤ 64 := by omega
        have f94 : (s[k].toNat : Int) ≤ 94 := by omega
        have f126 : (s[k].toNat : Int) ≤ 126 := by omega
        have f84 : ((s[k].toNat : Int) == 84) = false := by rw [beq_eq_false_iff_ne]; omega
        have f87 : ((s[k].toNat : Int) == 87) = false := by rw [beq_eq_false_iff_ne]; omega
        have f88 : ((s[k].toNat : Int) == 88) = false := by rw [beq_eq_false_iff_ne]; omega
        have f32 : ((s[k].toNat : Int) == 32) = false := by rw [beq_eq_false_iff_ne]; omega
        have f45 : ((s[k].toNat : Int) == 45) = false := by rw [beq_eq_false_iff_ne]; omega
        have f47 : ((s[k].toNat : Int) == 47) = false := by rw [beq_eq_false_iff_ne]; omega
        clear b1 b2 hbyte
        go_wp2
        all_goals (go_ret; exact ⟨false, rfl, fun h => (by cases h), rfl⟩)
      · have HOK := hideP (show okB s[k].toNat by unfold okB; omega)
        have f65 : ¬ (65 : Int) ≤ (s[k].toNat : Int) := by omega
        have f33 : (33 : Int) ≤ (s[k].toNat : Int) := by omega
        have f58 : ¬ (58 : Int) ≤ (s[k].toNat : Int) := by omega
        have f91 : ¬ (91 : Int) ≤ (s[k].toNat : Int) := by omega
        have f123 : ¬ (123 : Int) ≤ (s[k].toNat : Int) := by omega
        have f73 : (s[k].toNat : Int) ≤ 73 := by omega
        have f43 : ¬ (s[k].toNat : Int) ≤ 43 := by omega
        have f64 : (s[k].toNat : Int) ≤ 64 := by omega
        have f94 : (s[k].toNat : Int) ≤ 94 := by omega
        have f126 : (s[k].toNat : Int) ≤ 126 := by omega
        have f84 : ((s[k].toNat : Int) == 84) = false := by rw [beq_eq_false_iff_ne]; omega
        have f87 : ((s[k].toNat : Int) == 87) = false := by rw [beq_eq_false_iff_ne]; omega
        have f88 : ((s[k].toNat : Int) == 88) = false := by rw [beq_eq_false_iff_ne]; omega
        have f32 : ((s[k].toNat : Int) == 32) = false := by rw [beq_eq_false_iff_ne]; omega
        have f45 : ((s[k].toNat : Int) == 45) = false := by rw [beq_eq_false_iff_ne]; omega
        have f47 : ((s[k].toNat : Int) == 47) = true := by rw [beq_iff_eq]; omega
        clear b1 b2 hbyte
        go_wp2
        go_round
        case rel => exact ⟨k + 1, by go_num, plain_step s k HP.out hlt HOK.out⟩
        case measure => simp [intOf]; omega
      · skip
        have f65 : ¬ (65 : Int) ≤ (s[k].toNat : Int) := by omega
        have f33 : (33 : Int) ≤ (s[k].toNat : Int) := by omega
        have f58 : ¬ (58 : Int) ≤ (s[k].toNat : Int) := by omega
        have f91 : ¬ (91 : Int) ≤ (s[k].toNat : Int) := by omega
        have f123 : ¬ (123 : Int) ≤ (s[k].toNat : Int) := by omega
        have f73 : (s[k].toNat : Int) ≤ 73 := by omega
        have f43 : ¬ (s[k].toNat : Int) ≤ 43 := by omega
        have f64 : (s[k].toNat : Int) ≤ 64 := by omega
        have f94 : (s[k].toNat : Int) ≤ 94 := by omega
        have f126 : (s[k].toNat : Int) ≤ 126 := by omega
        have f84 : ((s[k].toNat : Int) == 84) = false := by rw [beq_eq_false_iff_ne]; omega
        have f87 : ((s[k].toNat : Int) == 87) = false := by rw [beq_eq_false_iff_ne]; omega
        have f88 : ((s[k].toNat : Int) == 88) = false := by rw [beq_eq_false_iff_ne]; omega
        have f32 : ((s[k].toNat : Int) == 32) = false := by rw [beq_eq_false_iff_ne]; omega
        have f45 : ((s[k].toNat : Int) == 45) = false := by rw [beq_eq_false_iff_ne]; omega
        have f47 : ((s[k].toNat : Int) == 47) = false := by rw [beq_eq_false_iff_ne]; omega
        clear b1 b2 hbyte
        go_wp2
        all_goals (go_ret; exact ⟨false, rfl, fun h => (by cases h), rfl⟩)
      · have HOK := hideP (show okB s[k].toNat by unfold okB; omega)
        have f65 : ¬ (65 : Int) ≤ (s[k].toNat : Int) := by omega
        have f33 : (33 : Int) ≤ (s[k].toNat : Int) := by omega
        have f58 : (58 : Int) ≤ (s[k].toNat : Int) := by omega
        have f91 : ¬ (91 : Int) ≤ (s[k].toNat : Int) := by omega
        have f123 : ¬ (123 : Int) ≤ (s[k].toNat : Int) := by omega
        have f73 : (s[k].toNat : Int) ≤ 73 := by omega
        have f43 : ¬ (s[k].toNat : Int) ≤ 43 := by omega
        have f64 : (s[k].toNat : Int) ≤ 64 := by omega
        have f94 : (s[k].toNat : Int) ≤ 94 := by omega
        have f126 : (s[k].toNat : Int) ≤ 126 := by omega
        have f84 : ((s[k].toNat : Int) == 84) = false := by rw [beq_eq_false_iff_ne]; omega
        have f87 : ((s[k].toNat : Int) == 87) = false := by rw [beq_eq_false_iff_ne]; omega
        have f88 : ((s[k].toNat : Int) == 88) = false := by rw [beq_eq_false_iff_ne]; omega
        have f32 : ((s[k].toNat : Int) == 32) = false := by rw [beq_eq_false_iff_ne]; omega
        have f45 : ((s[k].toNat : Int) == 45) = false := by rw [beq_eq_false_iff_ne]; omega
        have f47 : ((s[k].toNat : Int) == 47) = false := by rw [beq_eq_false_iff_ne]; omega
        clear b1 b2 hbyte
        go_wp2
        go_round
        case rel => exact ⟨k + 1, by go_num, plain_step s k HP.out hlt HOK.out⟩
        case measure => simp [intOf]; omega
      · have HOK := hideP (show okB s[k].toNat by unfold okB; omega)
        by_cases hk0 : k = 0
        · subst hk0
          have z : (((0 : Nat) : Int) == 0) = true := rfl
          have f65 : (65 : Int) ≤ (s[0].toNat : Int) := by omega
          have f33 : (33 : Int) ≤ (s[0].toNat : Int) := by omega
          have f58 : (58 : Int) ≤ (s[0].toNat : Int) := by omega
          have f91 : ¬ (91 : Int) ≤ (s[0].toNat : Int) := by omega
          have f123 : ¬ (123 : Int) ≤ (s[0].toNat : Int) := by omega
          have f73 : (s[0].toNat : Int) ≤ 73 := by omega
          have f43 : ¬ (s[0].toNat : Int) ≤ 43 := by omega
          have f64 : ¬ (s[0].toNat : Int) ≤ 64 := by omega
          have f94 : (s[0].toNat : Int) ≤ 94 := by omega
          have f126 : (s[0].toNat : Int) ≤ 126 := by omega
          have f84 : ((s[0].toNat : Int) == 84) = false := by rw [beq_eq_false_iff_ne]; omega
          have f87 : ((s[0].toNat : Int) == 87) = false := by rw [beq_eq_false_iff_ne]; omega
          have f88 : ((s[0].toNat : Int) == 88) = false := by rw [beq_eq_false_iff_ne]; omega
          have f32 : ((s[0].toNat : Int) == 32) = false := by rw [beq_eq_false_iff_ne]; omega
          have f45 : ((s[0].toNat : Int) == 45) = false := by rw [beq_eq_false_iff_ne]; omega
          have f47 : ((s[0].toNat : Int) == 47) = false := by rw [beq_eq_false_iff_ne]; omega
          clear b1 b2 hbyte
          go_wp2
          all_goals (go_ret; exact ⟨false, rfl, fun h => (by cases h), rfl⟩)
        · have z : ((k : Int) == 0) = false := by rw [beq_eq_false_iff_ne]; omega
          have f65 : (65 : Int) ≤ (s[k].toNat : Int) := by omega
          have f33 : (33 : Int) ≤ (s[k].toNat : Int) := by omega
          have f58 : (58 : Int) ≤ (s[k].toNat : Int) := by omega
          have f91 : ¬ (91 : Int) ≤ (s[k].toNat : Int) := by omega
          have f123 : ¬ (123 : Int) ≤ (s[k].toNat : Int) := by omega
          have f73 : (s[k].toNat : Int) ≤ 73 := by omega
          have f43 : ¬ (s[k].toNat : Int) ≤ 43 := by omega
          have f64 : ¬ (s[k].toNat : Int) ≤ 64 := by omega
          have f94 : (s[k].toNat : Int) ≤ 94 := by omega
          have f126 : (s[k].toNat : Int) ≤ 126 := by omega
          have f84 : ((s[k].toNat : Int) == 84) = false := by rw [beq_eq_false_iff_ne]; omega
          have f87 : ((s[k].toNat : Int) == 87) = false := by rw [beq_eq_false_iff_ne]; omega
          have f88 : ((s[k].toNat : Int) == 88) = false := by rw [beq_eq_false_iff_ne]; omega
          have f32 : ((s[k].toNat : Int) == 32) = false := by rw [beq_eq_false_iff_ne]; omega
          have f45 : ((s[k].toNat : Int) == 45) = false := by rw [beq_eq_false_iff_ne]; omega
          have f47 : ((s[k].toNat : Int) == 47) = false := by rw [beq_eq_false_iff_ne]; omega
          clear b1 b2 hbyte
          go_wp2
          go_round
          case rel => exact ⟨k + 1, by go_num, plain_step s k HP.out hlt HOK.out⟩
          case measure => simp [intOf]; omega
      · skip
        have f65 : (65 : Int) ≤ (s[k].toNat : Int) := by omega
        have f33 : (33 : Int) ≤ (s[k].toNat : Int) := by omega
        have f58 : (58 : Int) ≤ (s[k].toNat : Int) := by omega
        have f91 : ¬ (91 : Int) ≤ (s[k].toNat : Int) := by omega
        have f123 : ¬ (123 : Int) ≤ (s[k].toNat : Int) := by omega
        have f73 : ¬ (s[k].toNat : Int) ≤ 73 := by omega
        have f43 : ¬ (s[k].toNat : Int) ≤ 43 := by omega
        have f64 : ¬ (s[k].toNat : Int) ≤ 64 := by omega
        have f94 : (s[k].toNat : Int) ≤ 94 := by omega
        have f126 : (s[k].toNat : Int) ≤ 126 := by omega
        have f84 : ((s[k].toNat : Int) == 84) = false := by rw [beq_eq_false_iff_ne]; omega
        have f87 : ((s[k].toNat : Int) == 87) = false := by rw [beq_eq_false_iff_ne]; omega
        have f88 : ((s[k].toNat : Int) == 88) = false := by rw [beq_eq_false_iff_ne]; omega
        have f32 : ((s[k].toNat : Int) == 32) = false := by rw [beq_eq_false_iff_ne]; omega
        have f45 : ((s[k].toNat : Int) == 45) = false := by rw [beq_eq_false_iff_ne]; omega
        have f47 : ((s[k].toNat : Int) == 47) = false := by rw [beq_eq_false_iff_ne]; omega
        clear b1 b2 hbyte
        go_wp2
        all_goals (go_ret; exact ⟨false, rfl, fun h => (by cases h), rfl⟩)
      · have HOK := hideP (show okB s[k].toNat by unfold okB; omega)
        by_cases hk0 : k = 0
        · subst hk0
          have z : (((0 : Nat) : Int) == 0) = true := rfl
          have f65 : (65 : Int) ≤ (s[0].toNat : Int) := by omega
          have f33 : (33 : Int) ≤ (s[0].toNat : Int) := by omega
          have f58 : (58 : Int) ≤ (s[0].toNat : Int) := by omega
          have f91 : ¬ (91 : Int) ≤ (s[0].toNat : Int) := by omega
          have f123 : ¬ (123 : Int) ≤ (s[0].toNat : Int) := by omega
          have f73 : ¬ (s[0].toNat : Int) ≤ 73 := by omega
          have f43 : ¬ (s[0].toNat : Int) ≤ 43 := by omega
          have f64 : ¬ (s[0].toNat : Int) ≤ 64 := by omega
          have f94 : (s[0].toNat : Int) ≤ 94 := by omega
          have f126 : (s[0].toNat : Int) ≤ 126 := by omega
          have f84 : ((s[0].toNat : Int) == 84) = true := by rw [beq_iff_eq]; omega
          have f87 : ((s[0].toNat : Int) == 87) = false := by rw [beq_eq_false_iff_ne]; omega
          have f88 : ((s[0].toNat : Int) == 88) = false := by rw [beq_eq_false_iff_ne]; omega
          have f32 : ((s[0].toNat : Int) == 32) = false := by rw [beq_eq_false_iff_ne]; omega
          have f45 : ((s[0].toNat : Int) == 45) = false := by rw [beq_eq_false_iff_ne]; omega
          have f47 : ((s[0].toNat : Int) == 47) = false := by rw [beq_eq_false_iff_ne]; omega
          clear b1 b2 hbyte
          go_wp2
          all_goals (go_ret; exact ⟨false, rfl, fun h => (by cases h), rfl⟩)
        · have z : ((k : Int) == 0) = false := by rw [beq_eq_false_iff_ne]; omega
          have f65 : (65 : Int) ≤ (s[k].toNat : Int) := by omega
          have f33 : (33 : Int) ≤ (s[k].toNat : Int) := by omega
          have f58 : (58 : Int) ≤ (s[k].toNat : Int) := by omega
          have f91 : ¬ (91 : Int) ≤ (s[k].toNat : Int) := by omega
          have f123 : ¬ (123 : Int) ≤ (s[k].toNat : Int) := by omega
          have f73 : ¬ (s[k].toNat : Int) ≤ 73 := by omega
          have f43 : ¬ (s[k].toNat : Int) ≤ 43 := by omega
          have f64 : ¬ (s[k].toNat : Int) ≤ 64 := by omega
          have f94 : (s[k].toNat : Int) ≤ 94 := by omega
          have f126 : (s[k].toNat : Int) ≤ 126 := by omega
          have f84 : ((s[k].toNat : Int) == 84) = true := by rw [beq_iff_eq]; omega
          have f87 : ((s[k].toNat : Int) == 87) = false := by rw [beq_eq_false_iff_ne]; omega
          have f88 : ((s[k].toNat : Int) == 88) = false := by rw [beq_eq_false_iff_ne]; omega
          have f32 : ((s[k].toNat : Int) == 32) = false := by rw [beq_eq_false_iff_ne]; omega
          have f45 : ((s[k].toNat : Int) == 45) = false := by rw [beq_eq_false_iff_ne]; omega
          have f47 : ((s[k].toNat : Int) == 47) = false := by rw [beq_eq_false_iff_ne]; omega
          clear b1 b2 hbyte
          go_wp2
          go_round
          case rel => exact ⟨k + 1, by go_num, plain_step s k HP.out hlt HOK.out⟩
          case measure => simp [intOf]; omega
      · skip
        have f65 : (65 : Int) ≤ (s[k].toNat : Int) := by omega
        have f33 : (33 : Int) ≤ (s[k].toNat : Int) := by omega
        have f58 : (58 : Int) ≤ (s[k].toNat : Int) := by omega
        have f91 : ¬ (91 : Int) ≤ (s[k].toNat : Int) := by omega
        have f123 : ¬ (123 : Int) ≤ (s[k].toNat : Int) := by omega
        have f73 : ¬ (s[k].toNat : Int) ≤ 73 := by omega
        have f43 : ¬ (s[k].toNat : Int) ≤ 43 := by omega
        have f64 : ¬ (s[k].toNat : Int) ≤ 64 := by omega
        have f94 : (s[k].toNat : Int) ≤ 94 := by omega
        have f126 : (s[k].toNat : Int) ≤ 126 := by omega
        have f84 : ((s[k].toNat : Int) == 84) = false := by rw [beq_eq_false_iff_ne]; omega
        have f87 : ((s[k].toNat : Int) == 87) = false := by rw [beq_eq_false_iff_ne]; omega
        have f88 : ((s[k].toNat : Int) == 88) = false := by rw [beq_eq_false_iff_ne]; omega
        have f32 : ((s[k].toNat : Int) == 32) = false := by rw [beq_eq_false_iff_ne]; omega
        have f45 : ((s[k].toNat : Int) == 45) = false := by rw [beq_eq_false_iff_ne]; omega
        have f47 : ((s[k].toNat : Int) == 47) = false := by rw [beq_eq_false_iff_ne]; omega
        clear b1 b2 hbyte
        go_wp2
        all_goals (go_ret; exact ⟨false, rfl, fun h => (by cases h), rfl⟩)
      · have HOK := hideP (show okB s[k].toNat by unfold okB; omega)
        by_cases hk0 : k = 0
        · subst hk0
          have z : (((0 : Nat) : Int) == 0) = true := rfl
          have f65 : (65 : Int) ≤ (s[0].toNat : Int) := by omega
          have f33 : (33 : Int) ≤ (s[0].toNat : Int) := by omega
          have f58 : (58 : Int) ≤ (s[0].toNat : Int) := by omega
          have f91 : ¬ (91 : Int) ≤ (s[0].toNat : Int) := by omega
          have f123 : ¬ (123 : Int) ≤ (s[0].toNat : Int) := by omega
          have f73 : ¬ (s[0].toNat : Int) ≤ 73 := by omega
          have f43 : ¬ (s[0].toNat : Int) ≤ 43 := by omega
          have f64 : ¬ (s[0].toNat : Int) ≤ 64 := by omega
          have f94 : (s[0].toNat : Int) ≤ 94 := by omega
          have f126 : (s[0].toNat : Int) ≤ 126 := by omega
          have f84 : ((s[0].toNat : Int) == 84) = false := by rw [beq_eq_false_iff_ne]; omega
          have f87 : ((s[0].toNat : Int) == 87) = true := by rw [beq_iff_eq]; omega
          have f88 : ((s[0].toNat : Int) == 88) = false := by rw [beq_eq_false_iff_ne]; omega
          have f32 : ((s[0].toNat : Int) == 32) = false := by rw [beq_eq_false_iff_ne]; omega
          have f45 : ((s[0].toNat : Int) == 45) = false := by rw [beq_eq_false_iff_ne]; omega
          have f47 : ((s[0].toNat : Int) == 47) = false := by rw [beq_eq_false_iff_ne]; omega
          clear b1 b2 hbyte
          go_wp2
          all_goals (go_ret; exact ⟨false, rfl, fun h => (by cases h), rfl⟩)
        · have z : ((k : Int) == 0) = false := by rw [beq_eq_false_iff_ne]; omega
          have f65 : (65 : Int) ≤ (s[k].toNat : Int) := by omega
          have f33 : (33 : Int) ≤ (s[k].toNat : Int) := by omega
          have f58 : (58 : Int) ≤ (s[k].toNat : Int) := by omega
          have f91 : ¬ (91 : Int) ≤ (s[k].toNat : Int) := by omega
          have f123 : ¬ (123 : Int) ≤ (s[k].toNat : Int) := by omega
          have f73 : ¬ (s[k].toNat : Int) ≤ 73 := by omega
          have f43 : ¬ (s[k].toNat : Int) ≤ 43 := by omega
          have f64 : ¬ (s[k].toNat : Int) ≤ 64 := by omega
          have f94 : (s[k].toNat : Int) ≤ 94 := by omega
          have f126 : (s[k].toNat : Int) ≤ 126 := by omega
          have f84 : ((s[k].toNat : Int) == 84) = false := by rw [beq_eq_false_iff_ne]; omega
          have f87 : ((s[k].toNat : Int) == 87) = true := by rw [beq_iff_eq]; omega
          have f88 : ((s[k].toNat : Int) == 88) = false := by rw [beq_eq_false_iff_ne]; omega
          have f32 : ((s[k].toNat : Int) == 32) = false := by rw [beq_eq_false_iff_ne]; omega
          have f45 : ((s[k].toNat : Int) == 45) = false := by rw [beq_eq_false_iff_ne]; omega
          have f47 : ((s[k].toNat : Int) == 47) = false := by rw [beq_eq_false_iff_ne]; omega
          clear b1 b2 hbyte
          go_wp2
          go_round
          case rel => exact ⟨k + 1, by go_num, plain_step s k HP.out hlt HOK.out⟩
          case measure => simp [intOf]; omega
      · have HOK := hideP (show okB s[k].toNat by unfold okB; omega)
        by_cases hk0 : k = 0
        · subst hk0
          have z : (((0 : Nat) : Int) == 0) = true := rfl
          have f65 : (65 : Int) ≤ (s[0].toNat : Int) := by omega
          have f33 : (33 : Int) ≤ (s[0].toNat : Int) := by omega
          have f58 : (58 : Int) ≤ (s[0].toNat : Int) := by omega
          have f91 : ¬ (91 : Int) ≤ (s[0].toNat : Int) := by omega
          have f123 : ¬ (123 : Int) ≤ (s[0].toNat : Int) := by omega
          have f73 : ¬ (s[0].toNat : Int) ≤ 73 := by omega
          have f43 : ¬ (s[0].toNat : Int) ≤ 43 := by omega
          have f64 : ¬ (s[0].toNat : Int) ≤ 64 := by omega
          have f94 : (s[0].toNat : Int) ≤ 94 := by omega
          have f126 : (s[0].toNat : Int) ≤ 126 := by omega
          have f84 : ((s[0].toNat : Int) == 84) = false := by rw [beq_eq_false_iff_ne]; omega
          have f87 : ((s[0].toNat : Int) == 87) = false := by rw [beq_eq_false_iff_ne]; omega
          have f88 : ((s[0].toNat : Int) == 88) = true := by rw [beq_iff_eq]; omega
          have f32 : ((s[0].toNat : Int) == 32) = false := by rw [beq_eq_false_iff_ne]; omega
          have f45 : ((s[0].toNat : Int) == 45) = false := by rw [beq_eq_false_iff_ne]; omega
          have f47 : ((s[0].toNat : Int) == 47) = false := by rw [beq_eq_false_iff_ne]; omega
          clear b1 b2 hbyte
          go_wp2
          all_goals (go_ret; exact ⟨false, rfl, fun h => (by cases h), rfl⟩)
        · have z : ((k : Int) == 0) = false := by rw [beq_eq_false_iff_ne]; omega
          have f65 : (65 : Int) ≤ (s[k].toNat : Int) := by omega
          have f33 : (33 : Int) ≤ (s[k].toNat : Int) := by omega
          have f58 : (58 : Int) ≤ (s[k].toNat : Int) := by omega
          have f91 : ¬ (91 : Int) ≤ (s[k].toNat : Int) := by omega
          have f123 : ¬ (123 : Int) ≤ (s[k].toNat : Int) := by omega
          have f73 : ¬ (s[k].toNat : Int) ≤ 73 := by omega
          have f43 : ¬ (s[k].toNat : Int) ≤ 43 := by omega
          have f64 : ¬ (s[k].toNat : Int) ≤ 64 := by omega
          have f94 : (s[k].toNat : Int) ≤ 94 := by omega
          have f126 : (s[k].toNat : Int) ≤ 126 := by omega
          have f84 : ((s[k].toNat : Int) == 84) = false := by rw [beq_eq_false_iff_ne]; omega
          have f87 : ((s[k].toNat : Int) == 87) = false := by rw [beq_eq_false_iff_ne]; omega
          have f88 : ((s[k].toNat : Int) == 88) = true := by rw [beq_iff_eq]; omega
          have f32 : ((s[k].toNat : Int) == 32) = false := by rw [beq_eq_false_iff_ne]; omega
          have f45 : ((s[k].toNat : Int) == 45) = false := by rw [beq_eq_false_iff_ne]; omega
          have f47 : ((s[k].toNat : Int) == 47) = false := by rw [beq_eq_false_iff_ne]; omega
          clear b1 b2 hbyte
          go_wp2
          go_round
          case rel => exact ⟨k + 1, by go_num, plain_step s k HP.out hlt HOK.out⟩
          case measure => simp [intOf]; omega
      · skip
        have f65 : (65 : Int) ≤ (s[k].toNat : Int) := by omega
        have f33 : (33 : Int) ≤ (s[k].toNat : Int) := by omega
        have f58 : (58 : Int) ≤ (s[k].toNat : Int) := by omega
        have f91 : ¬ (91 : Int) ≤ (s[k].toNat : Int) := by omega
        have f123 : ¬ (123 : Int) ≤ (s[k].toNat : Int) := by omega
        have f73 : ¬ (s[k].toNat : Int) ≤ 73 := by omega
        have f43 : ¬ (s[k].toNat : Int) ≤ 43 := by omega
        have f64 : ¬ (s[k].toNat : Int) ≤ 64 := by omega
        have f94 : (s[k].toNat : Int) ≤ 94 := by omega
        have f126 : (s[k].toNat : Int) ≤ 126 := by omega
        have f84 : ((s[k].toNat : Int) == 84) = false := by rw [beq_eq_false_iff_ne]; omega
        have f87 : ((s[k].toNat : Int) == 87) = false := by rw [beq_eq_false_iff_ne]; omega
        have f88 : ((s[k].toNat : Int) == 88) = false := by rw [beq_eq_false_iff_ne]; omega
        have f32 : ((s[k].toNat : Int) == 32) = false := by rw [beq_eq_false_iff_ne]; omega
        have f45 : ((s[k].toNat : Int) == 45) = false := by rw [beq_eq_false_iff_ne]; omega
        have f47 : ((s[k].toNat : Int) == 47) = false := by rw [beq_eq_false_iff_ne]; omega
        clear b1 b2 hbyte
        go_wp2
        all_goals (go_ret; exact ⟨false, rfl, fun h => (by cases h), rfl⟩)
      · have HOK := hideP (show okB s[k].toNat by unfold okB; omega)
        have f65 : (65 : Int) ≤ (s[k].toNat : Int) := by omega
        have f33 : (33 : Int) ≤ (s[k].toNat : Int) := by omega
        have f58 : (58 : Int) ≤ (s[k].toNat : Int) := by omega
        have f91 : (91 : Int) ≤ (s[k].toNat : Int) := by omega
        have f123 : ¬ (123 : Int) ≤ (s[k].toNat : Int) := by omega
        have f73 : ¬ (s[k].toNat : Int) ≤ 73 := by omega
        have f43 : ¬ (s[k].toNat : Int) ≤ 43 := by omega
        have f64 : ¬ (s[k].toNat : Int) ≤ 64 := by omega
        have f94 : (s[k].toNat : Int) ≤ 94 := by omega
        have f126 : (s[k].toNat : Int) ≤ 126 := by omega
        have f84 : ((s[k].toNat : Int) == 84) = false := by rw [beq_eq_false_iff_ne]; omega
        have f87 : ((s[k].toNat : Int) == 87) = false := by rw [beq_eq_false_iff_ne]; omega
        have f88 : ((s[k].toNat : Int) == 88) = false := by rw [beq_eq_false_iff_ne]; omega
        have f32 : ((s[k].toNat : Int) == 32) = false := by rw [beq_eq_false_iff_ne]; omega
        have f45 : ((s[k].toNat : Int) == 45) = false := by rw [beq_eq_false_iff_ne]; omega
        have f47 : ((s[k].toNat : Int) == 47) = false := by rw [beq_eq_false_iff_ne]; omega
        clear b1 b2 hbyte
        go_wp2
        go_round
        case rel => exact ⟨k + 1, by go_num, plain_step s k HP.out hlt HOK.out⟩
        case measure => simp [intOf]; omega
      · skip
        have f65 : (65 : Int) ≤ (s[k].toNat : Int) := by omega
        have f33 : (33 : Int) ≤ (s[k].toNat : Int) := by omega
        have f58 : (58 : Int) ≤ (s[k].toNat : Int) := by omega
        have f91 : (91 : Int) ≤ (s[k].toNat : Int) := by omega
        have f123 : ¬ (123 : Int) ≤ (s[k].toNat : Int) := by omega
        have f73 : ¬ (s[k].toNat : Int) ≤ 73 := by omega
        have f43 : ¬ (s[k].toNat : Int) ≤ 43 := by omega
        have f64 : ¬ (s[k].toNat : Int) ≤ 64 := by omega
        have f94 : ¬ (s[k].toNat : Int) ≤ 94 := by omega
        have f126 : (s[k].toNat : Int) ≤ 126 := by omega
        have f84 : ((s[k].toNat : Int) == 84) = false := by rw [beq_eq_false_iff_ne]; omega
        have f87 : ((s[k].toNat : Int) == 87) = false := by rw [beq_eq_false_iff_ne]; omega
        have f88 : ((s[k].toNat : Int) == 88) = false := by rw [beq_eq_false_iff_ne]; omega
        have f32 : ((s[k].toNat : Int) == 32) = false := by rw [beq_eq_false_iff_ne]; omega
        have f45 : ((s[k].toNat : Int) == 45) = false := by rw [beq_eq_false_iff_ne]; omega
        have f47 : ((s[k].toNat : Int) == 47) = false := by rw [beq_eq_false_iff_ne]; omega
        clear b1 b2 hbyte
        go_wp2
        all_goals (go_ret; exact ⟨false, rfl, fun h => (by cases h), rfl⟩)
      · have HOK := hideP (show okB s[k].toNat by unfold okB; omega)
        have f65 : (65 : Int) ≤ (s[k].toNat : Int) := by omega
        have f33 : (33 : Int) ≤ (s[k].toNat : Int) := by omega
        have f58 : (58 : Int) ≤ (s[k].toNat : Int) := by omega
        have f91 : (91 : Int) ≤ (s[k].toNat : Int) := by omega
        have f123 : (123 : Int) ≤ (s[k].toNat : Int) := by omega
        have f73 : ¬ (s[k].toNat : Int) ≤ 73 := by omega
        have f43 : ¬ (s[k].toNat : Int) ≤ 43 := by omega
        have f64 : ¬ (s[k].toNat : Int) ≤ 64 := by omega
        have f94 : ¬ (s[k].toNat : Int) ≤ 94 := by omega
        have f126 : (s[k].toNat : Int) ≤ 126 := by omega
        have f84 : ((s[k].toNat : Int) == 84) = false := by rw [beq_eq_false_iff_ne]; omega
        have f87 : ((s[k].toNat : Int) == 87) = false := by rw [beq_eq_false_iff_ne]; omega
        have f88 : ((s[k].toNat : Int) == 88) = false := by rw [beq_eq_false_iff_ne]; omega
        have f32 : ((s[k].toNat : Int) == 32) = false := by rw [beq_eq_false_iff_ne]; omega
        have f45 : ((s[k].toNat : Int) == 45) = false := by rw [beq_eq_false_iff_ne]; omega
        have f47 : ((s[k].toNat : Int) == 47) = false := by rw [beq_eq_false_iff_ne]; omega
        clear b1 b2 hbyte
        go_wp2
        go_round
        case rel => exact ⟨k + 1, by go_num, plain_step s k HP.out hlt HOK.out⟩
        case measure => simp [intOf]; omega
      · skip
        have f65 : (65 : Int) ≤ (s[k].toNat : Int) := by omega
        have f33 : (33 : Int) ≤ (s[k].toNat : Int) := by omega
        have f58 : (58 : Int) ≤ (s[k].toNat : Int) := by omega
        have f91 : (91 : Int) ≤ (s[k].toNat : Int) := by omega
        have f123 : (123 : Int) ≤ (s[k].toNat : Int) := by omega
        have f73 : ¬ (s[k].toNat : Int) ≤ 73 := by omega
        have f43 : ¬ (s[k].toNat : Int) ≤ 43 := by omega
        have f64 : ¬ (s[k].toNat : Int) ≤ 64 := by omega
        have f94 : ¬ (s[k].toNat : Int) ≤ 94 := by omega
        have f126 : ¬ (s[k].toNat : Int) ≤ 126 := by omega
        have f84 : ((s[k].toNat : Int) == 84) = false := by rw [beq_eq_false_iff_ne]; omega
        have f87 : ((s[k].toNat : Int) == 87) = false := by rw [beq_eq_false_iff_ne]; omega
        have f88 : ((s[k].toNat : Int) == 88) = false := by rw [beq_eq_false_iff_ne]; omega
        have f32 : ((s[k].toNat : Int) == 32) = false := by rw [beq_eq_false_iff_ne]; omega
        have f45 : ((s[k].toNat : Int) == 45) = false := by rw [beq_eq_false_iff_ne]; omega
        have f47 : ((s[k].toNat : Int) == 47) = false := by rw [beq_eq_false_iff_ne]; omega
        clear b1 b2 hbyte
        go_wp2
        all_goals (go_ret; exact ⟨false, rfl, fun h => (by cases h), rfl⟩)
    · have HA := hideP (show ∀ c ∈ bl s, okB c.toNat by
        have := HP.out.2
        rwa [List.take_of_length_le (by rw [bl_length]; omega)] at this)
      go_wp2
      go_ret
      refine ⟨_, rfl, fun h => ⟨?_, HA.out⟩, rfl⟩
      have h2 : decide ((s.size : Int) ≤ 1000) = true := h
      have h3 := of_decide_eq_true h2
      omega
end Go.Proofs.YtigabjibdepoiaaDoor.Tm
namespace Go.Proofs.YtigabjibdepoiaaDoor.Tm
set_option linter.unusedSimpArgs false
set_option linter.unusedVariables false
open Go.RowKit Go
def No07 (R : List UInt8) : Prop := ¬ (R[0]? = some 48 ∧ R[1]? = some 55)
theorem take_beq_get {l t : List UInt8} {n j : Nat} {c : UInt8} (h : (l.take n == t) = true) (hc : t[j]? = some c) : l[j]? = some c := by
  have e := eq_of_beq h
  rw [← e, List.getElem?_take] at hc
  split at hc
  · exact hc
  · cases hc
theorem ne_take {l t : List UInt8} {n j : Nat} {d : UInt8} (h : l[j]? ≠ some d) (ht : t[j]? = some d) : ¬ (l.take n == t) = true := fun e => h (take_beq_get e ht)
theorem zone_none (c : UInt8) (l : List UInt8) (a b d e f : Nat) (h : ¬ (l[1]? = some 48 ∧ l[2]? = some 55)) : stdZone c l a b d e f = none := by
  have k : ∀ (n : Nat) (t : List UInt8), t[1]? = some 48 → t[2]? = some 55 → ¬ (l.take n == t) = true := by
    intro n t h1 h2 hb
    exact h ⟨take_beq_get hb h1, take_beq_get hb h2⟩
  unfold stdZone
  rw [if_neg (k 7 _ rfl rfl), if_neg (k 9 _ rfl rfl), if_neg (k 5 _ rfl rfl), if_neg (k 6 _ rfl rfl), if_neg (k 3 _ rfl rfl)]
theorem plain_none (c : UInt8) (r : List UInt8) (h : okB c.toNat) (h7 : No07 r) : stdL (c :: r) = none := by
  show stdN c.toNat (c :: r) = none
  unfold okB at h
  unfold stdN
  by_cases h45 : c.toNat = 45
  · rw [if_neg (by omega), if_neg (by omega), if_neg (by omega), if_neg (by omega), if_neg (by omega), if_neg (by omega), if_neg (by omega), if_neg (by omega), if_neg (by omega), if_neg (by omega), if_neg (by omega), if_pos h45]
    exact zone_none 45 _ _ _ _ _ _ h7
  · rw [if_neg (by omega), if_neg (by omega), if_neg (by omega), if_neg (by omega), if_neg (by omega), if_neg (by omega), if_neg (by omega), if_neg (by omega), if_neg (by omega), if_neg (by omega), if_neg (by omega), if_neg h45, if_neg (by omega), if_neg (by omega), if_neg (by omega)]
theorem okB_48 {c : UInt8} (h : okB c.toNat) : c ≠ 48 := by
  rintro rfl
  revert h
  unfold okB
  decide
theorem no07_ok {c : UInt8} {r : List UInt8} (h : okB c.toNat) : No07 (c :: r) := by
  rintro ⟨e, _⟩
  exact okB_48 h (Option.some.inj e)
end Go.Proofs.YtigabjibdepoiaaDoor.Tm
namespace Go.Proofs.YtigabjibdepoiaaDoor.Tm
set_option linter.unusedSimpArgs false
set_option linter.unusedVariables false
open Go.RowKit Go
/-- The text of an element in a layout. -/
def elK (k : Nat) (tx : ByteArray) (n : Nat) (cm : Bool) : List UInt8 := match k with
  | 0 => bl tx
  | 1 => [50, 48, 48, 54]
  | 2 => [48, 54]
  | 3 => [74, 97, 110, 117, 97, 114, 121]
  | 4 => [74, 97, 110]
  | 5 => [48, 49]
  | 6 => [49]
  | 7 => [77, 111, 110, 100, 97, 121]
  | 8 => [77, 111, 110]
  | 9 => [50]
  | 10 => [95, 50]
  | 11 => [48, 50]
  | 12 => [95, 95, 50]
  | 13 => [48, 48, 50]
  | 14 => [49, 53]
  | 15 => [51]
  | 16 => [48, 51]
  | 17 => [52]
  | 18 => [48, 52]
  | 19 => [53]
  | 20 => [48, 53]
  | 21 => [80, 77]
  | 22 => [45, 48, 55, 48, 48]
  | 23 => [45, 48, 55, 58, 48, 48]
  | 24 => [45, 48, 55]
  | 25 => [45, 48, 55, 48, 48, 48, 48]
  | 26 => [45, 48, 55, 58, 48, 48, 58, 48, 48]
  | 27 => [90, 48, 55, 48, 48]
  | 28 => [90, 48, 55, 58, 48, 48]
  | 29 => [90, 48, 55]
  | 30 => [90, 48, 55, 48, 48, 48, 48]
  | 31 => [90, 48, 55, 58, 48, 48, 58, 48, 48]
  | 32 => [77, 83, 84]
  | 33 => (if cm then 44 else 46) :: List.replicate n 48
  | 34 => (if cm then 44 else 46) :: List.replicate n 57
  | _ => []
def elP (p : Pc) : List UInt8 := elK p.k p.tx p.n p.cm
set_option maxRecDepth 100000 in
set_option maxHeartbeats 800000 in
theorem elm_0 (tx : ByteArray) (n : Nat) (cm : Bool) (w : World) (htx : tx.size ≤ 1000) : Calls Tryd.prog 53 #[.agg #[.int .i64 0, .string tx, .int .i64 n, .bool cm]] w (TxtTo (elK 0 tx n cm) 1000 w) := by
  have HX := hideP htx
  clear htx
  go_enter Tryd.func53, Tryd.ntmps53
  go_wp2_with (fail)
  go_ret
  exact ⟨_, rfl, HX.out, rfl, below_alloc w _⟩
set_option maxRecDepth 100000 in
set_option maxHeartbeats 800000 in
theorem elm_1 (tx : ByteArray) (n : Nat) (cm : Bool) (w : World) (htx : tx.size ≤ 1000) : Calls Tryd.prog 53 #[.agg #[.int .i64 1, .string tx, .int .i64 n, .bool cm]] w (TxtTo (elK 1 tx n cm) 1000 w) := by
  have HX := hideP htx
  clear htx
  go_enter Tryd.func53, Tryd.ntmps53
  go_wp2_with (fail)
  go_ret
  exact ⟨_, rfl, by decide, rfl, below_alloc w _⟩
set_option maxRecDepth 100000 in
set_option maxHeartbeats 800000 in
theorem elm_2 (tx : ByteArray) (n : Nat) (cm : Bool) (w : World) (htx : tx.size ≤ 1000) : Calls Tryd.prog 53 #[.agg #[.int .i64 2, .string tx, .int .i64 n, .bool cm]] w (TxtTo (elK 2 tx n cm) 1000 w) := by
  have HX := hideP htx
  clear htx
  go_enter Tryd.func53, Tryd.ntmps53
  go_wp2_with (fail)
  go_ret
  exact ⟨_, rfl, by decide, rfl, below_alloc w _⟩
set_option maxRecDepth 100000 in
set_option maxHeartbeats 800000 in
theorem elm_3 (tx : ByteArray) (n : Nat) (cm : Bool) (w : World) (htx : tx.size ≤ 1000) : Calls Tryd.prog 53 #[.agg #[.int .i64 3, .string tx, .int .i64 n, .bool cm]] w (TxtTo (elK 3 tx n cm) 1000 w) := by
  have HX := hideP htx
  clear htx
  go_enter Tryd.func53, Tryd.ntmps53
  go_wp2_with (fail)
  go_ret
  exact ⟨_, rfl, by decide, rfl, below_alloc w _⟩
set_option maxRecDepth 100000 in
set_option maxHeartbeats 800000 in
theorem elm_4 (tx : ByteArray) (n : Nat) (cm : Bool) (w : World) (htx : tx.size ≤ 1000) : Calls Tryd.prog 53 #[.agg #[.int .i64 4, .string tx, .int .i64 n, .bool cm]] w (TxtTo (elK 4 tx n cm) 1000 w) := by
  have HX := hideP htx
  clear htx
  go_enter Tryd.func53, Tryd.ntmps53
  go_wp2_with (fail)
  go_ret
  exact ⟨_, rfl, by decide, rfl, below_alloc w _⟩
set_option maxRecDepth 100000 in
set_option maxHeartbeats 800000 in
theorem elm_5 (tx : ByteArray) (n : Nat) (cm : Bool) (w : World) (htx : tx.size ≤ 1000) : Calls Tryd.prog 53 #[.agg #[.int .i64 5, .string tx, .int .i64 n, .bool cm]] w (TxtTo (elK 5 tx n cm) 1000 w) := by
  have HX := hideP htx
  clear htx
  go_enter Tryd.func53, Tryd.ntmps53
  go_wp2_with (fail)
  go_ret
  exact ⟨_, rfl, by decide, rfl, below_alloc w _⟩
set_option maxRecDepth 100000 in
set_option maxHeartbeats 800000 in
theorem elm_6 (tx : ByteArray) (n : Nat) (cm : Bool) (w : World) (htx : tx.size ≤ 1000) : Calls Tryd.prog 53 #[.agg #[.int .i64 6, .string tx, .int .i64 n, .bool cm]] w (TxtTo (elK 6 tx n cm) 1000 w) := by
  have HX := hideP htx
  clear htx
  go_enter Tryd.func53, Tryd.ntmps53
  go_wp2_with (fail)
  go_ret
  exact ⟨_, rfl, by decide, rfl, below_alloc w _⟩
set_option maxRecDepth 100000 in
set_option maxHeartbeats 800000 in
theorem elm_7 (tx : ByteArray) (n : Nat) (cm : Bool) (w : World) (htx : tx.size ≤ 1000) : Calls Tryd.prog 53 #[.agg #[.int .i64 7, .string tx, .int .i64 n, .bool cm]] w (TxtTo (elK 7 tx n cm) 1000 w) := by
  have HX := hideP htx
  clear htx
  go_enter Tryd.func53, Tryd.ntmps53
  go_wp2_with (fail)
  go_ret
  exact ⟨_, rfl, by decide, rfl, below_alloc w _⟩
set_option maxRecDepth 100000 in
set_option maxHeartbeats 800000 in
theorem elm_8 (tx : ByteArray) (n : Nat) (cm : Bool) (w : World) (htx : tx.size ≤ 1000) : Calls Tryd.prog 53 #[.agg #[.int .i64 8, .string tx, .int .i64 n, .bool cm]] w (TxtTo (elK 8 tx n cm) 1000 w) := by
  have HX := hideP htx
  clear htx
  go_enter Tryd.func53, Tryd.ntmps53
  go_wp2_with (fail)
  go_ret
  exact ⟨_, rfl, by decide, rfl, below_alloc w _⟩
set_option maxRecDepth 100000 in
set_option maxHeartbeats 800000 in
theorem elm_9 (tx : ByteArray) (n : Nat) (cm : Bool) (w : World) (htx : tx.size ≤ 1000) : Calls Tryd.prog 53 #[.agg #[.int .i64 9, .string tx, .int .i64 n, .bool cm]] w (TxtTo (elK 9 tx n cm) 1000 w) := by
  have HX := hideP htx
  clear htx
  go_enter Tryd.func53, Tryd.ntmps53
  go_wp2_with (fail)
  go_ret
  exact ⟨_, rfl, by decide, rfl, below_alloc w _⟩
set_option maxRecDepth 100000 in
set_option maxHeartbeats 800000 in
theorem elm_10 (tx : ByteArray) (n : Nat) (cm : Bool) (w : World) (htx : tx.size ≤ 1000) : Calls Tryd.prog 53 #[.agg #[.int .i64 10, .string tx, .int .i64 n, .bool cm]] w (TxtTo (elK 10 tx n cm) 1000 w) := by
  have HX := hideP htx
  clear htx
  go_enter Tryd.func53, Tryd.ntmps53
  go_wp2_with (fail)
  go_ret
  exact ⟨_, rfl, by decide, rfl, below_alloc w _⟩
set_option maxRecDepth 100000 in
set_option maxHeartbeats 800000 in
theorem elm_11 (tx : ByteArray) (n : Nat) (cm : Bool) (w : World) (htx : tx.size ≤ 1000) : Calls Tryd.prog 53 #[.agg #[.int .i64 11, .string tx, .int .i64 n, .bool cm]] w (TxtTo (elK 11 tx n cm) 1000 w) := by
  have HX := hideP htx
  clear htx
  go_enter Tryd.func53, Tryd.ntmps53
  go_wp2_with (fail)
  go_ret
  exact ⟨_, rfl, by decide, rfl, below_alloc w _⟩
set_option maxRecDepth 100000 in
set_option maxHeartbeats 800000 in
theorem elm_12 (tx : ByteArray) (n : Nat) (cm : Bool) (w : World) (htx : tx.size ≤ 1000) : Calls Tryd.prog 53 #[.agg #[.int .i64 12, .string tx, .int .i64 n, .bool cm]] w (TxtTo (elK 12 tx n cm) 1000 w) := by
  have HX := hideP htx
  clear htx
  go_enter Tryd.func53, Tryd.ntmps53
  go_wp2_with (fail)
  go_ret
  exact ⟨_, rfl, by decide, rfl, below_alloc w _⟩
set_option maxRecDepth 100000 in
set_option maxHeartbeats 800000 in
theorem elm_13 (tx : ByteArray) (n : Nat) (cm : Bool) (w : World) (htx : tx.size ≤ 1000) : Calls Tryd.prog 53 #[.agg #[.int .i64 13, .string tx, .int .i64 n, .bool cm]] w (TxtTo (elK 13 tx n cm) 1000 w) := by
  have HX := hideP htx
  clear htx
  go_enter Tryd.func53, Tryd.ntmps53
  go_wp2_with (fail)
  go_ret
  exact ⟨_, rfl, by decide, rfl, below_alloc w _⟩
set_option maxRecDepth 100000 in
set_option maxHeartbeats 800000 in
theorem elm_14 (tx : ByteArray) (n : Nat) (cm : Bool) (w : World) (htx : tx.size ≤ 1000) : Calls Tryd.prog 53 #[.agg #[.int .i64 14, .string tx, .int .i64 n, .bool cm]] w (TxtTo (elK 14 tx n cm) 1000 w) := by
  have HX := hideP htx
  clear htx
  go_enter Tryd.func53, Tryd.ntmps53
  go_wp2_with (fail)
  go_ret
  exact ⟨_, rfl, by decide, rfl, below_alloc w _⟩
set_option maxRecDepth 100000 in
set_option maxHeartbeats 800000 in
theorem elm_15 (tx : ByteArray) (n : Nat) (cm : Bool) (w : World) (htx : tx.size ≤ 1000) : Calls Tryd.prog 53 #[.agg #[.int .i64 15, .string tx, .int .i64 n, .bool cm]] w (TxtTo (elK 15 tx n cm) 1000 w) := by
  have HX := hideP htx
  clear htx
  go_enter Tryd.func53, Tryd.ntmps53
  go_wp2_with (fail)
  go_ret
  exact ⟨_, rfl, by decide, rfl, below_alloc w _⟩
set_option maxRecDepth 100000 in
set_option maxHeartbeats 800000 in
theorem elm_16 (tx : ByteArray) (n : Nat) (cm : Bool) (w : World) (htx : tx.size ≤ 1000) : Calls Tryd.prog 53 #[.agg #[.int .i64 16, .string tx, .int .i64 n, .bool cm]] w (TxtTo (elK 16 tx n cm) 1000 w) := by
  have HX := hideP htx
  clear htx
  go_enter Tryd.func53, Tryd.ntmps53
  go_wp2_with (fail)
  go_ret
  exact ⟨_, rfl, by decide, rfl, below_alloc w _⟩
set_option maxRecDepth 100000 in
set_option maxHeartbeats 800000 in
theorem elm_17 (tx : ByteArray) (n : Nat) (cm : Bool) (w : World) (htx : tx.size ≤ 1000) : Calls Tryd.prog 53 #[.agg #[.int .i64 17, .string tx, .int .i64 n, .bool cm]] w (TxtTo (elK 17 tx n cm) 1000 w) := by
  have HX := hideP htx
  clear htx
  go_enter Tryd.func53, Tryd.ntmps53
  go_wp2_with (fail)
  go_ret
  exact ⟨_, rfl, by decide, rfl, below_alloc w _⟩
set_option maxRecDepth 100000 in
set_option maxHeartbeats 800000 in
theorem elm_18 (tx : ByteArray) (n : Nat) (cm : Bool) (w : World) (htx : tx.size ≤ 1000) : Calls Tryd.prog 53 #[.agg #[.int .i64 18, .string tx, .int .i64 n, .bool cm]] w (TxtTo (elK 18 tx n cm) 1000 w) := by
  have HX := hideP htx
  clear htx
  go_enter Tryd.func53, Tryd.ntmps53
  go_wp2_with (fail)
  go_ret
  exact ⟨_, rfl, by decide, rfl, below_alloc w _⟩
set_option maxRecDepth 100000 in
set_option maxHeartbeats 800000 in
theorem elm_19 (tx : ByteArray) (n : Nat) (cm : Bool) (w : World) (htx : tx.size ≤ 1000) : Calls Tryd.prog 53 #[.agg #[.int .i64 19, .string tx, .int .i64 n, .bool cm]] w (TxtTo (elK 19 tx n cm) 1000 w) := by
  have HX := hideP htx
  clear htx
  go_enter Tryd.func53, Tryd.ntmps53
  go_wp2_with (fail)
  go_ret
  exact ⟨_, rfl, by decide, rfl, below_alloc w _⟩
set_option maxRecDepth 100000 in
set_option maxHeartbeats 800000 in
theorem elm_20 (tx : ByteArray) (n : Nat) (cm : Bool) (w : World) (htx : tx.size ≤ 1000) : Calls Tryd.prog 53 #[.agg #[.int .i64 20, .string tx, .int .i64 n, .bool cm]] w (TxtTo (elK 20 tx n cm) 1000 w) := by
  have HX := hideP htx
  clear htx
  go_enter Tryd.func53, Tryd.ntmps53
  go_wp2_with (fail)
  go_ret
  exact ⟨_, rfl, by decide, rfl, below_alloc w _⟩
set_option maxRecDepth 100000 in
set_option maxHeartbeats 800000 in
theorem elm_21 (tx : ByteArray) (n : Nat) (cm : Bool) (w : World) (htx : tx.size ≤ 1000) : Calls Tryd.prog 53 #[.agg #[.int .i64 21, .string tx, .int .i64 n, .bool cm]] w (TxtTo (elK 21 tx n cm) 1000 w) := by
  have HX := hideP htx
  clear htx
  go_enter Tryd.func53, Tryd.ntmps53
  go_wp2_with (fail)
  go_ret
  exact ⟨_, rfl, by decide, rfl, below_alloc w _⟩
set_option maxRecDepth 100000 in
set_option maxHeartbeats 800000 in
theorem elm_22 (tx : ByteArray) (n : Nat) (cm : Bool) (w : World) (htx : tx.size ≤ 1000) : Calls Tryd.prog 53 #[.agg #[.int .i64 22, .string tx, .int .i64 n, .bool cm]] w (TxtTo (elK 22 tx n cm) 1000 w) := by
  have HX := hideP htx
  clear htx
  go_enter Tryd.func53, Tryd.ntmps53
  go_wp2_with (fail)
  go_ret
  exact ⟨_, rfl, by decide, rfl, below_alloc w _⟩
set_option maxRecDepth 100000 in
set_option maxHeartbeats 800000 in
theorem elm_23 (tx : ByteArray) (n : Nat) (cm : Bool) (w : World) (htx : tx.size ≤ 1000) : Calls Tryd.prog 53 #[.agg #[.int .i64 23, .string tx, .int .i64 n, .bool cm]] w (TxtTo (elK 23 tx n cm) 1000 w) := by
  have HX := hideP htx
  clear htx
  go_enter Tryd.func53, Tryd.ntmps53
  go_wp2_with (fail)
  go_ret
  exact ⟨_, rfl, by decide, rfl, below_alloc w _⟩
set_option maxRecDepth 100000 in
set_option maxHeartbeats 800000 in
theorem elm_24 (tx : ByteArray) (n : Nat) (cm : Bool) (w : World) (htx : tx.size ≤ 1000) : Calls Tryd.prog 53 #[.agg #[.int .i64 24, .string tx, .int .i64 n, .bool cm]] w (TxtTo (elK 24 tx n cm) 1000 w) := by
  have HX := hideP htx
  clear htx
  go_enter Tryd.func53, Tryd.ntmps53
  go_wp2_with (fail)
  go_ret
  exact ⟨_, rfl, by decide, rfl, below_alloc w _⟩
set_option maxRecDepth 100000 in
set_option maxHeartbeats 800000 in
theorem elm_25 (tx : ByteArray) (n : Nat) (cm : Bool) (w : World) (htx : tx.size ≤ 1000) : Calls Tryd.prog 53 #[.agg #[.int .i64 25, .string tx, .int .i64 n, .bool cm]] w (TxtTo (elK 25 tx n cm) 1000 w) := by
  have HX := hideP htx
  clear htx
  go_enter Tryd.func53, Tryd.ntmps53
  go_wp2_with (fail)
  go_ret
  exact ⟨_, rfl, by decide, rfl, below_alloc w _⟩
set_option maxRecDepth 100000 in
set_option maxHeartbeats 800000 in
theorem elm_26 (tx : ByteArray) (n : Nat) (cm : Bool) (w : World) (htx : tx.size ≤ 1000) : Calls Tryd.prog 53 #[.agg #[.int .i64 26, .string tx, .int .i64 n, .bool cm]] w (TxtTo (elK 26 tx n cm) 1000 w) := by
  have HX := hideP htx
  clear htx
  go_enter Tryd.func53, Tryd.ntmps53
  go_wp2_with (fail)
  go_ret
  exact ⟨_, rfl, by decide, rfl, below_alloc w _⟩
set_option maxRecDepth 100000 in
set_option maxHeartbeats 800000 in
theorem elm_27 (tx : ByteArray) (n : Nat) (cm : Bool) (w : World) (htx : tx.size ≤ 1000) : Calls Tryd.prog 53 #[.agg #[.int .i64 27, .string tx, .int .i64 n, .bool cm]] w (TxtTo (elK 27 tx n cm) 1000 w) := by
  have HX := hideP htx
  clear htx
  go_enter Tryd.func53, Tryd.ntmps53
  go_wp2_with (fail)
  go_ret
  exact ⟨_, rfl, by decide, rfl, below_alloc w _⟩
set_option maxRecDepth 100000 in
set_option maxHeartbeats 800000 in
theorem elm_28 (tx : ByteArray) (n : Nat) (cm : Bool) (w : World) (htx : tx.size ≤ 1000) : Calls Tryd.prog 53 #[.agg #[.int .i64 28, .string tx, .int .i64 n, .bool cm]] w (TxtTo (elK 28 tx n cm) 1000 w) := by
  have HX := hideP htx
  clear htx
  go_enter Tryd.func53, Tryd.ntmps53
  go_wp2_with (fail)
  go_ret
  exact ⟨_, rfl, by decide, rfl, below_alloc w _⟩
set_option maxRecDepth 100000 in
set_option maxHeartbeats 800000 in
theorem elm_29 (tx : ByteArray) (n : Nat) (cm : Bool) (w : World) (htx : tx.size ≤ 1000) : Calls Tryd.prog 53 #[.agg #[.int .i64 29, .string tx, .int .i64 n, .bool cm]] w (TxtTo (elK 29 tx n cm) 1000 w) := by
  have HX := hideP htx
  clear htx
  go_enter Tryd.func53, Tryd.ntmps53
  go_wp2_with (fail)
  go_ret
  exact ⟨_, rfl, by decide, rfl, below_alloc w _⟩
set_option maxRecDepth 100000 in
set_option maxHeartbeats 800000 in
theorem elm_30 (tx : ByteArray) (n : Nat) (cm : Bool) (w : World) (htx : tx.size ≤ 1000) : Calls Tryd.prog 53 #[.agg #[.int .i64 30, .string tx, .int .i64 n, .bool cm]] w (TxtTo (elK 30 tx n cm) 1000 w) := by
  have HX := hideP htx
  clear htx
  go_enter Tryd.func53, Tryd.ntmps53
  go_wp2_with (fail)
  go_ret
  exact ⟨_, rfl, by decide, rfl, below_alloc w _⟩
set_option maxRecDepth 100000 in
set_option maxHeartbeats 800000 in
theorem elm_31 (tx : ByteArray) (n : Nat) (cm : Bool) (w : World) (htx : tx.size ≤ 1000) : Calls Tryd.prog 53 #[.agg #[.int .i64 31, .string tx, .int .i64 n, .bool cm]] w (TxtTo (elK 31 tx n cm) 1000 w) := by
  have HX := hideP htx
  clear htx
  go_enter Tryd.func53, Tryd.ntmps53
  go_wp2_with (fail)
  go_ret
  exact ⟨_, rfl, by decide, rfl, below_alloc w _⟩
set_option maxRecDepth 100000 in
set_option maxHeartbeats 800000 in
theorem elm_32 (tx : ByteArray) (n : Nat) (cm : Bool) (w : World) (htx : tx.size ≤ 1000) : Calls Tryd.prog 53 #[.agg #[.int .i64 32, .string tx, .int .i64 n, .bool cm]] w (TxtTo (elK 32 tx n cm) 1000 w) := by
  have HX := hideP htx
  clear htx
  go_enter Tryd.func53, Tryd.ntmps53
  go_wp2_with (fail)
  go_ret
  exact ⟨_, rfl, by decide, rfl, below_alloc w _⟩
end Go.Proofs.YtigabjibdepoiaaDoor.Tm
namespace Go.Proofs.YtigabjibdepoiaaDoor.Tm
set_option linter.unusedSimpArgs false
set_option linter.unusedVariables false
open Go.RowKit Go
/-- What may stand right behind an element. -/
def NxOk (z : Bool) (R : List UInt8) : Prop := ∀ c, R[0]? = some c → ¬ (48 ≤ c.toNat ∧ c.toNat ≤ 57) ∧ ¬ (97 ≤ c.toNat ∧ c.toNat ≤ 122) ∧ (z = true → c.toNat ≠ 58)
theorem fmtL_text (t : Tm) (R : List UInt8) (h7 : No07 R) : ∀ (tx : List UInt8), (∀ c ∈ tx, okB c.toNat) → fmtL t (tx ++ R) = tx ++ fmtL t R := by
  intro tx
  induction tx with
  | nil => intro _; rfl
  | cons c r ih =>
    intro h
    have hr := ih (fun d hd => h d (by simp [hd]))
    have hn : stdL (c :: (r ++ R)) = none := by
      refine plain_none c _ (h c (by simp)) ?_
      cases r with
      | nil => exact h7
      | cons d r => exact no07_ok (h d (by simp))
    rw [List.cons_append, fmtL_none t c (r ++ R) hn, hr, List.cons_append]
theorem nx_dig {z : Bool} {R : List UInt8} (h : NxOk z R) (d : UInt8) (hd : (48 ≤ d.toNat ∧ d.toNat ≤ 57) ∨ (97 ≤ d.toNat ∧ d.toNat ≤ 122)) : R[0]? ≠ some d := by
  intro e
  have := h d e
  omega
theorem nx_colon {R : List UInt8} (h : NxOk true R) : R[0]? ≠ some 58 := fun e => (h _ e).2.2 rfl rfl
theorem nx_low {z : Bool} {R : List UInt8} (h : NxOk z R) : ¬ lowP R = true := by
  unfold lowP
  cases e : R[0]? with
  | none => simp
  | some c =>
    have := h c e
    simp only [Option.any_some, Bool.and_eq_true, decide_eq_true_eq]
    omega
theorem nx_isdig {z : Bool} {R : List UInt8} (h : NxOk z R) : (R[0]?.any isDig) = false := by
  cases e : R[0]? with
  | none => rfl
  | some c =>
    have := h c e
    rw [Option.any_some]
    unfold isDig
    rw [Bool.and_eq_false_iff, decide_eq_false_iff_not, decide_eq_false_iff_not]
    omega
theorem at_no {l : List UInt8} {j n : Nat} (h : ∀ c, l[j]? = some c → c.toNat ≠ n) : ¬ at_ l j n = true := by
  unfold at_
  cases e : l[j]? with
  | none => simp
  | some c => have := h c e; simpa using this
/-- The number of an element by its kind. -/
def stdK (k n : Nat) (cm : Bool) : Nat := match k with
  | 1 => 275 | 2 => 276 | 3 => 257 | 4 => 258 | 5 => 260 | 6 => 259 | 7 => 261 | 8 => 262 | 9 => 263 | 10 => 264 | 11 => 265 | 12 => 522 | 13 => 523 | 14 => 1036 | 15 => 1037 | 16 => 1038
  | 17 => 1039 | 18 => 1040 | 19 => 1041 | 20 => 1042 | 21 => 1045 | 22 => 29 | 23 => 32 | 24 => 31 | 25 => 30 | 26 => 33 | 27 => 24 | 28 => 27 | 29 => 26 | 30 => 25 | 31 => 28 | 32 => 23
  | 33 => fracStd 34 n cm | 34 => fracStd 35 n cm | _ => 0
def zoneK (k : Nat) : Bool := decide (22 ≤ k) && decide (k ≤ 31)
theorem run_rep (d : UInt8) (R : List UInt8) (h : R[0]? ≠ some d) : ∀ n, runOf d (List.replicate n d ++ R) = n := by
  intro n
  unfold runOf
  induction n with
  | zero =>
    cases R with
    | nil => rfl
    | cons c r =>
      have : ¬ c = d := fun e => h (by rw [e]; rfl)
      simp [this]
  | succ n ih => rw [List.replicate_succ, List.cons_append, List.takeWhile_cons, if_pos (by simp), List.length_cons, ih]
theorem frac_el (cm : Bool) (d : UInt8) (code n : Nat) (R : List UInt8) (hd : (d = 48 ∧ code = 34) ∨ (d = 57 ∧ code = 35)) (hn : 1 ≤ n) {z : Bool} (h : NxOk z R) : stdFrac cm ((if cm then 44 else 46) :: List.replicate n d ++ R) = some (fracStd code n cm, 0, n + 1) := by
  have h1 : ((if cm then (44 : UInt8) else 46) :: List.replicate n d ++ R)[1]? = some d := by
    obtain ⟨m, rfl⟩ : ∃ m, n = m + 1 := ⟨n - 1, by omega⟩
    rfl
  have hr : runOf d (((if cm then (44 : UInt8) else 46) :: List.replicate n d ++ R).drop 1) = n := by
    show runOf d (List.replicate n d ++ R) = n
    exact run_rep d R (nx_dig h d (by rcases hd with ⟨rfl, _⟩ | ⟨rfl, _⟩ <;> decide)) n
  have h2 : ((if cm then (44 : UInt8) else 46) :: List.replicate n d ++ R)[1 + n]? = R[0]? := by
    rw [Nat.add_comm 1 n, List.cons_append, List.getElem?_cons_succ, List.getElem?_append_right (by simp)]
    simp
  unfold stdFrac
  rw [h1]
  show (if d.toNat = 48 ∨ d.toNat = 57 then _ else _) = _
  rw [hr, h2, nx_isdig h, Nat.add_comm 1 n]
  rcases hd with ⟨rfl, rfl⟩ | ⟨rfl, rfl⟩ <;> rfl
set_option maxRecDepth 100000 in
theorem std_el (p : Pc) (R : List UInt8) (hk : 1 ≤ p.k) (hk2 : p.k ≤ 34) (hn : p.k = 33 ∨ p.k = 34 → 1 ≤ p.n) (hx : NxOk (zoneK p.k) R) : stdL (elP p ++ R) = some (stdK p.k p.n p.cm, 0, (elP p).length) := by
  obtain ⟨k, tx, n, cm⟩ := p
  simp only at hk hk2 hn hx
  have hkk : k = 1 ∨ k = 2 ∨ k = 3 ∨ k = 4 ∨ k = 5 ∨ k = 6 ∨ k = 7 ∨ k = 8 ∨ k = 9 ∨ k = 10 ∨ k = 11 ∨ k = 12 ∨ k = 13 ∨ k = 14 ∨ k = 15 ∨ k = 16 ∨ k = 17 ∨ k = 18 ∨ k = 19 ∨ k = 20 ∨ k = 21 ∨ k = 22 ∨ k = 23 ∨ k = 24 ∨ k = 25 ∨ k = 26 ∨ k = 27 ∨ k = 28 ∨ k = 29 ∨ k = 30 ∨ k = 31 ∨ k = 32 ∨ k = 33 ∨ k = 34 := by omega
  clear hk hk2
  show stdL (elK k tx n cm ++ R) = some (stdK k n cm, 0, (elK k tx n cm).length)
  have n48 := nx_dig hx 48 (by decide)
  have n53 := nx_dig hx 53 (by decide)
  have n117 := nx_dig hx 117 (by decide)
  have n100 := nx_dig hx 100 (by decide)
  have low := nx_low hx
  rcases hkk with rfl | rfl | rfl | rfl | rfl | rfl | rfl | rfl | rfl | rfl | rfl | rfl | rfl | rfl | rfl | rfl | rfl | rfl | rfl | rfl | rfl | rfl | rfl | rfl | rfl | rfl | rfl | rfl | rfl | rfl | rfl | rfl | rfl | rfl
  · exact (by kernel_rfl : stdL (elK 1 tx n cm ++ R) = some (stdK 1 n cm, 0, (elK 1 tx n cm).length))
  · exact (by kernel_rfl : stdL (elK 2 tx n cm ++ R) = some (stdK 2 n cm, 0, (elK 2 tx n cm).length))
  · exact (by kernel_rfl : stdL (elK 3 tx n cm ++ R) = some (stdK 3 n cm, 0, (elK 3 tx n cm).length))
  · have h : stdL (74 :: 97 :: 110 :: R) = (if ((74 :: 97 :: 110 :: R).take 7 == [74, 97, 110, 117, 97, 114, 121]) then some (257, 0, 7) else if lowP R then none else some (258, 0, 3)) := by kernel_rfl
    refine h.trans ?_
    rw [if_neg (ne_take (j := 3) (d := 117) n117 rfl), if_neg low]; rfl
  · exact (by kernel_rfl : stdL (elK 5 tx n cm ++ R) = some (stdK 5 n cm, 0, (elK 5 tx n cm).length))
  · have h : stdL (49 :: R) = (if at_ (49 :: R) 1 53 then some (1036, 0, 2) else some (259, 0, 1)) := by kernel_rfl
    refine h.trans ?_
    rw [if_neg (at_no fun c e h53 => n53 (by rw [show R[0]? = some c from e, ← UInt8.toNat_inj.1 (show c.toNat = (53 : UInt8).toNat from h53)]))]; rfl
  · exact (by kernel_rfl : stdL (elK 7 tx n cm ++ R) = some (stdK 7 n cm, 0, (elK 7 tx n cm).length))
  · have h : stdL (77 :: 111 :: 110 :: R) = (if ((77 :: 111 :: 110 :: R).take 6 == [77, 111, 110, 100, 97, 121]) then some (261, 0, 6) else if lowP R then none else some (262, 0, 3)) := by kernel_rfl
    refine h.trans ?_
    rw [if_neg (ne_take (j := 3) (d := 100) n100 rfl), if_neg low]; rfl
  · have h : stdL (50 :: R) = (if ((50 :: R).take 4 == [50, 48, 48, 54]) then some (275, 0, 4) else some (263, 0, 1)) := by kernel_rfl
    refine h.trans ?_
    rw [if_neg (ne_take (j := 1) (d := 48) n48 rfl)]; rfl
  · have h : stdL (95 :: 50 :: R) = (if ((50 :: R).take 4 == [50, 48, 48, 54]) then some (275, 1, 5) else some (264, 0, 2)) := by kernel_rfl
    refine h.trans ?_
    rw [if_neg (ne_take (j := 1) (d := 48) n48 rfl)]; rfl
  · exact (by kernel_rfl : stdL (elK 11 tx n cm ++ R) = some (stdK 11 n cm, 0, (elK 11 tx n cm).length))
  · exact (by kernel_rfl : stdL (elK 12 tx n cm ++ R) = some (stdK 12 n cm, 0, (elK 12 tx n cm).length))
  · exact (by kernel_rfl : stdL (elK 13 tx n cm ++ R) = some (stdK 13 n cm, 0, (elK 13 tx n cm).length))
  · exact (by kernel_rfl : stdL (elK 14 tx n cm ++ R) = some (stdK 14 n cm, 0, (elK 14 tx n cm).length))
  · exact (by kernel_rfl : stdL (elK 15 tx n cm ++ R) = some (stdK 15 n cm, 0, (elK 15 tx n cm).length))
  · exact (by kernel_rfl : stdL (elK 16 tx n cm ++ R) = some (stdK 16 n cm, 0, (elK 16 tx n cm).length))
  · exact (by kernel_rfl : stdL (elK 17 tx n cm ++ R) = some (stdK 17 n cm, 0, (elK 17 tx n cm).length))
  · exact (by kernel_rfl : stdL (elK 18 tx n cm ++ R) = some (stdK 18 n cm, 0, (elK 18 tx n cm).length))
  · exact (by kernel_rfl : stdL (elK 19 tx n cm ++ R) = some (stdK 19 n cm, 0, (elK 19 tx n cm).length))
  · exact (by kernel_rfl : stdL (elK 20 tx n cm ++ R) = some (stdK 20 n cm, 0, (elK 20 tx n cm).length))
  · exact (by kernel_rfl : stdL (elK 21 tx n cm ++ R) = some (stdK 21 n cm, 0, (elK 21 tx n cm).length))
  · have h : stdL (45 :: 48 :: 55 :: 48 :: 48 :: R) = stdZone 45 (45 :: 48 :: 55 :: 48 :: 48 :: R) 30 33 29 32 31 := by kernel_rfl
    refine h.trans ?_
    unfold stdZone
    rw [if_neg (ne_take (j := 5) (d := 48) n48 rfl), if_neg (ne_take (j := 3) (d := 58) (by show some (48 : UInt8) ≠ some 58; decide) rfl), if_pos (by kernel_rfl)]; rfl
  · have h : stdL (45 :: 48 :: 55 :: 58 :: 48 :: 48 :: R) = stdZone 45 (45 :: 48 :: 55 :: 58 :: 48 :: 48 :: R) 30 33 29 32 31 := by kernel_rfl
    refine h.trans ?_
    unfold stdZone
    rw [if_neg (ne_take (j := 3) (d := 48) (by show some (58 : UInt8) ≠ some 48; decide) rfl), if_neg (ne_take (j := 6) (d := 58) (nx_colon hx) rfl), if_neg (ne_take (j := 3) (d := 48) (by show some (58 : UInt8) ≠ some 48; decide) rfl), if_pos (by kernel_rfl)]; rfl
  · have h : stdL (45 :: 48 :: 55 :: R) = stdZone 45 (45 :: 48 :: 55 :: R) 30 33 29 32 31 := by kernel_rfl
    refine h.trans ?_
    unfold stdZone
    rw [if_neg (ne_take (j := 3) (d := 48) n48 rfl), if_neg (ne_take (j := 3) (d := 58) (nx_colon hx) rfl), if_neg (ne_take (j := 3) (d := 48) n48 rfl), if_neg (ne_take (j := 3) (d := 58) (nx_colon hx) rfl), if_pos (by kernel_rfl)]; rfl
  · exact (by kernel_rfl : stdL (elK 25 tx n cm ++ R) = some (stdK 25 n cm, 0, (elK 25 tx n cm).length))
  · exact (by kernel_rfl : stdL (elK 26 tx n cm ++ R) = some (stdK 26 n cm, 0, (elK 26 tx n cm).length))
  · have h : stdL (90 :: 48 :: 55 :: 48 :: 48 :: R) = stdZone 90 (90 :: 48 :: 55 :: 48 :: 48 :: R) 25 28 24 27 26 := by kernel_rfl
    refine h.trans ?_
    unfold stdZone
    rw [if_neg (ne_take (j := 5) (d := 48) n48 rfl), if_neg (ne_take (j := 3) (d := 58) (by show some (48 : UInt8) ≠ some 58; decide) rfl), if_pos (by kernel_rfl)]; rfl
  · have h : stdL (90 :: 48 :: 55 :: 58 :: 48 :: 48 :: R) = stdZone 90 (90 :: 48 :: 55 :: 58 :: 48 :: 48 :: R) 25 28 24 27 26 := by kernel_rfl
    refine h.trans ?_
    unfold stdZone
    rw [if_neg (ne_take (j := 3) (d := 48) (by show some (58 : UInt8) ≠ some 48; decide) rfl), if_neg (ne_take (j := 6) (d := 58) (nx_colon hx) rfl), if_neg (ne_take (j := 3) (d := 48) (by show some (58 : UInt8) ≠ some 48; decide) rfl), if_pos (by kernel_rfl)]; rfl
  · have h : stdL (90 :: 48 :: 55 :: R) = stdZone 90 (90 :: 48 :: 55 :: R) 25 28 24 27 26 := by kernel_rfl
    refine h.trans ?_
    unfold stdZone
    rw [if_neg (ne_take (j := 3) (d := 48) n48 rfl), if_neg (ne_take (j := 3) (d := 58) (nx_colon hx) rfl), if_neg (ne_take (j := 3) (d := 48) n48 rfl), if_neg (ne_take (j := 3) (d := 58) (nx_colon hx) rfl), if_pos (by kernel_rfl)]; rfl
  · exact (by kernel_rfl : stdL (elK 30 tx n cm ++ R) = some (stdK 30 n cm, 0, (elK 30 tx n cm).length))
  · exact (by kernel_rfl : stdL (elK 31 tx n cm ++ R) = some (stdK 31 n cm, 0, (elK 31 tx n cm).length))
  · exact (by kernel_rfl : stdL (elK 32 tx n cm ++ R) = some (stdK 32 n cm, 0, (elK 32 tx n cm).length))
  · have h := frac_el cm 48 34 n R (.inl ⟨rfl, rfl⟩) (hn (.inl rfl)) hx
    have hl : (elK 33 tx n cm).length = n + 1 := by show ((if cm then (44 : UInt8) else 46) :: List.replicate n 48).length = n + 1; simp
    rw [hl]
    cases cm <;> exact h
  · have h := frac_el cm 57 35 n R (.inr ⟨rfl, rfl⟩) (hn (.inr rfl)) hx
    have hl : (elK 34 tx n cm).length = n + 1 := by show ((if cm then (44 : UInt8) else 46) :: List.replicate n 57).length = n + 1; simp
    rw [hl]
    cases cm <;> exact h
theorem fr_no (c n : Nat) (cm : Bool) (hc : c < 65536) (hn : n ≤ 9) : FrNo (fracStd c n cm) c n cm := ⟨by unfold fracStd; rw [Nat.mod_eq_of_lt (by omega)], hc, by omega⟩
theorem el_writ (t : Tm) (hO : TmOk t) (k : Nat) (tx : ByteArray) (n : Nat) (cm : Bool) (hk : 1 ≤ k) (hk2 : k ≤ 34) (hn : k = 33 ∨ k = 34 → n ≤ 9) : elemL t (stdK k n cm) = writK t k tx n cm := by
  have hkk : k = 1 ∨ k = 2 ∨ k = 3 ∨ k = 4 ∨ k = 5 ∨ k = 6 ∨ k = 7 ∨ k = 8 ∨ k = 9 ∨ k = 10 ∨ k = 11 ∨ k = 12 ∨ k = 13 ∨ k = 14 ∨ k = 15 ∨ k = 16 ∨ k = 17 ∨ k = 18 ∨ k = 19 ∨ k = 20 ∨ k = 21 ∨ k = 22 ∨ k = 23 ∨ k = 24 ∨ k = 25 ∨ k = 26 ∨ k = 27 ∨ k = 28 ∨ k = 29 ∨ k = 30 ∨ k = 31 ∨ k = 32 ∨ k = 33 ∨ k = 34 := by omega
  clear hk hk2
  rcases hkk with rfl | rfl | rfl | rfl | rfl | rfl | rfl | rfl | rfl | rfl | rfl | rfl | rfl | rfl | rfl | rfl | rfl | rfl | rfl | rfl | rfl | rfl | rfl | rfl | rfl | rfl | rfl | rfl | rfl | rfl | rfl | rfl | rfl | rfl
  · exact el_1 t
  · exact el_2 t
  · exact el_3 t
  · exact el_4 t
  · exact el_5 t
  · exact el_6 t
  · exact el_7 t
  · exact el_8 t
  · exact el_9 t
  · exact el_10 t hO
  · exact el_11 t
  · exact el_12 t hO
  · exact el_13 t
  · exact el_14 t
  · exact el_15 t
  · exact el_16 t
  · exact el_17 t
  · exact el_18 t
  · exact el_19 t
  · exact el_20 t
  · exact el_21 t
  · exact el_22 t
  · exact el_23 t
  · exact el_24 t
  · exact el_25 t
  · exact el_26 t
  · exact el_27 t
  · exact el_28 t
  · exact el_29 t
  · exact el_30 t
  · exact el_31 t
  · exact el_32 t
  · exact el_33 t _ n cm (fr_no 34 n cm (by decide) (hn (.inl rfl)))
  · exact el_34 t _ n cm (fr_no 35 n cm (by decide) (hn (.inr rfl)))
theorem fmt_el (t : Tm) (hO : TmOk t) (p : Pc) (R : List UInt8) (hk : 1 ≤ p.k) (hk2 : p.k ≤ 34) (hn : p.k = 33 ∨ p.k = 34 → 1 ≤ p.n ∧ p.n ≤ 9) (hx : NxOk (zoneK p.k) R) : fmtL t (elP p ++ R) = writL t p ++ fmtL t R := by
  rw [fmtL_some t _ _ _ _ (std_el p R hk hk2 (fun h => (hn h).1) hx), List.take_zero, List.nil_append, List.drop_left, el_writ t hO p.k p.tx p.n p.cm hk hk2 (fun h => (hn h).2)]
  rfl
/-- May an element of kind b stand right behind one of kind a? -/
def touchB (a b : Nat) : Bool :=
  if b = 33 ∨ b = 34 then decide (a = 19 ∨ a = 20) else if b = 21 then decide ((15 ≤ a ∧ a ≤ 20) ∨ a = 33 ∨ a = 34) else if 27 ≤ b ∧ b ≤ 31 then decide (a = 18 ∨ a = 20 ∨ a = 33 ∨ a = 34) else false
def pcFine (p : Pc) : Prop := p.k ≤ 34 ∧ (p.k = 0 → 0 < p.tx.size ∧ p.tx.size ≤ 1000 ∧ ∀ c ∈ bl p.tx, okB c.toNat) ∧ (p.k ≠ 0 → p.tx.size = 0) ∧ (p.k = 33 ∨ p.k = 34 → 1 ≤ p.n ∧ p.n ≤ 9)
def pairOk (p q : Pc) : Prop := (q.k = 0 → zoneK p.k = true → ∀ c, (bl q.tx)[0]? = some c → c.toNat ≠ 58) ∧ (q.k ≠ 0 → (p.k ≠ 0 ∨ q.k = 33 ∨ q.k = 34) → touchB p.k q.k = true)
def PsOk (ps : List Pc) : Prop := (∀ p ∈ ps, pcFine p) ∧ ∀ (i : Nat) (p q : Pc), ps[i]? = some p → ps[i + 1]? = some q → pairOk p q
/-- The layout of pieces. -/
def layL (ps : List Pc) : List UInt8 := ps.flatMap elP
theorem lay_cons (p : Pc) (r : List Pc) : layL (p :: r) = elP p ++ layL r := by unfold layL; rw [List.flatMap_cons]
theorem get0_append {a b : List UInt8} (h : 0 < a.length) : (a ++ b)[0]? = a[0]? := List.getElem?_append_left h
theorem elP_pos (q : Pc) (h : pcFine q) : 0 < (elP q).length := by
  obtain ⟨k, tx, n, cm⟩ := q
  obtain ⟨h1, h2, h3, h4⟩ := h
  simp only at h1 h2 h3 h4
  show 0 < (elK k tx n cm).length
  have hkk : k = 0 ∨ k = 1 ∨ k = 2 ∨ k = 3 ∨ k = 4 ∨ k = 5 ∨ k = 6 ∨ k = 7 ∨ k = 8 ∨ k = 9 ∨ k = 10 ∨ k = 11 ∨ k = 12 ∨ k = 13 ∨ k = 14 ∨ k = 15 ∨ k = 16 ∨ k = 17 ∨ k = 18 ∨ k = 19 ∨ k = 20 ∨ k = 21 ∨ k = 22 ∨ k = 23 ∨ k = 24 ∨ k = 25 ∨ k = 26 ∨ k = 27 ∨ k = 28 ∨ k = 29 ∨ k = 30 ∨ k = 31 ∨ k = 32 ∨ k = 33 ∨ k = 34 := by omega
  rcases hkk with rfl | hkk
  · show 0 < (bl tx).length
    rw [bl_length]; exact (h2 rfl).1
  · clear h1 h2 h3 h4
    rcases hkk with rfl | rfl | rfl | rfl | rfl | rfl | rfl | rfl | rfl | rfl | rfl | rfl | rfl | rfl | rfl | rfl | rfl | rfl | rfl | rfl | rfl | rfl | rfl | rfl | rfl | rfl | rfl | rfl | rfl | rfl | rfl | rfl | rfl | rfl <;> exact Nat.succ_pos _
theorem nx_next (p q : Pc) (r : List Pc) (hq : pcFine q) (hp : p.k ≠ 0) (h : pairOk p q) : NxOk (zoneK p.k) (layL (q :: r)) := by
  intro c hc
  rw [lay_cons, get0_append (elP_pos q hq)] at hc
  obtain ⟨k, tx, n, cm⟩ := q
  obtain ⟨h1, h2, h3, h4⟩ := hq
  obtain ⟨g1, g2⟩ := h
  simp only at h1 h2 h3 h4 g1 g2
  change (elK k tx n cm)[0]? = some c at hc
  by_cases hk : k = 0
  · subst hk
    have hm : c ∈ bl tx := List.mem_of_getElem? hc
    have ho := (h2 rfl).2.2 c hm
    unfold okB at ho
    exact ⟨by omega, by omega, fun hz => g1 rfl hz c hc⟩
  · have ht := g2 hk (.inl hp)
    unfold touchB at ht
    have hz : c = 44 ∨ c = 46 ∨ c = 80 ∨ c = 90 := by
      split at ht
      · rename_i hf
        rcases hf with rfl | rfl
        · change (((if cm then (44 : UInt8) else 46) :: List.replicate n 48)[0]?) = some c at hc
          rw [List.getElem?_cons_zero] at hc
          cases cm
          · exact .inr (.inl (Option.some.inj hc).symm)
          · exact .inl (Option.some.inj hc).symm
        · change (((if cm then (44 : UInt8) else 46) :: List.replicate n 57)[0]?) = some c at hc
          rw [List.getElem?_cons_zero] at hc
          cases cm
          · exact .inr (.inl (Option.some.inj hc).symm)
          · exact .inl (Option.some.inj hc).symm
      · split at ht
        · rename_i hf
          subst hf
          exact .inr (.inr (.inl (Option.some.inj hc).symm))
        · split at ht
          · rename_i hf
            have hkk : k = 27 ∨ k = 28 ∨ k = 29 ∨ k = 30 ∨ k = 31 := by omega
            rcases hkk with rfl | rfl | rfl | rfl | rfl <;> exact .inr (.inr (.inr (Option.some.inj hc).symm))
          · cases ht
    rcases hz with rfl | rfl | rfl | rfl <;> exact ⟨by decide, by decide, fun _ => by decide⟩
theorem no07_next (q : Pc) (r : List Pc) (hq : pcFine q) : No07 (layL (q :: r)) := by
  have hpos := elP_pos q hq
  obtain ⟨k, tx, n, cm⟩ := q
  obtain ⟨h1, h2, h3, h4⟩ := hq
  simp only at h1 h2 h3 h4
  rintro ⟨e1, e2⟩
  rw [lay_cons] at e1 e2
  change (elK k tx n cm ++ layL r)[0]? = some 48 at e1
  change (elK k tx n cm ++ layL r)[1]? = some 55 at e2
  have hkk : k = 0 ∨ k = 1 ∨ k = 2 ∨ k = 3 ∨ k = 4 ∨ k = 5 ∨ k = 6 ∨ k = 7 ∨ k = 8 ∨ k = 9 ∨ k = 10 ∨ k = 11 ∨ k = 12 ∨ k = 13 ∨ k = 14 ∨ k = 15 ∨ k = 16 ∨ k = 17 ∨ k = 18 ∨ k = 19 ∨ k = 20 ∨ k = 21 ∨ k = 22 ∨ k = 23 ∨ k = 24 ∨ k = 25 ∨ k = 26 ∨ k = 27 ∨ k = 28 ∨ k = 29 ∨ k = 30 ∨ k = 31 ∨ k = 32 ∨ k = 33 ∨ k = 34 := by omega
  rcases hkk with rfl | hkk
  · have e3 : (elK 0 tx n cm)[0]? = some 48 := (get0_append (a := elK 0 tx n cm) hpos).symm.trans e1
    exact okB_48 ((h2 rfl).2.2 48 (List.mem_of_getElem? e3)) rfl
  · clear h1 h2 h3 h4 hpos
    rcases hkk with rfl | rfl | rfl | rfl | rfl | rfl | rfl | rfl | rfl | rfl | rfl | rfl | rfl | rfl | rfl | rfl | rfl | rfl | rfl | rfl | rfl | rfl | rfl | rfl | rfl | rfl | rfl | rfl | rfl | rfl | rfl | rfl | rfl | rfl
    all_goals first
      | (have := Option.some.inj e1; revert this; decide)
      | (have := Option.some.inj e2; revert this; decide)
      | (have := Option.some.inj e1; cases cm <;> (revert this; decide))
theorem PsOk.tail {p : Pc} {r : List Pc} (h : PsOk (p :: r)) : PsOk r := ⟨fun q hq => h.1 q (by simp [hq]), fun i a b ha hb => h.2 (i + 1) a b ha hb⟩
/-- WHAT FORMAT WRITES BY THE LAYOUT OF PIECES. -/
theorem fmt_pieces (t : Tm) (hO : TmOk t) : ∀ ps : List Pc, PsOk ps → fmtL t (layL ps) = writAll t ps := by
  intro ps
  induction ps with
  | nil => intro _; rfl
  | cons p r ih =>
    intro h
    have hr := ih h.tail
    have hp := h.1 p (by simp)
    have hw : writAll t (p :: r) = writL t p ++ writAll t r := by unfold writAll; rw [List.flatMap_cons]
    rw [lay_cons, hw]
    by_cases hk : p.k = 0
    · have e1 : elP p = bl p.tx := by obtain ⟨k, tx, n, cm⟩ := p; simp only at hk; subst hk; rfl
      have e2 : writL t p = bl p.tx := by obtain ⟨k, tx, n, cm⟩ := p; simp only at hk; subst hk; rfl
      rw [e1, e2, fmtL_text t (layL r) ?_ _ (hp.2.1 hk).2.2, hr]
      cases r with
      | nil => rintro ⟨e, _⟩; cases e
      | cons q r => exact no07_next q r (h.1 q (by simp))
    · rw [fmt_el t hO p (layL r) (by omega) hp.1 hp.2.2.2 ?_, hr]
      cases r with
      | nil => intro c e; cases e
      | cons q r => exact nx_next p q r (h.1 q (by simp)) hk (h.2 0 p q rfl rfl)
theorem psFine_ok {p : Pc} (h : pcFine p) : PcOk p := ⟨h.1, by
  by_cases hk : p.k = 0
  · exact (h.2.1 hk).2.1
  · have := h.2.2.1 hk; omega, h.2.2.2⟩
end Go.Proofs.YtigabjibdepoiaaDoor.Tm
namespace Go.Proofs.YtigabjibdepoiaaDoor.Tm
set_option linter.unusedSimpArgs false
set_option linter.unusedVariables false
open Go.RowKit Go
/-- Stores into a row, where no cell that is written is frozen. -/
theorem run_storeM (P : Program) (g o : Nat) (t : TypeId) (fz : Nat × Nat) : ∀ (vs : List Value) (i : Nat) (cur : Array Value) (w : World), w.heap[g]? = some (.cells cur t fz) → (∀ j, j < cur.size → ¬ (fz.1 ≤ j ∧ j < fz.2)) → o + i + vs.length ≤ cur.size → (∀ v ∈ vs, v.oneCell' = true) →
    (storeCells ⟨g, o, none⟩ vs i).run P w = .ok () (w.setRow g (cur.toList.take (o + i) ++ vs ++ cur.toList.drop (o + i + vs.length)).toArray)
  | [], i, cur, w, hg, _, _, _ => by
    simp only [storeCells, List.append_nil, List.length_nil, Nat.add_zero, List.take_append_drop, Array.toArray_toList]
    rw [setRow_self w g cur t fz hg]
    rfl
  | v :: rest, i, cur, w, hg, hfz, hl, h1 => by
    have hi : o + i < cur.size := by simp at hl; omega
    have hadd : (⟨g, o, none⟩ : Addr).add i = ⟨g, o + i, none⟩ := by unfold Addr.add; split <;> simp_all
    have hcell : w.cell? ⟨g, o + i, none⟩ = some cur[o + i] := by simp [World.cell?, hg, hi]
    have hfro : w.frozen? ⟨g, o + i, none⟩ = false := by
      have h2 := hfz (o + i) hi
      obtain ⟨lo, hi'⟩ := fz
      simp only [World.frozen?, hg, Bool.and_eq_false_iff, decide_eq_false_iff_not]
      simp only at h2
      omega
    have hst : (store ((⟨g, o, none⟩ : Addr).add i) v).run P w = .ok () (w.setRow g (cur.setIfInBounds (o + i) v)) := by
      rw [hadd, run_store P w _ v _ (h1 v (by simp)), hcell]
      simp [hfro, setCell_eq_setRow w g (o + i) cur t fz v hg]
    have ih := run_storeM P g o t fz rest (i + 1) (cur.setIfInBounds (o + i) v) (w.setRow g (cur.setIfInBounds (o + i) v)) (setRow_heap w g cur _ t _ hg) (by simpa using hfz) (by simp at hl ⊢; omega) (fun x hx => h1 x (by simp [hx]))
    simp only [storeCells, Sem.run_bind, hst, Result.andThen_ok, ih, setRow_setRow]
    congr 3
    have e := list_seg_step cur.toList (o + i) v rest (by simp at hl ⊢; omega)
    simpa [Array.toList_setIfInBounds, Nat.add_assoc] using e
/-- As Buf, the block's mark being whatever that freezes no cell of it. -/
def BufM (w : World) (base : Nat) (v : Value) (xs : List Value) : Prop :=
  ∃ g cap cur tag fz, v = .slice (some ⟨g, 0, none⟩) xs.length cap ∧ base ≤ g ∧ w.heap[g]? = some (.cells cur tag fz) ∧ (∀ j, j < cap → ¬ (fz.1 ≤ j ∧ j < fz.2)) ∧ xs.length ≤ cap ∧ cap ≤ maxLen ∧ cur.size = cap ∧ cur.toList.take xs.length = xs
theorem BufM.kept {w w' : World} {base : Nat} {v : Value} {xs : List Value} (h : BufM w base v xs) (hb : Below w.heap.size w w') : BufM w' base v xs := by
  obtain ⟨g, cap, cur, tag, fz, rfl, h1, hg, h2⟩ := h
  exact ⟨g, cap, cur, tag, fz, rfl, h1, (hb.block g (Array.getElem?_eq_some_iff.1 hg).1).trans hg, h2⟩
theorem BufM.alloc {w : World} {base : Nat} {v : Value} {xs : List Value} (h : BufM w base v xs) (o : Obj) : BufM (w.alloc o) base v xs := h.kept ((Below.refl _ _).alloc (Nat.le_refl _) o)
theorem runM_append (tx ty : TypeId) (w : World) (base : Nat) (v : Value) (xs : List Value) (hv : BufM w base v xs) (x : Value) (n : Nat) (news : List Value) (hs : Src Tryd.prog 1 tx x n news w)
    (hsz : xs.length + n ≤ 140737488355328) (hbase : base ≤ w.heap.size) :
    ∃ v' w', (Builtin.append_ #[51, tx] ty #[v, x]).run Tryd.prog w = .ok v' w' ∧ BufM w' base v' (xs ++ news) ∧ Below base w w' := by
  obtain ⟨i, hi, hz, hi1, hi2⟩ := info_parts info8
  obtain ⟨g, cap, cur, tag, fz, rfl, hb, hg, hf, h1, h2, h3, h4⟩ := hv
  have hnl : news.length = n := by rw [hs.newsLen, Nat.mul_one]
  have hlen : (xs ++ news).length = xs.length + n := by rw [List.length_append, hnl]
  by_cases hroom : xs.length + n ≤ cap
  · have hst := run_storeM Tryd.prog g xs.length tag fz news 0 cur w hg (by rw [h3]; exact hf) (by rw [hnl]; omega) hs.one
    simp only [Nat.add_zero] at hst
    refine ⟨.slice (some ⟨g, 0, none⟩) (xs.length + n) cap, w.setRow g (cur.toList.take xs.length ++ news ++ cur.toList.drop (xs.length + news.length)).toArray, ?_,
      ⟨g, cap, _, tag, fz, by rw [hlen], hb, setRow_heap w g cur _ tag _ hg, hf, by omega, h2, ?_, ?_⟩, ⟨rfl, rfl, rfl, by simp, fun k hk => setRow_other w g k _ (by omega)⟩⟩
    · simp only [List.append_assoc] at hst
      rcases hs.kind with ⟨e', hk⟩ | hk <;> simp [Builtin.append_, run_underlying Tryd.underlying51, run_underlying hk, sizeOf, typeInfo, hi, hs.len, hroom, hs.cells, Addr.add_lit, hi1, hst]
    · simp only [List.size_toArray, List.length_append, List.length_take, List.length_drop, Array.length_toList]
      omega
    · rw [h4, ← hnl] at *
      show ((xs ++ news) ++ cur.toList.drop (xs.length + news.length)).take (xs ++ news).length = xs ++ news
      exact List.take_left
  · have holds : ∀ j u, xs[j]? = some u → w.drew.cell? ((⟨g, 0, none⟩ : Addr).add j) = some u := by
      intro j u hu
      have hadd : (⟨g, 0, none⟩ : Addr).add j = ⟨g, j, none⟩ := by unfold Addr.add; split <;> simp_all
      rw [hadd, cell_of_row w.drew g j cur tag fz hg]
      rw [← h4, List.getElem?_take] at hu
      split at hu
      · simpa using hu
      · cases hu
    have hold : (Builtin.firstCells i.size xs.length (.slice (some ⟨g, 0, none⟩) xs.length cap)).run Tryd.prog w.drew = .ok xs.toArray w.drew :=
      run_firstCells_some w.drew i.size xs.length ⟨g, 0, none⟩ xs.length cap xs (by rw [hi1, Nat.mul_one]) holds
    have hr := run_append_grow_src (P := Tryd.prog) w 51 tx ty 5 i _ Tryd.underlying51 hi hz (some ⟨g, 0, none⟩) xs.length cap xs hold x n news (by rw [hi1]; exact hs) (by omega) (by omega)
      (by rw [hi2]; exact growslice_fits (by omega) (by omega))
    have hge := grownCap_ge w (xs.length + n) cap 5
    have hcm : grownCap w (xs.length + n) cap 5 ≤ maxLen := grownCap_le_maxLen w (xs.length + n) cap 5 (by simp only [maxLen]; omega)
    refine ⟨_, _, hr, ⟨w.heap.size, _, _, 5, (0, 0), by rw [hlen], hbase, heap_alloc_new w.drew _, fun j _ h => by have := h.2; simp at this, by omega, hcm, ?_, ?_⟩, ⟨rfl, rfl, rfl, by simp, fun k hk => Below.heap_alloc w.drew _ k (by show k < w.heap.size; omega)⟩⟩
    · simp only [Array.size_append, List.size_toArray, size_zeroCells, hlen]
      simp [Value.cells]
      omega
    · rw [Array.toList_append]
      exact List.take_left
/-- The operation 'b = append(b, ..)', for the walk. -/
theorem wpList_bufM_append {w : World} {ops : Array Oper} {rest : List Oper} {o : Oper} {a : Act} {Q : Exit → Act → World → Prop} (hgd : o.guard = none) (s y : Operand) (tx : TypeId)
    (ho : o.op = .call { callee := .builtin .append, args := #[s, y], argTypes := #[51, tx] })
    (base : Nat) (v : Value) (xs : List Value) (hsv : a.eval s = v) (hv : BufM w base v xs) (x : Value) (hxv : a.eval y = x) (n : Nat) (news : List Value) (hs : Src Tryd.prog 1 tx x n news w)
    (hsz : xs.length + n ≤ 140737488355328) (hbase : base ≤ w.heap.size)
    (h : ∀ v' w', BufM w' base v' (xs ++ news) → Below base w w' → wpList Tryd.prog ops Q rest (a.put o.dst v') w') : wpList Tryd.prog ops Q (o :: rest) a w := by
  refine wpList_plain hgd fun K hK => ?_
  obtain ⟨v', w', hr, h2, h3⟩ := runM_append tx o.type w base v xs hv x n news hs hsz hbase
  unfold Oper.wp execOp
  simp only [ho, resolve, invoke, builtin, Sem.run_bind, Sem.run_pure, Result.andThen_ok, List.map_toArray, List.map_cons, List.map_nil, hsv, hxv, hr]
  exact hK _ _ (h v' w' h2 h3)
theorem below_alloc1 (w : World) (o : Obj) : Below w.heap.size w (w.alloc o) := (Below.refl _ _).alloc (Nat.le_refl _) o
/-- A string's bytes, as a new buffer. -/
theorem conv_buf (w : World) (s : ByteArray) (hs : s.size ≤ 140737488355328) : ∃ v w', (convert 9 51 (.string s)).run Tryd.prog w = .ok v w' ∧ BufM w' w.heap.size v (bytes (bl s)) ∧ Below w.heap.size w w' := by
  have hr := run_bytes_of_string (P := Tryd.prog) w 9 51 5 s Tryd.underlying9 Tryd.underlying51 Tryd.underlying5
  have hge := grownCap_ge w s.size 0 5
  have hcm : grownCap w s.size 0 5 ≤ maxLen := grownCap_le_maxLen w s.size 0 5 (by simp only [maxLen]; omega)
  have hsz : (bytesRow s (grownCap w s.size 0 5)).size = grownCap w s.size 0 5 := by
    unfold bytesRow
    have : s.data.size = s.size := rfl
    simp [this]; omega
  have hl : (bytes (bl s)).length = s.size := by rw [bytes_length, bl_length]
  refine ⟨_, _, hr, ⟨w.heap.size, _, _, _, _, by rw [hl], Nat.le_refl _, heap_alloc_new w.drew _, ?_, by rw [hl]; exact hge, hcm, hsz, ?_⟩, ((Below.refl _ _).drew).trans (below_alloc1 w.drew _)⟩
  · intro j hj h; have := h.1; simp only [hsz] at this; omega
  · rw [hl]
    unfold bytesRow
    rw [Array.toList_append, List.take_append_of_le_length (by simp), List.take_of_length_le (by simp)]
    simp [bytes, bl, u8]
theorem run_string_bufM (w : World) (base : Nat) (v : Value) (l : List UInt8) (h : BufM w base v (bytes l)) : (convert 51 9 v).run Tryd.prog w = .ok (.string (mkB l)) w := by
  obtain ⟨g, cap, cur, tag, fz, rfl, hb, hg, hf, h1, h2, h3, h4⟩ := h
  rw [bytes_length] at h4 h1 ⊢
  refine run_convert_bytes_back (P := Tryd.prog) w 51 9 5 ⟨g, 0, none⟩ cap l Tryd.underlying51 Tryd.underlying5 Tryd.underlying9 ?_
  intro j hj
  have hadd : (⟨g, 0, none⟩ : Addr).add j = ⟨g, j, none⟩ := by unfold Addr.add; split <;> simp_all
  rw [hadd, cell_of_row w g j cur tag fz hg]
  have h5 : (bytes l)[j]? = some (.int .u8 (l[j].toNat : Int)) := by simp [bytes, u8, hj]
  rw [← h4, List.getElem?_take, if_pos hj] at h5
  simpa using h5
end Go.Proofs.YtigabjibdepoiaaDoor.Tm
namespace Go.Proofs.YtigabjibdepoiaaDoor.Tm
set_option linter.unusedSimpArgs false
set_option linter.unusedVariables false
open Go.RowKit Go
theorem frac_step33 (cm : Bool) (j : Nat) : bytes (markC cm :: List.replicate j 48) ++ [Value.int .u8 48] = bytes (markC cm :: List.replicate (j + 1) 48) := by
  rw [List.replicate_succ', ← List.cons_append, bytes_append]; rfl
set_option maxRecDepth 100000 in
set_option maxHeartbeats 1600000 in
theorem elm_33 (tx : ByteArray) (n : Nat) (cm : Bool) (w : World) (hn : 1 ≤ n ∧ n ≤ 9) : Calls Tryd.prog 53 #[.agg #[.int .i64 33, .string tx, .int .i64 n, .bool cm]] w (TxtTo (elK 33 tx n cm) 1000 w) := by
  obtain ⟨hn1, hn9⟩ := hn
  obtain ⟨v0, w2, hcv, hbuf, hbel⟩ := conv_buf (w.alloc (.cells #[.int .i64 33, .string tx, .int .i64 n, .bool cm] 42)) ⟨#[markC cm]⟩ (by show 1 ≤ _; decide)
  have HB0 := hideP hbuf
  have HE0 := hideP hbel
  have HBX := hideP (heap_alloc_new w (.cells #[.int .i64 33, .string tx, .int .i64 n, .bool cm] 42))
  have HN := hideP hn9
  have hsz1 : w.heap.size < (w.alloc (.cells #[.int .i64 33, .string tx, .int .i64 n, .bool cm] 42)).heap.size := by simp
  have HW1 := hideP (below_alloc w (.cells #[.int .i64 33, .string tx, .int .i64 n, .bool cm] 42))
  clear hbuf hbel
  generalize hW1 : (w.alloc (.cells #[.int .i64 33, .string tx, .int .i64 n, .bool cm] 42)) = W1 at hcv HB0 HE0 HBX HW1 hsz1
  rw [← hW1] at hcv
  have HWE := hideP hW1
  clear hW1
  go_enter Tryd.func53, Tryd.ntmps53
  go_wp2_with (go_at_call 57; refine (markS cm _).mono ?_; rintro e w1 ⟨rfl, rfl⟩)
  go_loopw [4, 5] (fun v i wr => ∃ j : Nat, i = .int .i64 j ∧ j ≤ n ∧ BufM wr W1.heap.size v (bytes (markC cm :: List.replicate j 48)) ∧ Below W1.heap.size W1 wr) (fun _ i _ => n - (intOf i).toNat)
  case atStart => exact ⟨0, rfl, Nat.zero_le _, HB0.out, HE0.out⟩
  case round =>
    obtain ⟨j, rfl, hj, hbm, hbl⟩ := hrel
    have HB := hideP hbm
    have HL := hideP hbl
    have c2 := (hbl.cell (p := ⟨w.heap.size, 2, none⟩) hsz1).trans (cell_of_row _ _ 2 _ _ (0, 0) HBX.out)
    have hbs := hbl.size
    have HBS := hideP hbs
    clear hbm hbl hbs
    by_cases hlt : (j : Int) < n
    · have HJ := hideP (show j + 1 ≤ n by omega)
      go_wp2_with (at_builtin; refine wpList_bufM_append rfl _ _ _ rfl W1.heap.size _ _ rfl (HB.out.alloc _) _ rfl 1 [_] (src_new _ [_] (one_cons rfl one_nil) _ 1) (by have := HJ.out; have := HN.out; rw [bytes_length, List.length_cons, List.length_replicate]; omega) (Nat.le_trans HBS.out (by simp)) ?_; intro v' w3 hv' hb'; rw [frac_step33] at hv'; have HV := hideP hv'; have HB3 := hideP hb'; clear hv' hb')
      go_roundw
      case rel => exact ⟨j + 1, by go_num, HJ.out, HV.out, (HL.out.alloc HBS.out _).trans HB3.out⟩
      case measure => have := HJ.out; simp [intOf]; omega
    · obtain rfl : j = n := by omega
      have hcv2 := run_string_bufM _ _ _ _ HB.out
      go_wp2
      go_ret
      refine ⟨_, rfl, ?_, ?_, HW1.out.trans (HL.out.mono HW1.out.size)⟩
      · have := HN.out; rw [mkB_size, List.length_cons, List.length_replicate]; omega
      · rw [bl_mkB]; cases cm <;> rfl
theorem frac_step34 (cm : Bool) (j : Nat) : bytes (markC cm :: List.replicate j 57) ++ [Value.int .u8 57] = bytes (markC cm :: List.replicate (j + 1) 57) := by
  rw [List.replicate_succ', ← List.cons_append, bytes_append]; rfl
set_option maxRecDepth 100000 in
set_option maxHeartbeats 1600000 in
theorem elm_34 (tx : ByteArray) (n : Nat) (cm : Bool) (w : World) (hn : 1 ≤ n ∧ n ≤ 9) : Calls Tryd.prog 53 #[.agg #[.int .i64 34, .string tx, .int .i64 n, .bool cm]] w (TxtTo (elK 34 tx n cm) 1000 w) := by
  obtain ⟨hn1, hn9⟩ := hn
  obtain ⟨v0, w2, hcv, hbuf, hbel⟩ := conv_buf (w.alloc (.cells #[.int .i64 34, .string tx, .int .i64 n, .bool cm] 42)) ⟨#[markC cm]⟩ (by show 1 ≤ _; decide)
  have HB0 := hideP hbuf
  have HE0 := hideP hbel
  have HBX := hideP (heap_alloc_new w (.cells #[.int .i64 34, .string tx, .int .i64 n, .bool cm] 42))
  have HN := hideP hn9
  have hsz1 : w.heap.size < (w.alloc (.cells #[.int .i64 34, .string tx, .int .i64 n, .bool cm] 42)).heap.size := by simp
  have HW1 := hideP (below_alloc w (.cells #[.int .i64 34, .string tx, .int .i64 n, .bool cm] 42))
  clear hbuf hbel
  generalize hW1 : (w.alloc (.cells #[.int .i64 34, .string tx, .int .i64 n, .bool cm] 42)) = W1 at hcv HB0 HE0 HBX HW1 hsz1
  rw [← hW1] at hcv
  have HWE := hideP hW1
  clear hW1
  go_enter Tryd.func53, Tryd.ntmps53
  go_wp2_with (go_at_call 57; refine (markS cm _).mono ?_; rintro e w1 ⟨rfl, rfl⟩)
  go_loopw [4, 5] (fun v i wr => ∃ j : Nat, i = .int .i64 j ∧ j ≤ n ∧ BufM wr W1.heap.size v (bytes (markC cm :: List.replicate j 57)) ∧ Below W1.heap.size W1 wr) (fun _ i _ => n - (intOf i).toNat)
  case atStart => exact ⟨0, rfl, Nat.zero_le _, HB0.out, HE0.out⟩
  case round =>
    obtain ⟨j, rfl, hj, hbm, hbl⟩ := hrel
    have HB := hideP hbm
    have HL := hideP hbl
    have c2 := (hbl.cell (p := ⟨w.heap.size, 2, none⟩) hsz1).trans (cell_of_row _ _ 2 _ _ (0, 0) HBX.out)
    have hbs := hbl.size
    have HBS := hideP hbs
    clear hbm hbl hbs
    by_cases hlt : (j : Int) < n
    · have HJ := hideP (show j + 1 ≤ n by omega)
      go_wp2_with (at_builtin; refine wpList_bufM_append rfl _ _ _ rfl W1.heap.size _ _ rfl (HB.out.alloc _) _ rfl 1 [_] (src_new _ [_] (one_cons rfl one_nil) _ 1) (by have := HJ.out; have := HN.out; rw [bytes_length, List.length_cons, List.length_replicate]; omega) (Nat.le_trans HBS.out (by simp)) ?_; intro v' w3 hv' hb'; rw [frac_step34] at hv'; have HV := hideP hv'; have HB3 := hideP hb'; clear hv' hb')
      go_roundw
      case rel => exact ⟨j + 1, by go_num, HJ.out, HV.out, (HL.out.alloc HBS.out _).trans HB3.out⟩
      case measure => have := HJ.out; simp [intOf]; omega
    · obtain rfl : j = n := by omega
      have hcv2 := run_string_bufM _ _ _ _ HB.out
      go_wp2
      go_ret
      refine ⟨_, rfl, ?_, ?_, HW1.out.trans (HL.out.mono HW1.out.size)⟩
      · have := HN.out; rw [mkB_size, List.length_cons, List.length_replicate]; omega
      · rw [bl_mkB]; cases cm <;> rfl
theorem element_any (p : Pc) (w : World) (hp : PcOk p) : Calls Tryd.prog 53 #[pcV p] w (TxtTo (elP p) 1000 w) := by
  obtain ⟨k, tx, n, cm⟩ := p
  obtain ⟨h1, h2, h3⟩ := hp
  simp only at h1 h2 h3
  have hk : k = 0 ∨ k = 1 ∨ k = 2 ∨ k = 3 ∨ k = 4 ∨ k = 5 ∨ k = 6 ∨ k = 7 ∨ k = 8 ∨ k = 9 ∨ k = 10 ∨ k = 11 ∨ k = 12 ∨ k = 13 ∨ k = 14 ∨ k = 15 ∨ k = 16 ∨ k = 17 ∨ k = 18 ∨ k = 19 ∨ k = 20 ∨ k = 21 ∨ k = 22 ∨ k = 23 ∨ k = 24 ∨ k = 25 ∨ k = 26 ∨ k = 27 ∨ k = 28 ∨ k = 29 ∨ k = 30 ∨ k = 31 ∨ k = 32 ∨ k = 33 ∨ k = 34 := by omega
  show Calls Tryd.prog 53 #[.agg #[.int .i64 (k : Nat), .string tx, .int .i64 n, .bool cm]] w (TxtTo (elK k tx n cm) 1000 w)
  rcases hk with rfl | rfl | rfl | rfl | rfl | rfl | rfl | rfl | rfl | rfl | rfl | rfl | rfl | rfl | rfl | rfl | rfl | rfl | rfl | rfl | rfl | rfl | rfl | rfl | rfl | rfl | rfl | rfl | rfl | rfl | rfl | rfl | rfl | rfl | rfl
  · exact elm_0 tx n cm w h2
  · exact elm_1 tx n cm w h2
  · exact elm_2 tx n cm w h2
  · exact elm_3 tx n cm w h2
  · exact elm_4 tx n cm w h2
  · exact elm_5 tx n cm w h2
  · exact elm_6 tx n cm w h2
  · exact elm_7 tx n cm w h2
  · exact elm_8 tx n cm w h2
  · exact elm_9 tx n cm w h2
  · exact elm_10 tx n cm w h2
  · exact elm_11 tx n cm w h2
  · exact elm_12 tx n cm w h2
  · exact elm_13 tx n cm w h2
  · exact elm_14 tx n cm w h2
  · exact elm_15 tx n cm w h2
  · exact elm_16 tx n cm w h2
  · exact elm_17 tx n cm w h2
  · exact elm_18 tx n cm w h2
  · exact elm_19 tx n cm w h2
  · exact elm_20 tx n cm w h2
  · exact elm_21 tx n cm w h2
  · exact elm_22 tx n cm w h2
  · exact elm_23 tx n cm w h2
  · exact elm_24 tx n cm w h2
  · exact elm_25 tx n cm w h2
  · exact elm_26 tx n cm w h2
  · exact elm_27 tx n cm w h2
  · exact elm_28 tx n cm w h2
  · exact elm_29 tx n cm w h2
  · exact elm_30 tx n cm w h2
  · exact elm_31 tx n cm w h2
  · exact elm_32 tx n cm w h2
  · exact elm_33 tx n cm w (h3 (.inl rfl))
  · exact elm_34 tx n cm w (h3 (.inr rfl))
end Go.Proofs.YtigabjibdepoiaaDoor.Tm
namespace Go.Proofs.YtigabjibdepoiaaDoor.Tm
set_option linter.unusedSimpArgs false
set_option linter.unusedVariables false
open Go.RowKit Go
theorem lay_take (ps : List Pc) (i : Nat) (p : Pc) (h : ps[i]? = some p) : layL (ps.take (i + 1)) = layL (ps.take i) ++ elP p := by
  obtain ⟨hi, rfl⟩ := List.getElem?_eq_some_iff.1 h
  unfold layL
  rw [List.take_succ_eq_append_getElem hi, List.flatMap_append]
  simp
set_option maxRecDepth 100000 in
set_option maxHeartbeats 1600000 in
theorem Layout_any (ps : List Pc) (g cap : Nat) (w : World) (hps : PcsOk ps) (hg : PcsAt w g ps) : Calls Tryd.prog 25 #[.slice (some ⟨g, 0, none⟩) ps.length cap] w (TxtTo (layL ps) 100000 w) := by
  have HPS := hideP hps
  have HG := hideP hg
  have hl : (ps.length : Int) ≤ 100 := by have := hps.1; omega
  clear hps hg
  go_enter Tryd.func25, Tryd.ntmps25
  go_wp2
  go_loopw [3, 4] (fun o k wr => ∃ (i : Nat) (s : ByteArray), k = .int .i64 i ∧ o = .string s ∧ i ≤ ps.length ∧ bl s = layL (ps.take i) ∧ s.size ≤ i * 1000 ∧ Below w.heap.size w wr) (fun _ k _ => ps.length - (intOf k).toNat)
  case atStart => exact ⟨0, ⟨#[]⟩, rfl, rfl, Nat.zero_le _, rfl, by decide, Below.refl _ _⟩
  case round =>
    obtain ⟨i, s, rfl, rfl, hi, hbl, hsz, hb⟩ := hrel
    have HB := hideP hb
    have HBL := hideP hbl
    have HSZ := hideP hsz
    clear hb hbl hsz
    by_cases hlt : (i : Int) < ps.length
    · obtain ⟨p, hp⟩ : ∃ p, ps[i]? = some p := ⟨_, List.getElem?_eq_getElem (by omega)⟩
      obtain ⟨q0, q1, q2, q3⟩ := (HG.out.kept HB.out) i p hp
      have HP := hideP hp
      have HPOK := hideP (HPS.out.2 p (List.mem_of_getElem? hp))
      have hi0 : (0 : Int) ≤ i := by omega
      have HSB := hideP (show s.size ≤ 100000 by have := HSZ.out; omega)
      have HI := hideP (show i + 1 ≤ ps.length by omega)
      clear hp
      go_wp2_with (go_at_call 53; refine (element_any p _ HPOK.out).mono ?_; rintro e w1 ⟨x, rfl, hs, hbl, hb⟩; have HX := hideP hbl; have HBW := hideP hb; have hsum : ¬ 9223372036854775807 < s.size + x.size := (by have := HSB.out; omega); have HS := hideP hs; clear hs hbl hb)
      go_roundw
      case rel =>
        refine ⟨i + 1, s ++ x, by go_num, rfl, HI.out, by rw [bl_append, HBL.out, HX.out, lay_take ps i p HP.out], ?_, HB.out.trans (HBW.out.mono HB.out.size)⟩
        have := HSZ.out; have := HS.out; rw [ByteArray.size_append]; omega
      case measure => have := HI.out; simp [intOf]; omega
    · have hie : i = ps.length := by omega
      have HE := hideP (show ps.take i = ps by rw [hie, List.take_length])
      clear hie
      go_wp2
      go_ret
      exact ⟨s, rfl, by have := HSZ.out; omega, by rw [HBL.out, HE.out], HB.out⟩
end Go.Proofs.YtigabjibdepoiaaDoor.Tm
namespace Go.Proofs.YtigabjibdepoiaaDoor.Tm
set_option linter.unusedSimpArgs false
set_option linter.unusedVariables false
open Go.RowKit Go
/-- A piece that comes in. -/
structure Px where
  k : Int
  tx : ByteArray
  n : Int
  cm : Bool
def pxV (p : Px) : Value := .agg #[.int .i64 p.k, .string p.tx, .int .i64 p.n, .bool p.cm]
def fracI (k : Int) : Bool := decide (k = 33 ∨ k = 34)
def secI (k : Int) : Bool := decide (k = 19 ∨ k = 20)
def zoneI (k : Int) : Bool := decide (22 ≤ k ∧ k ≤ 31)
def touchI (a b : Int) : Bool :=
  if b = 33 ∨ b = 34 then secI a else if b = 21 then decide ((15 ≤ a ∧ a ≤ 20) ∨ a = 33 ∨ a = 34) else if 27 ≤ b ∧ b ≤ 31 then decide (a = 18 ∨ a = 20 ∨ a = 33 ∨ a = 34) else false
theorem rbool {a b : Bool} (h : a = b) : Ending.returned (.bool a) = .returned (.bool b) := by rw [h]
theorem neI {a b : Int} (h : a ≠ b) : (a == b) = false := beq_eq_false_iff_ne.2 h
theorem fracI_any (k : Int) (w : World) : Calls Tryd.prog 46 #[.int .i64 k] w (QuietV (.bool (fracI k)) w) := by
  by_cases h1 : k = 33
  · subst h1
    go_enter Tryd.func46, Tryd.ntmps46
    go_wp2
    go_ret
    exact ⟨rfl, rfl⟩
  by_cases h2 : k = 34
  · subst h2
    go_enter Tryd.func46, Tryd.ntmps46
    go_wp2
    go_ret
    exact ⟨rfl, rfl⟩
  · have q1 := neI h1
    have q2 := neI h2
    have HF := hideP (show false = fracI k from (decide_eq_false (by omega)).symm)
    clear h1 h2
    go_enter Tryd.func46, Tryd.ntmps46
    go_wp2
    go_ret
    exact ⟨rbool HF.out, rfl⟩
theorem secI_any (k : Int) (w : World) : Calls Tryd.prog 70 #[.int .i64 k] w (QuietV (.bool (secI k)) w) := by
  by_cases h1 : k = 19
  · subst h1
    go_enter Tryd.func70, Tryd.ntmps70
    go_wp2
    go_ret
    exact ⟨rfl, rfl⟩
  by_cases h2 : k = 20
  · subst h2
    go_enter Tryd.func70, Tryd.ntmps70
    go_wp2
    go_ret
    exact ⟨rfl, rfl⟩
  · have q1 := neI h1
    have q2 := neI h2
    have HF := hideP (show false = secI k from (decide_eq_false (by omega)).symm)
    clear h1 h2
    go_enter Tryd.func70, Tryd.ntmps70
    go_wp2
    go_ret
    exact ⟨rbool HF.out, rfl⟩
theorem zoneI_any (k : Int) (w : World) : Calls Tryd.prog 47 #[.int .i64 k] w (QuietV (.bool (zoneI k)) w) := by
  go_enter Tryd.func47, Tryd.ntmps47
  go_wp2_with (go_at_call 28; refine (within_any _ _ _ _).mono ?_; rintro e w1 (⟨rfl, q1, q2, rfl⟩ | ⟨rfl, q1, rfl⟩))
  all_goals go_ret
  · exact ⟨rbool (decide_eq_true ⟨q1, q2⟩).symm, rfl⟩
  · exact ⟨rbool (decide_eq_false q1).symm, rfl⟩
set_option maxHeartbeats 1600000 in
theorem touch_any (a b : Int) (w : World) : Calls Tryd.prog 48 #[.int .i64 a, .int .i64 b] w (QuietV (.bool (touchI a b)) w) := by
  by_cases hb1 : b = 33 ∨ b = 34
  · have fb : fracI b = true := decide_eq_true hb1
    have HF := hideP (show secI a = touchI a b by unfold touchI; rw [if_pos hb1])
    clear hb1
    go_enter Tryd.func48, Tryd.ntmps48
    go_wp2_with (first
      | (go_at_call 46; refine (fracI_any _ _).mono ?_; rintro e w1 ⟨rfl, rfl⟩)
      | (go_at_call 70; refine (secI_any _ _).mono ?_; rintro e w1 ⟨rfl, rfl⟩))
    go_ret
    exact ⟨rbool HF.out, rfl⟩
  have fb : fracI b = false := decide_eq_false hb1
  by_cases hb2 : b = 21
  · subst hb2
    have HF := hideP (show decide ((15 ≤ a ∧ a ≤ 20) ∨ a = 33 ∨ a = 34) = touchI a 21 from rfl)
    clear hb1
    go_enter Tryd.func48, Tryd.ntmps48
    go_wp2_with (first
      | (go_at_call 46; refine (fracI_any _ _).mono ?_; rintro e w1 ⟨rfl, rfl⟩)
      | (go_at_call 28; refine (within_any _ _ _ _).mono ?_; rintro e w1 (⟨rfl, q1, q2, rfl⟩ | ⟨rfl, q1, rfl⟩)))
    all_goals go_ret
    · exact ⟨rbool (by rw [← HF.out]; exact (decide_eq_true (.inl ⟨q1, q2⟩)).symm), rfl⟩
    · exact ⟨rbool (by rw [← HF.out]; unfold fracI; rw [decide_eq_decide]; omega), rfl⟩
  have q21 := neI hb2
  by_cases hb3 : 27 ≤ b ∧ b ≤ 31
  · have fi : isoB b = true := by unfold isoB; rw [decide_eq_true hb3.1, decide_eq_true hb3.2]; rfl
    have HF := hideP (show decide (a = 18 ∨ a = 20 ∨ a = 33 ∨ a = 34) = touchI a b by unfold touchI; rw [if_neg hb1, if_neg hb2, if_pos hb3])
    clear hb1 hb2 hb3
    by_cases h18 : a = 18
    · subst h18
      go_enter Tryd.func48, Tryd.ntmps48
      go_wp2_with (first
        | (go_at_call 46; refine (fracI_any _ _).mono ?_; rintro e w1 ⟨rfl, rfl⟩)
        | (go_at_call 71; refine (iso_any _ _).mono ?_; rintro e w1 ⟨rfl, rfl⟩))
      go_ret
      exact ⟨rbool (by rw [← HF.out]; rfl), rfl⟩
    by_cases h20 : a = 20
    · subst h20
      go_enter Tryd.func48, Tryd.ntmps48
      go_wp2_with (first
        | (go_at_call 46; refine (fracI_any _ _).mono ?_; rintro e w1 ⟨rfl, rfl⟩)
        | (go_at_call 71; refine (iso_any _ _).mono ?_; rintro e w1 ⟨rfl, rfl⟩))
      go_ret
      exact ⟨rbool (by rw [← HF.out]; rfl), rfl⟩
    · have a18 := neI h18
      have a20 := neI h20
      have HR := hideP (show fracI a = touchI a b by rw [← HF.out]; unfold fracI; rw [decide_eq_decide]; omega)
      clear h18 h20
      go_enter Tryd.func48, Tryd.ntmps48
      go_wp2_with (first
        | (go_at_call 46; refine (fracI_any _ _).mono ?_; rintro e w1 ⟨rfl, rfl⟩)
        | (go_at_call 71; refine (iso_any _ _).mono ?_; rintro e w1 ⟨rfl, rfl⟩))
      go_ret
      exact ⟨rbool HR.out, rfl⟩
  · have fi : isoB b = false := by unfold isoB; rw [Bool.and_eq_false_iff, decide_eq_false_iff_not, decide_eq_false_iff_not]; omega
    have HF := hideP (show false = touchI a b by unfold touchI; rw [if_neg hb1, if_neg hb2, if_neg hb3])
    clear hb1 hb2 hb3
    go_enter Tryd.func48, Tryd.ntmps48
    go_wp2_with (first
      | (go_at_call 46; refine (fracI_any _ _).mono ?_; rintro e w1 ⟨rfl, rfl⟩)
      | (go_at_call 71; refine (iso_any _ _).mono ?_; rintro e w1 ⟨rfl, rfl⟩))
    go_ret
    exact ⟨rbool HF.out, rfl⟩
def PxFine (p : Px) : Prop := 0 ≤ p.k ∧ p.k ≤ 34 ∧ 0 ≤ p.n ∧ (p.k = 0 → 0 < p.tx.size ∧ p.tx.size ≤ 1000 ∧ ∀ c ∈ bl p.tx, okB c.toNat) ∧ (p.k ≠ 0 → p.tx.size = 0) ∧ (p.k = 33 ∨ p.k = 34 → 1 ≤ p.n ∧ p.n ≤ 9)
theorem fits2_any (p : Px) (w : World) : Calls Tryd.prog 43 #[pxV p] w (BoolTo (p.tx.size ≤ 2147483647) w) := by
  unfold pxV
  by_cases h : (p.tx.size : Int) ≤ 2147483647
  · go_enter Tryd.func43, Tryd.ntmps43
    go_wp2
    go_ret
    exact .inl ⟨rfl, by omega, below_alloc w _⟩
  · go_enter Tryd.func43, Tryd.ntmps43
    go_wp2
    go_ret
    exact .inr ⟨rfl, below_alloc w _⟩
set_option maxRecDepth 100000 in
set_option maxHeartbeats 3200000 in
theorem pieceOk_any (p : Px) (w : World) (hs : p.tx.size ≤ 2147483647) : Calls Tryd.prog 45 #[pxV p] w (BoolTo (PxFine p) w) := by
  obtain ⟨k, tx, n, cm⟩ := p
  have HS := hideP (show tx.size ≤ 140737488351232 from Nat.le_trans hs (by decide))
  unfold pxV
  clear hs
  by_cases hk : k = 0
  · subst hk
    by_cases hz : tx.size = 0
    · obtain rfl := empty_of tx hz
      clear hz
      go_enter Tryd.func45, Tryd.ntmps45
      go_wp2
      go_ret
      exact .inr ⟨rfl, below_alloc w _⟩
    · have t2 : tx.toList ≠ [] := toList_ne tx (by omega)
      have t3 : tx.toList.isEmpty = false := isEmpty_ne tx (by omega)
      have HZ := hideP (show 0 < tx.size by omega)
      clear hz
      by_cases hn : n = 0
      · subst hn
        cases cm
        all_goals
          go_enter Tryd.func45, Tryd.ntmps45
          go_wp2_with (go_at_call 16; refine (plain_any tx _ HS.out).mono ?_; rintro e w1 ⟨b, rfl, hp, rfl⟩; have HP := hideP hp; clear hp; cases b)
          all_goals go_ret
        · exact .inr ⟨rfl, below_alloc w _⟩
        · exact .inl ⟨rfl, ⟨by show (0 : Int) ≤ 0; decide, by show (0 : Int) ≤ 34; decide, by show (0 : Int) ≤ 0; decide, fun _ => ⟨HZ.out, HP.out (by first | trivial | rfl)⟩, fun h => absurd rfl h, fun h => by rcases h with h | h <;> cases h⟩, below_alloc w _⟩
        · exact .inr ⟨rfl, below_alloc w _⟩
        · exact .inr ⟨rfl, below_alloc w _⟩
      · have qn := neI hn
        clear hn
        go_enter Tryd.func45, Tryd.ntmps45
        go_wp2_with (go_at_call 16; refine (plain_any tx _ HS.out).mono ?_; rintro e w1 ⟨b, rfl, hp, rfl⟩; clear hp; cases b)
        all_goals go_ret
        all_goals exact .inr ⟨rfl, below_alloc w _⟩
  have qk := neI hk
  by_cases hf : k = 33 ∨ k = 34
  · have fk : fracI k = true := decide_eq_true hf
    have HF := hideP hf
    clear hk hf
    by_cases hz : tx.size = 0
    · obtain rfl := empty_of tx hz
      clear hz
      go_enter Tryd.func45, Tryd.ntmps45
      go_wp2_with (first
        | (go_at_call 46; refine (fracI_any _ _).mono ?_; rintro e w1 ⟨rfl, rfl⟩)
        | (go_at_call 28; refine (within_any _ _ _ _).mono ?_; rintro e w1 (⟨rfl, q1, q2, rfl⟩ | ⟨rfl, q1, rfl⟩)))
      all_goals go_ret
      · have := HF.out
        exact .inl ⟨rfl, ⟨by show 0 ≤ k; omega, by show k ≤ 34; omega, by show 0 ≤ n; omega, fun h => by have : k = 0 := h; omega, fun _ => rfl, fun _ => ⟨q1, q2⟩⟩, below_alloc w _⟩
      · exact .inr ⟨rfl, below_alloc w _⟩
    · have t2 : tx.toList ≠ [] := toList_ne tx (by omega)
      have t3 : tx.toList.isEmpty = false := isEmpty_ne tx (by omega)
      clear hz
      go_enter Tryd.func45, Tryd.ntmps45
      go_wp2_with (first
        | (go_at_call 46; refine (fracI_any _ _).mono ?_; rintro e w1 ⟨rfl, rfl⟩)
        | (go_at_call 28; refine (within_any _ _ _ _).mono ?_; rintro e w1 (⟨rfl, q1, q2, rfl⟩ | ⟨rfl, q1, rfl⟩)))
      all_goals go_ret
      all_goals exact .inr ⟨rfl, below_alloc w _⟩
  · have fk : fracI k = false := decide_eq_false hf
    have HF := hideP hf
    have HK := hideP hk
    clear hk hf
    by_cases hz : tx.size = 0
    · obtain rfl := empty_of tx hz
      clear hz
      by_cases hn : n = 0
      · subst hn
        cases cm
        all_goals
          go_enter Tryd.func45, Tryd.ntmps45
          go_wp2_with (first
            | (go_at_call 46; refine (fracI_any _ _).mono ?_; rintro e w1 ⟨rfl, rfl⟩)
            | (go_at_call 28; refine (within_any _ _ _ _).mono ?_; rintro e w1 (⟨rfl, q1, q2, rfl⟩ | ⟨rfl, q1, rfl⟩)))
          all_goals go_ret
        · have := HF.out
          exact .inl ⟨rfl, ⟨by show 0 ≤ k; omega, by show k ≤ 34; omega, by show (0 : Int) ≤ 0; decide, fun h => absurd h HK.out, fun _ => rfl, fun h => absurd h HF.out⟩, below_alloc w _⟩
        all_goals exact .inr ⟨rfl, below_alloc w _⟩
      · have qn := neI hn
        clear hn
        go_enter Tryd.func45, Tryd.ntmps45
        go_wp2_with (first
          | (go_at_call 46; refine (fracI_any _ _).mono ?_; rintro e w1 ⟨rfl, rfl⟩)
          | (go_at_call 28; refine (within_any _ _ _ _).mono ?_; rintro e w1 (⟨rfl, q1, q2, rfl⟩ | ⟨rfl, q1, rfl⟩)))
        all_goals go_ret
        all_goals exact .inr ⟨rfl, below_alloc w _⟩
    · have t2 : tx.toList ≠ [] := toList_ne tx (by omega)
      have t3 : tx.toList.isEmpty = false := isEmpty_ne tx (by omega)
      clear hz
      go_enter Tryd.func45, Tryd.ntmps45
      go_wp2_with (first
        | (go_at_call 46; refine (fracI_any _ _).mono ?_; rintro e w1 ⟨rfl, rfl⟩)
        | (go_at_call 28; refine (within_any _ _ _ _).mono ?_; rintro e w1 (⟨rfl, q1, q2, rfl⟩ | ⟨rfl, q1, rfl⟩)))
      all_goals go_ret
      all_goals exact .inr ⟨rfl, below_alloc w _⟩
end Go.Proofs.YtigabjibdepoiaaDoor.Tm
namespace Go.Proofs.YtigabjibdepoiaaDoor.Tm
set_option linter.unusedSimpArgs false
set_option linter.unusedVariables false
open Go.RowKit Go
/-- The row of pieces that came in. -/
def PxAt (w : World) (b o : Nat) (xs : List Px) : Prop := ∀ (i : Nat) (p : Px), xs[i]? = some p →
  w.cell? ⟨b, o + i * 4, none⟩ = some (.int .i64 p.k) ∧ w.cell? ⟨b, o + i * 4 + 1, none⟩ = some (.string p.tx) ∧ w.cell? ⟨b, o + i * 4 + 2, none⟩ = some (.int .i64 p.n) ∧ w.cell? ⟨b, o + i * 4 + 3, none⟩ = some (.bool p.cm)
theorem PxAt.kept {w w' : World} {b o : Nat} {xs : List Px} (h : PxAt w b o xs) (hb : Below w.heap.size w w') : PxAt w' b o xs := by
  intro i p hp
  obtain ⟨h0, h1, h2, h3⟩ := h i p hp
  exact ⟨(hb.cell (World.block_lt_of_cell? _ _ h0)).trans h0, (hb.cell (World.block_lt_of_cell? _ _ h1)).trans h1, (hb.cell (World.block_lt_of_cell? _ _ h2)).trans h2, (hb.cell (World.block_lt_of_cell? _ _ h3)).trans h3⟩
def FitsAll (xs : List Px) : Prop := xs.length ≤ 2147483647 ∧ ∀ p ∈ xs, p.tx.size ≤ 2147483647
set_option maxRecDepth 100000 in
set_option maxHeartbeats 3200000 in
theorem fits1_any (xs : List Px) (b o cap : Nat) (w : World) (hg : PxAt w b o xs) : Calls Tryd.prog 19 #[.slice (some ⟨b, o, none⟩) xs.length cap] w (BoolTo (FitsAll xs) w) := by
  by_cases hm : (xs.length : Int) ≤ 2147483647
  case neg =>
    clear hg
    go_enter Tryd.func19, Tryd.ntmps19
    go_wp2
    go_ret
    exact .inr ⟨rfl, Below.refl _ _⟩
  have HG := hideP hg
  clear hg
  go_enter Tryd.func19, Tryd.ntmps19
  go_wp2
  go_loopw [10] (fun k wr => ∃ i : Nat, k = .int .i64 i ∧ i ≤ xs.length ∧ (∀ j p, j < i → xs[j]? = some p → p.tx.size ≤ 2147483647) ∧ Below w.heap.size w wr) (fun k _ => xs.length - (intOf k).toNat)
  case atStart => exact ⟨0, rfl, Nat.zero_le _, fun j p h => absurd h (Nat.not_lt_zero _), Below.refl _ _⟩
  case round =>
    obtain ⟨i, rfl, hi, hd, hb⟩ := hrel
    have HB := hideP hb
    have HD := hideP hd
    clear hb hd
    by_cases hlt : (i : Int) < xs.length
    · obtain ⟨p, hp⟩ : ∃ p, xs[i]? = some p := ⟨_, List.getElem?_eq_getElem (by omega)⟩
      obtain ⟨q0, q1, q2, q3⟩ := (HG.out.kept HB.out) i p hp
      have HP := hideP hp
      have hi0 : (0 : Int) ≤ i := by omega
      have HI := hideP (show i + 1 ≤ xs.length by omega)
      clear hp
      go_wp2_with (go_at_call 43; refine (fits2_any p _).mono ?_; rintro e w1 (⟨rfl, hz, hb⟩ | ⟨rfl, hb⟩) <;> (try (have HZ := hideP hz; clear hz)) <;> (have HB2 := hideP hb; clear hb))
      · refine ⟨⟨i + 1, by go_num, HI.out, fun j q hj hq => ?_, HB.out.trans (((below_alloc wr _).trans (HB2.out.mono (by simp))).mono HB.out.size)⟩, ?_⟩
        · by_cases hji : j < i
          · exact HD.out j q hji hq
          · obtain rfl : j = i := by omega
            obtain rfl := Option.some.inj (HP.out.symm.trans hq)
            exact HZ.out
        · have := HI.out; simp [intOf]; omega
      · go_ret
        exact .inr ⟨rfl, HB.out.trans (((below_alloc wr _).trans (HB2.out.mono (by simp))).mono HB.out.size)⟩
    · go_wp2
      go_ret
      exact .inl ⟨rfl, ⟨by omega, fun p hp => by obtain ⟨j, hj, rfl⟩ := List.getElem_of_mem hp; exact HD.out j _ (by omega) (List.getElem?_eq_getElem hj)⟩, HB.out⟩
theorem quiet_left {P : Program} {f : FuncId} {args : Array Value} {w : World} {n : Nat} {v : Value}
    (h : Calls P f args (w.drewN n) fun e w' => e = .returned v ∧ w.drewN n = w') : Calls P f args (w.drewN n) fun e w'' => e = .returned v ∧ ∃ m, w'' = w.drewN m :=
  h.mono fun _ _ ⟨he, hm⟩ => ⟨he, n, hm.symm⟩
theorem below_dnP {B : Nat} {a w : World} (h : Below B a w) (n : Nat) : Below B a (w.drewN n) := ⟨h.os, h.tape, h.output, h.size, h.block⟩
def PairX (p q : Px) : Prop := (q.k = 0 → zoneI p.k = true → ∀ c, (bl q.tx)[0]? = some c → c.toNat ≠ 58) ∧ (q.k ≠ 0 → (p.k ≠ 0 ∨ fracI q.k = true) → touchI p.k q.k = true)
def PxsOk (xs : List Px) : Prop := xs.length ≤ 100 ∧ (∀ p ∈ xs, PxFine p) ∧ ∀ (i : Nat) (p q : Px), xs[i]? = some p → xs[i + 1]? = some q → PairX p q
def InvX (xs : List Px) (i : Nat) : Prop := (∀ (j : Nat) (p : Px), j < i → xs[j]? = some p → PxFine p) ∧ ∀ (j : Nat) (p q : Px), j + 1 < i → xs[j]? = some p → xs[j + 1]? = some q → PairX p q
theorem invX_step {xs : List Px} {i : Nat} {p : Px} (h : InvX xs i) (hp : xs[i]? = some p) (hf : PxFine p) (hq : ∀ (m : Nat) (q : Px), i = m + 1 → xs[m]? = some q → PairX q p) : InvX xs (i + 1) := by
  refine ⟨fun j q hj hjq => ?_, fun j a b hj ha hb => ?_⟩
  · by_cases hji : j < i
    · exact h.1 j q hji hjq
    · obtain rfl : j = i := by omega
      obtain rfl := Option.some.inj (hp.symm.trans hjq)
      exact hf
  · by_cases hji : j + 1 < i
    · exact h.2 j a b hji ha hb
    · have hij : i = j + 1 := by omega
      subst hij
      obtain rfl := Option.some.inj (hp.symm.trans hb)
      exact hq j a rfl ha
theorem invX_end {xs : List Px} (h : InvX xs xs.length) (hl : xs.length ≤ 100) : PxsOk xs :=
  ⟨hl, fun p hp => by obtain ⟨j, hj, rfl⟩ := List.getElem_of_mem hp; exact h.1 j _ hj (List.getElem?_eq_getElem hj), fun i p q hp hq => h.2 i p q (List.getElem?_eq_some_iff.1 hq).1 hp hq⟩
set_option maxRecDepth 100000 in
set_option maxHeartbeats 12800000 in
theorem piecesOk_any (xs : List Px) (b o cap : Nat) (w : World) (hfit : FitsAll xs) (hg : PxAt w b o xs) : Calls Tryd.prog 21 #[.slice (some ⟨b, o, none⟩) xs.length cap] w (BoolTo (PxsOk xs) w) := by
  have HG := hideP hg
  have hln : (xs.length : Int) ≤ 2147483647 := by have := hfit.1; omega
  have HFIT := hideP hfit.2
  clear hg hfit
  go_enter Tryd.func21, Tryd.ntmps21
  go_wp2
  go_loopw [3, 4] (fun fr k wr => ∃ (i n : Nat), k = .int .i64 i ∧ fr = .int .i64 n ∧ i ≤ xs.length ∧ n ≤ i ∧ Hd (InvX xs i) ∧ Below w.heap.size w wr) (fun _ k _ => xs.length - (intOf k).toNat)
  case atStart => exact ⟨0, 0, rfl, rfl, Nat.zero_le _, Nat.le_refl _, hideP ⟨fun j p h => absurd h (Nat.not_lt_zero _), fun j p q h => absurd h (by omega)⟩, Below.refl _ _⟩
  case round =>
    obtain ⟨i, n, rfl, rfl, hi, hni, HIV, hb⟩ := hrel
    have HB := hideP hb
    clear hb
    have hi0 : (0 : Int) ≤ i := by omega
    have hn0 : (0 : Int) ≤ n := by omega
    have hnb : (n : Int) ≤ 2147483647 := by omega
    have HNI := hideP hni
    clear hni
    by_cases hlt : (i : Int) < xs.length
    · obtain ⟨p, hp⟩ : ∃ p, xs[i]? = some p := ⟨_, List.getElem?_eq_getElem (by omega)⟩
      obtain ⟨q0, q1, q2, q3⟩ := (HG.out.kept HB.out) i p hp
      have HP := hideP hp
      have HPS := hideP (HFIT.out p (List.mem_of_getElem? hp))
      have HI := hideP (show i + 1 ≤ xs.length by omega)
      clear hp
      go_wp2_with (fail)
      refine (pieceOk_any p _ HPS.out).mono ?_
      rintro e w1 (⟨rfl, hf, hb⟩ | ⟨rfl, hb⟩)
      case inr =>
        have HB1 := hideP (HB.out.trans (hb.mono HB.out.size))
        clear hb
        go_wp2
        go_ret
        exact .inr ⟨rfl, HB1.out⟩
      have HB1 := hideP (HB.out.trans (hb.mono HB.out.size))
      have HF := hideP hf
      clear hb hf q0 q1 q2 q3
      obtain ⟨q0, q1, q2, q3⟩ := (HG.out.kept HB1.out) i p HP.out
      by_cases hz0 : i = 0
      · have hz : ((i : Int) == 0) = true := beq_iff_eq.2 (by omega)
        have hn : ¬ (0 : Int) < i := by omega
        have HST := hideP (show ∀ (m : Nat) (q : Px), i = m + 1 → xs[m]? = some q → PairX q p from fun m q h => by omega)
        clear hz0
        cases hfr : fracI p.k
        · go_wp2_with (go_at_call 46; refine (fracI_any _ _).mono ?_; rintro e w2 ⟨rfl, rfl⟩)
          go_quiet (fail)
          go_wp2
          refine ⟨⟨i + 1, n, by go_num, rfl, HI.out, by have := HNI.out; omega, hideP (invX_step HIV.out HP.out HF.out HST.out), below_dnP HB1.out _⟩, ?_⟩
          have := HI.out; simp [intOf]; omega
        · go_wp2_with (go_at_call 46; refine (fracI_any _ _).mono ?_; rintro e w2 ⟨rfl, rfl⟩)
          go_ret
          exact .inr ⟨rfl, HB1.out⟩
      · obtain ⟨m, hm⟩ : ∃ m : Nat, i = m + 1 := ⟨i - 1, by omega⟩
        obtain ⟨q, hq⟩ : ∃ q, xs[m]? = some q := ⟨_, List.getElem?_eq_getElem (by omega)⟩
        obtain ⟨r0, r1, r2, r3⟩ := (HG.out.kept HB1.out) m q hq
        have hz : ((i : Int) == 0) = false := beq_eq_false_iff_ne.2 (by omega)
        have hpos : (0 : Int) < i := by omega
        have hm1 : (i : Int) - 1 = m := by omega
        have hm0 : (0 : Int) ≤ m := by omega
        have hml : (m : Int) < xs.length := by omega
        have HST := hideP (show PairX q p → ∀ (m2 : Nat) (q2 : Px), i = m2 + 1 → xs[m2]? = some q2 → PairX q2 p from fun hpq m2 q2 h h2 => by
          obtain rfl : m2 = m := by omega
          obtain rfl := Option.some.inj (hq.symm.trans h2)
          exact hpq)
        clear hz0 hm hq
        by_cases hk : p.k = 0
        · have k1 : (p.k == 0) = true := beq_iff_eq.2 hk
          have k2 : (p.k != 0) = false := by rw [bne, k1]; rfl
          have hfr : fracI p.k = false := by unfold fracI; rw [decide_eq_false_iff_not]; omega
          have hsz : 0 < p.tx.size := (HF.out.2.2.2.1 hk).1
          have hszi : (0 : Int) < p.tx.size := by omega
          have HK := hideP hk
          clear hk
          cases hzn : zoneI q.k
          · have HPQ := hideP (show PairX q p from ⟨fun _ h2 => (by rw [hzn] at h2; cases h2), fun h => absurd HK.out h⟩)
            go_wp2_with (first
              | (go_at_call 46; refine (fracI_any _ _).mono ?_; rintro e w2 ⟨rfl, rfl⟩)
              | (go_at_call 47; refine (zoneI_any _ _).mono ?_; rintro e w2 ⟨rfl, rfl⟩))
            go_quiet (fail)
            go_wp2
            refine ⟨⟨i + 1, n, by go_num, rfl, HI.out, by have := HNI.out; omega, hideP (invX_step HIV.out HP.out HF.out (HST.out HPQ.out)), below_dnP HB1.out _⟩, ?_⟩
            have := HI.out; simp [intOf]; omega
          · cases hcol : ((p.tx[0].toNat : Int) == 58)
            · have HPQ := hideP (show PairX q p from ⟨fun _ _ c hc => (by
                have h0 : (bl p.tx)[0]? = some p.tx[0] := by rw [List.getElem?_eq_getElem (by rw [bl_length]; exact hsz)]; rfl
                obtain rfl := Option.some.inj (h0.symm.trans hc)
                rw [beq_eq_false_iff_ne] at hcol
                omega), fun h => absurd HK.out h⟩)
              go_wp2_with (first
                | (go_at_call 46; refine (fracI_any _ _).mono ?_; rintro e w2 ⟨rfl, rfl⟩)
                | (go_at_call 47; refine (zoneI_any _ _).mono ?_; rintro e w2 ⟨rfl, rfl⟩))
              go_quiet (fail)
              go_wp2
              refine ⟨⟨i + 1, n, by go_num, rfl, HI.out, by have := HNI.out; omega, hideP (invX_step HIV.out HP.out HF.out (HST.out HPQ.out)), below_dnP HB1.out _⟩, ?_⟩
              have := HI.out; simp [intOf]; omega
            · go_wp2_with (first
                | (go_at_call 46; refine (fracI_any _ _).mono ?_; rintro e w2 ⟨rfl, rfl⟩)
                | (go_at_call 47; refine (zoneI_any _ _).mono ?_; rintro e w2 ⟨rfl, rfl⟩))
              go_ret
              exact .inr ⟨rfl, HB1.out⟩
        · have k1 : (p.k == 0) = false := beq_eq_false_iff_ne.2 hk
          have k2 : (p.k != 0) = true := by rw [bne, k1]; rfl
          have HK := hideP hk
          clear hk
          by_cases hqk : q.k = 0
          · have s1 : (q.k == 0) = true := beq_iff_eq.2 hqk
            have s2 : (q.k != 0) = false := by rw [bne, s1]; rfl
            have HQK := hideP hqk
            clear hqk
            cases hfr : fracI p.k
            · have HPQ := hideP (show PairX q p from ⟨fun h => absurd h HK.out, fun _ h => by rcases h with h | h; exact absurd HQK.out h; rw [hfr] at h; cases h⟩)
              go_wp2_with (go_at_call 46; refine (fracI_any _ _).mono ?_; rintro e w2 ⟨rfl, rfl⟩)
              go_quiet ((go_at_call 46; exact quiet_left (fracI_any _ _)))
              go_wp2
              refine ⟨⟨i + 1, n, by go_num, rfl, HI.out, by have := HNI.out; omega, hideP (invX_step HIV.out HP.out HF.out (HST.out HPQ.out)), below_dnP HB1.out _⟩, ?_⟩
              have := HI.out; simp [intOf]; omega
            · cases hto : touchI q.k p.k
              · go_wp2_with (go_at_call 46; refine (fracI_any _ _).mono ?_; rintro e w2 ⟨rfl, rfl⟩)
                go_quiet (first | (go_at_call 46; exact quiet_left (fracI_any _ _)) | (go_at_call 48; exact quiet_left (touch_any _ _ _)))
                go_wp2
                go_ret
                exact .inr ⟨rfl, below_dnP HB1.out _⟩
              · have HPQ := hideP (show PairX q p from ⟨fun h => absurd h HK.out, fun _ _ => hto⟩)
                go_wp2_with (go_at_call 46; refine (fracI_any _ _).mono ?_; rintro e w2 ⟨rfl, rfl⟩)
                go_quiet (first | (go_at_call 46; exact quiet_left (fracI_any _ _)) | (go_at_call 48; exact quiet_left (touch_any _ _ _)))
                go_wp2
                refine ⟨⟨i + 1, n + 1, by go_num, by go_num, HI.out, by have := HNI.out; omega, hideP (invX_step HIV.out HP.out HF.out (HST.out HPQ.out)), below_dnP HB1.out _⟩, ?_⟩
                have := HI.out; simp [intOf]; omega
          · have s1 : (q.k == 0) = false := beq_eq_false_iff_ne.2 hqk
            have s2 : (q.k != 0) = true := by rw [bne, s1]; rfl
            clear hqk
            cases hto : touchI q.k p.k <;> cases hfr : fracI p.k
            all_goals
              go_wp2_with (go_at_call 46; refine (fracI_any _ _).mono ?_; rintro e w2 ⟨rfl, rfl⟩)
              go_quiet (first | (go_at_call 46; exact quiet_left (fracI_any _ _)) | (go_at_call 48; exact quiet_left (touch_any _ _ _)))
              go_wp2
            · go_ret; exact .inr ⟨rfl, below_dnP HB1.out _⟩
            · go_ret; exact .inr ⟨rfl, below_dnP HB1.out _⟩
            · have HPQ := hideP (show PairX q p from ⟨fun h => absurd h HK.out, fun _ _ => hto⟩)
              refine ⟨⟨i + 1, n, by go_num, rfl, HI.out, by have := HNI.out; omega, hideP (invX_step HIV.out HP.out HF.out (HST.out HPQ.out)), below_dnP HB1.out _⟩, ?_⟩
              have := HI.out; simp [intOf]; omega
            · have HPQ := hideP (show PairX q p from ⟨fun h => absurd h HK.out, fun _ _ => hto⟩)
              refine ⟨⟨i + 1, n + 1, by go_num, by go_num, HI.out, by have := HNI.out; omega, hideP (invX_step HIV.out HP.out HF.out (HST.out HPQ.out)), below_dnP HB1.out _⟩, ?_⟩
              have := HI.out; simp [intOf]; omega
    · obtain rfl : i = xs.length := by omega
      by_cases h100 : (xs.length : Int) ≤ 100
      · by_cases h1 : (n : Int) ≤ 1
        · have HE := hideP (invX_end HIV.out (by omega))
          go_wp2
          go_ret
          exact .inl ⟨by first | rfl | simp, HE.out, HB.out⟩
        · go_wp2
          go_ret
          exact .inr ⟨by first | rfl | simp, HB.out⟩
      · go_wp2
        go_ret
        exact .inr ⟨by first | rfl | simp, HB.out⟩
end Go.Proofs.YtigabjibdepoiaaDoor.Tm
namespace Go.Proofs.YtigabjibdepoiaaDoor.Tm
set_option linter.unusedSimpArgs false
set_option linter.unusedVariables false
open Go.RowKit Go
def PcsO (w : World) (g o : Nat) (ps : List Pc) : Prop := ∀ (i : Nat) (p : Pc), ps[i]? = some p →
  w.cell? ⟨g, o + i * 4, none⟩ = some (.int .i64 p.k) ∧ w.cell? ⟨g, o + i * 4 + 1, none⟩ = some (.string p.tx) ∧ w.cell? ⟨g, o + i * 4 + 2, none⟩ = some (.int .i64 p.n) ∧ w.cell? ⟨g, o + i * 4 + 3, none⟩ = some (.bool p.cm)
theorem PcsO.kept {w w' : World} {g o : Nat} {ps : List Pc} (h : PcsO w g o ps) (hb : Below w.heap.size w w') : PcsO w' g o ps := by
  intro i p hp
  obtain ⟨h0, h1, h2, h3⟩ := h i p hp
  exact ⟨(hb.cell (World.block_lt_of_cell? _ _ h0)).trans h0, (hb.cell (World.block_lt_of_cell? _ _ h1)).trans h1, (hb.cell (World.block_lt_of_cell? _ _ h2)).trans h2, (hb.cell (World.block_lt_of_cell? _ _ h3)).trans h3⟩
/-- The pieces that came in, as pieces of the reference. -/
def pcOf (p : Px) : Pc := ⟨p.k.toNat, p.tx, p.n.toNat, p.cm⟩
theorem pxs_pcs {xs : List Px} (h : PxsOk xs) : PsOk (xs.map pcOf) ∧ PcsOk (xs.map pcOf) ∧ ∀ (w : World) (g o : Nat), PxAt w g o xs → PcsO w g o (xs.map pcOf) := by
  obtain ⟨h1, h2, h3⟩ := h
  have fine : ∀ p, PxFine p → pcFine (pcOf p) := fun p ⟨a, b, c, d, e, f⟩ => ⟨by show p.k.toNat ≤ 34; omega, fun h => d (by have : p.k.toNat = 0 := h; omega), fun h => e (fun h0 => h (by show p.k.toNat = 0; omega)), fun h => by
    have : p.k.toNat = 33 ∨ p.k.toNat = 34 := h
    have := f (by omega)
    show 1 ≤ p.n.toNat ∧ p.n.toNat ≤ 9
    omega⟩
  have hfine : ∀ p ∈ xs.map pcOf, pcFine p := fun p hp => by
    obtain ⟨x, hx, rfl⟩ := List.mem_map.1 hp
    exact fine x (h2 x hx)
  refine ⟨⟨hfine, fun i p q hp hq => ?_⟩, ⟨by rw [List.length_map]; exact h1, fun p hp => psFine_ok (hfine p hp)⟩, fun w g o hg i p hp => ?_⟩
  · rw [List.getElem?_map] at hp hq
    obtain ⟨x, hx, rfl⟩ := Option.map_eq_some_iff.1 hp
    obtain ⟨y, hy, rfl⟩ := Option.map_eq_some_iff.1 hq
    obtain ⟨p1, p2⟩ := h3 i x y hx hy
    obtain ⟨a, b, _⟩ := h2 x (List.mem_of_getElem? hx)
    obtain ⟨a', b', _⟩ := h2 y (List.mem_of_getElem? hy)
    refine ⟨fun hk hz c hc => p1 (by have : y.k.toNat = 0 := hk; omega) ?_ c hc, fun hk ho => ?_⟩
    · have hz2 : (decide (22 ≤ x.k.toNat) && decide (x.k.toNat ≤ 31)) = true := hz
      rw [Bool.and_eq_true, decide_eq_true_eq, decide_eq_true_eq] at hz2
      exact decide_eq_true (by omega)
    · have ht := p2 (by intro h0; exact hk (by show y.k.toNat = 0; omega)) (by
        rcases ho with ho | ho | ho
        · exact .inl (fun h0 => ho (by show x.k.toNat = 0; omega))
        · exact .inr (decide_eq_true (.inl (by have : y.k.toNat = 33 := ho; omega)))
        · exact .inr (decide_eq_true (.inr (by have : y.k.toNat = 34 := ho; omega))))
      show touchB x.k.toNat y.k.toNat = true
      unfold touchI secI at ht
      unfold touchB
      by_cases c1 : y.k = 33 ∨ y.k = 34
      · rw [if_pos c1] at ht; rw [if_pos (by omega), decide_eq_true_eq]; have := of_decide_eq_true ht; omega
      · rw [if_neg c1] at ht; rw [if_neg (by omega)]
        by_cases c2 : y.k = 21
        · rw [if_pos c2] at ht; rw [if_pos (by omega), decide_eq_true_eq]; have := of_decide_eq_true ht; omega
        · rw [if_neg c2] at ht; rw [if_neg (by omega)]
          by_cases c3 : 27 ≤ y.k ∧ y.k ≤ 31
          · rw [if_pos c3] at ht; rw [if_pos (by omega), decide_eq_true_eq]; have := of_decide_eq_true ht; omega
          · rw [if_neg c3] at ht; cases ht
  · rw [List.getElem?_map] at hp
    obtain ⟨x, hx, rfl⟩ := Option.map_eq_some_iff.1 hp
    obtain ⟨q0, q1, q2, q3⟩ := hg i x hx
    obtain ⟨a, _, c, _⟩ := h2 x (List.mem_of_getElem? hx)
    refine ⟨by rw [q0]; show some (Value.int .i64 x.k) = some (.int .i64 (x.k.toNat : Int)); rw [Int.toNat_of_nonneg a], q1, by rw [q2]; show some (Value.int .i64 x.n) = some (.int .i64 (x.n.toNat : Int)); rw [Int.toNat_of_nonneg c], q3⟩
set_option maxRecDepth 100000 in
set_option maxHeartbeats 1600000 in
theorem Layout_o (ps : List Pc) (g o cap : Nat) (w : World) (hps : PcsOk ps) (hg : PcsO w g o ps) : Calls Tryd.prog 25 #[.slice (some ⟨g, o, none⟩) ps.length cap] w (TxtTo (layL ps) 100000 w) := by
  have HPS := hideP hps
  have HG := hideP hg
  have hl : (ps.length : Int) ≤ 100 := by have := hps.1; omega
  clear hps hg
  go_enter Tryd.func25, Tryd.ntmps25
  go_wp2
  go_loopw [3, 4] (fun o k wr => ∃ (i : Nat) (s : ByteArray), k = .int .i64 i ∧ o = .string s ∧ i ≤ ps.length ∧ bl s = layL (ps.take i) ∧ s.size ≤ i * 1000 ∧ Below w.heap.size w wr) (fun _ k _ => ps.length - (intOf k).toNat)
  case atStart => exact ⟨0, ⟨#[]⟩, rfl, rfl, Nat.zero_le _, rfl, by decide, Below.refl _ _⟩
  case round =>
    obtain ⟨i, s, rfl, rfl, hi, hbl, hsz, hb⟩ := hrel
    have HB := hideP hb
    have HBL := hideP hbl
    have HSZ := hideP hsz
    clear hb hbl hsz
    by_cases hlt : (i : Int) < ps.length
    · obtain ⟨p, hp⟩ : ∃ p, ps[i]? = some p := ⟨_, List.getElem?_eq_getElem (by omega)⟩
      obtain ⟨q0, q1, q2, q3⟩ := (HG.out.kept HB.out) i p hp
      have HP := hideP hp
      have HPOK := hideP (HPS.out.2 p (List.mem_of_getElem? hp))
      have hi0 : (0 : Int) ≤ i := by omega
      have HSB := hideP (show s.size ≤ 100000 by have := HSZ.out; omega)
      have HI := hideP (show i + 1 ≤ ps.length by omega)
      clear hp
      go_wp2_with (go_at_call 53; refine (element_any p _ HPOK.out).mono ?_; rintro e w1 ⟨x, rfl, hs, hbl, hb⟩; have HX := hideP hbl; have HBW := hideP hb; have hsum : ¬ 9223372036854775807 < s.size + x.size := (by have := HSB.out; omega); have HS := hideP hs; clear hs hbl hb)
      go_roundw
      case rel =>
        refine ⟨i + 1, s ++ x, by go_num, rfl, HI.out, by rw [bl_append, HBL.out, HX.out, lay_take ps i p HP.out], ?_, HB.out.trans (HBW.out.mono HB.out.size)⟩
        have := HSZ.out; have := HS.out; rw [ByteArray.size_append]; omega
      case measure => have := HI.out; simp [intOf]; omega
    · have hie : i = ps.length := by omega
      have HE := hideP (show ps.take i = ps by rw [hie, List.take_length])
      clear hie
      go_wp2
      go_ret
      exact ⟨s, rfl, by have := HSZ.out; omega, by rw [HBL.out, HE.out], HB.out⟩
set_option maxRecDepth 100000 in
set_option maxHeartbeats 1600000 in
theorem Written_o (t : Tm) (hO : TmOk t) (ps : List Pc) (g o cap : Nat) (w : World) (hps : PcsOk ps) (hg : PcsO w g o ps) :
    Calls Tryd.prog 26 #[.slice (some ⟨g, o, none⟩) ps.length cap, cvV t] w (TxtTo (writAll t ps) 100000 w) := by
  have HO := hideP hO
  have HPS := hideP hps
  have HG := hideP (hg.kept (below_alloc w (.cells #[.int .i64 t.y, .int .i64 t.mo, .int .i64 t.d, .int .i64 t.h, .int .i64 t.mi, .int .i64 t.s, .int .i64 t.ns, .string t.zn, .int .i64 t.off] 28)))
  have hl : (ps.length : Int) ≤ 100 := by have := hps.1; omega
  clear hO hps hg
  unfold cvV
  go_enter Tryd.func26, Tryd.ntmps26
  go_wp2
  obtain ⟨W, hW⟩ : ∃ W, W = w.alloc (.cells #[.int .i64 t.y, .int .i64 t.mo, .int .i64 t.d, .int .i64 t.h, .int .i64 t.mi, .int .i64 t.s, .int .i64 t.ns, .string t.zn, .int .i64 t.off] 28) := ⟨_, rfl⟩
  go_loopw [5, 6] (fun o k wr => ∃ (i : Nat) (s : ByteArray), k = .int .i64 i ∧ o = .string s ∧ i ≤ ps.length ∧ bl s = writAll t (ps.take i) ∧ s.size ≤ i * 1000 ∧ Below W.heap.size W wr) (fun _ k _ => ps.length - (intOf k).toNat)
  case atStart => exact ⟨0, ⟨#[]⟩, rfl, rfl, Nat.zero_le _, rfl, by decide, by rw [hW]; exact Below.refl _ _⟩
  case round =>
    obtain ⟨i, s, rfl, rfl, hi, hbl, hsz, hb⟩ := hrel
    have HB := hideP hb
    have HBL := hideP hbl
    have HSZ := hideP hsz
    have HWQ := hideP hW
    clear hb hbl hsz hW
    by_cases hlt : (i : Int) < ps.length
    · obtain ⟨p, hp⟩ : ∃ p, ps[i]? = some p := ⟨_, List.getElem?_eq_getElem (by omega)⟩
      have hgw := (show PcsO W g o ps by rw [HWQ.out]; exact HG.out).kept HB.out
      have hcb := (show CB w.heap.size t W by rw [HWQ.out]; exact cb_new t w _).kept HB.out
      have hpe := hgw i p hp
      obtain ⟨q0, q1, q2, q3⟩ := hpe
      have HPE := hideP (And.intro hgw hcb)
      obtain ⟨c0, c1, c2, c3, c4, c5, c6, c7, c8⟩ := hcb
      have HP := hideP hp
      have HPOK := hideP (HPS.out.2 p (List.mem_of_getElem? hp))
      have hi0 : (0 : Int) ≤ i := by omega
      have HSB := hideP (show s.size ≤ 100000 by have := HSZ.out; omega)
      have HI := hideP (show i + 1 ≤ ps.length by omega)
      clear hgw hp
      go_wp2_with (fail)
      go_region_held3 (fun w' => w'.cell? ⟨g, o + i * 4, none⟩ = some (.int .i64 p.k) ∧ w'.cell? ⟨g, o + i * 4 + 1, none⟩ = some (.string p.tx) ∧ w'.cell? ⟨g, o + i * 4 + 2, none⟩ = some (.int .i64 p.n) ∧ w'.cell? ⟨g, o + i * 4 + 3, none⟩ = some (.bool p.cm) ∧ w'.cell? ⟨w.heap.size, 0, none⟩ = some (.int .i64 t.y) ∧ w'.cell? ⟨w.heap.size, 1, none⟩ = some (.int .i64 t.mo) ∧ w'.cell? ⟨w.heap.size, 2, none⟩ = some (.int .i64 t.d) ∧ w'.cell? ⟨w.heap.size, 3, none⟩ = some (.int .i64 t.h) ∧ w'.cell? ⟨w.heap.size, 4, none⟩ = some (.int .i64 t.mi) ∧ w'.cell? ⟨w.heap.size, 5, none⟩ = some (.int .i64 t.s) ∧ w'.cell? ⟨w.heap.size, 6, none⟩ = some (.int .i64 t.ns) ∧ w'.cell? ⟨w.heap.size, 7, none⟩ = some (.string t.zn) ∧ w'.cell? ⟨w.heap.size, 8, none⟩ = some (.int .i64 t.off)) (go_keep)
        (first | (go_at_call 54; refine (written_any t HO.out p _ HPOK.out).mono ?_; rintro e w1 ⟨x, rfl, hs, hbl, hb⟩; have HX := hideP hbl; have HBW := hideP hb; have hsum : ¬ 9223372036854775807 < s.size + x.size := (by have := HSB.out; omega); have HS := hideP hs; obtain ⟨q0', q1', q2', q3'⟩ := (HPE.out.1.kept (((Below.refl _ _).drew).trans hb)) i p HP.out; obtain ⟨c0', c1', c2', c3', c4', c5', c6', c7', c8'⟩ := HPE.out.2.kept (((Below.refl _ _).drew).trans hb); clear hs hbl hb))
      go_wp2
      refine ⟨⟨i + 1, s ++ x, by go_num, rfl, HI.out, by rw [bl_append, HBL.out, HX.out, writ_take t ps i p HP.out], ?_, HB.out.trans ((((Below.refl _ _).drew).trans HBW.out).mono HB.out.size)⟩, ?_⟩
      · have := HSZ.out; have := HS.out; rw [ByteArray.size_append]; omega
      · have := HI.out; simp [intOf]; omega
    · have hie : i = ps.length := by omega
      have HE := hideP (show ps.take i = ps by rw [hie, List.take_length])
      clear hie
      go_wp2
      go_ret
      exact ⟨s, rfl, by have := HSZ.out; omega, by rw [HBL.out, HE.out], (by rw [HWQ.out] at HB; exact (below_alloc w _).trans (HB.out.mono (by simp)))⟩
set_option maxRecDepth 100000 in
set_option maxHeartbeats 1600000 in
theorem Fits_o (t : Tm) (hO : TmOk t) (ps : List Pc) (g o cap : Nat) (w : World) (hps : PcsOk ps) (hg : PcsO w g o ps) :
    Calls Tryd.prog 23 #[.slice (some ⟨g, o, none⟩) ps.length cap, cvV t] w (SomeB w) := by
  have HO := hideP hO
  have HPS := hideP hps
  have HG := hideP (hg.kept (below_alloc w (.cells #[.int .i64 t.y, .int .i64 t.mo, .int .i64 t.d, .int .i64 t.h, .int .i64 t.mi, .int .i64 t.s, .int .i64 t.ns, .string t.zn, .int .i64 t.off] 28)))
  have hl : (ps.length : Int) ≤ 100 := by have := hps.1; omega
  have o1 := hO.off0
  have o2 := hO.off1
  clear hO hps hg
  unfold cvV
  go_enter Tryd.func23, Tryd.ntmps23
  go_wp2
  go_loop [5] (fun k => ∃ i : Nat, k = .int .i64 i ∧ i ≤ ps.length) (fun k => ps.length - (intOf k).toNat)
  case atStart => exact ⟨0, rfl, Nat.zero_le _⟩
  case round =>
    obtain ⟨i, rfl, hi⟩ := hrel
    by_cases hlt : (i : Int) < ps.length
    · obtain ⟨p, hp⟩ : ∃ p, ps[i]? = some p := ⟨_, List.getElem?_eq_getElem (by omega)⟩
      obtain ⟨q0, q1, q2, q3⟩ := HG.out i p hp
      have hpk : (p.k : Int) ≤ 34 := by have := (HPS.out.2 p (List.mem_of_getElem? hp)).1; omega
      have hi0 : (0 : Int) ≤ i := by omega
      have HI := hideP (show i + 1 ≤ ps.length by omega)
      clear hp q1 q2 q3
      generalize p.k = K at *
      go_wp2
      all_goals first
        | (refine ⟨⟨i + 1, by go_num, HI.out⟩, ?_⟩; have := HI.out; simp [intOf]; omega)
        | (go_ret; exact ⟨_, rfl, below_alloc w _⟩)
    · go_wp2
      go_ret
      exact ⟨true, rfl, below_alloc w _⟩
end Go.Proofs.YtigabjibdepoiaaDoor.Tm
namespace Go.Proofs.YtigabjibdepoiaaDoor.Tm
set_option linter.unusedSimpArgs false
set_option linter.unusedVariables false
open Go.RowKit Go
/-- What the walk asks of an argument that is a row of pieces. -/
structure PieceArg (w : World) (v : Value) (ps : List Pc) : Prop where
  lay : ∀ w', Below w.heap.size w w' → Calls Tryd.prog 25 #[v] w' (TxtTo (layL ps) 100000 w')
  wr : ∀ t : Tm, TmOk t → ∀ w', Below w.heap.size w w' → Calls Tryd.prog 26 #[v, cvV t] w' (TxtTo (writAll t ps) 100000 w')
  fits : ∀ t : Tm, TmOk t → ∀ w', Below w.heap.size w w' → Calls Tryd.prog 23 #[v, cvV t] w' (SomeB w')
  ok : PsOk ps
structure PieceIn (w : World) (v : Value) (A B : Prop) (ps : List Pc) : Prop where
  f1 : ∀ w', Below w.heap.size w w' → Calls Tryd.prog 19 #[v] w' (BoolTo A w')
  po : A → ∀ w', Below w.heap.size w w' → Calls Tryd.prog 21 #[v] w' (BoolTo B w')
  arg : B → PieceArg w v ps
set_option maxRecDepth 100000 in
set_option maxHeartbeats 6400000 in
theorem exactNo (v : Value) (A B : Prop) (ps : List Pc) (c : Cv) (w : World) (hv : PieceIn w v A B ps) (hciv : ¬ CivP c) : Calls Tryd.prog 5 #[v, civV c] w (TrueTo w) := by
  have HN := hideP hciv
  have HV := hideP hv
  clear hciv hv
  have FT := fits3_any c; have CO := civilOk_any c
  unfold civV at FT CO ⊢
  have HCB := hideP (cvb_new c w 28)
  obtain ⟨c0, c1, c2, c3, c4, c5, c6, c7, c8⟩ := HCB.out
  have HW := hideP (below_alloc w (.cells #[.int .i64 c.y, .int .i64 c.mo, .int .i64 c.d, .int .i64 c.h, .int .i64 c.mi, .int .i64 c.s, .int .i64 c.ns, .string c.zn, .int .i64 c.off] 28))
  go_enter Tryd.func5, Tryd.ntmps5
  go_wp2_with (first
    | (go_at_call 19; refine (HV.out.f1 _ HW.out).mono ?_; rintro e w1 (⟨rfl, ha, hb⟩ | ⟨rfl, hb⟩) <;> (try (have HA := hideP ha; clear ha)) <;> (have HCB := hideP (HCB.out.kept hb); have HW := hideP (HW.out.trans (hb.mono HW.out.size)); obtain ⟨c0, c1, c2, c3, c4, c5, c6, c7, c8⟩ := HCB.out; clear hb))
    | (go_at_call 20; refine (FT _).mono ?_; rintro e w2 (⟨rfl, hz, hb⟩ | ⟨rfl, hb⟩) <;> (try (have HZ := hideP hz; clear hz)) <;> (have HCB := hideP (HCB.out.kept hb); have HW := hideP (HW.out.trans (hb.mono HW.out.size)); obtain ⟨c0, c1, c2, c3, c4, c5, c6, c7, c8⟩ := HCB.out; clear hb))
    | (go_at_call 21; refine (HV.out.po HA.out _ HW.out).mono ?_; rintro e w3 (⟨rfl, -, hb⟩ | ⟨rfl, hb⟩) <;> (have HCB := hideP (HCB.out.kept hb); have HW := hideP (HW.out.trans (hb.mono HW.out.size)); obtain ⟨c0, c1, c2, c3, c4, c5, c6, c7, c8⟩ := HCB.out; clear hb))
    | (go_at_call 22; refine (CO _ (Nat.le_trans HZ.out (by decide))).mono ?_; rintro e w4 (⟨rfl, h, -⟩ | ⟨rfl, hb⟩); exact absurd h HN.out; (have HCB := hideP (HCB.out.kept hb); have HW := hideP (HW.out.trans (hb.mono HW.out.size)); obtain ⟨c0, c1, c2, c3, c4, c5, c6, c7, c8⟩ := HCB.out; clear hb)))
  all_goals (go_ret; exact ⟨rfl, HW.out⟩)
set_option maxRecDepth 100000 in
set_option maxHeartbeats 6400000 in
theorem exactYes (v : Value) (A B : Prop) (ps : List Pc) (c : Cv) (t : Tm) (w : World) (hv : PieceIn w v A B ps) (hO : TmOk t) (hcv : civV c = cvV t) (hT : TabOk w) : Calls Tryd.prog 5 #[v, civV c] w (TrueTo w) := by
  have HV := hideP hv
  have FT := fits3_any c; have CO := civilOk_any c
  rw [hcv] at FT CO ⊢
  have HO := hideP hO
  have HT := hideP hT
  clear hO hT hcv hv
  unfold cvV at FT CO ⊢
  have HCB := hideP (cb_new t w 28)
  obtain ⟨c0, c1, c2, c3, c4, c5, c6, c7, c8⟩ := HCB.out
  have HW := hideP (below_alloc w (.cells #[.int .i64 t.y, .int .i64 t.mo, .int .i64 t.d, .int .i64 t.h, .int .i64 t.mi, .int .i64 t.s, .int .i64 t.ns, .string t.zn, .int .i64 t.off] 28))
  go_enter Tryd.func5, Tryd.ntmps5
  go_wp2_with (first
    | (go_at_call 19; refine (HV.out.f1 _ HW.out).mono ?_; rintro e w1 (⟨rfl, ha, hb⟩ | ⟨rfl, hb⟩) <;> (try (have HA := hideP ha; clear ha)) <;> (have HCB := hideP (HCB.out.kept hb); have HW := hideP (HW.out.trans (hb.mono HW.out.size)); obtain ⟨c0, c1, c2, c3, c4, c5, c6, c7, c8⟩ := HCB.out; clear hb))
    | (go_at_call 20; refine (FT _).mono ?_; rintro e w2 (⟨rfl, hz, hb⟩ | ⟨rfl, hb⟩) <;> (try (have HZ := hideP hz; clear hz)) <;> (have HCB := hideP (HCB.out.kept hb); have HW := hideP (HW.out.trans (hb.mono HW.out.size)); obtain ⟨c0, c1, c2, c3, c4, c5, c6, c7, c8⟩ := HCB.out; clear hb))
    | (go_at_call 21; refine (HV.out.po HA.out _ HW.out).mono ?_; rintro e w3 (⟨rfl, hp, hb⟩ | ⟨rfl, hb⟩) <;> (try (have HAG := hideP (HV.out.arg hp); clear hp)) <;> (have HCB := hideP (HCB.out.kept hb); have HW := hideP (HW.out.trans (hb.mono HW.out.size)); obtain ⟨c0, c1, c2, c3, c4, c5, c6, c7, c8⟩ := HCB.out; clear hb))
    | (go_at_call 22; refine (CO _ (Nat.le_trans HZ.out (by decide))).mono ?_; rintro e w4 (⟨rfl, -, hb⟩ | ⟨rfl, hb⟩) <;> (have HCB := hideP (HCB.out.kept hb); have HW := hideP (HW.out.trans (hb.mono HW.out.size)); obtain ⟨c0, c1, c2, c3, c4, c5, c6, c7, c8⟩ := HCB.out; clear hb))
    | (go_at_call 23; refine (HAG.out.fits t HO.out _ HW.out).mono ?_; rintro e w5 ⟨b, rfl, hb⟩; (have HCB := hideP (HCB.out.kept hb); have HW := hideP (HW.out.trans (hb.mono HW.out.size)); obtain ⟨c0, c1, c2, c3, c4, c5, c6, c7, c8⟩ := HCB.out; clear hb); cases b)
    | fail)
  all_goals first
    | (go_wp2_with (fail); go_ret; exact ⟨rfl, HW.out⟩)
    | skip
  have HC := hideP (show Below w5.heap.size w5 w5.drew from (Below.refl _ _).drew)
  obtain ⟨L, hL⟩ : ∃ L, L = mkB (layL ps) := ⟨_, rfl⟩
  have hx : mkB (fmtL t (bl L)) = mkB (writAll t ps) := by rw [hL, bl_mkB, fmt_pieces t HO.out ps HAG.out.ok]
  generalize hF : mkB (writAll t ps) = X at hx
  have HX := hideP hx; have HFX := hideP hF; have HL := hideP hL
  clear hx hF hL FT CO c0 c1 c2 c3 c4 c5 c6 c7 c8
  have hXX : (X.toList == X.toList) = true := beq_self_eq_true _
  obtain ⟨d0, d1, d2, d3, d4, d5, d6, d7, d8⟩ := HCB.out.kept HC.out
  go_region_held3 (fun w' => w'.cell? ⟨w.heap.size, 0, none⟩ = some (.int .i64 t.y) ∧ w'.cell? ⟨w.heap.size, 1, none⟩ = some (.int .i64 t.mo) ∧ w'.cell? ⟨w.heap.size, 2, none⟩ = some (.int .i64 t.d) ∧ w'.cell? ⟨w.heap.size, 3, none⟩ = some (.int .i64 t.h) ∧ w'.cell? ⟨w.heap.size, 4, none⟩ = some (.int .i64 t.mi) ∧ w'.cell? ⟨w.heap.size, 5, none⟩ = some (.int .i64 t.s) ∧ w'.cell? ⟨w.heap.size, 6, none⟩ = some (.int .i64 t.ns) ∧ w'.cell? ⟨w.heap.size, 7, none⟩ = some (.string t.zn) ∧ w'.cell? ⟨w.heap.size, 8, none⟩ = some (.int .i64 t.off)) (go_keep)
    (first
      | (go_at_call 25; refine (HAG.out.lay _ (HW.out.trans (HC.out.mono HW.out.size))).mono ?_; rintro e w6 ⟨x, rfl, hs, hbl, hb⟩; obtain rfl : x = L := (by rw [HL.out]; exact ba_ext (hbl.trans (bl_mkB _).symm)); have HLS := hideP (show x.size ≤ 2147483647 from Nat.le_trans hs (by decide)); have HC := hideP (HC.out.trans (hb.mono HC.out.size)); obtain ⟨d0, d1, d2, d3, d4, d5, d6, d7, d8⟩ := HCB.out.kept HC.out; clear hb)
      | (go_at_call 24; refine (fmtImpl_any t _ _ HO.out (HT.out.below (HW.out.trans (HC.out.mono HW.out.size))) HLS.out).mono ?_; rintro e w7 ⟨rfl, hb⟩; rw [HX.out]; have HC := hideP (HC.out.trans (hb.mono HC.out.size)); obtain ⟨d0, d1, d2, d3, d4, d5, d6, d7, d8⟩ := HCB.out.kept HC.out; clear hb)
      | (go_at_call 26; refine (HAG.out.wr t HO.out _ (HW.out.trans (HC.out.mono HW.out.size))).mono ?_; rintro e w8 ⟨y, rfl, -, hbl, hb⟩; obtain rfl : y = X := (by rw [← HFX.out]; exact ba_ext (hbl.trans (bl_mkB _).symm)); have HC := hideP (HC.out.trans (hb.mono HC.out.size)); obtain ⟨d0, d1, d2, d3, d4, d5, d6, d7, d8⟩ := HCB.out.kept HC.out; clear hb)
      | (go_at_call 27; refine (writes_any _ (HT.out.below (HW.out.trans (HC.out.mono HW.out.size)))).mono ?_; rintro e w9 ⟨rfl, hb⟩; have HC := hideP (HC.out.trans (hb.mono HC.out.size)); obtain ⟨d0, d1, d2, d3, d4, d5, d6, d7, d8⟩ := HCB.out.kept HC.out; clear hb))
  all_goals (go_wp2; go_ret; exact ⟨by first | rfl | kernel_rfl | simp, HW.out.trans (HC.out.mono HW.out.size)⟩)
theorem exact_any (v : Value) (A B : Prop) (ps : List Pc) (c : Cv) (w : World) (hv : PieceIn w v A B ps) (hT : TabOk w) : Calls Tryd.prog 5 #[v, civV c] w (TrueTo w) := by
  by_cases hciv : CivP c
  · obtain ⟨t, hO, hcv⟩ := civ_tm hciv
    exact exactYes v A B ps c t w hv hO hcv hT
  · exact exactNo v A B ps c w hv hciv
theorem pieceIn_some (xs : List Px) (b o cap : Nat) (w : World) (hg : PxAt w b o xs) : PieceIn w (.slice (some ⟨b, o, none⟩) xs.length cap) (FitsAll xs) (PxsOk xs) (xs.map pcOf) where
  f1 := fun w' hb => fits1_any xs b o cap w' (hg.kept hb)
  po := fun ha w' hb => piecesOk_any xs b o cap w' ha (hg.kept hb)
  arg := fun hok => by
    obtain ⟨h1, h2, h3⟩ := pxs_pcs hok
    have e : (xs.map pcOf).length = xs.length := List.length_map _
    refine ⟨fun w' hb => ?_, fun t hO w' hb => ?_, fun t hO w' hb => ?_, h1⟩
    · rw [← e]; exact Layout_o _ b o cap w' h2 (h3 w' b o (hg.kept hb))
    · rw [← e]; exact Written_o t hO _ b o cap w' h2 (h3 w' b o (hg.kept hb))
    · rw [← e]; exact Fits_o t hO _ b o cap w' h2 (h3 w' b o (hg.kept hb))
/-! The empty row. -/
theorem fits1_nil (ao : Option Addr) (cap : Nat) (w : World) : Calls Tryd.prog 19 #[.slice ao 0 cap] w (BoolTo True w) := by
  go_enter Tryd.func19, Tryd.ntmps19
  go_wp2
  refine wp_loop_rounds 1 ?_; rw [rounds_succ]; go_wp2
  go_ret
  exact .inl ⟨rfl, trivial, Below.refl _ _⟩
theorem piecesOk_nil (ao : Option Addr) (cap : Nat) (w : World) : Calls Tryd.prog 21 #[.slice ao 0 cap] w (BoolTo True w) := by
  go_enter Tryd.func21, Tryd.ntmps21
  go_wp2
  refine wp_loop_rounds 1 ?_; rw [rounds_succ]; go_wp2
  go_ret
  exact .inl ⟨rfl, trivial, Below.refl _ _⟩
theorem layout_nil (ao : Option Addr) (cap : Nat) (w : World) : Calls Tryd.prog 25 #[.slice ao 0 cap] w (TxtTo [] 100000 w) := by
  go_enter Tryd.func25, Tryd.ntmps25
  go_wp2
  refine wp_loop_rounds 1 ?_; rw [rounds_succ]; go_wp2
  go_ret
  exact ⟨_, rfl, by decide, rfl, Below.refl _ _⟩
theorem written_nil (ao : Option Addr) (cap : Nat) (t : Tm) (w : World) : Calls Tryd.prog 26 #[.slice ao 0 cap, cvV t] w (TxtTo [] 100000 w) := by
  unfold cvV
  go_enter Tryd.func26, Tryd.ntmps26
  go_wp2
  refine wp_loop_rounds 1 ?_; rw [rounds_succ]; go_wp2
  go_ret
  exact ⟨_, rfl, by decide, rfl, below_alloc w _⟩
theorem fits_nil (ao : Option Addr) (cap : Nat) (t : Tm) (w : World) : Calls Tryd.prog 23 #[.slice ao 0 cap, cvV t] w (SomeB w) := by
  unfold cvV
  go_enter Tryd.func23, Tryd.ntmps23
  go_wp2
  refine wp_loop_rounds 1 ?_; rw [rounds_succ]; go_wp2
  go_ret
  exact ⟨_, rfl, below_alloc w _⟩
theorem pieceIn_nil (ao : Option Addr) (cap : Nat) (w : World) : PieceIn w (.slice ao 0 cap) True True [] where
  f1 := fun w' _ => fits1_nil ao cap w'
  po := fun _ w' _ => piecesOk_nil ao cap w'
  arg := fun _ => ⟨fun w' _ => layout_nil ao cap w', fun t _ w' _ => written_nil ao cap t w', fun t _ w' _ => fits_nil ao cap t w', ⟨fun p h => absurd h List.not_mem_nil, fun i p q h => by cases h⟩⟩
end Go.Proofs.YtigabjibdepoiaaDoor.Tm
namespace Go.Proofs.YtigabjibdepoiaaDoor.Tm
set_option linter.unusedSimpArgs false
set_option linter.unusedVariables false
open Go.ChangeShapes Go.WideShapes Go.ChangeAt Go.RowKit Go Go.Lib
theorem cells_piece : Tryd.prog.cellsOf 42 = 4 := by kernel_rfl
theorem cells_bool1 : Tryd.prog.cellsOf 4 = 1 := by kernel_rfl
instance : Inhabited Px := ⟨⟨0, ⟨#[]⟩, 0, false⟩⟩
set_option maxRecDepth 100000 in
theorem pieces_of {H : Type} {enc : TypeId × Value → H} {W : World} {v : Value} {d : DataW H} {p : List MemPlace} {base : Nat} (hval : Value.okWide Tryd.prog W .any base 32 v) (h : DataW.Trod enc Tryd.prog W 0 (fun _ => true) true 32 v d p) : ∃ A B ps, PieceIn W v A B ps := by
  obtain ⟨a1, len1, cap1, rfl⟩ := okWide_slice Tryd.underlying32 hval
  obtain ⟨f, hf⟩ := h
  rcases Go.Deep.open_slice Tryd.underlying32 hf with ⟨e, _⟩ | ⟨a, len, cap, m, n, D, Pl, e, _, hlc, hcm, hm, _, hx⟩
  · simp [Value.cells] at e
    obtain ⟨rfl, rfl, rfl⟩ := e
    exact ⟨_, _, _, pieceIn_nil _ _ W⟩
  · simp [Value.cells] at e
    obtain ⟨rfl, rfl, rfl⟩ := e
    rw [if_pos rfl] at hm
    rcases Nat.eq_zero_or_pos len1 with rfl | hp
    · exact ⟨_, _, _, pieceIn_nil _ _ W⟩
    have each : ∀ i, i < len1 → ∃ p : Px, W.cell? (a.add (i * 4)) = some (.int .i64 p.k) ∧ W.cell? (a.add (i * 4 + 1)) = some (.string p.tx) ∧ W.cell? (a.add (i * 4 + 2)) = some (.int .i64 p.n) ∧ W.cell? (a.add (i * 4 + 3)) = some (.bool p.cm) := by
      intro i hi
      obtain ⟨cs', h1, h2⟩ := hx i (by omega)
      rw [cells_piece] at h1
      obtain ⟨_, hlen, hcell⟩ := World.cells?_some h1
      obtain ⟨xs, k, hk, hxy, _, hxl, hg⟩ := DataW.trod_struct Tryd.underlying42 h2
      match xs, hxl, cs', hlen with
      | [y0, y1, y2, y3], _, [c0, c1, c2, c3], _ =>
        obtain ⟨n0, e0, _⟩ := DataW.trod_int Tryd.underlying3 (by simpa [cells_int1] using hg 0 _ rfl)
        obtain ⟨s1, e1, _, _⟩ := DataW.trod_string Tryd.underlying9 (by simpa [cells_str1] using hg 1 _ rfl)
        obtain ⟨n2, e2, _⟩ := DataW.trod_int Tryd.underlying3 (by simpa [cells_int1] using hg 2 _ rfl)
        obtain ⟨b3, e3, _⟩ := DataW.trod_bool Tryd.underlying4 (by simpa [cells_bool1] using hg 3 _ rfl)
        have g0 := hcell 0 (by omega)
        have g1 := hcell 1 (by omega)
        have g2 := hcell 2 (by omega)
        have g3 := hcell 3 (by omega)
        rw [Go.Deep.add_add] at g0 g1 g2 g3
        simp only [List.cons.injEq, and_true] at e0 e1 e2 e3
        subst e0 e1 e2 e3
        exact ⟨⟨n0, s1, n2, b3⟩, by simpa using g0, by simpa using g1, by simpa using g2, by simpa using g3⟩
    obtain ⟨q, hq⟩ := Go.Deep.choose_lt each
    have hsp : a.spot = none := by
      have h0 := World.cell?_spot (hq 0 hp).1
      simpa [Addr.add] using h0
    obtain ⟨b, o, sp⟩ := a
    obtain rfl : sp = none := hsp
    have hB := pieceIn_some ((List.range len1).map q) b o cap1 W (fun i p hpi => by
      rw [List.getElem?_map] at hpi
      by_cases hil : i < len1
      · rw [List.getElem?_range hil, Option.map_some, Option.some.injEq] at hpi
        subst hpi
        have hh := hq i hil
        simp only [add_plain] at hh
        exact ⟨hh.1, by rw [Nat.add_assoc]; exact hh.2.1, by rw [Nat.add_assoc]; exact hh.2.2.1, by rw [Nat.add_assoc]; exact hh.2.2.2⟩
      · rw [List.getElem?_eq_none (by rw [List.length_range]; omega)] at hpi
        cases hpi)
    rw [show ((List.range len1).map q).length = len1 by rw [List.length_map, List.length_range]] at hB
    exact ⟨_, _, _, hB⟩
end Go.Proofs.YtigabjibdepoiaaDoor.Tm
