/- Loc: what is needed here. -/
import Derived.Test.YtdgckbjfnbljkaaDoorProg
import Derived.Test.YtdgckbjfnbljkaaDoorCal3
namespace Go.Proofs.YtdgckbjfnbljkaaDoor.Tm
set_option linter.unusedSimpArgs false
set_option linter.unusedVariables false
open Go.RowKit Go
/-- A place with one offset, as FixedZone lays it. -/
structure LocAt (w : World) (b : Nat) (s : ByteArray) (z : Int) (zb tb : Nat) : Prop where
  c0 : w.cell? ⟨b, 0, none⟩ = some (.bool false)
  c1 : w.cell? ⟨b, 1, none⟩ = some (.string s)
  c2 : w.cell? ⟨b, 2, none⟩ = some (.slice (some ⟨zb, 0, none⟩) 1 1)
  c3 : w.cell? ⟨b, 3, none⟩ = some (.slice (some ⟨tb, 0, none⟩) 1 1)
  c5 : w.cell? ⟨b, 5, none⟩ = some (.int .i64 (-9223372036854775808))
  c6 : w.cell? ⟨b, 6, none⟩ = some (.int .i64 9223372036854775807)
  c7 : w.cell? ⟨b, 7, none⟩ = some (.pointer (some ⟨zb, 0, none⟩))
  z0 : w.cell? ⟨zb, 0, none⟩ = some (.string s)
  z1 : w.cell? ⟨zb, 1, none⟩ = some (.int .i64 z)
  z2 : w.cell? ⟨zb, 2, none⟩ = some (.bool false)
/-- The place UTC. -/
structure UtcAt (w : World) (b : Nat) : Prop where
  c0 : w.cell? ⟨b, 0, none⟩ = some (.bool true)
  c2 : w.cell? ⟨b, 2, none⟩ = some (.slice none 0 0)
def UtcPost (w : World) (e : Ending) (w' : World) : Prop := ∃ b, e = .returned (.pointer (some ⟨b, 0, none⟩)) ∧ w.heap.size ≤ b ∧ UtcAt w' b ∧ Below w.heap.size w w'
def FixPost (s : ByteArray) (z : Int) (w : World) (e : Ending) (w' : World) : Prop := ∃ b zb tb, e = .returned (.pointer (some ⟨b, 0, none⟩)) ∧ w.heap.size ≤ b ∧ w.heap.size ≤ zb ∧ LocAt w' b s z zb tb ∧ Below w.heap.size w w'
set_option maxRecDepth 10000 in
set_option maxHeartbeats 400000 in
theorem utc_any (w : World) : Calls Tryd.prog 8 #[] w (UtcPost w) := by
  go_enter Tryd.func8, Tryd.ntmps8
  go_wp2
  go_ret
  exact ⟨w.heap.size, rfl, Nat.le_refl _, ⟨cell_of_row _ _ 0 _ _ (0, 0) (heap_alloc_new w _), cell_of_row _ _ 2 _ _ (0, 0) (heap_alloc_new w _)⟩, (Below.refl _ _).alloc (Nat.le_refl _) _⟩
set_option maxRecDepth 10000 in
set_option maxHeartbeats 400000 in
theorem fixed_any (s : ByteArray) (z : Int) (w : World) :
    Calls Tryd.prog 38 #[.string s, .int .i64 z] w (FixPost s z w) := by
  go_enter Tryd.func38, Tryd.ntmps38
  go_wp2
  go_ret
  refine ⟨w.heap.size + 1 + 1, w.heap.size, w.heap.size + 1, rfl, by omega, Nat.le_refl _, ?_, (((Below.refl _ _).alloc (Nat.le_refl _) _).alloc (by simp) _).alloc (by simp; omega) _⟩
  generalize ho1 : (Obj.cells #[Value.string s, Value.int .i64 z, Value.bool false] _) = o1
  generalize ho2 : (Obj.cells #[Value.int .i64 (-9223372036854775808), Value.int .u8 0, Value.bool false, Value.bool false] _) = o2
  have s1 : (w.alloc o1).heap.size = w.heap.size + 1 := by simp
  have s2 : ((w.alloc o1).alloc o2).heap.size = w.heap.size + 1 + 1 := by simp
  have g3 := fun o3 => heap_alloc_new ((w.alloc o1).alloc o2) o3
  rw [s2] at g3
  have g1 := fun o3 => ((Below.heap_alloc ((w.alloc o1).alloc o2) o3 w.heap.size (by omega)).trans (Below.heap_alloc (w.alloc o1) o2 w.heap.size (by omega))).trans (heap_alloc_new w o1)
  subst ho1
  exact ⟨cell_of_row _ _ 0 _ _ (0, 0) (g3 _), cell_of_row _ _ 1 _ _ (0, 0) (g3 _), cell_of_row _ _ 2 _ _ (0, 0) (g3 _), cell_of_row _ _ 3 _ _ (0, 0) (g3 _), cell_of_row _ _ 5 _ _ (0, 0) (g3 _), cell_of_row _ _ 6 _ _ (0, 0) (g3 _), cell_of_row _ _ 7 _ _ (0, 0) (g3 _),
    cell_of_row _ _ 0 _ _ (0, 0) (g1 _), cell_of_row _ _ 1 _ _ (0, 0) (g1 _), cell_of_row _ _ 2 _ _ (0, 0) (g1 _)⟩
set_option maxHeartbeats 400000 in
theorem fixedPub_any (s : ByteArray) (z : Int) (w : World) :
    Calls Tryd.prog 22 #[.string s, .int .i64 z] w (FixPost s z w) := by
  go_enter Tryd.func22, Tryd.ntmps22
  go_wp2_with (go_at_call 38; refine (fixed_any s z _).mono ?_; rintro e w1 ⟨b, zb, tb, rfl, h1, h2, hl, hb⟩; have HL := hideP hl; clear hl)
  go_ret
  exact ⟨b, zb, tb, rfl, h1, h2, HL.out, hb⟩
end Go.Proofs.YtdgckbjfnbljkaaDoor.Tm
