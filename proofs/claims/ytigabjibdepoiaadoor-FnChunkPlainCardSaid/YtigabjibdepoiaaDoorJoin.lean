/- The walk of NextChunk: the text ahead of the first element, the element, and the text behind it. -/
import Derived.Test.YtigabjibdepoiaaDoorChunkWalk
namespace Go.Proofs.YtigabjibdepoiaaDoor.Tm
set_option linter.unusedSimpArgs false
set_option linter.unusedVariables false
open Go.RowKit Go
/-- The three parts of a layout. -/
def ChunkOut (s p el q : ByteArray) : Prop :=
  (∃ k std n m, k < s.size ∧ (∀ j, j < k → stdL (rest s j) = none) ∧ stdL (rest s k) = some (std, n, m) ∧ n < m ∧ k + m ≤ s.size ∧ p = s.extract 0 (k + n) ∧ el = s.extract (k + n) (k + m) ∧ q = s.extract (k + m) s.size)
  ∨ ((∀ j, j < s.size → stdL (rest s j) = none) ∧ p = s ∧ el = ⟨#[]⟩ ∧ q = ⟨#[]⟩)
def NextPost (s : ByteArray) (w : World) (e : Ending) (w' : World) : Prop :=
  ∃ p el q, e = .returned (.tuple #[.string p, .string el, .string q]) ∧ ChunkOut s p el q ∧ Below w.heap.size w w'
/-- The same answer, as the walk wants it. -/
def ChunkWalkPost (s : ByteArray) (w : World) (e : Ending) (w' : World) : Prop :=
  (∃ P Q std, e = .returned (.tuple #[.string P, .int .i64 std, .string Q]) ∧ (std == 0) = false ∧ (P.size : Int) ≤ (s.size : Int) ∧ (P.size : Int) ≤ (s.size : Int) - (Q.size : Int) ∧ (Q.size : Int) ≤ (s.size : Int) ∧ Hd (ChunkOut s P (s.extract P.size (s.size - Q.size)) Q) ∧ Below w.heap.size w w')
  ∨ (e = .returned (.tuple #[.string s, .int .i64 0, .string ⟨#[]⟩]) ∧ Hd (∀ j, j < s.size → stdL (rest s j) = none) ∧ Below w.heap.size w w')
theorem chunk_walk (s : ByteArray) (w : World) (hT : TabOk w) (hs : s.size ≤ 140737488351232) :
    Calls Tryd.prog 63 #[.string s] w (ChunkWalkPost s w) := by
  refine (chunk_any s _ hT hs).mono ?_
  rintro e w1 (⟨k, std, n, m, hk, hno, hstd, rfl, hb⟩ | ⟨hno, rfl, hb⟩)
  · obtain ⟨f1, f2, f3, f4⟩ := stdL_fine hstd
    simp only at f1 f2 f3 f4
    rw [rest, List.length_drop, bl_length] at f4
    have hP : (s.extract 0 (k + n)).size = k + n := by rw [ByteArray.size_extract]; omega
    have hQ : (s.extract (k + m) s.size).size = s.size - (k + m) := by rw [ByteArray.size_extract]; omega
    refine .inl ⟨_, _, _, rfl, by rw [beq_eq_false_iff_ne]; omega, by omega, by omega, by omega, hideP ?_, hb⟩
    rw [hP, hQ, show s.size - (s.size - (k + m)) = k + m from by omega]
    exact .inl ⟨k, std, n, m, hk, hno, hstd, f3, by omega, rfl, rfl, rfl⟩
  · exact .inr ⟨rfl, hideP hno, hb⟩
set_option maxRecDepth 100000 in
set_option maxHeartbeats 800000 in
theorem next_any (s : ByteArray) (w : World) (hT : TabOk w) (hs : s.size ≤ 140737488351232) :
    Calls Tryd.prog 40 #[.string s] w (NextPost s w) := by
  have HT := hideP hT
  clear hT
  go_enter Tryd.func40, Tryd.ntmps40
  go_wp2_with (go_at_call 63; refine (chunk_walk s _ HT.out hs).mono ?_; rintro e w1 (⟨P, Q, std, rfl, hz, h1, h2, h3, HO, hb⟩ | ⟨rfl, HN, hb⟩))
  · go_wp2
    go_quiet (fail)
    go_wp2
    go_ret3
    exact ⟨_, _, _, rfl, HO.out, below_drewN hb _⟩
  · go_wp2
    go_ret3
    exact ⟨_, _, _, rfl, .inr ⟨HN.out, rfl, rfl, rfl⟩, hb⟩

set_option maxHeartbeats 800000 in
theorem nextImpl_any (s : ByteArray) (w : World) (hT : TabOk w) (hs : s.size ≤ 140737488351232) :
    Calls Tryd.prog 17 #[.string s] w (NextPost s w) := by
  have HT := hideP hT
  clear hT
  go_enter Tryd.func17, Tryd.ntmps17
  go_wp2_with (go_at_call 40; refine (next_any s _ HT.out hs).mono ?_; rintro e w1 ⟨P, E, Q, rfl, HO, hb⟩)
  have HO2 := hideP HO
  clear HO
  go_ret3
  exact ⟨_, _, _, rfl, HO2.out, hb⟩
end Go.Proofs.YtigabjibdepoiaaDoor.Tm
