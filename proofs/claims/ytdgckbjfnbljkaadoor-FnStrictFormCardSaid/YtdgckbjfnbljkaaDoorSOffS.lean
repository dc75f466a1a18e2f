/- SOffS: what is needed here. -/
import Derived.Test.YtdgckbjfnbljkaaDoorProg
import Derived.Test.YtdgckbjfnbljkaaDoorLead
namespace Go.Proofs.YtdgckbjfnbljkaaDoor.Tm
set_option linter.unusedSimpArgs false
set_option linter.unusedVariables false
open Go.RowKit Go
theorem extract_zero (s : ByteArray) : s.extract 0 s.size = s := by
  apply ba_ext; rw [bl_extract_end, List.drop_zero]
theorem digs_le (l : List UInt8) : (digs l).length ≤ l.length := by
  rw [digs]
  have h := congrArg List.length (List.takeWhile_append_dropWhile (p := isDig) (l := l))
  rw [List.length_append] at h
  omega
theorem lead_none (s : ByteArray) (V : Value) (w : World) (hs : s.size ≤ 140737488351232) (hV : w.cell? ⟨2, 0, none⟩ = some V) (h : digs (bl s) = []) :
    Calls Tryd.prog 44 #[.string s] w fun e w' => e = .returned (.tuple #[.int .u64 0, .string s, .nilIface]) ∧ Below w.heap.size w w' := by
  refine (lead_any s V w hs hV).mono fun e w' he => ?_
  rcases he with ⟨rfl, _, hb⟩ | ⟨_, hgt, _⟩
  · rw [h]
    refine ⟨?_, hb⟩
    rw [show ([] : List UInt8).length = 0 from rfl, extract_zero]
    rfl
  · rw [h] at hgt; exact absurd hgt (by decide)
theorem bl_first (s : ByteArray) (h : 0 < s.size) : bl s = s[0] :: bl (s.extract 1 s.size) := by
  rw [bl_extract_end, ← bl_drop s 0 h, List.drop_zero]
end Go.Proofs.YtdgckbjfnbljkaaDoor.Tm
