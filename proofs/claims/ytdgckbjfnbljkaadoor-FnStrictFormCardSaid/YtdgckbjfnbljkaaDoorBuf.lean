/- Buf: what is needed here. -/
import Derived.WalkKit
import Derived.Deep.AppendSrc
import Derived.Test.YtdgckbjfnbljkaaDoorProg
import Derived.Test.YtdgckbjfnbljkaaDoorBase
namespace Go.Proofs.YtdgckbjfnbljkaaDoor.Tm
set_option linter.unusedSimpArgs false
set_option linter.unusedVariables false
open Go.RowKit Go
/-- The slice v begins at the head of a block of the call's own (from 'base' on), and its elements are xs. -/
def Buf (w : World) (base : Nat) (v : Value) (xs : List Value) : Prop :=
  ∃ g cap cur tag, v = .slice (some ⟨g, 0, none⟩) xs.length cap ∧ base ≤ g ∧ w.heap[g]? = some (.cells cur tag (0, 0)) ∧ xs.length ≤ cap ∧ cap ≤ maxLen ∧ cur.size = cap ∧ cur.toList.take xs.length = xs
/-- A byte as a cell. -/
def u8 (c : UInt8) : Value := .int .u8 c.toNat
def bytes (l : List UInt8) : List Value := l.map u8
theorem Buf.own {w : World} {base : Nat} {v : Value} {xs : List Value} (h : Buf w base v xs) : ∃ g, v.ownBlock = some g ∧ base ≤ g ∧ g < w.heap.size := by
  obtain ⟨g, cap, cur, tag, rfl, hb, hg, _⟩ := h
  exact ⟨g, rfl, hb, (Array.getElem?_eq_some_iff.1 hg).1⟩
theorem Buf.kept {w w' : World} {base : Nat} {v : Value} {xs : List Value} (h : Buf w base v xs) (hb : Below w.heap.size w w') : Buf w' base v xs := by
  obtain ⟨g, cap, cur, tag, rfl, h1, hg, h2⟩ := h
  exact ⟨g, cap, cur, tag, rfl, h1, (hb.block g (Array.getElem?_eq_some_iff.1 hg).1).trans hg, h2⟩
theorem Buf.alloc {w : World} {base : Nat} {v : Value} {xs : List Value} (h : Buf w base v xs) (o : Obj) : Buf (w.alloc o) base v xs :=
  h.kept ((Below.refl _ _).alloc (Nat.le_refl _) o)
end Go.Proofs.YtdgckbjfnbljkaaDoor.Tm
