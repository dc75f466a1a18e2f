/- The layout 2006 has one element. -/
import Derived.Test.YtigabjibdepoiaaDoorJoin
namespace Go.Proofs.YtigabjibdepoiaaDoor.Tm
set_option linter.unusedSimpArgs false
set_option linter.unusedVariables false
open Go.RowKit Go
def w2006 : ByteArray := ⟨#[50, 48, 48, 54]⟩
theorem std2006 : stdL (rest w2006 0) = some (275, 0, 4) := by decide +kernel
theorem out2006 {p el q : ByteArray} (h : ChunkOut w2006 p el q) : el = w2006 := by
  rcases h with ⟨k, std, n, m, hk, hno, hstd, _, _, _, rfl, _⟩ | ⟨hno, _⟩
  · have : k = 0 := by
      rcases Nat.eq_zero_or_pos k with e | h0
      · exact e
      · have := hno 0 h0
        rw [std2006] at this; cases this
    subst this
    rw [std2006] at hstd
    cases hstd
    rfl
  · have := hno 0 (by decide)
    rw [std2006] at this; cases this
end Go.Proofs.YtigabjibdepoiaaDoor.Tm
