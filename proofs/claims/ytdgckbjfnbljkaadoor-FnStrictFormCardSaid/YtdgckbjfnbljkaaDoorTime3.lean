/- Time3: what is needed here. -/
import Derived.Test.YtdgckbjfnbljkaaDoorProg
import Derived.Test.YtdgckbjfnbljkaaDoorTime2
namespace Go.Proofs.YtdgckbjfnbljkaaDoor.Tm
set_option linter.unusedSimpArgs false
set_option linter.unusedVariables false
open Go.RowKit Go
def utcB : ByteArray := ⟨#[85, 84, 67]⟩
/-- The sum that wraps past 2^63, read as an unsigned number. -/
theorem wrap_abs (u : Int) (h0 : 0 ≤ u + 9223372028741760000) (h1 : u + 9223372028741760000 < 18446744073709551616) : IntKind.u64.wrap (wrap64 (u + 9223372028741760000)) = u + 9223372028741760000 := by
  rw [IntKind.wrap_u64]; unfold wrap64; omega
end Go.Proofs.YtdgckbjfnbljkaaDoor.Tm
