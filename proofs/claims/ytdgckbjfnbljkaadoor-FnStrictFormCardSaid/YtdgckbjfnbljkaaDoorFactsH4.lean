/- The program's own main, as the rows of this seat say it. -/
import Derived.Test.YtdgckbjfnbljkaaDoorCards
import Derived.JoinedOf
import Derived.KernelRfl
namespace Go.Proofs.YtdgckbjfnbljkaaDoor.Tm
open Go
theorem main_ok : Tryd.pinned.checked.prog.mainIs = some (Rows.fnStrictFormCard.stood.harness.1, Rows.fnStrictFormCard.stood.harness.2.toList) := by kernel_rfl
end Go.Proofs.YtdgckbjfnbljkaaDoor.Tm
