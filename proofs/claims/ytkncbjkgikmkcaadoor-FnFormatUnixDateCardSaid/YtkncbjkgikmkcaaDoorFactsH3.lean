/- The program's own main, as the rows of this seat say it. -/
import Derived.Test.YtkncbjkgikmkcaaDoorCards
import Derived.JoinedOf
import Derived.KernelRfl
namespace Go.Proofs.YtkncbjkgikmkcaaDoor.Tm
open Go
theorem main_ok : Tryd.pinned.checked.prog.mainIs = some (Rows.fnFormatStampCard.stood.harness.1, Rows.fnFormatStampCard.stood.harness.2.toList) := by kernel_rfl
end Go.Proofs.YtkncbjkgikmkcaaDoor.Tm
