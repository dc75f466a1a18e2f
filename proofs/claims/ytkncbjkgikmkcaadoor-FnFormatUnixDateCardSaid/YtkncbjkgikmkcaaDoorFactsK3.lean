/- How the program was made, as the rows of this seat say it. -/
import Derived.Test.YtkncbjkgikmkcaaDoorRows
import Derived.JoinedOf
import Derived.KernelRfl
namespace Go.Proofs.YtkncbjkgikmkcaaDoor.Tm
open Go
theorem make_ok : Tryd.prog.make = some Rows.fnFormatStampRow.make := by kernel_rfl
end Go.Proofs.YtkncbjkgikmkcaaDoor.Tm
