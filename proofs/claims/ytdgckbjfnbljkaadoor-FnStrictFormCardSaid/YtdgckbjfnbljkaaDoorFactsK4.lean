/- How the program was made, as the rows of this seat say it. -/
import Derived.Test.YtdgckbjfnbljkaaDoorRows
import Derived.JoinedOf
import Derived.KernelRfl
namespace Go.Proofs.YtdgckbjfnbljkaaDoor.Tm
open Go
theorem make_ok : Tryd.prog.make = some Rows.fnStrictFormRow.make := by kernel_rfl
end Go.Proofs.YtdgckbjfnbljkaaDoor.Tm
