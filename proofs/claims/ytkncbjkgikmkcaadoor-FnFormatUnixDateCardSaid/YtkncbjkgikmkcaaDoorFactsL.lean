/- Two facts on the whole program that every row of this seat asks for. -/
import Derived.Test.YtkncbjkgikmkcaaDoorRows
import Derived.JoinedOf
import Derived.KernelRfl
namespace Go.Proofs.YtkncbjkgikmkcaaDoor.Tm
open Go
theorem lifts_ok : Tryd.prog.liftsFinal = false := by kernel_rfl
end Go.Proofs.YtkncbjkgikmkcaaDoor.Tm
