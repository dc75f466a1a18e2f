/- Two facts on the whole program that every row of this seat asks for. -/
import Derived.Test.YtigabjibdepoiaaDoorRows
import Derived.JoinedOf
import Derived.KernelRfl
namespace Go.Proofs.YtigabjibdepoiaaDoor.Tm
open Go
theorem lifts_ok : Tryd.prog.liftsFinal = false := by kernel_rfl
end Go.Proofs.YtigabjibdepoiaaDoor.Tm
