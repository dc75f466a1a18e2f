/- Two facts on the whole program that every row of this seat asks for. -/
import Derived.Test.YtigabjibdepoiaaDoorRows
import Derived.JoinedOf
import Derived.KernelRfl
namespace Go.Proofs.YtigabjibdepoiaaDoor.Tm
open Go
theorem mayEnter_ok : Tryd.prog.mayEnter = true := by kernel_rfl
end Go.Proofs.YtigabjibdepoiaaDoor.Tm
