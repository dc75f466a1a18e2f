/- Two facts on the whole program that every row of this seat asks for. -/
import Derived.Test.YtdgckbjfnbljkaaDoorRows
import Derived.JoinedOf
import Derived.KernelRfl
namespace Go.Proofs.YtdgckbjfnbljkaaDoor.Tm
open Go
theorem mayEnter_ok : Tryd.prog.mayEnter = true := by kernel_rfl
end Go.Proofs.YtdgckbjfnbljkaaDoor.Tm
