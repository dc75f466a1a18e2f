/- Two facts on the whole program that every row of this seat asks for. -/
import Derived.Test.YtdgckbjfnbljkaaDoorRows
import Derived.JoinedOf
import Derived.KernelRfl
namespace Go.Proofs.YtdgckbjfnbljkaaDoor.Tm
open Go
theorem lifts_ok : Tryd.prog.liftsFinal = false := by kernel_rfl
end Go.Proofs.YtdgckbjfnbljkaaDoor.Tm
