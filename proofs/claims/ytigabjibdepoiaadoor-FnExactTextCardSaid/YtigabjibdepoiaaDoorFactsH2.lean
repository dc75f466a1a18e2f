/- The program's own main, as the rows of this seat say it. -/
import Derived.Test.YtigabjibdepoiaaDoorCards
import Derived.JoinedOf
import Derived.KernelRfl
namespace Go.Proofs.YtigabjibdepoiaaDoor.Tm
open Go
theorem main_ok : Tryd.pinned.checked.prog.mainIs = some (Rows.fnChunkPlainCard.stood.harness.1, Rows.fnChunkPlainCard.stood.harness.2.toList) := by kernel_rfl
end Go.Proofs.YtigabjibdepoiaaDoor.Tm
