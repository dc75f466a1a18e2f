/- How the program was made, as the rows of this seat say it. -/
import Derived.Test.YtigabjibdepoiaaDoorRows
import Derived.JoinedOf
import Derived.KernelRfl
namespace Go.Proofs.YtigabjibdepoiaaDoor.Tm
open Go
theorem make_ok : Tryd.prog.make = some Rows.fnChunkPlainRow.make := by kernel_rfl
end Go.Proofs.YtigabjibdepoiaaDoor.Tm
