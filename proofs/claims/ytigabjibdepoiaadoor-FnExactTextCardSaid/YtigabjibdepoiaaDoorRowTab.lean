/- The package's table of elements, where a row lays it. -/
import Derived.Test.YtigabjibdepoiaaDoorRowKit
import Derived.Test.YtigabjibdepoiaaDoorChunkA
namespace Go.Proofs.YtigabjibdepoiaaDoor.Tm
set_option linter.unusedSimpArgs false
set_option linter.unusedVariables false
open Go.ChangeShapes Go.WideShapes Go.ChangeAt Go.RowKit Go Go.Lib
theorem laid_table {W : World} {l : List (String × DataW Unit)} {n : String} {ti te : TypeId} (h : laidMet Tryd.prog l W) (hm : (n, DataW.agg [.lit (.int .i64 260), .lit (.int .i64 265), .lit (.int .i64 1038), .lit (.int .i64 1040), .lit (.int .i64 1042), .lit (.int .i64 276)]) ∈ l)
    (hg : Tryd.prog.globalNamed n = some 0) (ht : (Tryd.prog.globals[0]?).map (·.type) = some ti) (hi : Tryd.prog.underlying ti = some (.array 6 te)) (he : Tryd.prog.underlying te = some (.int .i64))
    (hce : Tryd.prog.cellsOf te = 1) (hct : Tryd.prog.cellsOf ti = 6) : TabOk W := by
  obtain ⟨g0, t0, cs0, f0, p0, hg0, ht0, hv0, hd0⟩ := Lib.laidMet.reads h hm
  obtain rfl := Option.some.inj (hg.symm.trans hg0)
  obtain rfl := Option.some.inj (ht.symm.trans ht0)
  have hc := cells_of_tab (zs := [260, 265, 1038, 1040, 1042, 276]) hi he hce hct hd0
  have key : ∀ i, W.cell? ⟨0, i, none⟩ = cs0.toList[i]? := fun i => by rw [World.var?_cell hg0 hv0 i]; simp
  rw [hc] at key
  exact ⟨key 0, key 1, key 2, key 3, key 4, key 5⟩
end Go.Proofs.YtigabjibdepoiaaDoor.Tm
