/- What the row of FnExactFormat says of the whole program, conjunct by conjunct (the heavy ones once for all rows, in texts of their own). -/
import Derived.Test.YtigabjibdepoiaaDoorRows
import Derived.JoinedOf
import Derived.KernelRfl
import Derived.Test.YtigabjibdepoiaaDoorFactsM
import Derived.Test.YtigabjibdepoiaaDoorFactsL
import Derived.Test.YtigabjibdepoiaaDoorFactsK2
namespace Go.Proofs.YtigabjibdepoiaaDoor.fnExactFormat
open Go Go.Proofs.YtigabjibdepoiaaDoor.Tm
theorem j1 : (Rows.fnExactFormatRow.wf (OpenSpec.ofChange Rows.fnExactFormatSpec)) = true := by kernel_rfl
theorem j2 : (laidOutB Tryd.prog) = true := by kernel_rfl
theorem j3 : (mapsRowed Tryd.prog) = true := by kernel_rfl
theorem j4 : (Tryd.f5.params.all (Tryd.prog.readableRec ·)) = true := by kernel_rfl
theorem j5 : (namedTie Tryd.prog Rows.fnExactFormatRow.named Rows.fnExactFormatSpec.vars) = true := by kernel_rfl
theorem j6 : ((Rows.fnExactFormatRow.stops == [])) = true := by kernel_rfl
theorem j7 : ((Tryd.prog.stops == [])) = true := by kernel_rfl
theorem j8 : ((Rows.fnExactFormatRow.knobs == [])) = true := by kernel_rfl
theorem j9 : ((Tryd.prog.stopKnobs == [])) = true := by kernel_rfl
theorem j10 : ((Rows.fnExactFormatRow.inPlace == Tryd.prog.inPlace 5)) = true := by kernel_rfl
theorem j11 : ((Rows.fnExactFormatRow.unfollowed == Tryd.prog.unfollowed 5)) = true := by kernel_rfl
theorem j12 : ((Rows.fnExactFormatRow.recurses == Tryd.prog.recurses 5)) = true := by kernel_rfl
theorem j13 : ((Rows.fnExactFormatRow.named == Tryd.prog.varsNamed 5)) = true := by kernel_rfl
theorem j14 : ((Rows.fnExactFormatRow.maps == (Tryd.f5.params.toList ++ Rows.fnExactFormatSpec.plain.varTypes Tryd.prog).any (Tryd.prog.mapsRec ·))) = true := by kernel_rfl
theorem j15 : ((Rows.fnExactFormatRow.ifaces == (Tryd.f5.params.toList ++ Rows.fnExactFormatSpec.plain.varTypes Tryd.prog).any (Tryd.prog.ifacesRec ·))) = true := by kernel_rfl
theorem j16 : ((Rows.fnExactFormatRow.mapsOut == Tryd.prog.mapsAmong Tryd.f5.resultTypes.toList)) = true := by kernel_rfl
theorem j17 : ((Rows.fnExactFormatRow.loops == (Tryd.f5.params.toList ++ Rows.fnExactFormatSpec.plain.varTypes Tryd.prog).any (Tryd.prog.loopsFrom ·))) = true := by kernel_rfl
theorem j18 : ((Rows.fnExactFormatRow.wideKeys == (Tryd.f5.params.toList ++ Rows.fnExactFormatSpec.plain.varTypes Tryd.prog ++ Tryd.f5.resultTypes.toList).any (Tryd.prog.wideKeysFrom ·))) = true := by kernel_rfl
theorem j19 : (Rows.fnExactFormatSpec.vars.all (Tryd.prog.varReadable ·)) = true := by kernel_rfl
theorem j20 : (Tryd.f5.resultTypes.all (fun t => Tryd.prog.readableRec t && decide (t < Tryd.prog.types.size))) = true := by kernel_rfl
theorem j21 : ((Rows.fnExactFormatRow.ifacesOut == Tryd.f5.resultTypes.toList.any (Tryd.prog.ifacesRec ·))) = true := by kernel_rfl
theorem j22 : ((Rows.fnExactFormatRow.loopsOut == Tryd.f5.resultTypes.toList.any (Tryd.prog.loopsFrom ·))) = true := by kernel_rfl
theorem j23 : ((Rows.fnExactFormatRow.plainKeys == Tryd.prog.plainKeys)) = true := by kernel_rfl
theorem j24 : (Rows.fnExactFormatRow.shortTexts.isNone) = true := by kernel_rfl
theorem j25 : (Tryd.prog.stopsHeard) = true := by kernel_rfl
theorem j29 : ((Rows.fnExactFormatRow.kinds == (if Rows.fnExactFormatRow.domain.isEmpty then [] else Tryd.f5.params.toList.map fun t => match Tryd.prog.underlying t with | some (.int k) => some k | _ => none))) = true := by kernel_rfl
theorem j30 : ((Rows.fnExactFormatRow.pinned == Rows.fnExactFormatRow.pinnedBy)) = true := by kernel_rfl
theorem j31 : ((Rows.fnExactFormatRow.veiled == (Tryd.f5.params.toList ++ Rows.fnExactFormatSpec.plain.varTypes Tryd.prog ++ Tryd.f5.resultTypes.toList).any (Tryd.prog.veiledRec ·))) = true := by kernel_rfl
theorem j32 : (Rows.fnExactFormatRow.veiledFits Tryd.prog Tryd.f5.params.toList (Tryd.f5.params.toList ++ Rows.fnExactFormatSpec.plain.varTypes Tryd.prog ++ Tryd.f5.resultTypes.toList)) = true := by kernel_rfl
theorem j27 : (Rows.fnExactFormatRow.lifted == Tryd.prog.liftsFinal) = true := by rw [lifts_ok]; rfl
theorem j28 : (Tryd.prog.make == some Rows.fnExactFormatRow.make) = true := by rw [make_ok]; kernel_rfl
set_option maxRecDepth 100000 in
theorem joined : joinedFacts Tryd.prog 5 Tryd.f5 Rows.fnExactFormatSpec Rows.fnExactFormatRow = true := by
  unfold joinedFacts
  exact Bool.and_eq_true_iff.2 ⟨Bool.and_eq_true_iff.2 ⟨Bool.and_eq_true_iff.2 ⟨Bool.and_eq_true_iff.2 ⟨Bool.and_eq_true_iff.2 ⟨Bool.and_eq_true_iff.2 ⟨Bool.and_eq_true_iff.2 ⟨Bool.and_eq_true_iff.2 ⟨Bool.and_eq_true_iff.2 ⟨Bool.and_eq_true_iff.2 ⟨Bool.and_eq_true_iff.2 ⟨Bool.and_eq_true_iff.2 ⟨Bool.and_eq_true_iff.2 ⟨Bool.and_eq_true_iff.2 ⟨Bool.and_eq_true_iff.2 ⟨Bool.and_eq_true_iff.2 ⟨Bool.and_eq_true_iff.2 ⟨Bool.and_eq_true_iff.2 ⟨Bool.and_eq_true_iff.2 ⟨Bool.and_eq_true_iff.2 ⟨Bool.and_eq_true_iff.2 ⟨Bool.and_eq_true_iff.2 ⟨Bool.and_eq_true_iff.2 ⟨Bool.and_eq_true_iff.2 ⟨Bool.and_eq_true_iff.2 ⟨Bool.and_eq_true_iff.2 ⟨Bool.and_eq_true_iff.2 ⟨Bool.and_eq_true_iff.2 ⟨Bool.and_eq_true_iff.2 ⟨Bool.and_eq_true_iff.2 ⟨Bool.and_eq_true_iff.2 ⟨j1, j2⟩, j3⟩, j4⟩, j5⟩, j6⟩, j7⟩, j8⟩, j9⟩, j10⟩, j11⟩, j12⟩, j13⟩, j14⟩, j15⟩, j16⟩, j17⟩, j18⟩, j19⟩, j20⟩, j21⟩, j22⟩, j23⟩, j24⟩, j25⟩, mayEnter_ok⟩, j27⟩, j28⟩, j29⟩, j30⟩, j31⟩, j32⟩
end Go.Proofs.YtigabjibdepoiaaDoor.fnExactFormat
