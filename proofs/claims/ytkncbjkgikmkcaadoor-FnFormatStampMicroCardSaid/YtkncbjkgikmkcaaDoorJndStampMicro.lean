/- What the row of FnFormatStampMicro says of the whole program, conjunct by conjunct (the heavy ones once for all rows, in texts of their own). -/
import Derived.Test.YtkncbjkgikmkcaaDoorRows
import Derived.JoinedOf
import Derived.KernelRfl
import Derived.Test.YtkncbjkgikmkcaaDoorFactsM
import Derived.Test.YtkncbjkgikmkcaaDoorFactsL
import Derived.Test.YtkncbjkgikmkcaaDoorFactsK3
namespace Go.Proofs.YtkncbjkgikmkcaaDoor.fnFormatStampMicro
open Go Go.Proofs.YtkncbjkgikmkcaaDoor.Tm
theorem j1 : (Rows.fnFormatStampMicroRow.wf (OpenSpec.ofChange Rows.fnFormatStampMicroSpec)) = true := by kernel_rfl
theorem j2 : (laidOutB Tryd.prog) = true := by kernel_rfl
theorem j3 : (mapsRowed Tryd.prog) = true := by kernel_rfl
theorem j4 : (Tryd.f11.params.all (Tryd.prog.readableRec ·)) = true := by kernel_rfl
theorem j5 : (namedTie Tryd.prog Rows.fnFormatStampMicroRow.named Rows.fnFormatStampMicroSpec.vars) = true := by kernel_rfl
theorem j6 : ((Rows.fnFormatStampMicroRow.stops == [])) = true := by kernel_rfl
theorem j7 : ((Tryd.prog.stops == [])) = true := by kernel_rfl
theorem j8 : ((Rows.fnFormatStampMicroRow.knobs == [])) = true := by kernel_rfl
theorem j9 : ((Tryd.prog.stopKnobs == [])) = true := by kernel_rfl
theorem j10 : ((Rows.fnFormatStampMicroRow.inPlace == Tryd.prog.inPlace 11)) = true := by kernel_rfl
theorem j11 : ((Rows.fnFormatStampMicroRow.unfollowed == Tryd.prog.unfollowed 11)) = true := by kernel_rfl
theorem j12 : ((Rows.fnFormatStampMicroRow.recurses == Tryd.prog.recurses 11)) = true := by kernel_rfl
theorem j13 : ((Rows.fnFormatStampMicroRow.named == Tryd.prog.varsNamed 11)) = true := by kernel_rfl
theorem j14 : ((Rows.fnFormatStampMicroRow.maps == (Tryd.f11.params.toList ++ Rows.fnFormatStampMicroSpec.plain.varTypes Tryd.prog).any (Tryd.prog.mapsRec ·))) = true := by kernel_rfl
theorem j15 : ((Rows.fnFormatStampMicroRow.ifaces == (Tryd.f11.params.toList ++ Rows.fnFormatStampMicroSpec.plain.varTypes Tryd.prog).any (Tryd.prog.ifacesRec ·))) = true := by kernel_rfl
theorem j16 : ((Rows.fnFormatStampMicroRow.mapsOut == Tryd.prog.mapsAmong Tryd.f11.resultTypes.toList)) = true := by kernel_rfl
theorem j17 : ((Rows.fnFormatStampMicroRow.loops == (Tryd.f11.params.toList ++ Rows.fnFormatStampMicroSpec.plain.varTypes Tryd.prog).any (Tryd.prog.loopsFrom ·))) = true := by kernel_rfl
theorem j18 : ((Rows.fnFormatStampMicroRow.wideKeys == (Tryd.f11.params.toList ++ Rows.fnFormatStampMicroSpec.plain.varTypes Tryd.prog ++ Tryd.f11.resultTypes.toList).any (Tryd.prog.wideKeysFrom ·))) = true := by kernel_rfl
theorem j19 : (Rows.fnFormatStampMicroSpec.vars.all (Tryd.prog.varReadable ·)) = true := by kernel_rfl
theorem j20 : (Tryd.f11.resultTypes.all (fun t => Tryd.prog.readableRec t && decide (t < Tryd.prog.types.size))) = true := by kernel_rfl
theorem j21 : ((Rows.fnFormatStampMicroRow.ifacesOut == Tryd.f11.resultTypes.toList.any (Tryd.prog.ifacesRec ·))) = true := by kernel_rfl
theorem j22 : ((Rows.fnFormatStampMicroRow.loopsOut == Tryd.f11.resultTypes.toList.any (Tryd.prog.loopsFrom ·))) = true := by kernel_rfl
theorem j23 : ((Rows.fnFormatStampMicroRow.plainKeys == Tryd.prog.plainKeys)) = true := by kernel_rfl
theorem j24 : (Rows.fnFormatStampMicroRow.shortTexts.isNone) = true := by kernel_rfl
theorem j25 : (Tryd.prog.stopsHeard) = true := by kernel_rfl
theorem j29 : ((Rows.fnFormatStampMicroRow.kinds == (if Rows.fnFormatStampMicroRow.domain.isEmpty then [] else Tryd.f11.params.toList.map fun t => match Tryd.prog.underlying t with | some (.int k) => some k | _ => none))) = true := by kernel_rfl
theorem j30 : ((Rows.fnFormatStampMicroRow.pinned == Rows.fnFormatStampMicroRow.pinnedBy)) = true := by kernel_rfl
theorem j31 : ((Rows.fnFormatStampMicroRow.veiled == (Tryd.f11.params.toList ++ Rows.fnFormatStampMicroSpec.plain.varTypes Tryd.prog ++ Tryd.f11.resultTypes.toList).any (Tryd.prog.veiledRec ·))) = true := by kernel_rfl
theorem j32 : (Rows.fnFormatStampMicroRow.veiledFits Tryd.prog Tryd.f11.params.toList (Tryd.f11.params.toList ++ Rows.fnFormatStampMicroSpec.plain.varTypes Tryd.prog ++ Tryd.f11.resultTypes.toList)) = true := by kernel_rfl
theorem j27 : (Rows.fnFormatStampMicroRow.lifted == Tryd.prog.liftsFinal) = true := by rw [lifts_ok]; rfl
theorem j28 : (Tryd.prog.make == some Rows.fnFormatStampMicroRow.make) = true := by rw [make_ok]; kernel_rfl
set_option maxRecDepth 100000 in
theorem joined : joinedFacts Tryd.prog 11 Tryd.f11 Rows.fnFormatStampMicroSpec Rows.fnFormatStampMicroRow = true := by
  unfold joinedFacts
  exact Bool.and_eq_true_iff.2 ⟨Bool.and_eq_true_iff.2 ⟨Bool.and_eq_true_iff.2 ⟨Bool.and_eq_true_iff.2 ⟨Bool.and_eq_true_iff.2 ⟨Bool.and_eq_true_iff.2 ⟨Bool.and_eq_true_iff.2 ⟨Bool.and_eq_true_iff.2 ⟨Bool.and_eq_true_iff.2 ⟨Bool.and_eq_true_iff.2 ⟨Bool.and_eq_true_iff.2 ⟨Bool.and_eq_true_iff.2 ⟨Bool.and_eq_true_iff.2 ⟨Bool.and_eq_true_iff.2 ⟨Bool.and_eq_true_iff.2 ⟨Bool.and_eq_true_iff.2 ⟨Bool.and_eq_true_iff.2 ⟨Bool.and_eq_true_iff.2 ⟨Bool.and_eq_true_iff.2 ⟨Bool.and_eq_true_iff.2 ⟨Bool.and_eq_true_iff.2 ⟨Bool.and_eq_true_iff.2 ⟨Bool.and_eq_true_iff.2 ⟨Bool.and_eq_true_iff.2 ⟨Bool.and_eq_true_iff.2 ⟨Bool.and_eq_true_iff.2 ⟨Bool.and_eq_true_iff.2 ⟨Bool.and_eq_true_iff.2 ⟨Bool.and_eq_true_iff.2 ⟨Bool.and_eq_true_iff.2 ⟨Bool.and_eq_true_iff.2 ⟨j1, j2⟩, j3⟩, j4⟩, j5⟩, j6⟩, j7⟩, j8⟩, j9⟩, j10⟩, j11⟩, j12⟩, j13⟩, j14⟩, j15⟩, j16⟩, j17⟩, j18⟩, j19⟩, j20⟩, j21⟩, j22⟩, j23⟩, j24⟩, j25⟩, mayEnter_ok⟩, j27⟩, j28⟩, j29⟩, j30⟩, j31⟩, j32⟩
end Go.Proofs.YtkncbjkgikmkcaaDoor.fnFormatStampMicro
