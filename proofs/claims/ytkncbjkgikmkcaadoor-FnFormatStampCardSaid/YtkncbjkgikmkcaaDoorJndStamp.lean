/- What the row of FnFormatStamp says of the whole program, conjunct by conjunct (the heavy ones once for all rows, in texts of their own). -/
import Derived.Test.YtkncbjkgikmkcaaDoorRows
import Derived.JoinedOf
import Derived.KernelRfl
import Derived.Test.YtkncbjkgikmkcaaDoorFactsM
import Derived.Test.YtkncbjkgikmkcaaDoorFactsL
import Derived.Test.YtkncbjkgikmkcaaDoorFactsK3
namespace Go.Proofs.YtkncbjkgikmkcaaDoor.fnFormatStamp
open Go Go.Proofs.YtkncbjkgikmkcaaDoor.Tm
theorem j1 : (Rows.fnFormatStampRow.wf (OpenSpec.ofChange Rows.fnFormatStampSpec)) = true := by kernel_rfl
theorem j2 : (laidOutB Tryd.prog) = true := by kernel_rfl
theorem j3 : (mapsRowed Tryd.prog) = true := by kernel_rfl
theorem j4 : (Tryd.f10.params.all (Tryd.prog.readableRec ·)) = true := by kernel_rfl
theorem j5 : (namedTie Tryd.prog Rows.fnFormatStampRow.named Rows.fnFormatStampSpec.vars) = true := by kernel_rfl
theorem j6 : ((Rows.fnFormatStampRow.stops == [])) = true := by kernel_rfl
theorem j7 : ((Tryd.prog.stops == [])) = true := by kernel_rfl
theorem j8 : ((Rows.fnFormatStampRow.knobs == [])) = true := by kernel_rfl
theorem j9 : ((Tryd.prog.stopKnobs == [])) = true := by kernel_rfl
theorem j10 : ((Rows.fnFormatStampRow.inPlace == Tryd.prog.inPlace 10)) = true := by kernel_rfl
theorem j11 : ((Rows.fnFormatStampRow.unfollowed == Tryd.prog.unfollowed 10)) = true := by kernel_rfl
theorem j12 : ((Rows.fnFormatStampRow.recurses == Tryd.prog.recurses 10)) = true := by kernel_rfl
theorem j13 : ((Rows.fnFormatStampRow.named == Tryd.prog.varsNamed 10)) = true := by kernel_rfl
theorem j14 : ((Rows.fnFormatStampRow.maps == (Tryd.f10.params.toList ++ Rows.fnFormatStampSpec.plain.varTypes Tryd.prog).any (Tryd.prog.mapsRec ·))) = true := by kernel_rfl
theorem j15 : ((Rows.fnFormatStampRow.ifaces == (Tryd.f10.params.toList ++ Rows.fnFormatStampSpec.plain.varTypes Tryd.prog).any (Tryd.prog.ifacesRec ·))) = true := by kernel_rfl
theorem j16 : ((Rows.fnFormatStampRow.mapsOut == Tryd.prog.mapsAmong Tryd.f10.resultTypes.toList)) = true := by kernel_rfl
theorem j17 : ((Rows.fnFormatStampRow.loops == (Tryd.f10.params.toList ++ Rows.fnFormatStampSpec.plain.varTypes Tryd.prog).any (Tryd.prog.loopsFrom ·))) = true := by kernel_rfl
theorem j18 : ((Rows.fnFormatStampRow.wideKeys == (Tryd.f10.params.toList ++ Rows.fnFormatStampSpec.plain.varTypes Tryd.prog ++ Tryd.f10.resultTypes.toList).any (Tryd.prog.wideKeysFrom ·))) = true := by kernel_rfl
theorem j19 : (Rows.fnFormatStampSpec.vars.all (Tryd.prog.varReadable ·)) = true := by kernel_rfl
theorem j20 : (Tryd.f10.resultTypes.all (fun t => Tryd.prog.readableRec t && decide (t < Tryd.prog.types.size))) = true := by kernel_rfl
theorem j21 : ((Rows.fnFormatStampRow.ifacesOut == Tryd.f10.resultTypes.toList.any (Tryd.prog.ifacesRec ·))) = true := by kernel_rfl
theorem j22 : ((Rows.fnFormatStampRow.loopsOut == Tryd.f10.resultTypes.toList.any (Tryd.prog.loopsFrom ·))) = true := by kernel_rfl
theorem j23 : ((Rows.fnFormatStampRow.plainKeys == Tryd.prog.plainKeys)) = true := by kernel_rfl
theorem j24 : (Rows.fnFormatStampRow.shortTexts.isNone) = true := by kernel_rfl
theorem j25 : (Tryd.prog.stopsHeard) = true := by kernel_rfl
theorem j29 : ((Rows.fnFormatStampRow.kinds == (if Rows.fnFormatStampRow.domain.isEmpty then [] else Tryd.f10.params.toList.map fun t => match Tryd.prog.underlying t with | some (.int k) => some k | _ => none))) = true := by kernel_rfl
theorem j30 : ((Rows.fnFormatStampRow.pinned == Rows.fnFormatStampRow.pinnedBy)) = true := by kernel_rfl
theorem j31 : ((Rows.fnFormatStampRow.veiled == (Tryd.f10.params.toList ++ Rows.fnFormatStampSpec.plain.varTypes Tryd.prog ++ Tryd.f10.resultTypes.toList).any (Tryd.prog.veiledRec ·))) = true := by kernel_rfl
theorem j32 : (Rows.fnFormatStampRow.veiledFits Tryd.prog Tryd.f10.params.toList (Tryd.f10.params.toList ++ Rows.fnFormatStampSpec.plain.varTypes Tryd.prog ++ Tryd.f10.resultTypes.toList)) = true := by kernel_rfl
theorem j27 : (Rows.fnFormatStampRow.lifted == Tryd.prog.liftsFinal) = true := by rw [lifts_ok]; rfl
theorem j28 : (Tryd.prog.make == some Rows.fnFormatStampRow.make) = true := by rw [make_ok]; kernel_rfl
set_option maxRecDepth 100000 in
theorem joined : joinedFacts Tryd.prog 10 Tryd.f10 Rows.fnFormatStampSpec Rows.fnFormatStampRow = true := by
  unfold joinedFacts
  exact Bool.and_eq_true_iff.2 ⟨Bool.and_eq_true_iff.2 ⟨Bool.and_eq_true_iff.2 ⟨Bool.and_eq_true_iff.2 ⟨Bool.and_eq_true_iff.2 ⟨Bool.and_eq_true_iff.2 ⟨Bool.and_eq_true_iff.2 ⟨Bool.and_eq_true_iff.2 ⟨Bool.and_eq_true_iff.2 ⟨Bool.and_eq_true_iff.2 ⟨Bool.and_eq_true_iff.2 ⟨Bool.and_eq_true_iff.2 ⟨Bool.and_eq_true_iff.2 ⟨Bool.and_eq_true_iff.2 ⟨Bool.and_eq_true_iff.2 ⟨Bool.and_eq_true_iff.2 ⟨Bool.and_eq_true_iff.2 ⟨Bool.and_eq_true_iff.2 ⟨Bool.and_eq_true_iff.2 ⟨Bool.and_eq_true_iff.2 ⟨Bool.and_eq_true_iff.2 ⟨Bool.and_eq_true_iff.2 ⟨Bool.and_eq_true_iff.2 ⟨Bool.and_eq_true_iff.2 ⟨Bool.and_eq_true_iff.2 ⟨Bool.and_eq_true_iff.2 ⟨Bool.and_eq_true_iff.2 ⟨Bool.and_eq_true_iff.2 ⟨Bool.and_eq_true_iff.2 ⟨Bool.and_eq_true_iff.2 ⟨Bool.and_eq_true_iff.2 ⟨j1, j2⟩, j3⟩, j4⟩, j5⟩, j6⟩, j7⟩, j8⟩, j9⟩, j10⟩, j11⟩, j12⟩, j13⟩, j14⟩, j15⟩, j16⟩, j17⟩, j18⟩, j19⟩, j20⟩, j21⟩, j22⟩, j23⟩, j24⟩, j25⟩, mayEnter_ok⟩, j27⟩, j28⟩, j29⟩, j30⟩, j31⟩, j32⟩
end Go.Proofs.YtkncbjkgikmkcaaDoor.fnFormatStamp
