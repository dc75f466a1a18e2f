/- What the row of FnFormatRFC822Z says of the whole program, conjunct by conjunct (the heavy ones once for all rows, in texts of their own). -/
import Derived.Test.YtkncbjkgikmkcaaDoorRows
import Derived.JoinedOf
import Derived.KernelRfl
import Derived.Test.YtkncbjkgikmkcaaDoorFactsM
import Derived.Test.YtkncbjkgikmkcaaDoorFactsL
import Derived.Test.YtkncbjkgikmkcaaDoorFactsK3
namespace Go.Proofs.YtkncbjkgikmkcaaDoor.fnFormatRFC822Z
open Go Go.Proofs.YtkncbjkgikmkcaaDoor.Tm
theorem j1 : (Rows.fnFormatRFC822ZRow.wf (OpenSpec.ofChange Rows.fnFormatRFC822ZSpec)) = true := by kernel_rfl
theorem j2 : (laidOutB Tryd.prog) = true := by kernel_rfl
theorem j3 : (mapsRowed Tryd.prog) = true := by kernel_rfl
theorem j4 : (Tryd.f7.params.all (Tryd.prog.readableRec ·)) = true := by kernel_rfl
theorem j5 : (namedTie Tryd.prog Rows.fnFormatRFC822ZRow.named Rows.fnFormatRFC822ZSpec.vars) = true := by kernel_rfl
theorem j6 : ((Rows.fnFormatRFC822ZRow.stops == [])) = true := by kernel_rfl
theorem j7 : ((Tryd.prog.stops == [])) = true := by kernel_rfl
theorem j8 : ((Rows.fnFormatRFC822ZRow.knobs == [])) = true := by kernel_rfl
theorem j9 : ((Tryd.prog.stopKnobs == [])) = true := by kernel_rfl
theorem j10 : ((Rows.fnFormatRFC822ZRow.inPlace == Tryd.prog.inPlace 7)) = true := by kernel_rfl
theorem j11 : ((Rows.fnFormatRFC822ZRow.unfollowed == Tryd.prog.unfollowed 7)) = true := by kernel_rfl
theorem j12 : ((Rows.fnFormatRFC822ZRow.recurses == Tryd.prog.recurses 7)) = true := by kernel_rfl
theorem j13 : ((Rows.fnFormatRFC822ZRow.named == Tryd.prog.varsNamed 7)) = true := by kernel_rfl
theorem j14 : ((Rows.fnFormatRFC822ZRow.maps == (Tryd.f7.params.toList ++ Rows.fnFormatRFC822ZSpec.plain.varTypes Tryd.prog).any (Tryd.prog.mapsRec ·))) = true := by kernel_rfl
theorem j15 : ((Rows.fnFormatRFC822ZRow.ifaces == (Tryd.f7.params.toList ++ Rows.fnFormatRFC822ZSpec.plain.varTypes Tryd.prog).any (Tryd.prog.ifacesRec ·))) = true := by kernel_rfl
theorem j16 : ((Rows.fnFormatRFC822ZRow.mapsOut == Tryd.prog.mapsAmong Tryd.f7.resultTypes.toList)) = true := by kernel_rfl
theorem j17 : ((Rows.fnFormatRFC822ZRow.loops == (Tryd.f7.params.toList ++ Rows.fnFormatRFC822ZSpec.plain.varTypes Tryd.prog).any (Tryd.prog.loopsFrom ·))) = true := by kernel_rfl
theorem j18 : ((Rows.fnFormatRFC822ZRow.wideKeys == (Tryd.f7.params.toList ++ Rows.fnFormatRFC822ZSpec.plain.varTypes Tryd.prog ++ Tryd.f7.resultTypes.toList).any (Tryd.prog.wideKeysFrom ·))) = true := by kernel_rfl
theorem j19 : (Rows.fnFormatRFC822ZSpec.vars.all (Tryd.prog.varReadable ·)) = true := by kernel_rfl
theorem j20 : (Tryd.f7.resultTypes.all (fun t => Tryd.prog.readableRec t && decide (t < Tryd.prog.types.size))) = true := by kernel_rfl
theorem j21 : ((Rows.fnFormatRFC822ZRow.ifacesOut == Tryd.f7.resultTypes.toList.any (Tryd.prog.ifacesRec ·))) = true := by kernel_rfl
theorem j22 : ((Rows.fnFormatRFC822ZRow.loopsOut == Tryd.f7.resultTypes.toList.any (Tryd.prog.loopsFrom ·))) = true := by kernel_rfl
theorem j23 : ((Rows.fnFormatRFC822ZRow.plainKeys == Tryd.prog.plainKeys)) = true := by kernel_rfl
theorem j24 : (Rows.fnFormatRFC822ZRow.shortTexts.isNone) = true := by kernel_rfl
theorem j25 : (Tryd.prog.stopsHeard) = true := by kernel_rfl
theorem j29 : ((Rows.fnFormatRFC822ZRow.kinds == (if Rows.fnFormatRFC822ZRow.domain.isEmpty then [] else Tryd.f7.params.toList.map fun t => match Tryd.prog.underlying t with | some (.int k) => some k | _ => none))) = true := by kernel_rfl
theorem j30 : ((Rows.fnFormatRFC822ZRow.pinned == Rows.fnFormatRFC822ZRow.pinnedBy)) = true := by kernel_rfl
theorem j31 : ((Rows.fnFormatRFC822ZRow.veiled == (Tryd.f7.params.toList ++ Rows.fnFormatRFC822ZSpec.plain.varTypes Tryd.prog ++ Tryd.f7.resultTypes.toList).any (Tryd.prog.veiledRec ·))) = true := by kernel_rfl
theorem j32 : (Rows.fnFormatRFC822ZRow.veiledFits Tryd.prog Tryd.f7.params.toList (Tryd.f7.params.toList ++ Rows.fnFormatRFC822ZSpec.plain.varTypes Tryd.prog ++ Tryd.f7.resultTypes.toList)) = true := by kernel_rfl
theorem j27 : (Rows.fnFormatRFC822ZRow.lifted == Tryd.prog.liftsFinal) = true := by rw [lifts_ok]; rfl
theorem j28 : (Tryd.prog.make == some Rows.fnFormatRFC822ZRow.make) = true := by rw [make_ok]; kernel_rfl
set_option maxRecDepth 100000 in
theorem joined : joinedFacts Tryd.prog 7 Tryd.f7 Rows.fnFormatRFC822ZSpec Rows.fnFormatRFC822ZRow = true := by
  unfold joinedFacts
  exact Bool.and_eq_true_iff.2 ⟨Bool.and_eq_true_iff.2 ⟨Bool.and_eq_true_iff.2 ⟨Bool.and_eq_true_iff.2 ⟨Bool.and_eq_true_iff.2 ⟨Bool.and_eq_true_iff.2 ⟨Bool.and_eq_true_iff.2 ⟨Bool.and_eq_true_iff.2 ⟨Bool.and_eq_true_iff.2 ⟨Bool.and_eq_true_iff.2 ⟨Bool.and_eq_true_iff.2 ⟨Bool.and_eq_true_iff.2 ⟨Bool.and_eq_true_iff.2 ⟨Bool.and_eq_true_iff.2 ⟨Bool.and_eq_true_iff.2 ⟨Bool.and_eq_true_iff.2 ⟨Bool.and_eq_true_iff.2 ⟨Bool.and_eq_true_iff.2 ⟨Bool.and_eq_true_iff.2 ⟨Bool.and_eq_true_iff.2 ⟨Bool.and_eq_true_iff.2 ⟨Bool.and_eq_true_iff.2 ⟨Bool.and_eq_true_iff.2 ⟨Bool.and_eq_true_iff.2 ⟨Bool.and_eq_true_iff.2 ⟨Bool.and_eq_true_iff.2 ⟨Bool.and_eq_true_iff.2 ⟨Bool.and_eq_true_iff.2 ⟨Bool.and_eq_true_iff.2 ⟨Bool.and_eq_true_iff.2 ⟨Bool.and_eq_true_iff.2 ⟨j1, j2⟩, j3⟩, j4⟩, j5⟩, j6⟩, j7⟩, j8⟩, j9⟩, j10⟩, j11⟩, j12⟩, j13⟩, j14⟩, j15⟩, j16⟩, j17⟩, j18⟩, j19⟩, j20⟩, j21⟩, j22⟩, j23⟩, j24⟩, j25⟩, mayEnter_ok⟩, j27⟩, j28⟩, j29⟩, j30⟩, j31⟩, j32⟩
end Go.Proofs.YtkncbjkgikmkcaaDoor.fnFormatRFC822Z
