/- What the row of FnFormatUnixDate says of the whole program, conjunct by conjunct (the heavy ones once for all rows, in texts of their own). -/
import Derived.Test.YtkncbjkgikmkcaaDoorRows
import Derived.JoinedOf
import Derived.KernelRfl
import Derived.Test.YtkncbjkgikmkcaaDoorFactsM
import Derived.Test.YtkncbjkgikmkcaaDoorFactsL
import Derived.Test.YtkncbjkgikmkcaaDoorFactsK3
namespace Go.Proofs.YtkncbjkgikmkcaaDoor.fnFormatUnixDate
open Go Go.Proofs.YtkncbjkgikmkcaaDoor.Tm
theorem j1 : (Rows.fnFormatUnixDateRow.wf (OpenSpec.ofChange Rows.fnFormatUnixDateSpec)) = true := by kernel_rfl
theorem j2 : (laidOutB Tryd.prog) = true := by kernel_rfl
theorem j3 : (mapsRowed Tryd.prog) = true := by kernel_rfl
theorem j4 : (Tryd.f15.params.all (Tryd.prog.readableRec ·)) = true := by kernel_rfl
theorem j5 : (namedTie Tryd.prog Rows.fnFormatUnixDateRow.named Rows.fnFormatUnixDateSpec.vars) = true := by kernel_rfl
theorem j6 : ((Rows.fnFormatUnixDateRow.stops == [])) = true := by kernel_rfl
theorem j7 : ((Tryd.prog.stops == [])) = true := by kernel_rfl
theorem j8 : ((Rows.fnFormatUnixDateRow.knobs == [])) = true := by kernel_rfl
theorem j9 : ((Tryd.prog.stopKnobs == [])) = true := by kernel_rfl
theorem j10 : ((Rows.fnFormatUnixDateRow.inPlace == Tryd.prog.inPlace 15)) = true := by kernel_rfl
theorem j11 : ((Rows.fnFormatUnixDateRow.unfollowed == Tryd.prog.unfollowed 15)) = true := by kernel_rfl
theorem j12 : ((Rows.fnFormatUnixDateRow.recurses == Tryd.prog.recurses 15)) = true := by kernel_rfl
theorem j13 : ((Rows.fnFormatUnixDateRow.named == Tryd.prog.varsNamed 15)) = true := by kernel_rfl
theorem j14 : ((Rows.fnFormatUnixDateRow.maps == (Tryd.f15.params.toList ++ Rows.fnFormatUnixDateSpec.plain.varTypes Tryd.prog).any (Tryd.prog.mapsRec ·))) = true := by kernel_rfl
theorem j15 : ((Rows.fnFormatUnixDateRow.ifaces == (Tryd.f15.params.toList ++ Rows.fnFormatUnixDateSpec.plain.varTypes Tryd.prog).any (Tryd.prog.ifacesRec ·))) = true := by kernel_rfl
theorem j16 : ((Rows.fnFormatUnixDateRow.mapsOut == Tryd.prog.mapsAmong Tryd.f15.resultTypes.toList)) = true := by kernel_rfl
theorem j17 : ((Rows.fnFormatUnixDateRow.loops == (Tryd.f15.params.toList ++ Rows.fnFormatUnixDateSpec.plain.varTypes Tryd.prog).any (Tryd.prog.loopsFrom ·))) = true := by kernel_rfl
theorem j18 : ((Rows.fnFormatUnixDateRow.wideKeys == (Tryd.f15.params.toList ++ Rows.fnFormatUnixDateSpec.plain.varTypes Tryd.prog ++ Tryd.f15.resultTypes.toList).any (Tryd.prog.wideKeysFrom ·))) = true := by kernel_rfl
theorem j19 : (Rows.fnFormatUnixDateSpec.vars.all (Tryd.prog.varReadable ·)) = true := by kernel_rfl
theorem j20 : (Tryd.f15.resultTypes.all (fun t => Tryd.prog.readableRec t && decide (t < Tryd.prog.types.size))) = true := by kernel_rfl
theorem j21 : ((Rows.fnFormatUnixDateRow.ifacesOut == Tryd.f15.resultTypes.toList.any (Tryd.prog.ifacesRec ·))) = true := by kernel_rfl
theorem j22 : ((Rows.fnFormatUnixDateRow.loopsOut == Tryd.f15.resultTypes.toList.any (Tryd.prog.loopsFrom ·))) = true := by kernel_rfl
theorem j23 : ((Rows.fnFormatUnixDateRow.plainKeys == Tryd.prog.plainKeys)) = true := by kernel_rfl
theorem j24 : (Rows.fnFormatUnixDateRow.shortTexts.isNone) = true := by kernel_rfl
theorem j25 : (Tryd.prog.stopsHeard) = true := by kernel_rfl
theorem j29 : ((Rows.fnFormatUnixDateRow.kinds == (if Rows.fnFormatUnixDateRow.domain.isEmpty then [] else Tryd.f15.params.toList.map fun t => match Tryd.prog.underlying t with | some (.int k) => some k | _ => none))) = true := by kernel_rfl
theorem j30 : ((Rows.fnFormatUnixDateRow.pinned == Rows.fnFormatUnixDateRow.pinnedBy)) = true := by kernel_rfl
theorem j31 : ((Rows.fnFormatUnixDateRow.veiled == (Tryd.f15.params.toList ++ Rows.fnFormatUnixDateSpec.plain.varTypes Tryd.prog ++ Tryd.f15.resultTypes.toList).any (Tryd.prog.veiledRec ·))) = true := by kernel_rfl
theorem j32 : (Rows.fnFormatUnixDateRow.veiledFits Tryd.prog Tryd.f15.params.toList (Tryd.f15.params.toList ++ Rows.fnFormatUnixDateSpec.plain.varTypes Tryd.prog ++ Tryd.f15.resultTypes.toList)) = true := by kernel_rfl
theorem j27 : (Rows.fnFormatUnixDateRow.lifted == Tryd.prog.liftsFinal) = true := by rw [lifts_ok]; rfl
theorem j28 : (Tryd.prog.make == some Rows.fnFormatUnixDateRow.make) = true := by rw [make_ok]; kernel_rfl
set_option maxRecDepth 100000 in
theorem joined : joinedFacts Tryd.prog 15 Tryd.f15 Rows.fnFormatUnixDateSpec Rows.fnFormatUnixDateRow = true := by
  unfold joinedFacts
  exact Bool.and_eq_true_iff.2 ⟨Bool.and_eq_true_iff.2 ⟨Bool.and_eq_true_iff.2 ⟨Bool.and_eq_true_iff.2 ⟨Bool.and_eq_true_iff.2 ⟨Bool.and_eq_true_iff.2 ⟨Bool.and_eq_true_iff.2 ⟨Bool.and_eq_true_iff.2 ⟨Bool.and_eq_true_iff.2 ⟨Bool.and_eq_true_iff.2 ⟨Bool.and_eq_true_iff.2 ⟨Bool.and_eq_true_iff.2 ⟨Bool.and_eq_true_iff.2 ⟨Bool.and_eq_true_iff.2 ⟨Bool.and_eq_true_iff.2 ⟨Bool.and_eq_true_iff.2 ⟨Bool.and_eq_true_iff.2 ⟨Bool.and_eq_true_iff.2 ⟨Bool.and_eq_true_iff.2 ⟨Bool.and_eq_true_iff.2 ⟨Bool.and_eq_true_iff.2 ⟨Bool.and_eq_true_iff.2 ⟨Bool.and_eq_true_iff.2 ⟨Bool.and_eq_true_iff.2 ⟨Bool.and_eq_true_iff.2 ⟨Bool.and_eq_true_iff.2 ⟨Bool.and_eq_true_iff.2 ⟨Bool.and_eq_true_iff.2 ⟨Bool.and_eq_true_iff.2 ⟨Bool.and_eq_true_iff.2 ⟨Bool.and_eq_true_iff.2 ⟨j1, j2⟩, j3⟩, j4⟩, j5⟩, j6⟩, j7⟩, j8⟩, j9⟩, j10⟩, j11⟩, j12⟩, j13⟩, j14⟩, j15⟩, j16⟩, j17⟩, j18⟩, j19⟩, j20⟩, j21⟩, j22⟩, j23⟩, j24⟩, j25⟩, mayEnter_ok⟩, j27⟩, j28⟩, j29⟩, j30⟩, j31⟩, j32⟩
end Go.Proofs.YtkncbjkgikmkcaaDoor.fnFormatUnixDate
