/- What the row of FnFormatRFC3339Nano says of the whole program, conjunct by conjunct (the heavy ones once for all rows, in texts of their own). -/
import Derived.Test.YtigabjibdepoiaaDoorRows
import Derived.JoinedOf
import Derived.KernelRfl
import Derived.Test.YtigabjibdepoiaaDoorFactsM
import Derived.Test.YtigabjibdepoiaaDoorFactsL
import Derived.Test.YtigabjibdepoiaaDoorFactsK2
namespace Go.Proofs.YtigabjibdepoiaaDoor.fnFormatRFC3339Nano
open Go Go.Proofs.YtigabjibdepoiaaDoor.Tm
theorem j1 : (Rows.fnFormatRFC3339NanoRow.wf (OpenSpec.ofChange Rows.fnFormatRFC3339NanoSpec)) = true := by kernel_rfl
theorem j2 : (laidOutB Tryd.prog) = true := by kernel_rfl
theorem j3 : (mapsRowed Tryd.prog) = true := by kernel_rfl
theorem j4 : (Tryd.f11.params.all (Tryd.prog.readableRec ·)) = true := by kernel_rfl
theorem j5 : (namedTie Tryd.prog Rows.fnFormatRFC3339NanoRow.named Rows.fnFormatRFC3339NanoSpec.vars) = true := by kernel_rfl
theorem j6 : ((Rows.fnFormatRFC3339NanoRow.stops == [])) = true := by kernel_rfl
theorem j7 : ((Tryd.prog.stops == [])) = true := by kernel_rfl
theorem j8 : ((Rows.fnFormatRFC3339NanoRow.knobs == [])) = true := by kernel_rfl
theorem j9 : ((Tryd.prog.stopKnobs == [])) = true := by kernel_rfl
theorem j10 : ((Rows.fnFormatRFC3339NanoRow.inPlace == Tryd.prog.inPlace 11)) = true := by kernel_rfl
theorem j11 : ((Rows.fnFormatRFC3339NanoRow.unfollowed == Tryd.prog.unfollowed 11)) = true := by kernel_rfl
theorem j12 : ((Rows.fnFormatRFC3339NanoRow.recurses == Tryd.prog.recurses 11)) = true := by kernel_rfl
theorem j13 : ((Rows.fnFormatRFC3339NanoRow.named == Tryd.prog.varsNamed 11)) = true := by kernel_rfl
theorem j14 : ((Rows.fnFormatRFC3339NanoRow.maps == (Tryd.f11.params.toList ++ Rows.fnFormatRFC3339NanoSpec.plain.varTypes Tryd.prog).any (Tryd.prog.mapsRec ·))) = true := by kernel_rfl
theorem j15 : ((Rows.fnFormatRFC3339NanoRow.ifaces == (Tryd.f11.params.toList ++ Rows.fnFormatRFC3339NanoSpec.plain.varTypes Tryd.prog).any (Tryd.prog.ifacesRec ·))) = true := by kernel_rfl
theorem j16 : ((Rows.fnFormatRFC3339NanoRow.mapsOut == Tryd.prog.mapsAmong Tryd.f11.resultTypes.toList)) = true := by kernel_rfl
theorem j17 : ((Rows.fnFormatRFC3339NanoRow.loops == (Tryd.f11.params.toList ++ Rows.fnFormatRFC3339NanoSpec.plain.varTypes Tryd.prog).any (Tryd.prog.loopsFrom ·))) = true := by kernel_rfl
theorem j18 : ((Rows.fnFormatRFC3339NanoRow.wideKeys == (Tryd.f11.params.toList ++ Rows.fnFormatRFC3339NanoSpec.plain.varTypes Tryd.prog ++ Tryd.f11.resultTypes.toList).any (Tryd.prog.wideKeysFrom ·))) = true := by kernel_rfl
theorem j19 : (Rows.fnFormatRFC3339NanoSpec.vars.all (Tryd.prog.varReadable ·)) = true := by kernel_rfl
theorem j20 : (Tryd.f11.resultTypes.all (fun t => Tryd.prog.readableRec t && decide (t < Tryd.prog.types.size))) = true := by kernel_rfl
theorem j21 : ((Rows.fnFormatRFC3339NanoRow.ifacesOut == Tryd.f11.resultTypes.toList.any (Tryd.prog.ifacesRec ·))) = true := by kernel_rfl
theorem j22 : ((Rows.fnFormatRFC3339NanoRow.loopsOut == Tryd.f11.resultTypes.toList.any (Tryd.prog.loopsFrom ·))) = true := by kernel_rfl
theorem j23 : ((Rows.fnFormatRFC3339NanoRow.plainKeys == Tryd.prog.plainKeys)) = true := by kernel_rfl
theorem j24 : (Rows.fnFormatRFC3339NanoRow.shortTexts.isNone) = true := by kernel_rfl
theorem j25 : (Tryd.prog.stopsHeard) = true := by kernel_rfl
theorem j29 : ((Rows.fnFormatRFC3339NanoRow.kinds == (if Rows.fnFormatRFC3339NanoRow.domain.isEmpty then [] else Tryd.f11.params.toList.map fun t => match Tryd.prog.underlying t with | some (.int k) => some k | _ => none))) = true := by kernel_rfl
theorem j30 : ((Rows.fnFormatRFC3339NanoRow.pinned == Rows.fnFormatRFC3339NanoRow.pinnedBy)) = true := by kernel_rfl
theorem j31 : ((Rows.fnFormatRFC3339NanoRow.veiled == (Tryd.f11.params.toList ++ Rows.fnFormatRFC3339NanoSpec.plain.varTypes Tryd.prog ++ Tryd.f11.resultTypes.toList).any (Tryd.prog.veiledRec ·))) = true := by kernel_rfl
theorem j32 : (Rows.fnFormatRFC3339NanoRow.veiledFits Tryd.prog Tryd.f11.params.toList (Tryd.f11.params.toList ++ Rows.fnFormatRFC3339NanoSpec.plain.varTypes Tryd.prog ++ Tryd.f11.resultTypes.toList)) = true := by kernel_rfl
theorem j27 : (Rows.fnFormatRFC3339NanoRow.lifted == Tryd.prog.liftsFinal) = true := by rw [lifts_ok]; rfl
theorem j28 : (Tryd.prog.make == some Rows.fnFormatRFC3339NanoRow.make) = true := by rw [make_ok]; kernel_rfl
set_option maxRecDepth 100000 in
theorem joined : joinedFacts Tryd.prog 11 Tryd.f11 Rows.fnFormatRFC3339NanoSpec Rows.fnFormatRFC3339NanoRow = true := by
  unfold joinedFacts
  exact Bool.and_eq_true_iff.2 ⟨Bool.and_eq_true_iff.2 ⟨Bool.and_eq_true_iff.2 ⟨Bool.and_eq_true_iff.2 ⟨Bool.and_eq_true_iff.2 ⟨Bool.and_eq_true_iff.2 ⟨Bool.and_eq_true_iff.2 ⟨Bool.and_eq_true_iff.2 ⟨Bool.and_eq_true_iff.2 ⟨Bool.and_eq_true_iff.2 ⟨Bool.and_eq_true_iff.2 ⟨Bool.and_eq_true_iff.2 ⟨Bool.and_eq_true_iff.2 ⟨Bool.and_eq_true_iff.2 ⟨Bool.and_eq_true_iff.2 ⟨Bool.and_eq_true_iff.2 ⟨Bool.and_eq_true_iff.2 ⟨Bool.and_eq_true_iff.2 ⟨Bool.and_eq_true_iff.2 ⟨Bool.and_eq_true_iff.2 ⟨Bool.and_eq_true_iff.2 ⟨Bool.and_eq_true_iff.2 ⟨Bool.and_eq_true_iff.2 ⟨Bool.and_eq_true_iff.2 ⟨Bool.and_eq_true_iff.2 ⟨Bool.and_eq_true_iff.2 ⟨Bool.and_eq_true_iff.2 ⟨Bool.and_eq_true_iff.2 ⟨Bool.and_eq_true_iff.2 ⟨Bool.and_eq_true_iff.2 ⟨Bool.and_eq_true_iff.2 ⟨j1, j2⟩, j3⟩, j4⟩, j5⟩, j6⟩, j7⟩, j8⟩, j9⟩, j10⟩, j11⟩, j12⟩, j13⟩, j14⟩, j15⟩, j16⟩, j17⟩, j18⟩, j19⟩, j20⟩, j21⟩, j22⟩, j23⟩, j24⟩, j25⟩, mayEnter_ok⟩, j27⟩, j28⟩, j29⟩, j30⟩, j31⟩, j32⟩
end Go.Proofs.YtigabjibdepoiaaDoor.fnFormatRFC3339Nano
