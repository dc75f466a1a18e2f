/- What the row of FnFormatRFC850 says of the whole program, conjunct by conjunct (the heavy ones once for all rows, in texts of their own). -/
import Derived.Test.YtkncbjkgikmkcaaDoorRows
import Derived.JoinedOf
import Derived.KernelRfl
import Derived.Test.YtkncbjkgikmkcaaDoorFactsM
import Derived.Test.YtkncbjkgikmkcaaDoorFactsL
import Derived.Test.YtkncbjkgikmkcaaDoorFactsK3
namespace Go.Proofs.YtkncbjkgikmkcaaDoor.fnFormatRFC850
open Go Go.Proofs.YtkncbjkgikmkcaaDoor.Tm
theorem j1 : (Rows.fnFormatRFC850Row.wf (OpenSpec.ofChange Rows.fnFormatRFC850Spec)) = true := by kernel_rfl
theorem j2 : (laidOutB Tryd.prog) = true := by kernel_rfl
theorem j3 : (mapsRowed Tryd.prog) = true := by kernel_rfl
theorem j4 : (Tryd.f8.params.all (Tryd.prog.readableRec ·)) = true := by kernel_rfl
theorem j5 : (namedTie Tryd.prog Rows.fnFormatRFC850Row.named Rows.fnFormatRFC850Spec.vars) = true := by kernel_rfl
theorem j6 : ((Rows.fnFormatRFC850Row.stops == [])) = true := by kernel_rfl
theorem j7 : ((Tryd.prog.stops == [])) = true := by kernel_rfl
theorem j8 : ((Rows.fnFormatRFC850Row.knobs == [])) = true := by kernel_rfl
theorem j9 : ((Tryd.prog.stopKnobs == [])) = true := by kernel_rfl
theorem j10 : ((Rows.fnFormatRFC850Row.inPlace == Tryd.prog.inPlace 8)) = true := by kernel_rfl
theorem j11 : ((Rows.fnFormatRFC850Row.unfollowed == Tryd.prog.unfollowed 8)) = true := by kernel_rfl
theorem j12 : ((Rows.fnFormatRFC850Row.recurses == Tryd.prog.recurses 8)) = true := by kernel_rfl
theorem j13 : ((Rows.fnFormatRFC850Row.named == Tryd.prog.varsNamed 8)) = true := by kernel_rfl
theorem j14 : ((Rows.fnFormatRFC850Row.maps == (Tryd.f8.params.toList ++ Rows.fnFormatRFC850Spec.plain.varTypes Tryd.prog).any (Tryd.prog.mapsRec ·))) = true := by kernel_rfl
theorem j15 : ((Rows.fnFormatRFC850Row.ifaces == (Tryd.f8.params.toList ++ Rows.fnFormatRFC850Spec.plain.varTypes Tryd.prog).any (Tryd.prog.ifacesRec ·))) = true := by kernel_rfl
theorem j16 : ((Rows.fnFormatRFC850Row.mapsOut == Tryd.prog.mapsAmong Tryd.f8.resultTypes.toList)) = true := by kernel_rfl
theorem j17 : ((Rows.fnFormatRFC850Row.loops == (Tryd.f8.params.toList ++ Rows.fnFormatRFC850Spec.plain.varTypes Tryd.prog).any (Tryd.prog.loopsFrom ·))) = true := by kernel_rfl
theorem j18 : ((Rows.fnFormatRFC850Row.wideKeys == (Tryd.f8.params.toList ++ Rows.fnFormatRFC850Spec.plain.varTypes Tryd.prog ++ Tryd.f8.resultTypes.toList).any (Tryd.prog.wideKeysFrom ·))) = true := by kernel_rfl
theorem j19 : (Rows.fnFormatRFC850Spec.vars.all (Tryd.prog.varReadable ·)) = true := by kernel_rfl
theorem j20 : (Tryd.f8.resultTypes.all (fun t => Tryd.prog.readableRec t && decide (t < Tryd.prog.types.size))) = true := by kernel_rfl
theorem j21 : ((Rows.fnFormatRFC850Row.ifacesOut == Tryd.f8.resultTypes.toList.any (Tryd.prog.ifacesRec ·))) = true := by kernel_rfl
theorem j22 : ((Rows.fnFormatRFC850Row.loopsOut == Tryd.f8.resultTypes.toList.any (Tryd.prog.loopsFrom ·))) = true := by kernel_rfl
theorem j23 : ((Rows.fnFormatRFC850Row.plainKeys == Tryd.prog.plainKeys)) = true := by kernel_rfl
theorem j24 : (Rows.fnFormatRFC850Row.shortTexts.isNone) = true := by kernel_rfl
theorem j25 : (Tryd.prog.stopsHeard) = true := by kernel_rfl
theorem j29 : ((Rows.fnFormatRFC850Row.kinds == (if Rows.fnFormatRFC850Row.domain.isEmpty then [] else Tryd.f8.params.toList.map fun t => match Tryd.prog.underlying t with | some (.int k) => some k | _ => none))) = true := by kernel_rfl
theorem j30 : ((Rows.fnFormatRFC850Row.pinned == Rows.fnFormatRFC850Row.pinnedBy)) = true := by kernel_rfl
theorem j31 : ((Rows.fnFormatRFC850Row.veiled == (Tryd.f8.params.toList ++ Rows.fnFormatRFC850Spec.plain.varTypes Tryd.prog ++ Tryd.f8.resultTypes.toList).any (Tryd.prog.veiledRec ·))) = true := by kernel_rfl
theorem j32 : (Rows.fnFormatRFC850Row.veiledFits Tryd.prog Tryd.f8.params.toList (Tryd.f8.params.toList ++ Rows.fnFormatRFC850Spec.plain.varTypes Tryd.prog ++ Tryd.f8.resultTypes.toList)) = true := by kernel_rfl
theorem j27 : (Rows.fnFormatRFC850Row.lifted == Tryd.prog.liftsFinal) = true := by rw [lifts_ok]; rfl
theorem j28 : (Tryd.prog.make == some Rows.fnFormatRFC850Row.make) = true := by rw [make_ok]; kernel_rfl
set_option maxRecDepth 100000 in
theorem joined : joinedFacts Tryd.prog 8 Tryd.f8 Rows.fnFormatRFC850Spec Rows.fnFormatRFC850Row = true := by
  unfold joinedFacts
  exact Bool.and_eq_true_iff.2 ⟨Bool.and_eq_true_iff.2 ⟨Bool.and_eq_true_iff.2 ⟨Bool.and_eq_true_iff.2 ⟨Bool.and_eq_true_iff.2 ⟨Bool.and_eq_true_iff.2 ⟨Bool.and_eq_true_iff.2 ⟨Bool.and_eq_true_iff.2 ⟨Bool.and_eq_true_iff.2 ⟨Bool.and_eq_true_iff.2 ⟨Bool.and_eq_true_iff.2 ⟨Bool.and_eq_true_iff.2 ⟨Bool.and_eq_true_iff.2 ⟨Bool.and_eq_true_iff.2 ⟨Bool.and_eq_true_iff.2 ⟨Bool.and_eq_true_iff.2 ⟨Bool.and_eq_true_iff.2 ⟨Bool.and_eq_true_iff.2 ⟨Bool.and_eq_true_iff.2 ⟨Bool.and_eq_true_iff.2 ⟨Bool.and_eq_true_iff.2 ⟨Bool.and_eq_true_iff.2 ⟨Bool.and_eq_true_iff.2 ⟨Bool.and_eq_true_iff.2 ⟨Bool.and_eq_true_iff.2 ⟨Bool.and_eq_true_iff.2 ⟨Bool.and_eq_true_iff.2 ⟨Bool.and_eq_true_iff.2 ⟨Bool.and_eq_true_iff.2 ⟨Bool.and_eq_true_iff.2 ⟨Bool.and_eq_true_iff.2 ⟨j1, j2⟩, j3⟩, j4⟩, j5⟩, j6⟩, j7⟩, j8⟩, j9⟩, j10⟩, j11⟩, j12⟩, j13⟩, j14⟩, j15⟩, j16⟩, j17⟩, j18⟩, j19⟩, j20⟩, j21⟩, j22⟩, j23⟩, j24⟩, j25⟩, mayEnter_ok⟩, j27⟩, j28⟩, j29⟩, j30⟩, j31⟩, j32⟩
end Go.Proofs.YtkncbjkgikmkcaaDoor.fnFormatRFC850
