/- What the row of FnRoadsRFC3339 says of the whole program, conjunct by conjunct (the heavy ones once for all rows, in texts of their own). -/
import Derived.Test.YtigabjibdepoiaaDoorRows
import Derived.JoinedOf
import Derived.KernelRfl
import Derived.Test.YtigabjibdepoiaaDoorFactsM
import Derived.Test.YtigabjibdepoiaaDoorFactsL
import Derived.Test.YtigabjibdepoiaaDoorFactsK2
namespace Go.Proofs.YtigabjibdepoiaaDoor.fnRoadsRFC3339
open Go Go.Proofs.YtigabjibdepoiaaDoor.Tm
theorem j1 : (Rows.fnRoadsRFC3339Row.wf (OpenSpec.ofChange Rows.fnRoadsRFC3339Spec)) = true := by kernel_rfl
theorem j2 : (laidOutB Tryd.prog) = true := by kernel_rfl
theorem j3 : (mapsRowed Tryd.prog) = true := by kernel_rfl
theorem j4 : (Tryd.f14.params.all (Tryd.prog.readableRec ·)) = true := by kernel_rfl
theorem j5 : (namedTie Tryd.prog Rows.fnRoadsRFC3339Row.named Rows.fnRoadsRFC3339Spec.vars) = true := by kernel_rfl
theorem j6 : ((Rows.fnRoadsRFC3339Row.stops == [])) = true := by kernel_rfl
theorem j7 : ((Tryd.prog.stops == [])) = true := by kernel_rfl
theorem j8 : ((Rows.fnRoadsRFC3339Row.knobs == [])) = true := by kernel_rfl
theorem j9 : ((Tryd.prog.stopKnobs == [])) = true := by kernel_rfl
theorem j10 : ((Rows.fnRoadsRFC3339Row.inPlace == Tryd.prog.inPlace 14)) = true := by kernel_rfl
theorem j11 : ((Rows.fnRoadsRFC3339Row.unfollowed == Tryd.prog.unfollowed 14)) = true := by kernel_rfl
theorem j12 : ((Rows.fnRoadsRFC3339Row.recurses == Tryd.prog.recurses 14)) = true := by kernel_rfl
theorem j13 : ((Rows.fnRoadsRFC3339Row.named == Tryd.prog.varsNamed 14)) = true := by kernel_rfl
theorem j14 : ((Rows.fnRoadsRFC3339Row.maps == (Tryd.f14.params.toList ++ Rows.fnRoadsRFC3339Spec.plain.varTypes Tryd.prog).any (Tryd.prog.mapsRec ·))) = true := by kernel_rfl
theorem j15 : ((Rows.fnRoadsRFC3339Row.ifaces == (Tryd.f14.params.toList ++ Rows.fnRoadsRFC3339Spec.plain.varTypes Tryd.prog).any (Tryd.prog.ifacesRec ·))) = true := by kernel_rfl
theorem j16 : ((Rows.fnRoadsRFC3339Row.mapsOut == Tryd.prog.mapsAmong Tryd.f14.resultTypes.toList)) = true := by kernel_rfl
theorem j17 : ((Rows.fnRoadsRFC3339Row.loops == (Tryd.f14.params.toList ++ Rows.fnRoadsRFC3339Spec.plain.varTypes Tryd.prog).any (Tryd.prog.loopsFrom ·))) = true := by kernel_rfl
theorem j18 : ((Rows.fnRoadsRFC3339Row.wideKeys == (Tryd.f14.params.toList ++ Rows.fnRoadsRFC3339Spec.plain.varTypes Tryd.prog ++ Tryd.f14.resultTypes.toList).any (Tryd.prog.wideKeysFrom ·))) = true := by kernel_rfl
theorem j19 : (Rows.fnRoadsRFC3339Spec.vars.all (Tryd.prog.varReadable ·)) = true := by kernel_rfl
theorem j20 : (Tryd.f14.resultTypes.all (fun t => Tryd.prog.readableRec t && decide (t < Tryd.prog.types.size))) = true := by kernel_rfl
theorem j21 : ((Rows.fnRoadsRFC3339Row.ifacesOut == Tryd.f14.resultTypes.toList.any (Tryd.prog.ifacesRec ·))) = true := by kernel_rfl
theorem j22 : ((Rows.fnRoadsRFC3339Row.loopsOut == Tryd.f14.resultTypes.toList.any (Tryd.prog.loopsFrom ·))) = true := by kernel_rfl
theorem j23 : ((Rows.fnRoadsRFC3339Row.plainKeys == Tryd.prog.plainKeys)) = true := by kernel_rfl
theorem j24 : (Rows.fnRoadsRFC3339Row.shortTexts.isNone) = true := by kernel_rfl
theorem j25 : (Tryd.prog.stopsHeard) = true := by kernel_rfl
theorem j29 : ((Rows.fnRoadsRFC3339Row.kinds == (if Rows.fnRoadsRFC3339Row.domain.isEmpty then [] else Tryd.f14.params.toList.map fun t => match Tryd.prog.underlying t with | some (.int k) => some k | _ => none))) = true := by kernel_rfl
theorem j30 : ((Rows.fnRoadsRFC3339Row.pinned == Rows.fnRoadsRFC3339Row.pinnedBy)) = true := by kernel_rfl
theorem j31 : ((Rows.fnRoadsRFC3339Row.veiled == (Tryd.f14.params.toList ++ Rows.fnRoadsRFC3339Spec.plain.varTypes Tryd.prog ++ Tryd.f14.resultTypes.toList).any (Tryd.prog.veiledRec ·))) = true := by kernel_rfl
theorem j32 : (Rows.fnRoadsRFC3339Row.veiledFits Tryd.prog Tryd.f14.params.toList (Tryd.f14.params.toList ++ Rows.fnRoadsRFC3339Spec.plain.varTypes Tryd.prog ++ Tryd.f14.resultTypes.toList)) = true := by kernel_rfl
theorem j27 : (Rows.fnRoadsRFC3339Row.lifted == Tryd.prog.liftsFinal) = true := by rw [lifts_ok]; rfl
theorem j28 : (Tryd.prog.make == some Rows.fnRoadsRFC3339Row.make) = true := by rw [make_ok]; kernel_rfl
set_option maxRecDepth 100000 in
theorem joined : joinedFacts Tryd.prog 14 Tryd.f14 Rows.fnRoadsRFC3339Spec Rows.fnRoadsRFC3339Row = true := by
  unfold joinedFacts
  exact Bool.and_eq_true_iff.2 ⟨Bool.and_eq_true_iff.2 ⟨Bool.and_eq_true_iff.2 ⟨Bool.and_eq_true_iff.2 ⟨Bool.and_eq_true_iff.2 ⟨Bool.and_eq_true_iff.2 ⟨Bool.and_eq_true_iff.2 ⟨Bool.and_eq_true_iff.2 ⟨Bool.and_eq_true_iff.2 ⟨Bool.and_eq_true_iff.2 ⟨Bool.and_eq_true_iff.2 ⟨Bool.and_eq_true_iff.2 ⟨Bool.and_eq_true_iff.2 ⟨Bool.and_eq_true_iff.2 ⟨Bool.and_eq_true_iff.2 ⟨Bool.and_eq_true_iff.2 ⟨Bool.and_eq_true_iff.2 ⟨Bool.and_eq_true_iff.2 ⟨Bool.and_eq_true_iff.2 ⟨Bool.and_eq_true_iff.2 ⟨Bool.and_eq_true_iff.2 ⟨Bool.and_eq_true_iff.2 ⟨Bool.and_eq_true_iff.2 ⟨Bool.and_eq_true_iff.2 ⟨Bool.and_eq_true_iff.2 ⟨Bool.and_eq_true_iff.2 ⟨Bool.and_eq_true_iff.2 ⟨Bool.and_eq_true_iff.2 ⟨Bool.and_eq_true_iff.2 ⟨Bool.and_eq_true_iff.2 ⟨Bool.and_eq_true_iff.2 ⟨j1, j2⟩, j3⟩, j4⟩, j5⟩, j6⟩, j7⟩, j8⟩, j9⟩, j10⟩, j11⟩, j12⟩, j13⟩, j14⟩, j15⟩, j16⟩, j17⟩, j18⟩, j19⟩, j20⟩, j21⟩, j22⟩, j23⟩, j24⟩, j25⟩, mayEnter_ok⟩, j27⟩, j28⟩, j29⟩, j30⟩, j31⟩, j32⟩
end Go.Proofs.YtigabjibdepoiaaDoor.fnRoadsRFC3339
