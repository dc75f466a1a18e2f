/- What the row of FnExactText says of the whole program, conjunct by conjunct (the heavy ones once for all rows, in texts of their own). -/
import Derived.Test.YtigabjibdepoiaaDoorRows
import Derived.JoinedOf
import Derived.KernelRfl
import Derived.Test.YtigabjibdepoiaaDoorFactsM
import Derived.Test.YtigabjibdepoiaaDoorFactsL
import Derived.Test.YtigabjibdepoiaaDoorFactsK2
namespace Go.Proofs.YtigabjibdepoiaaDoor.fnExactText
open Go Go.Proofs.YtigabjibdepoiaaDoor.Tm
theorem j1 : (Rows.fnExactTextRow.wf (OpenSpec.ofChange Rows.fnExactTextSpec)) = true := by kernel_rfl
theorem j2 : (laidOutB Tryd.prog) = true := by kernel_rfl
theorem j3 : (mapsRowed Tryd.prog) = true := by kernel_rfl
theorem j4 : (Tryd.f15.params.all (Tryd.prog.readableRec ·)) = true := by kernel_rfl
theorem j5 : (namedTie Tryd.prog Rows.fnExactTextRow.named Rows.fnExactTextSpec.vars) = true := by kernel_rfl
theorem j6 : ((Rows.fnExactTextRow.stops == [])) = true := by kernel_rfl
theorem j7 : ((Tryd.prog.stops == [])) = true := by kernel_rfl
theorem j8 : ((Rows.fnExactTextRow.knobs == [])) = true := by kernel_rfl
theorem j9 : ((Tryd.prog.stopKnobs == [])) = true := by kernel_rfl
theorem j10 : ((Rows.fnExactTextRow.inPlace == Tryd.prog.inPlace 15)) = true := by kernel_rfl
theorem j11 : ((Rows.fnExactTextRow.unfollowed == Tryd.prog.unfollowed 15)) = true := by kernel_rfl
theorem j12 : ((Rows.fnExactTextRow.recurses == Tryd.prog.recurses 15)) = true := by kernel_rfl
theorem j13 : ((Rows.fnExactTextRow.named == Tryd.prog.varsNamed 15)) = true := by kernel_rfl
theorem j14 : ((Rows.fnExactTextRow.maps == (Tryd.f15.params.toList ++ Rows.fnExactTextSpec.plain.varTypes Tryd.prog).any (Tryd.prog.mapsRec ·))) = true := by kernel_rfl
theorem j15 : ((Rows.fnExactTextRow.ifaces == (Tryd.f15.params.toList ++ Rows.fnExactTextSpec.plain.varTypes Tryd.prog).any (Tryd.prog.ifacesRec ·))) = true := by kernel_rfl
theorem j16 : ((Rows.fnExactTextRow.mapsOut == Tryd.prog.mapsAmong Tryd.f15.resultTypes.toList)) = true := by kernel_rfl
theorem j17 : ((Rows.fnExactTextRow.loops == (Tryd.f15.params.toList ++ Rows.fnExactTextSpec.plain.varTypes Tryd.prog).any (Tryd.prog.loopsFrom ·))) = true := by kernel_rfl
theorem j18 : ((Rows.fnExactTextRow.wideKeys == (Tryd.f15.params.toList ++ Rows.fnExactTextSpec.plain.varTypes Tryd.prog ++ Tryd.f15.resultTypes.toList).any (Tryd.prog.wideKeysFrom ·))) = true := by kernel_rfl
theorem j19 : (Rows.fnExactTextSpec.vars.all (Tryd.prog.varReadable ·)) = true := by kernel_rfl
theorem j20 : (Tryd.f15.resultTypes.all (fun t => Tryd.prog.readableRec t && decide (t < Tryd.prog.types.size))) = true := by kernel_rfl
theorem j21 : ((Rows.fnExactTextRow.ifacesOut == Tryd.f15.resultTypes.toList.any (Tryd.prog.ifacesRec ·))) = true := by kernel_rfl
theorem j22 : ((Rows.fnExactTextRow.loopsOut == Tryd.f15.resultTypes.toList.any (Tryd.prog.loopsFrom ·))) = true := by kernel_rfl
theorem j23 : ((Rows.fnExactTextRow.plainKeys == Tryd.prog.plainKeys)) = true := by kernel_rfl
theorem j24 : (Rows.fnExactTextRow.shortTexts.isNone) = true := by kernel_rfl
theorem j25 : (Tryd.prog.stopsHeard) = true := by kernel_rfl
theorem j29 : ((Rows.fnExactTextRow.kinds == (if Rows.fnExactTextRow.domain.isEmpty then [] else Tryd.f15.params.toList.map fun t => match Tryd.prog.underlying t with | some (.int k) => some k | _ => none))) = true := by kernel_rfl
theorem j30 : ((Rows.fnExactTextRow.pinned == Rows.fnExactTextRow.pinnedBy)) = true := by kernel_rfl
theorem j31 : ((Rows.fnExactTextRow.veiled == (Tryd.f15.params.toList ++ Rows.fnExactTextSpec.plain.varTypes Tryd.prog ++ Tryd.f15.resultTypes.toList).any (Tryd.prog.veiledRec ·))) = true := by kernel_rfl
theorem j32 : (Rows.fnExactTextRow.veiledFits Tryd.prog Tryd.f15.params.toList (Tryd.f15.params.toList ++ Rows.fnExactTextSpec.plain.varTypes Tryd.prog ++ Tryd.f15.resultTypes.toList)) = true := by kernel_rfl
theorem j27 : (Rows.fnExactTextRow.lifted == Tryd.prog.liftsFinal) = true := by rw [lifts_ok]; rfl
theorem j28 : (Tryd.prog.make == some Rows.fnExactTextRow.make) = true := by rw [make_ok]; kernel_rfl
set_option maxRecDepth 100000 in
theorem joined : joinedFacts Tryd.prog 15 Tryd.f15 Rows.fnExactTextSpec Rows.fnExactTextRow = true := by
  unfold joinedFacts
  exact Bool.and_eq_true_iff.2 ⟨Bool.and_eq_true_iff.2 ⟨Bool.and_eq_true_iff.2 ⟨Bool.and_eq_true_iff.2 ⟨Bool.and_eq_true_iff.2 ⟨Bool.and_eq_true_iff.2 ⟨Bool.and_eq_true_iff.2 ⟨Bool.and_eq_true_iff.2 ⟨Bool.and_eq_true_iff.2 ⟨Bool.and_eq_true_iff.2 ⟨Bool.and_eq_true_iff.2 ⟨Bool.and_eq_true_iff.2 ⟨Bool.and_eq_true_iff.2 ⟨Bool.and_eq_true_iff.2 ⟨Bool.and_eq_true_iff.2 ⟨Bool.and_eq_true_iff.2 ⟨Bool.and_eq_true_iff.2 ⟨Bool.and_eq_true_iff.2 ⟨Bool.and_eq_true_iff.2 ⟨Bool.and_eq_true_iff.2 ⟨Bool.and_eq_true_iff.2 ⟨Bool.and_eq_true_iff.2 ⟨Bool.and_eq_true_iff.2 ⟨Bool.and_eq_true_iff.2 ⟨Bool.and_eq_true_iff.2 ⟨Bool.and_eq_true_iff.2 ⟨Bool.and_eq_true_iff.2 ⟨Bool.and_eq_true_iff.2 ⟨Bool.and_eq_true_iff.2 ⟨Bool.and_eq_true_iff.2 ⟨Bool.and_eq_true_iff.2 ⟨j1, j2⟩, j3⟩, j4⟩, j5⟩, j6⟩, j7⟩, j8⟩, j9⟩, j10⟩, j11⟩, j12⟩, j13⟩, j14⟩, j15⟩, j16⟩, j17⟩, j18⟩, j19⟩, j20⟩, j21⟩, j22⟩, j23⟩, j24⟩, j25⟩, mayEnter_ok⟩, j27⟩, j28⟩, j29⟩, j30⟩, j31⟩, j32⟩
end Go.Proofs.YtigabjibdepoiaaDoor.fnExactText
