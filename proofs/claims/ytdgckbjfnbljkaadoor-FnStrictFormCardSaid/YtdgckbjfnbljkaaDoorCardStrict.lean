/- THE CARD OF FnStrictForm: what is read by the road of its own has the form of RFC 3339: for every text, without any condition of ours. -/
import Derived.Test.YtdgckbjfnbljkaaDoorCards
import Derived.Test.YtdgckbjfnbljkaaDoorTie
import Derived.Test.YtdgckbjfnbljkaaDoorJndStrict
import Derived.Test.YtdgckbjfnbljkaaDoorFactsH4
import Derived.Test.YtdgckbjfnbljkaaDoorRowKit
import Derived.Test.YtdgckbjfnbljkaaDoorLawStrict
namespace Go.Proofs.YtdgckbjfnbljkaaDoor.fnStrictForm
set_option linter.unusedSimpArgs false
set_option linter.unusedVariables false
open Go.ChangeShapes Go.WideShapes Go.ChangeAt Go.RowKit Go Go.ChangeMaps Go.Proofs.YtdgckbjfnbljkaaDoor.Tm

theorem own : ownKnob Tryd.prog.godebug = none := by kernel_rfl
theorem laidOut : laidOutB Tryd.prog = true := by kernel_rfl
theorem g_errAtoi : Tryd.prog.globalNamed "loop.example/pub-timelayouts/pub/gotime.errAtoi" = some 1 := by kernel_rfl
theorem gt_errAtoi : (Tryd.prog.globals[1]?).map (·.type) = some 52 := by kernel_rfl
theorem g_errBad : Tryd.prog.globalNamed "loop.example/pub-timelayouts/pub/gotime.errBad" = some 0 := by kernel_rfl
theorem gt_errBad : (Tryd.prog.globals[0]?).map (·.type) = some 52 := by kernel_rfl
theorem g_errLeadingInt : Tryd.prog.globalNamed "loop.example/pub-timelayouts/pub/gotime.errLeadingInt" = some 2 := by kernel_rfl
theorem gt_errLeadingInt : (Tryd.prog.globals[2]?).map (·.type) = some 52 := by kernel_rfl
set_option maxRecDepth 100000 in
theorem lifted (os : Os) (started : os.Started) (H : Type) (enc : TypeId × Value → H) :
    ReturnsInHanded {} Tryd.checked os 3 .any (fun w args => (Rows.fnStrictFormSpec.pre enc Tryd.prog Tryd.f3 [] false w args ∧ laidMetH Tryd.prog Rows.fnStrictFormRow.laid w) ∧ sizedMet enc Tryd.prog Tryd.f3 (OpenSpec.ofChange Rows.fnStrictFormSpec) false w args)
      (Rows.fnStrictFormSpec.post enc Tryd.prog Tryd.f3 false true false false) := by
  refine returnsInHanded_of_change_and (C := Tryd.checked) (X := fun w _ => laidMetH Tryd.prog Rows.fnStrictFormRow.laid w) (fun _ _ _ hh h => h.of_heap hh) own started (by kernel_rfl) Tryd.func3
    (ChangeSpec.witness_shaped (enc := enc) (C := Tryd.checked) (os := os) (X := fun w _ => laidMetH Tryd.prog Rows.fnStrictFormRow.laid w) false (World.laidAll Tryd.prog os Rows.fnStrictFormRow.laid) #[.string ⟨#[]⟩] 8 (World.laidAll_os _ _ _)
      (World.shaped_of_ZipB (by kernel_rfl) (by kernel_rfl)) (by kernel_rfl) (by kernel_rfl) (by kernel_rfl)
      (by rw [MakeChecks.laidMetH_plain _ _ _ (by kernel_rfl)]; exact laidMet_laidAll _ (by kernel_rfl) (by kernel_rfl))) ?_
  intro W base args ds gs before hval0 hW _ hsz0 hL _
  have hval : ∀ (j : Nat) t v, Tryd.f3.params[j]? = some t → args[j]? = some v → Value.okWide Tryd.prog W .any base t v := hval0
  have hW' := hW
  obtain ⟨p, q, hA0, hV, rfl, _, _⟩ := hW
  have hA : DataW.TrodAll enc Tryd.prog W 0 (fun _ => true) true Tryd.f3.params.toList args.toList ds p := hA0
  rw [Tryd.params3] at hA hval
  obtain ⟨v0, vs0, d0, ds0, p0, q0, hargs, rfl, rfl, h0, r0⟩ := trodAll_cons hA
  obtain ⟨rfl, rfl, rfl⟩ := trodAll_nil r0
  obtain rfl : args = #[v0] := by cases args; simp_all
  have hgl := trodVars_length hV
  obtain ⟨s0, rfl, rfl, rfl, hs0⟩ := open_string Tryd.underlying9 (hval 0 9 v0 rfl rfl) h0
  have z0 : s0.size ≤ 140737488351232 := by have := sized_string hsz0 (j := 0) (t := 9) rfl rfl; simpa [reachBytes] using this
  have hL' : laidMet Tryd.prog Rows.fnStrictFormRow.laid W := by rw [MakeChecks.laidMetH_plain _ _ _ (by kernel_rfl)] at hL; exact hL
  obtain ⟨u_errAtoi, w_errAtoi, c_errAtoi⟩ := laid_iface hL' (.head _) g_errAtoi gt_errAtoi Tryd.underlying52
  obtain ⟨u_errBad, w_errBad, c_errBad⟩ := laid_iface hL' (.tail _ (.head _)) g_errBad gt_errBad Tryd.underlying52
  obtain ⟨u_errLeadingInt, w_errLeadingInt, c_errLeadingInt⟩ := laid_iface hL' (.tail _ (.tail _ (.head _))) g_errLeadingInt gt_errLeadingInt Tryd.underlying52
  refine (lawStrict s0 W _ z0 c_errLeadingInt).mono fun e W' ⟨he, hb⟩ => ?_
  subst he
  obtain ⟨g0, g1, g2, rfl⟩ : ∃ g0 g1 g2, gs = [g0, g1, g2] := by match gs, hgl with | [g0, g1, g2], _ => exact ⟨g0, g1, g2, rfl⟩
  exact ⟨_, rfl, law_post laidOut rfl Tryd.underlying4 (by kernel_rfl) (by kernel_rfl) hW' rfl hb⟩
theorem said : Rows.FnStrictFormSaid :=
  OpenClaim.holds_of_wide 3 Tryd.f3 rfl rfl rfl rfl rfl rfl rfl ⟨rfl, rfl, rfl, rfl, rfl⟩ rfl rfl rfl rfl rfl (by kernel_rfl) Tryd.func3 joined
    (of_decide_eq_true (by kernel_rfl)) (by unfold Func.isWrapper; first | (rw [if_pos (by decide +kernel)]; kernel_rfl) | (rw [if_neg (by decide +kernel)]; exact ⟨rfl, rfl⟩))
    (fun os started H enc _ => lifted os started H enc)
theorem plain (f : FuncId) (fn : Func) (hf : Tryd.pinned.checked.prog.funcNamed "loop.example/pub-timelayouts/laws.FnStrictForm" = some f) (hfn : Tryd.pinned.checked.prog.funcs[f]? = some fn) :
    false = Tryd.pinned.checked.prog.looks [] ∧ ∀ (j : Nat) t, fn.params[j]? = some t → Tryd.pinned.checked.prog.wantsStandIn t = false := by
  obtain rfl : f = 3 := Option.some.inj ((show Tryd.prog.funcNamed "loop.example/pub-timelayouts/laws.FnStrictForm" = some 3 by kernel_rfl).symm.trans hf) |>.symm
  obtain rfl : fn = Tryd.f3 := (Option.some.inj (Tryd.func3.symm.trans hfn)).symm
  refine ⟨by kernel_rfl, fun j t ht => ?_⟩
  have hall : (Tryd.f3.params.all fun u => !Tryd.prog.wantsStandIn u) = true := by kernel_rfl
  have := Array.all_eq_true_iff_forall_mem.1 hall t (Array.mem_of_getElem? ht)
  show Tryd.prog.wantsStandIn t = false
  simpa using this
theorem goes : false = Rows.fnStrictFormRow.goesBy Tryd.prog := by kernel_rfl
/-- ████ THE CARD ████ -/
theorem card : Rows.FnStrictFormCardSaid :=
  Claim7.holds_tied_plain_at .later [] _ _ _ _ said (fun _ h => by cases h) (by kernel_rfl) (fun _ h => by cases h) fnStrictForm_row_tie rfl ⟨rfl, rfl⟩ main_ok rfl plain goes
#print axioms card
end Go.Proofs.YtdgckbjfnbljkaaDoor.fnStrictForm
