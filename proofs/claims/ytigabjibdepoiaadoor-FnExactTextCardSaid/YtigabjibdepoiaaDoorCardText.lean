/- MarshalText writes what the reference writes for RFC3339Nano: for every time that CivilOk lets in. -/
import Derived.Test.YtigabjibdepoiaaDoorCards
import Derived.Test.YtigabjibdepoiaaDoorTie
import Derived.Test.YtigabjibdepoiaaDoorJndText
import Derived.Test.YtigabjibdepoiaaDoorFactsH2
import Derived.Test.YtigabjibdepoiaaDoorRowTab
import Derived.Test.YtigabjibdepoiaaDoorLawTextM
namespace Go.Proofs.YtigabjibdepoiaaDoor.fnExactText
set_option linter.unusedSimpArgs false
set_option linter.unusedVariables false
open Go.ChangeShapes Go.WideShapes Go.ChangeAt Go.RowKit Go Go.ChangeMaps Go.Proofs.YtigabjibdepoiaaDoor.Tm

theorem own : ownKnob Tryd.prog.godebug = none := by kernel_rfl
theorem laidOut : laidOutB Tryd.prog = true := by kernel_rfl
theorem g_std0x : Tryd.prog.globalNamed "loop.example/pub-timelayouts/pub/gotime.std0x" = some 0 := by kernel_rfl
theorem gt_std0x : (Tryd.prog.globals[0]?).map (·.type) = some 104 := by kernel_rfl
theorem cells_tab : Tryd.prog.cellsOf 104 = 6 := by kernel_rfl
theorem cells_int : Tryd.prog.cellsOf 3 = 1 := by kernel_rfl
set_option maxRecDepth 100000 in
theorem lifted (os : Os) (started : os.Started) (H : Type) (enc : TypeId × Value → H) :
    ReturnsInHanded {} Tryd.checked os 15 .any (fun w args => (Rows.fnExactTextSpec.pre enc Tryd.prog Tryd.f15 [] false w args ∧ laidMetH Tryd.prog Rows.fnExactTextRow.laid w) ∧ sizedMet enc Tryd.prog Tryd.f15 (OpenSpec.ofChange Rows.fnExactTextSpec) false w args)
      (Rows.fnExactTextSpec.post enc Tryd.prog Tryd.f15 false true false false) := by
  refine returnsInHanded_of_change_and (C := Tryd.checked) (X := fun w _ => laidMetH Tryd.prog Rows.fnExactTextRow.laid w) (fun _ _ _ hh h => h.of_heap hh) own started (by kernel_rfl) Tryd.func15
    (ChangeSpec.witness_shaped (enc := enc) (C := Tryd.checked) (os := os) (X := fun w _ => laidMetH Tryd.prog Rows.fnExactTextRow.laid w) false (World.laidAll Tryd.prog os Rows.fnExactTextRow.laid) #[.agg #[.int .i64 0, .int .i64 0, .int .i64 0, .int .i64 0, .int .i64 0, .int .i64 0, .int .i64 0, .string ⟨#[]⟩, .int .i64 0]] 8 (World.laidAll_os _ _ _)
      (World.shaped_of_ZipB (by kernel_rfl) (by kernel_rfl)) (by kernel_rfl) (by kernel_rfl) (by kernel_rfl)
      (by rw [MakeChecks.laidMetH_plain _ _ _ (by kernel_rfl)]; exact laidMet_laidAll _ (by kernel_rfl) (by kernel_rfl))) ?_
  intro W base args ds gs before hval0 hW _ hsz0 hL _
  have hval : ∀ (j : Nat) t v, Tryd.f15.params[j]? = some t → args[j]? = some v → Value.okWide Tryd.prog W .any base t v := hval0
  have hW' := hW
  obtain ⟨p, q, hA0, hV, rfl, _, _⟩ := hW
  have hA : DataW.TrodAll enc Tryd.prog W 0 (fun _ => true) true Tryd.f15.params.toList args.toList ds p := hA0
  rw [Tryd.params15] at hA hval
  obtain ⟨v0, vs0, d0, ds0, p0, q0, hargs, rfl, rfl, h0, r0⟩ := trodAll_cons hA
  obtain ⟨rfl, rfl, rfl⟩ := trodAll_nil r0
  obtain rfl : args = #[v0] := by cases args; simp_all
  have hgl := trodVars_length hV
  obtain ⟨s0, rfl, hs0⟩ := open_civ (hval 0 28 v0 rfl rfl) h0
  have hL' : laidMet Tryd.prog Rows.fnExactTextRow.laid W := by rw [MakeChecks.laidMetH_plain _ _ _ (by kernel_rfl)] at hL; exact hL
  have c_std0x := laid_table hL' (.head _) g_std0x gt_std0x Tryd.underlying104 Tryd.underlying3 cells_int cells_tab
  refine (lawText s0 W c_std0x).mono fun e W' ⟨he, hb⟩ => ?_
  subst he
  obtain ⟨g0, rfl⟩ : ∃ g0, gs = [g0] := by match gs, hgl with | [g0], _ => exact ⟨g0, rfl⟩
  exact ⟨_, rfl, law_post laidOut rfl Tryd.underlying4 (by kernel_rfl) (by kernel_rfl) hW' rfl hb⟩
theorem said : Rows.FnExactTextSaid :=
  OpenClaim.holds_of_wide 15 Tryd.f15 rfl rfl rfl rfl rfl rfl rfl ⟨rfl, rfl, rfl, rfl, rfl⟩ rfl rfl rfl rfl rfl (by kernel_rfl) Tryd.func15 joined
    (of_decide_eq_true (by kernel_rfl)) (by unfold Func.isWrapper; first | (rw [if_pos (by decide +kernel)]; kernel_rfl) | (rw [if_neg (by decide +kernel)]; exact ⟨rfl, rfl⟩))
    (fun os started H enc _ => lifted os started H enc)
theorem plain (f : FuncId) (fn : Func) (hf : Tryd.pinned.checked.prog.funcNamed "loop.example/pub-timelayouts/laws.FnExactText" = some f) (hfn : Tryd.pinned.checked.prog.funcs[f]? = some fn) :
    false = Tryd.pinned.checked.prog.looks [] ∧ ∀ (j : Nat) t, fn.params[j]? = some t → Tryd.pinned.checked.prog.wantsStandIn t = false := by
  obtain rfl : f = 15 := Option.some.inj ((show Tryd.prog.funcNamed "loop.example/pub-timelayouts/laws.FnExactText" = some 15 by kernel_rfl).symm.trans hf) |>.symm
  obtain rfl : fn = Tryd.f15 := (Option.some.inj (Tryd.func15.symm.trans hfn)).symm
  refine ⟨by kernel_rfl, fun j t ht => ?_⟩
  have hall : (Tryd.f15.params.all fun u => !Tryd.prog.wantsStandIn u) = true := by kernel_rfl
  have := Array.all_eq_true_iff_forall_mem.1 hall t (Array.mem_of_getElem? ht)
  show Tryd.prog.wantsStandIn t = false
  simpa using this
theorem goes : false = Rows.fnExactTextRow.goesBy Tryd.prog := by kernel_rfl
/-- ████ THE CARD ████ -/
theorem card : Rows.FnExactTextCardSaid :=
  Claim7.holds_tied_plain_at .later [] _ _ _ _ said (fun _ h => by cases h) (by kernel_rfl) (fun _ h => by cases h) fnExactText_row_tie rfl ⟨rfl, rfl⟩ main_ok rfl plain goes
#print axioms card
end Go.Proofs.YtigabjibdepoiaaDoor.fnExactText
