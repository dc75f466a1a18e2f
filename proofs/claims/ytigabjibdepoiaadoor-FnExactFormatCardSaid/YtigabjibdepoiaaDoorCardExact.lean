/- Format writes what the reference writes for every row of pieces that PiecesOk lets in and every time that CivilOk lets in. -/
import Derived.Test.YtigabjibdepoiaaDoorCards
import Derived.Test.YtigabjibdepoiaaDoorTie
import Derived.Test.YtigabjibdepoiaaDoorJndExact
import Derived.Test.YtigabjibdepoiaaDoorFactsH2
import Derived.Test.YtigabjibdepoiaaDoorRowTab
import Derived.Test.YtigabjibdepoiaaDoorLawExactM
namespace Go.Proofs.YtigabjibdepoiaaDoor.fnExactFormat
set_option linter.unusedSimpArgs false
set_option linter.unusedVariables false
open Go.ChangeShapes Go.WideShapes Go.ChangeAt Go.RowKit Go Go.ChangeMaps Go.Proofs.YtigabjibdepoiaaDoor.Tm

theorem own : ownKnob Tryd.prog.godebug = none := by kernel_rfl
theorem laidOut : laidOutB Tryd.prog = true := by kernel_rfl
theorem g_std0x : Tryd.prog.globalNamed "loop.example/pub-timelayouts/pub/gotime.std0x" = some 0 := by kernel_rfl
theorem gt_std0x : (Tryd.prog.globals[0]?).map (·.type) = some 104 := by kernel_rfl
theorem cells_tab : Tryd.prog.cellsOf 104 = 6 := by kernel_rfl
theorem cells_int : Tryd.prog.cellsOf 3 = 1 := by kernel_rfl
set_option maxRecDepth 100000 in
theorem lifted (os : Os) (started : os.Started) (H : Type) (enc : TypeId × Value → H) :
    ReturnsInHanded {} Tryd.checked os 5 .any (fun w args => (Rows.fnExactFormatSpec.pre enc Tryd.prog Tryd.f5 [] false w args ∧ laidMetH Tryd.prog Rows.fnExactFormatRow.laid w) ∧ sizedMet enc Tryd.prog Tryd.f5 (OpenSpec.ofChange Rows.fnExactFormatSpec) false w args)
      (Rows.fnExactFormatSpec.post enc Tryd.prog Tryd.f5 false true false false) := by
  refine returnsInHanded_of_change_and (C := Tryd.checked) (X := fun w _ => laidMetH Tryd.prog Rows.fnExactFormatRow.laid w) (fun _ _ _ hh h => h.of_heap hh) own started (by kernel_rfl) Tryd.func5
    (ChangeSpec.witness_shaped (enc := enc) (C := Tryd.checked) (os := os) (X := fun w _ => laidMetH Tryd.prog Rows.fnExactFormatRow.laid w) false (World.laidAll Tryd.prog os Rows.fnExactFormatRow.laid) #[.slice none 0 0, .agg #[.int .i64 0, .int .i64 0, .int .i64 0, .int .i64 0, .int .i64 0, .int .i64 0, .int .i64 0, .string ⟨#[]⟩, .int .i64 0]] 8 (World.laidAll_os _ _ _)
      (World.shaped_of_ZipB (by kernel_rfl) (by kernel_rfl)) (by kernel_rfl) (by kernel_rfl) (by kernel_rfl)
      (by rw [MakeChecks.laidMetH_plain _ _ _ (by kernel_rfl)]; exact laidMet_laidAll _ (by kernel_rfl) (by kernel_rfl))) ?_
  intro W base args ds gs before hval0 hW _ hsz0 hL _
  have hval : ∀ (j : Nat) t v, Tryd.f5.params[j]? = some t → args[j]? = some v → Value.okWide Tryd.prog W .any base t v := hval0
  have hW' := hW
  obtain ⟨p, q, hA0, hV, rfl, _, _⟩ := hW
  have hA : DataW.TrodAll enc Tryd.prog W 0 (fun _ => true) true Tryd.f5.params.toList args.toList ds p := hA0
  rw [Tryd.params5] at hA hval
  obtain ⟨v0, vs0, d0, ds0, p0, q0, hargs, rfl, rfl, h0, r0⟩ := trodAll_cons hA
  obtain ⟨v1, vs1, d1, ds1, p1, q1, rfl, rfl, rfl, h1, r1⟩ := trodAll_cons r0
  obtain ⟨rfl, rfl, rfl⟩ := trodAll_nil r1
  obtain rfl : args = #[v0, v1] := by cases args; simp_all
  have hgl := trodVars_length hV
  obtain ⟨pA0, pB0, s0, b0⟩ := pieces_of (hval 0 32 v0 rfl rfl) h0
  obtain ⟨s1, rfl, hs1⟩ := open_civ (hval 1 28 v1 rfl rfl) h1
  have hL' : laidMet Tryd.prog Rows.fnExactFormatRow.laid W := by rw [MakeChecks.laidMetH_plain _ _ _ (by kernel_rfl)] at hL; exact hL
  have c_std0x := laid_table hL' (.head _) g_std0x gt_std0x Tryd.underlying104 Tryd.underlying3 cells_int cells_tab
  refine (exact_any v0 pA0 pB0 s0 s1 W b0 c_std0x).mono fun e W' ⟨he, hb⟩ => ?_
  subst he
  obtain ⟨g0, rfl⟩ : ∃ g0, gs = [g0] := by match gs, hgl with | [g0], _ => exact ⟨g0, rfl⟩
  exact ⟨_, rfl, law_post laidOut rfl Tryd.underlying4 (by kernel_rfl) (by kernel_rfl) hW' rfl hb⟩
theorem said : Rows.FnExactFormatSaid :=
  OpenClaim.holds_of_wide 5 Tryd.f5 rfl rfl rfl rfl rfl rfl rfl ⟨rfl, rfl, rfl, rfl, rfl⟩ rfl rfl rfl rfl rfl (by kernel_rfl) Tryd.func5 joined
    (of_decide_eq_true (by kernel_rfl)) (by unfold Func.isWrapper; first | (rw [if_pos (by decide +kernel)]; kernel_rfl) | (rw [if_neg (by decide +kernel)]; exact ⟨rfl, rfl⟩))
    (fun os started H enc _ => lifted os started H enc)
theorem plain (f : FuncId) (fn : Func) (hf : Tryd.pinned.checked.prog.funcNamed "loop.example/pub-timelayouts/laws.FnExactFormat" = some f) (hfn : Tryd.pinned.checked.prog.funcs[f]? = some fn) :
    false = Tryd.pinned.checked.prog.looks [] ∧ ∀ (j : Nat) t, fn.params[j]? = some t → Tryd.pinned.checked.prog.wantsStandIn t = false := by
  obtain rfl : f = 5 := Option.some.inj ((show Tryd.prog.funcNamed "loop.example/pub-timelayouts/laws.FnExactFormat" = some 5 by kernel_rfl).symm.trans hf) |>.symm
  obtain rfl : fn = Tryd.f5 := (Option.some.inj (Tryd.func5.symm.trans hfn)).symm
  refine ⟨by kernel_rfl, fun j t ht => ?_⟩
  have hall : (Tryd.f5.params.all fun u => !Tryd.prog.wantsStandIn u) = true := by kernel_rfl
  have := Array.all_eq_true_iff_forall_mem.1 hall t (Array.mem_of_getElem? ht)
  show Tryd.prog.wantsStandIn t = false
  simpa using this
theorem goes : false = Rows.fnExactFormatRow.goesBy Tryd.prog := by kernel_rfl
/-- ████ THE CARD ████ -/
theorem card : Rows.FnExactFormatCardSaid :=
  Claim7.holds_tied_plain_at .later [] _ _ _ _ said (fun _ h => by cases h) (by kernel_rfl) (fun _ h => by cases h) fnExactFormat_row_tie rfl ⟨rfl, rfl⟩ main_ok rfl plain goes
#print axioms card
end Go.Proofs.YtigabjibdepoiaaDoor.fnExactFormat
