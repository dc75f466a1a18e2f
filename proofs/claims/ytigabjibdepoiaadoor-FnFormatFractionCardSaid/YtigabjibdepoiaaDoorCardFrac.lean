/- A comma or a point with zeros is as many digits of the fraction, cut: for 1 to 9 digits, every time that CivilOk lets in, and of a name of at most 2147483647 bytes. -/
import Derived.Test.YtigabjibdepoiaaDoorCards
import Derived.Test.YtigabjibdepoiaaDoorTie
import Derived.Test.YtigabjibdepoiaaDoorJndFrac
import Derived.Test.YtigabjibdepoiaaDoorFactsH2
import Derived.Test.YtigabjibdepoiaaDoorRowTab
import Derived.Test.YtigabjibdepoiaaDoorLawFracM
namespace Go.Proofs.YtigabjibdepoiaaDoor.fnFormatFraction
set_option linter.unusedSimpArgs false
set_option linter.unusedVariables false
open Go.ChangeShapes Go.WideShapes Go.ChangeAt Go.RowKit Go Go.ChangeMaps Go.Proofs.YtigabjibdepoiaaDoor.Tm

theorem own : ownKnob Tryd.prog.godebug = none := by kernel_rfl
theorem laidOut : laidOutB Tryd.prog = true := by kernel_rfl
theorem g_std0x : Tryd.prog.globalNamed "loop.example/pub-timelayouts/pub/gotime.std0x" = some 0 := by kernel_rfl
theorem gt_std0x : (Tryd.prog.globals[0]?).map (·.type) = some 104 := by kernel_rfl
theorem cells_tab : Tryd.prog.cellsOf 104 = 6 := by kernel_rfl
theorem cells_int : Tryd.prog.cellsOf 3 = 1 := by kernel_rfl
set_option maxRecDepth 100000 in
theorem lifted (os : Os) (started : os.Started) (H : Type) (enc : TypeId × Value → H) :
    ReturnsInHanded {} Tryd.checked os 6 .any (fun w args => (Rows.fnFormatFractionSpec.pre enc Tryd.prog Tryd.f6 [] false w args ∧ laidMetH Tryd.prog Rows.fnFormatFractionRow.laid w) ∧ sizedMet enc Tryd.prog Tryd.f6 (OpenSpec.ofChange Rows.fnFormatFractionSpec) false w args)
      (Rows.fnFormatFractionSpec.post enc Tryd.prog Tryd.f6 false true false false) := by
  refine returnsInHanded_of_change_and (C := Tryd.checked) (X := fun w _ => laidMetH Tryd.prog Rows.fnFormatFractionRow.laid w) (fun _ _ _ hh h => h.of_heap hh) own started (by kernel_rfl) Tryd.func6
    (ChangeSpec.witness_shaped (enc := enc) (C := Tryd.checked) (os := os) (X := fun w _ => laidMetH Tryd.prog Rows.fnFormatFractionRow.laid w) false (World.laidAll Tryd.prog os Rows.fnFormatFractionRow.laid) #[.int .i64 0, .bool false, .agg #[.int .i64 0, .int .i64 0, .int .i64 0, .int .i64 0, .int .i64 0, .int .i64 0, .int .i64 0, .string ⟨#[]⟩, .int .i64 0]] 8 (World.laidAll_os _ _ _)
      (World.shaped_of_ZipB (by kernel_rfl) (by kernel_rfl)) (by kernel_rfl) (by kernel_rfl) (by kernel_rfl)
      (by rw [MakeChecks.laidMetH_plain _ _ _ (by kernel_rfl)]; exact laidMet_laidAll _ (by kernel_rfl) (by kernel_rfl))) ?_
  intro W base args ds gs before hval0 hW _ hsz0 hL _
  have hval : ∀ (j : Nat) t v, Tryd.f6.params[j]? = some t → args[j]? = some v → Value.okWide Tryd.prog W .any base t v := hval0
  have hW' := hW
  obtain ⟨p, q, hA0, hV, rfl, _, _⟩ := hW
  have hA : DataW.TrodAll enc Tryd.prog W 0 (fun _ => true) true Tryd.f6.params.toList args.toList ds p := hA0
  rw [Tryd.params6] at hA hval
  obtain ⟨v0, vs0, d0, ds0, p0, q0, hargs, rfl, rfl, h0, r0⟩ := trodAll_cons hA
  obtain ⟨v1, vs1, d1, ds1, p1, q1, rfl, rfl, rfl, h1, r1⟩ := trodAll_cons r0
  obtain ⟨v2, vs2, d2, ds2, p2, q2, rfl, rfl, rfl, h2, r2⟩ := trodAll_cons r1
  obtain ⟨rfl, rfl, rfl⟩ := trodAll_nil r2
  obtain rfl : args = #[v0, v1, v2] := by cases args; simp_all
  have hgl := trodVars_length hV
  obtain ⟨s0, rfl, rfl, rfl, hs0⟩ := open_int Tryd.underlying3 (hval 0 3 v0 rfl rfl) h0
  have z0 : -9223372036854775808 ≤ s0 ∧ s0 ≤ 9223372036854775807 := by simpa [Lit.wf, IntKind.min, IntKind.max, IntKind.signed, IntKind.bits] using hs0
  obtain ⟨s1, rfl, rfl, rfl⟩ := open_bool Tryd.underlying4 (hval 1 4 v1 rfl rfl) h1
  obtain ⟨s2, rfl, hs2⟩ := open_civ (hval 2 28 v2 rfl rfl) h2
  have hL' : laidMet Tryd.prog Rows.fnFormatFractionRow.laid W := by rw [MakeChecks.laidMetH_plain _ _ _ (by kernel_rfl)] at hL; exact hL
  have c_std0x := laid_table hL' (.head _) g_std0x gt_std0x Tryd.underlying104 Tryd.underlying3 cells_int cells_tab
  refine (lawFrac s0 s1 s2 W c_std0x).mono fun e W' ⟨he, hb⟩ => ?_
  subst he
  obtain ⟨g0, rfl⟩ : ∃ g0, gs = [g0] := by match gs, hgl with | [g0], _ => exact ⟨g0, rfl⟩
  exact ⟨_, rfl, law_post laidOut rfl Tryd.underlying4 (by kernel_rfl) (by kernel_rfl) hW' rfl hb⟩
theorem said : Rows.FnFormatFractionSaid :=
  OpenClaim.holds_of_wide 6 Tryd.f6 rfl rfl rfl rfl rfl rfl rfl ⟨rfl, rfl, rfl, rfl, rfl⟩ rfl rfl rfl rfl rfl (by kernel_rfl) Tryd.func6 joined
    (of_decide_eq_true (by kernel_rfl)) (by unfold Func.isWrapper; first | (rw [if_pos (by decide +kernel)]; kernel_rfl) | (rw [if_neg (by decide +kernel)]; exact ⟨rfl, rfl⟩))
    (fun os started H enc _ => lifted os started H enc)
theorem plain (f : FuncId) (fn : Func) (hf : Tryd.pinned.checked.prog.funcNamed "loop.example/pub-timelayouts/laws.FnFormatFraction" = some f) (hfn : Tryd.pinned.checked.prog.funcs[f]? = some fn) :
    false = Tryd.pinned.checked.prog.looks [] ∧ ∀ (j : Nat) t, fn.params[j]? = some t → Tryd.pinned.checked.prog.wantsStandIn t = false := by
  obtain rfl : f = 6 := Option.some.inj ((show Tryd.prog.funcNamed "loop.example/pub-timelayouts/laws.FnFormatFraction" = some 6 by kernel_rfl).symm.trans hf) |>.symm
  obtain rfl : fn = Tryd.f6 := (Option.some.inj (Tryd.func6.symm.trans hfn)).symm
  refine ⟨by kernel_rfl, fun j t ht => ?_⟩
  have hall : (Tryd.f6.params.all fun u => !Tryd.prog.wantsStandIn u) = true := by kernel_rfl
  have := Array.all_eq_true_iff_forall_mem.1 hall t (Array.mem_of_getElem? ht)
  show Tryd.prog.wantsStandIn t = false
  simpa using this
theorem goes : false = Rows.fnFormatFractionRow.goesBy Tryd.prog := by kernel_rfl
/-- ████ THE CARD ████ -/
theorem card : Rows.FnFormatFractionCardSaid :=
  Claim7.holds_tied_plain_at .later [] _ _ _ _ said (fun _ h => by cases h) (by kernel_rfl) (fun _ h => by cases h) fnFormatFraction_row_tie rfl ⟨rfl, rfl⟩ main_ok rfl plain goes
#print axioms card
end Go.Proofs.YtigabjibdepoiaaDoor.fnFormatFraction
