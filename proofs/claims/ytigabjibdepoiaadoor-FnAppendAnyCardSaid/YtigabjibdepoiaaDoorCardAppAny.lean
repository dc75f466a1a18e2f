/- The road that appends writes behind the bytes that came in what Format writes: for every slice of bytes and every layout of the lengths that the law lets in, and every time that CivilOk lets in. -/
import Derived.Test.YtigabjibdepoiaaDoorCards
import Derived.Test.YtigabjibdepoiaaDoorTie
import Derived.Test.YtigabjibdepoiaaDoorJndAppAny
import Derived.Test.YtigabjibdepoiaaDoorFactsH2
import Derived.Test.YtigabjibdepoiaaDoorRowTab
import Derived.Test.YtigabjibdepoiaaDoorLawAppAnyM
namespace Go.Proofs.YtigabjibdepoiaaDoor.fnAppendAny
set_option linter.unusedSimpArgs false
set_option linter.unusedVariables false
open Go.ChangeShapes Go.WideShapes Go.ChangeAt Go.RowKit Go Go.ChangeMaps Go.Proofs.YtigabjibdepoiaaDoor.Tm

theorem own : ownKnob Tryd.prog.godebug = none := by kernel_rfl
theorem laidOut : laidOutB Tryd.prog = true := by kernel_rfl
theorem g_std0x : Tryd.prog.globalNamed "loop.example/pub-timelayouts/pub/gotime.std0x" = some 0 := by kernel_rfl
theorem gt_std0x : (Tryd.prog.globals[0]?).map (·.type) = some 104 := by kernel_rfl
theorem cells_tab : Tryd.prog.cellsOf 104 = 6 := by kernel_rfl
theorem cells_int : Tryd.prog.cellsOf 3 = 1 := by kernel_rfl
set_option maxRecDepth 100000 in
theorem lifted (os : Os) (started : os.Started) (H : Type) (enc : TypeId × Value → H) :
    ReturnsInHanded {} Tryd.checked os 13 .any (fun w args => (Rows.fnAppendAnySpec.pre enc Tryd.prog Tryd.f13 [] false w args ∧ laidMetH Tryd.prog Rows.fnAppendAnyRow.laid w) ∧ sizedMet enc Tryd.prog Tryd.f13 (OpenSpec.ofChange Rows.fnAppendAnySpec) false w args)
      (Rows.fnAppendAnySpec.post enc Tryd.prog Tryd.f13 false true false false) := by
  refine returnsInHanded_of_change_and (C := Tryd.checked) (X := fun w _ => laidMetH Tryd.prog Rows.fnAppendAnyRow.laid w) (fun _ _ _ hh h => h.of_heap hh) own started (by kernel_rfl) Tryd.func13
    (ChangeSpec.witness_shaped (enc := enc) (C := Tryd.checked) (os := os) (X := fun w _ => laidMetH Tryd.prog Rows.fnAppendAnyRow.laid w) false (World.laidAll Tryd.prog os Rows.fnAppendAnyRow.laid) #[.slice none 0 0, .string ⟨#[]⟩, .agg #[.int .i64 0, .int .i64 0, .int .i64 0, .int .i64 0, .int .i64 0, .int .i64 0, .int .i64 0, .string ⟨#[]⟩, .int .i64 0]] 8 (World.laidAll_os _ _ _)
      (World.shaped_of_ZipB (by kernel_rfl) (by kernel_rfl)) (by kernel_rfl) (by kernel_rfl) (by kernel_rfl)
      (by rw [MakeChecks.laidMetH_plain _ _ _ (by kernel_rfl)]; exact laidMet_laidAll _ (by kernel_rfl) (by kernel_rfl))) ?_
  intro W base args ds gs before hval0 hW _ hsz0 hL _
  have hval : ∀ (j : Nat) t v, Tryd.f13.params[j]? = some t → args[j]? = some v → Value.okWide Tryd.prog W .any base t v := hval0
  have hW' := hW
  obtain ⟨p, q, hA0, hV, rfl, _, _⟩ := hW
  have hA : DataW.TrodAll enc Tryd.prog W 0 (fun _ => true) true Tryd.f13.params.toList args.toList ds p := hA0
  rw [Tryd.params13] at hA hval
  obtain ⟨v0, vs0, d0, ds0, p0, q0, hargs, rfl, rfl, h0, r0⟩ := trodAll_cons hA
  obtain ⟨v1, vs1, d1, ds1, p1, q1, rfl, rfl, rfl, h1, r1⟩ := trodAll_cons r0
  obtain ⟨v2, vs2, d2, ds2, p2, q2, rfl, rfl, rfl, h2, r2⟩ := trodAll_cons r1
  obtain ⟨rfl, rfl, rfl⟩ := trodAll_nil r2
  obtain rfl : args = #[v0, v1, v2] := by cases args; simp_all
  have hgl := trodVars_length hV
  obtain ⟨s0, b0⟩ := argB_of (hval 0 51 v0 rfl rfl) h0
  obtain ⟨s1, rfl, rfl, rfl, hs1⟩ := open_string Tryd.underlying9 (hval 1 9 v1 rfl rfl) h1
  have z1 : s1.size ≤ 140737488351232 := by have := sized_string hsz0 (j := 1) (t := 9) rfl rfl; simpa [reachBytes] using this
  obtain ⟨s2, rfl, hs2⟩ := open_civ (hval 2 28 v2 rfl rfl) h2
  have hL' : laidMet Tryd.prog Rows.fnAppendAnyRow.laid W := by rw [MakeChecks.laidMetH_plain _ _ _ (by kernel_rfl)] at hL; exact hL
  have c_std0x := laid_table hL' (.head _) g_std0x gt_std0x Tryd.underlying104 Tryd.underlying3 cells_int cells_tab
  refine (lawAppAny v0 s0 s1 s2 W b0 z1 c_std0x).mono fun e W' ⟨he, hb⟩ => ?_
  subst he
  obtain ⟨g0, rfl⟩ : ∃ g0, gs = [g0] := by match gs, hgl with | [g0], _ => exact ⟨g0, rfl⟩
  exact ⟨_, rfl, law_post laidOut rfl Tryd.underlying4 (by kernel_rfl) (by kernel_rfl) hW' rfl hb⟩
theorem said : Rows.FnAppendAnySaid :=
  OpenClaim.holds_of_wide 13 Tryd.f13 rfl rfl rfl rfl rfl rfl rfl ⟨rfl, rfl, rfl, rfl, rfl⟩ rfl rfl rfl rfl rfl (by kernel_rfl) Tryd.func13 joined
    (of_decide_eq_true (by kernel_rfl)) (by unfold Func.isWrapper; first | (rw [if_pos (by decide +kernel)]; kernel_rfl) | (rw [if_neg (by decide +kernel)]; exact ⟨rfl, rfl⟩))
    (fun os started H enc _ => lifted os started H enc)
theorem plain (f : FuncId) (fn : Func) (hf : Tryd.pinned.checked.prog.funcNamed "loop.example/pub-timelayouts/laws.FnAppendAny" = some f) (hfn : Tryd.pinned.checked.prog.funcs[f]? = some fn) :
    false = Tryd.pinned.checked.prog.looks [] ∧ ∀ (j : Nat) t, fn.params[j]? = some t → Tryd.pinned.checked.prog.wantsStandIn t = false := by
  obtain rfl : f = 13 := Option.some.inj ((show Tryd.prog.funcNamed "loop.example/pub-timelayouts/laws.FnAppendAny" = some 13 by kernel_rfl).symm.trans hf) |>.symm
  obtain rfl : fn = Tryd.f13 := (Option.some.inj (Tryd.func13.symm.trans hfn)).symm
  refine ⟨by kernel_rfl, fun j t ht => ?_⟩
  have hall : (Tryd.f13.params.all fun u => !Tryd.prog.wantsStandIn u) = true := by kernel_rfl
  have := Array.all_eq_true_iff_forall_mem.1 hall t (Array.mem_of_getElem? ht)
  show Tryd.prog.wantsStandIn t = false
  simpa using this
theorem goes : false = Rows.fnAppendAnyRow.goesBy Tryd.prog := by kernel_rfl
/-- ████ THE CARD ████ -/
theorem card : Rows.FnAppendAnyCardSaid :=
  Claim7.holds_tied_plain_at .later [] _ _ _ _ said (fun _ h => by cases h) (by kernel_rfl) (fun _ h => by cases h) fnAppendAny_row_tie rfl ⟨rfl, rfl⟩ main_ok rfl plain goes
#print axioms card
end Go.Proofs.YtigabjibdepoiaaDoor.fnAppendAny
