/- THE CARD OF FnExactNanoseconds: a fraction is a comma or a point with digits, of which nine count. For every mark, and every two texts, without any condition of ours. -/
import Derived.Test.YtmojdmgpfpbpeaaDoorCards
import Derived.Test.YtmojdmgpfpbpeaaDoorTie
import Derived.Test.YtmojdmgpfpbpeaaDoorRowKit
import Derived.Test.YtmojdmgpfpbpeaaDoorLawNano2
namespace Go.Proofs.YtmojdmgpfpbpeaaDoor.fnExactNanoseconds
open Go.ChangeShapes Go.WideShapes Go.ChangeAt Go.RowKit Go Go.ChangeMaps Go.Proofs.YtmojdmgpfpbpeaaDoor.Tm

theorem own : ownKnob Tryd.prog.godebug = none := by kernel_rfl
theorem laidOut : laidOutB Tryd.prog = true := by kernel_rfl
theorem g_errAtoi : Tryd.prog.globalNamed "loop.example/pub-timelayouts/pub/gotime.errAtoi" = some 3 := by kernel_rfl
theorem gt_errAtoi : (Tryd.prog.globals[3]?).map (·.type) = some 38 := by kernel_rfl
theorem g_errBad : Tryd.prog.globalNamed "loop.example/pub-timelayouts/pub/gotime.errBad" = some 1 := by kernel_rfl
theorem gt_errBad : (Tryd.prog.globals[1]?).map (·.type) = some 38 := by kernel_rfl
theorem g_errLeadingInt : Tryd.prog.globalNamed "loop.example/pub-timelayouts/pub/gotime.errLeadingInt" = some 0 := by kernel_rfl
theorem gt_errLeadingInt : (Tryd.prog.globals[0]?).map (·.type) = some 38 := by kernel_rfl
set_option maxRecDepth 100000 in
theorem lifted (os : Os) (started : os.Started) (H : Type) (enc : TypeId × Value → H) :
    ReturnsInHanded {} Tryd.checked os 5 .any (fun w args => (Rows.fnExactNanosecondsSpec.pre enc Tryd.prog Tryd.f5 [] false w args ∧ laidMetH Tryd.prog Rows.fnExactNanosecondsRow.laid w) ∧ sizedMet enc Tryd.prog Tryd.f5 (OpenSpec.ofChange Rows.fnExactNanosecondsSpec) false w args)
      (Rows.fnExactNanosecondsSpec.post enc Tryd.prog Tryd.f5 false true false false) := by
  refine returnsInHanded_of_change_and (C := Tryd.checked) (X := fun w _ => laidMetH Tryd.prog Rows.fnExactNanosecondsRow.laid w) (fun _ _ _ hh h => h.of_heap hh) own started (by kernel_rfl) Tryd.func5
    (ChangeSpec.witness_shaped (enc := enc) (C := Tryd.checked) (os := os) (X := fun w _ => laidMetH Tryd.prog Rows.fnExactNanosecondsRow.laid w) false (World.laidAll Tryd.prog os Rows.fnExactNanosecondsRow.laid) #[.bool false, .string ⟨#[]⟩, .string ⟨#[]⟩] 8 (World.laidAll_os _ _ _)
      (World.shaped_of_ZipB (by kernel_rfl) (by kernel_rfl)) (by kernel_rfl) (by kernel_rfl) (by kernel_rfl)
      (by rw [MakeChecks.laidMetH_plain _ _ _ (by kernel_rfl)]; exact laidMet_laidAll _ (by kernel_rfl) (by kernel_rfl))) ?_
  intro W base args ds gs before hval0 hW _ hsz0 hL _
  have hval : ∀ (j : Nat) t v, Tryd.f5.params[j]? = some t → args[j]? = some v → Value.okWide Tryd.prog W .any base t v := hval0
  have hW' := hW
  obtain ⟨p, q, hA0, hV, rfl, _, _⟩ := hW
  have hA : DataW.TrodAll enc Tryd.prog W 0 (fun _ => true) true Tryd.f5.params.toList args.toList ds p := hA0
  rw [Tryd.params5] at hA hval
  obtain ⟨v0, vs0, d0, ds0, p0, q0, hargs, rfl, rfl, h0, r0⟩ := trodAll_cons hA
  obtain ⟨v1, vs1, d1, ds1, p1, q1, rfl, rfl, rfl, h1, r1⟩ := trodAll_cons r0
  obtain ⟨v2, vs2, d2, ds2, p2, q2, rfl, rfl, rfl, h2, r2⟩ := trodAll_cons r1
  obtain ⟨rfl, rfl, rfl⟩ := trodAll_nil r2
  obtain rfl : args = #[v0, v1, v2] := by cases args; simp_all
  have hgl := trodVars_length hV
  obtain ⟨s0, rfl, rfl, rfl⟩ := open_bool Tryd.underlying4 (hval 0 4 v0 rfl rfl) h0
  obtain ⟨s1, rfl, rfl, rfl, hs1⟩ := open_string Tryd.underlying9 (hval 1 9 v1 rfl rfl) h1
  have z1 : s1.size ≤ 140737488351232 := by have := sized_string hsz0 (j := 1) (t := 9) rfl rfl; simpa [reachBytes] using this
  obtain ⟨s2, rfl, rfl, rfl, hs2⟩ := open_string Tryd.underlying9 (hval 2 9 v2 rfl rfl) h2
  have z2 : s2.size ≤ 140737488351232 := by have := sized_string hsz0 (j := 2) (t := 9) rfl rfl; simpa [reachBytes] using this
  have hL' : laidMet Tryd.prog Rows.fnExactNanosecondsRow.laid W := by rw [MakeChecks.laidMetH_plain _ _ _ (by kernel_rfl)] at hL; exact hL
  obtain ⟨u_errAtoi, w_errAtoi, c_errAtoi⟩ := laid_iface hL' (.head _) g_errAtoi gt_errAtoi Tryd.underlying38
  obtain ⟨u_errBad, w_errBad, c_errBad⟩ := laid_iface hL' (.tail _ (.head _)) g_errBad gt_errBad Tryd.underlying38
  obtain ⟨u_errLeadingInt, w_errLeadingInt, c_errLeadingInt⟩ := laid_iface hL' (.tail _ (.tail _ (.head _))) g_errLeadingInt gt_errLeadingInt Tryd.underlying38
  refine (lawNano s0 s1 s2 _ _ _ _ W z1 z2 c_errLeadingInt (var_lt c_errLeadingInt) c_errAtoi (var_lt c_errAtoi)).mono fun e W' ⟨he, hb⟩ => ?_
  subst he
  obtain ⟨g0, g1, g2, rfl⟩ : ∃ g0 g1 g2, gs = [g0, g1, g2] := by match gs, hgl with | [g0, g1, g2], _ => exact ⟨g0, g1, g2, rfl⟩
  exact ⟨_, rfl, law_post laidOut rfl Tryd.underlying4 (by kernel_rfl) (by kernel_rfl) hW' rfl hb⟩
theorem said : Rows.FnExactNanosecondsSaid :=
  OpenClaim.holds_of_wide 5 Tryd.f5 rfl rfl rfl rfl rfl rfl rfl ⟨rfl, rfl, rfl, rfl, rfl⟩ rfl rfl rfl rfl rfl (by kernel_rfl) Tryd.func5 (by kernel_rfl)
    (of_decide_eq_true (by kernel_rfl)) (by unfold Func.isWrapper; first | (rw [if_pos (by decide +kernel)]; kernel_rfl) | (rw [if_neg (by decide +kernel)]; exact ⟨rfl, rfl⟩))
    (fun os started H enc _ => lifted os started H enc)
theorem plain (f : FuncId) (fn : Func) (hf : Tryd.pinned.checked.prog.funcNamed "loop.example/pub-timelayouts/laws.FnExactNanoseconds" = some f) (hfn : Tryd.pinned.checked.prog.funcs[f]? = some fn) :
    false = Tryd.pinned.checked.prog.looks [] ∧ ∀ (j : Nat) t, fn.params[j]? = some t → Tryd.pinned.checked.prog.wantsStandIn t = false := by
  obtain rfl : f = 5 := Option.some.inj ((show Tryd.prog.funcNamed "loop.example/pub-timelayouts/laws.FnExactNanoseconds" = some 5 by kernel_rfl).symm.trans hf) |>.symm
  obtain rfl : fn = Tryd.f5 := (Option.some.inj (Tryd.func5.symm.trans hfn)).symm
  refine ⟨by kernel_rfl, fun j t ht => ?_⟩
  have hall : (Tryd.f5.params.all fun u => !Tryd.prog.wantsStandIn u) = true := by kernel_rfl
  have := Array.all_eq_true_iff_forall_mem.1 hall t (Array.mem_of_getElem? ht)
  show Tryd.prog.wantsStandIn t = false
  simpa using this
/-- ████ THE CARD ████ -/
theorem card : Rows.FnExactNanosecondsCardSaid :=
  Claim7.holds_tied_plain_at .later [] _ _ _ _ said (fun _ h => by cases h) (by kernel_rfl) (fun _ h => by cases h) fnExactNanoseconds_row_tie rfl ⟨rfl, rfl⟩ (by kernel_rfl) rfl plain (by kernel_rfl)
#print axioms card
end Go.Proofs.YtmojdmgpfpbpeaaDoor.fnExactNanoseconds
