/- AppendInt appends a number's digits to bytes: for all bytes, numbers and widths. -/
import Derived.Test.YtmojdmgpfpbpeaaRows
import Derived.Test.YtmojdmgpfpbpeaaRowKit
import Derived.Test.YtmojdmgpfpbpeaaLawApp
import Derived.Test.YtmojdmgpfpbpeaaRowBytes
namespace Go.Proofs.Ytmojdmgpfpbpeaa.fnExactAppendInt
open Go.ChangeShapes Go.WideShapes Go.ChangeAt Go.RowKit Go Go.ChangeMaps Go.Proofs.Ytmojdmgpfpbpeaa.Tm

theorem own : ownKnob Try.prog.godebug = none := by kernel_rfl
theorem laidOut : laidOutB Try.prog = true := by kernel_rfl
set_option maxRecDepth 100000 in
theorem lifted (os : Os) (started : os.Started) (H : Type) (enc : TypeId × Value → H) :
    ReturnsInHanded {} Try.checked os 3 .any (Rows.fnExactAppendIntSpec.pre6 enc Try.prog Try.f3 Rows.fnExactAppendIntRow.domain false) (Rows.fnExactAppendIntSpec.post enc Try.prog Try.f3 false true false false) := by
  refine returnsInHanded_of_change_sized (C := Try.checked) own started (by kernel_rfl) Try.func3
    (ChangeSpec.witness6 (enc := enc) (C := Try.checked) false ⟨#[], #[.slice none 0 0, .int .i64 0, .int .i64 0], []⟩ 8 (by kernel_rfl) (by kernel_rfl) (by kernel_rfl) (by kernel_rfl)) ?_
  intro W base args ds gs before hval0 hW hcnd hsz0 _
  have hval : ∀ (j : Nat) t v, Try.f3.params[j]? = some t → args[j]? = some v → Value.okWide Try.prog W .any base t v := hval0
  have hW' := hW
  obtain ⟨p, q, hA0, hV, rfl, _, _⟩ := hW
  have hA : DataW.TrodAll enc Try.prog W 0 (fun _ => true) true Try.f3.params.toList args.toList ds p := hA0
  rw [Try.params3] at hA hval
  obtain ⟨v0, vs0, d0, ds0, p0, q0, hargs, rfl, rfl, h0, r0⟩ := trodAll_cons hA
  obtain ⟨v1, vs1, d1, ds1, p1, q1, rfl, rfl, rfl, h1, r1⟩ := trodAll_cons r0
  obtain ⟨v2, vs2, d2, ds2, p2, q2, rfl, rfl, rfl, h2, r2⟩ := trodAll_cons r1
  obtain ⟨rfl, rfl, rfl⟩ := trodAll_nil r2
  obtain rfl : args = #[v0, v1, v2] := by cases args; simp_all
  have hgl := trodVars_length hV
  obtain ⟨s0, b0⟩ := argB_of (hval 0 22 v0 rfl rfl) h0
  obtain ⟨s1, rfl, rfl, rfl, hs1⟩ := open_int Try.underlying3 (hval 1 3 v1 rfl rfl) h1
  have z1 : -9223372036854775808 ≤ s1 ∧ s1 ≤ 9223372036854775807 := by simpa [Lit.wf, IntKind.min, IntKind.max, IntKind.signed, IntKind.bits] using hs1
  obtain ⟨s2, rfl, rfl, rfl, hs2⟩ := open_int Try.underlying3 (hval 2 3 v2 rfl rfl) h2
  have z2 : -9223372036854775808 ≤ s2 ∧ s2 ≤ 9223372036854775807 := by simpa [Lit.wf, IntKind.min, IntKind.max, IntKind.signed, IntKind.bits] using hs2
  refine (lawApp v0 s0 s1 s2 W b0 z1).mono fun e W' ⟨he, hb⟩ => ?_
  subst he
  obtain rfl : gs = [] := by match gs, hgl with | [], _ => rfl
  exact ⟨_, rfl, law_post laidOut rfl Try.underlying4 (by kernel_rfl) (by kernel_rfl) hW' rfl hb⟩
theorem said : Rows.FnExactAppendIntSaid :=
  OpenClaim.holds_of_wide 3 Try.f3 rfl rfl rfl rfl rfl rfl rfl ⟨rfl, rfl, rfl, rfl, rfl⟩ rfl rfl rfl rfl rfl (by kernel_rfl) Try.func3 (by kernel_rfl)
    (of_decide_eq_true (by kernel_rfl)) (by unfold Func.isWrapper; first | (rw [if_pos (by decide +kernel)]; kernel_rfl) | (rw [if_neg (by decide +kernel)]; exact ⟨rfl, rfl⟩))
    (fun os started H enc _ => lifted os started H enc)
#print axioms said
end Go.Proofs.Ytmojdmgpfpbpeaa.fnExactAppendInt
