/- The law FnChunkPlain: its walk. -/
import Derived.Test.YtigabjibdepoiaaDoorLawJoinP
import Derived.Test.YtigabjibdepoiaaDoorPlainL
namespace Go.Proofs.YtigabjibdepoiaaDoor.Tm
set_option linter.unusedSimpArgs false
set_option linter.unusedVariables false
open Go.RowKit Go
theorem out_plain {s p el q : ByteArray} (h : ChunkOut s p el q) (hp : ∀ c ∈ bl s, okB c.toNat) : p = s ∧ el = ⟨#[]⟩ ∧ q = ⟨#[]⟩ := by
  rcases h with ⟨k, std, n, m, hk, hno, hstd, _⟩ | ⟨_, h1, h2, h3⟩
  · rw [rest, bl_drop s k hk, plain_none _ _ (hp _ (by rw [← bl_get s k hk]; exact List.getElem_mem _)) ?_] at hstd
    · cases hstd
    · cases e : (bl s).drop (k + 1) with
      | nil => rintro ⟨e2, _⟩; cases e2
      | cons d r => exact no07_ok (hp d (List.mem_of_mem_drop (i := k + 1) (by rw [e]; simp)))
  · exact ⟨h1, h2, h3⟩
set_option maxRecDepth 100000 in
set_option maxHeartbeats 1600000 in
theorem lawCPlain (s : ByteArray) (w : World) (hT : TabOk w) (hs : s.size ≤ 140737488351232) :
    Calls Tryd.prog 3 #[.string s] w fun e w' => e = .returned (.bool true) ∧ Below w.heap.size w w' := by
  by_cases hm : (s.size : Int) ≤ 2147483647
  case neg =>
    go_enter Tryd.func3, Tryd.ntmps3
    go_wp2
    go_ret
    exact ⟨rfl, Below.refl _ _⟩
  have HT := hideP hT
  have HBW := hideP (Below.refl w.heap.size w)
  clear hT
  go_enter Tryd.func3, Tryd.ntmps3
  go_wp2_with (first
    | (go_at_call 16; refine (plain_any s _ hs).mono ?_; rintro e w1 ⟨b, rfl, hp, rfl⟩; have HP := hideP hp; clear hp; cases b)
    | fail)
  all_goals first
    | (go_wp2_with (fail); go_ret; exact ⟨rfl, Below.refl _ _⟩)
    | skip
  refine (nextImpl_any s _ HT.out hs).mono ?_
  rintro e w1 ⟨P, E, Q, rfl, hO, hb⟩
  obtain ⟨rfl, rfl, rfl⟩ := out_plain hO (HP.out (by first | trivial | rfl)).2
  have HB := hideP hb
  have HT1 := hideP (HT.out.below hb)
  clear hO hb HT
  have t1 : (P.toList == P.toList) = true := beq_self_eq_true _
  go_wp2_with (fail)
  refine (nextImpl_any w2006 _ HT1.out (by decide)).mono ?_
  rintro e w2 ⟨P2, E2, Q2, rfl, hO2, hb2⟩
  obtain rfl := out2006 hO2
  have HB2 := hideP hb2
  have t5 : (w2006.toList == [50, 48, 48, 54]) = true := by decide +kernel
  clear hO2 hb2 HT1
  go_wp2
  go_ret
  exact ⟨by simp [*], HB.out.trans (HB2.out.mono HB.out.size)⟩
end Go.Proofs.YtigabjibdepoiaaDoor.Tm
