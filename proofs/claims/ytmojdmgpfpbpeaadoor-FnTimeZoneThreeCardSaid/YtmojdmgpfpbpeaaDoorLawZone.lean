/- The law FnTimeZoneThree: its walk. -/
import Derived.Test.YtmojdmgpfpbpeaaDoorSpecAbbr
namespace Go.Proofs.YtmojdmgpfpbpeaaDoor.Tm
open Go.RowKit Go

/-- Three great letters, no GMT, and no great letter behind them. -/
def ThreeUp (s : ByteArray) : Prop := ∃ a b c r, bl s = a :: b :: c :: r ∧ isUp a = true ∧ isUp b = true ∧ isUp c = true ∧ [a, b, c] ≠ [71, 77, 84] ∧ (∀ d, r[0]? = some d → isUp d = false)
theorem three_up (s : ByteArray) (h : ThreeUp s) : 3 ≤ s.size ∧ NoFour s ∧ ((s.extract 0 3).toList == [71, 77, 84]) = false ∧ upper (bl s) = 3 ∧ (∀ h0 : 0 < s.size, ((s[0].toNat : Int) == 43) = false ∧ ((s[0].toNat : Int) == 45) = false) := by
  obtain ⟨a, b, c, r, e, ha, hb, hc, hg, hr⟩ := h
  have hl := congrArg List.length e
  rw [bl_length] at hl
  simp only [List.length_cons] at hl
  have up := fun (x : UInt8) (hx : isUp x = true) => (show 65 ≤ x.toNat ∧ x.toNat ≤ 90 by simpa [isUp] using hx)
  refine ⟨by omega, ?_, ?_, ?_, ?_⟩
  · rcases Nat.lt_or_ge s.size 4 with g | g
    · exact .inl g
    · refine .inr ⟨g, ?_, ?_⟩
      all_goals
        rw [toList_take, e, beq_eq_false_iff_ne]
        intro h
        have h2 := congrArg (fun l => l[1]?) h
        simp at h2
        have := up b hb
        rw [h2] at this
        revert this
        decide
  · rw [toList_take, e, beq_eq_false_iff_ne]
    simpa using hg
  · rw [upper, e]
    have h1 : (a :: b :: c :: r).take 6 = [a, b, c] ++ r.take 3 := rfl
    rw [h1, List.takeWhile_append_of_pos (by simp [ha, hb, hc])]
    have h2 : (r.take 3).takeWhile isUp = [] := by
      cases r with
      | nil => rfl
      | cons d r => simp [hr d rfl]
    rw [h2]; rfl
  · intro h0
    have h1 := get_some s 0 h0
    rw [e] at h1
    have h2 : a = s[0] := by simpa using h1
    have := up a ha
    rw [h2] at this
    simp only [beq_eq_false_iff_ne]
    omega

set_option maxHeartbeats 400000 in
theorem tzImpl (s : ByteArray) (w : World) (hs : s.size ≤ 140737488351232) (h : ThreeUp s) :
    Calls Tryd.prog 11 #[.string s] w fun e w' => e = .returned (.tuple #[.int .i64 3, .bool true]) ∧ Below w.heap.size w w' := by
  obtain ⟨h3, h4, t3, hu, h0⟩ := three_up s h
  obtain ⟨t5, t6⟩ := h0 (by omega)
  have ha : ((tzUp (bl s) (upper (bl s))).1 : Int) = 3 := by rw [hu]; rfl
  have hb : (tzUp (bl s) (upper (bl s))).2 = true := by rw [hu]; rfl
  have H4 := hideP h4; clear h4
  have HA := hideP ha; clear ha
  have HB := hideP hb; clear hb
  clear h hu h0
  have H3 := hideP t3; clear t3
  have H5 := hideP t5; clear t5
  have H6 := hideP t6; clear t6
  go_enter Tryd.func11, Tryd.ntmps11
  go_wp2_with (first | (go_at_call 23; refine (tz_up s 3 true _ hs h3 H4.out H3.out H5.out H6.out HA.out HB.out).mono ?_; rintro e w1 ⟨rfl, hb⟩) | go_in)
  go_ret2
  exact ⟨rfl, hb⟩
theorem three_abc : ThreeUp ⟨#[65, 66, 67]⟩ := ⟨65, 66, 67, [], rfl, by decide, by decide, by decide, by decide, by simp⟩
theorem three_join (d r : ByteArray) (off : Int) (h : AbbrP d off) (hr : ∀ h0 : 0 < r.size, (r[0].toNat : Int) < 65 ∨ 90 < (r[0].toNat : Int)) : ThreeUp (d ++ r) := by
  obtain ⟨h1, _, h3, h4⟩ := h
  have hl := bl_length d
  rw [h3] at hl
  match e : bl d, hl with
  | [a, b, c], _ =>
    rw [e] at h1 h4
    refine ⟨a, b, c, bl r, by rw [bl_append, e]; rfl, h1 a (by simp), h1 b (by simp), h1 c (by simp), h4, ?_⟩
    intro x hx
    obtain ⟨hlt, rfl⟩ := List.getElem?_eq_some_iff.1 hx
    rw [bl_length] at hlt
    have := hr hlt
    show isUp r[0] = false
    have : ¬ (65 ≤ r[0].toNat ∧ r[0].toNat ≤ 90) := by omega
    simpa [isUp] using this

set_option maxHeartbeats 3200000 in
theorem lawZone (d r : ByteArray) (w : World) (hd : d.size ≤ 140737488351232) (hr : r.size ≤ 140737488351232) :
    Calls Tryd.prog 6 #[.string d, .string r] w (ret w) := by
  by_cases h1 : 2147483647 < d.size
  · go_enter Tryd.func6, Tryd.ntmps6
    go_wp2
    go_ret
    exact ⟨rfl, Below.refl _ _⟩
  by_cases h2 : 2147483647 < r.size
  · go_enter Tryd.func6, Tryd.ntmps6
    go_wp2
    go_ret
    exact ⟨rfl, Below.refl _ _⟩
  by_cases h3 : AbbrP d 0
  case neg =>
    have H3 := hideP h3; clear h3
    go_enter Tryd.func6, Tryd.ntmps6
    go_wp2_with (first | (go_at_call 11; refine (tzImpl _ _ (by decide) three_abc).mono ?_; rintro e w1 ⟨rfl, hb⟩; have HB := hideP hb; clear hb) | (go_at_call 12; refine (abbr_any d 0 false _ hd (fun h => by cases h) (fun _ => H3.out)).mono ?_; rintro e w2 ⟨rfl, hb2⟩; have HB2 := hideP hb2; clear hb2))
    go_ret
    exact ⟨rfl, HB.out.trans (HB2.out.mono HB.out.size)⟩
  have hstop : r = ⟨#[]⟩ ∨ (∃ h0 : 0 < r.size, (65 : Int) ≤ ↑r[0].toNat ∧ (↑r[0].toNat : Int) ≤ 90) ∨ (∃ h0 : 0 < r.size, (↑r[0].toNat : Int) < 65) ∨ (∃ h0 : 0 < r.size, (65 : Int) ≤ ↑r[0].toNat ∧ (90 : Int) < ↑r[0].toNat) := by
    rcases Nat.eq_zero_or_pos r.size with e | h0
    · exact .inl (empty_of r e)
    · rcases Int.lt_or_le (r[0].toNat : Int) 65 with g | g
      · exact .inr (.inr (.inl ⟨h0, g⟩))
      · rcases Int.lt_or_le 90 (r[0].toNat : Int) with g2 | g2
        · exact .inr (.inr (.inr ⟨h0, g, g2⟩))
        · exact .inr (.inl ⟨h0, g, g2⟩)
  have hj := three_join d r 0 h3
  have H3 := hideP h3; clear h3
  have HJ := hideP hj; clear hj
  have finish : ∀ w2 : World, (∀ h0 : 0 < r.size, (r[0].toNat : Int) < 65 ∨ 90 < (r[0].toNat : Int)) → Calls Tryd.prog 11 #[.string (d ++ r)] w2 fun e w' => e = .returned (.tuple #[.int .i64 3, .bool true]) ∧ Below w2.heap.size w2 w' :=
    fun w2 hr0 => tzImpl _ w2 (by rw [ByteArray.size_append]; omega) (HJ.out hr0)
  have HF := hideP finish; clear finish
  rcases hstop with rfl | ⟨h0, g, g2⟩ | ⟨h0, g⟩ | ⟨h0, g, g2⟩
  all_goals
    go_enter Tryd.func6, Tryd.ntmps6
    go_wp2_with (fail)
    refine (tzImpl _ _ (by decide) three_abc).mono ?_
    rintro e w1 ⟨rfl, hb⟩
    have HB := hideP hb; clear hb
    go_wp2_with (fail)
    refine (abbr_any d 0 true _ hd (fun _ => H3.out) (fun h => by cases h)).mono ?_
    rintro e w2 ⟨rfl, hb2⟩
    have HB2 := hideP hb2; clear hb2
    go_wp2_with (fail)
  all_goals first
    | (go_ret
       exact ⟨rfl, HB.out.trans (HB2.out.mono HB.out.size)⟩)
    | (first
         | refine (HF.out _ (fun h => absurd h (by decide))).mono ?_
         | refine (HF.out _ (fun _ => .inl g)).mono ?_
         | refine (HF.out _ (fun _ => .inr g2)).mono ?_
       rintro e w3 ⟨rfl, hb3⟩
       have HB3 := hideP hb3; clear hb3
       go_wp2
       go_ret
       exact ⟨rfl, (HB.out.trans (HB2.out.mono HB.out.size)).trans (HB3.out.mono (Nat.le_trans HB.out.size HB2.out.size))⟩)
end Go.Proofs.YtmojdmgpfpbpeaaDoor.Tm
