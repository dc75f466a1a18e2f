/- The law FnExactLeadingInt: its walk. -/
import Derived.Test.YtmojdmgpfpbpeaaDoorLead2
namespace Go.Proofs.YtmojdmgpfpbpeaaDoor.Tm
open Go.RowKit Go

theorem leadImpl_7a (V : Value) (w : World) (hV : w.cell? ⟨0, 0, none⟩ = some V) :
    Calls Tryd.prog 8 #[.string ⟨#[55, 97]⟩] w fun e w' => e = .returned (.tuple #[.int .u64 7, .string ⟨#[97]⟩, .bool true]) ∧ Below w.heap.size w w' :=
  (leadImpl_ok ⟨#[55, 97]⟩ V w (by decide) hV (by decide)).mono fun _ _ h => h

theorem leadImpl_join (d r : ByteArray) (V : Value) (w : World) (hd : d.size ≤ 18) (hr : r.size ≤ 2147483647) (hall : ∀ c ∈ bl d, isDig c = true) (hno : ∀ c, (bl r)[0]? = some c → isDig c = false)
    (hV : w.cell? ⟨0, 0, none⟩ = some V) :
    Calls Tryd.prog 8 #[.string (d ++ r)] w fun e w' => e = .returned (.tuple #[.int .u64 (dval (bl d) : Nat), .string r, .bool true]) ∧ Below w.heap.size w w' := by
  have e1 : digs (bl (d ++ r)) = bl d := by rw [bl_append]; exact takeWhile_all_append _ _ _ hall hno
  have hs := dval_small (bl d) hall (by rw [bl_length]; exact hd)
  refine (leadImpl_ok (d ++ r) V w (by rw [ByteArray.size_append]; omega) hV (by rw [e1]; omega)).mono fun e w' ⟨he, hb⟩ => ⟨?_, hb⟩
  rw [he, e1]
  have e2 : (d ++ r).extract (bl d).length (d ++ r).size = r := by
    apply ba_ext
    rw [bl_extract_end, bl_append, List.drop_left]
  rw [e2]

theorem small_at (d : ByteArray) (k : Nat) (y : Int) (hl : LeadAt d k y) (hd : d.size ≤ 18) : y < 1000000000000000000 := by
  have := dval_small ((bl d).take k) hl.2.1 (by rw [List.length_take, bl_length]; omega)
  have := hl.2.2.1
  omega
theorem small_before (d : ByteArray) (k : Nat) (y : Int) (hl : LeadAt d k y) (hd : k ≤ 17) : y < 100000000000000000 := by
  have h := dvalFrom_lt ((bl d).take k) hl.2.1 0
  rw [Nat.zero_add, Nat.one_mul] at h
  have h2 := Nat.lt_of_lt_of_le h (Nat.pow_le_pow_right (show 0 < 10 by decide) (show ((bl d).take k).length ≤ 17 by rw [List.length_take, bl_length]; omega))
  have := hl.2.2.1
  rw [dval] at this
  omega
theorem at_end (d : ByteArray) (k : Nat) (y : Int) (hl : LeadAt d k y) (hn : ¬ k < d.size) : (∀ c ∈ bl d, isDig c = true) ∧ y = (dval (bl d) : Nat) := by
  have := hl.2.1
  have h2 := hl.2.2.1
  rw [pre_last d k hl.1 hn] at this h2
  exact ⟨this, h2⟩
set_option maxHeartbeats 1600000 in
theorem lawLead (d r : ByteArray) (V : Value) (w : World) (hd : d.size ≤ 140737488351232) (hr : r.size ≤ 140737488351232) (hV : w.cell? ⟨0, 0, none⟩ = some V) (hg : 0 < w.heap.size) :
    Calls Tryd.prog 3 #[.string d, .string r] w (ret w) := by
  by_cases h1 : 2147483647 < d.size
  · go_enter Tryd.func3, Tryd.ntmps3
    go_wp2
    go_ret
    exact ⟨rfl, Below.refl _ _⟩
  by_cases h2 : 2147483647 < r.size
  · go_enter Tryd.func3, Tryd.ntmps3
    go_wp2
    go_ret
    exact ⟨rfl, Below.refl _ _⟩
  by_cases h3 : 18 < d.size
  · go_enter Tryd.func3, Tryd.ntmps3
    go_wp2_with (go_at_call 8; refine (leadImpl_7a V _ hV).mono ?_; rintro e w1 ⟨rfl, hb⟩)
    go_ret
    exact ⟨rfl, hb⟩
  by_cases h4 : ∃ h0 : 0 < r.size, (48 : Int) ≤ (r[0].toNat : Int) ∧ (r[0].toNat : Int) ≤ 57
  · obtain ⟨h0, h5, h6⟩ := h4
    have hne := toList_ne r h0
    have hne2 := isEmpty_ne r h0
    go_enter Tryd.func3, Tryd.ntmps3
    go_wp2_with (go_at_call 8; refine (leadImpl_7a V _ hV).mono ?_; rintro e w1 ⟨rfl, hb⟩)
    go_ret
    exact ⟨rfl, hb⟩
  have hno : NoDig r := noDig_of r fun h0 => by
    rcases Int.lt_or_le (r[0].toNat : Int) 48 with h | h
    · exact .inl h
    · exact .inr (by rcases Int.lt_or_le 57 (r[0].toNat : Int) with g | g; exact g; exact absurd ⟨h0, h, g⟩ h4)
  have HN := Lib.hid hno; clear hno
  have hcase : (∃ h0 : 0 < r.size, (r[0].toNat : Int) < 48) ∨ (∃ h0 : 0 < r.size, (57 : Int) < (r[0].toNat : Int)) ∨ r = ⟨#[]⟩ := by
    rcases Nat.eq_zero_or_pos r.size with e | h0
    · exact .inr (.inr (empty_of r e))
    · rcases Int.lt_or_le (r[0].toNat : Int) 48 with h | h
      · exact .inl ⟨h0, h⟩
      · exact .inr (.inl ⟨h0, by rcases Int.lt_or_le 57 (r[0].toNat : Int) with g | g; exact g; exact absurd ⟨h0, h, g⟩ h4⟩)
  clear h4
  rcases hcase with ⟨h0, h5⟩ | ⟨h0, h5⟩ | rfl
  case' inl =>
    have hne := toList_ne r h0
    have hne2 := isEmpty_ne r h0
    go_enter Tryd.func3, Tryd.ntmps3
    go_wp2_with (go_at_call 8; refine (leadImpl_7a V _ hV).mono ?_; rintro e w1 ⟨rfl, hb⟩)
  case' inr.inl =>
    have hne := toList_ne r h0
    have hne2 := isEmpty_ne r h0
    go_enter Tryd.func3, Tryd.ntmps3
    go_wp2_with (go_at_call 8; refine (leadImpl_7a V _ hV).mono ?_; rintro e w1 ⟨rfl, hb⟩)
  case' inr.inr =>
    go_enter Tryd.func3, Tryd.ntmps3
    go_wp2_with (go_at_call 8; refine (leadImpl_7a V _ hV).mono ?_; rintro e w1 ⟨rfl, hb⟩)
  all_goals
    go_loop [8, 9] (fun x i => ∃ (k : Nat) (y : Int), i = .int .i64 k ∧ x = .int .u64 y ∧ LeadAt d k y) (fun _ i => d.size - (intOf i).toNat)
    case atStart => exact ⟨0, 0, rfl, rfl, lead_start d⟩
    case round =>
      obtain ⟨k, y, rfl, rfl, hl⟩ := hrel
      have hk := hl.1
      have hy0 : 0 ≤ y := by have := hl.2.2.1; omega
      have hy1 : y < 1000000000000000000 := small_at d k y hl (by omega)
      by_cases hkd : k < d.size
      · by_cases hc : (48 : Int) ≤ ↑d[k].toNat ∧ (↑d[k].toNat : Int) ≤ 57
        · obtain ⟨hc1, hc2⟩ := hc
          go_wp2
          go_round
          case rel => exact ⟨k + 1, _, by go_num, rfl, by rw [show y * 10 + ((d[k].toNat : Int) - 48) = y * 10 + (d[k].toNat : Int) - 48 from by omega]; exact lead_step d k y hl hkd ⟨hc1, hc2⟩ (by have := small_before d k y hl (by omega); omega)⟩
          case measure => simp [intOf]; omega
        · go_wp2
          all_goals (go_ret; exact ⟨rfl, hb⟩)
      · obtain ⟨hall, rfl⟩ := at_end d k y hl hkd
        have HA := Lib.hid hall; clear hall
        have HB := Lib.hid hb; clear hb
        go_wp2_with (go_at_call 8; refine (leadImpl_join d _ V _ (by omega) (by first | omega | decide) HA.out HN.out ((HB.out.cell (p := ⟨0, 0, none⟩) hg).trans hV)).mono ?_; rintro e w2 ⟨rfl, hb2⟩)
        go_ret
        exact ⟨by simp, HB.out.trans (hb2.mono HB.out.size)⟩
end Go.Proofs.YtmojdmgpfpbpeaaDoor.Tm
