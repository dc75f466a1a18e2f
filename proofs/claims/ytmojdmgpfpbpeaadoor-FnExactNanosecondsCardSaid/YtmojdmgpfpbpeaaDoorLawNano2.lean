/- The law FnExactNanoseconds: its own walk. -/
import Derived.Test.YtmojdmgpfpbpeaaDoorLawNano
namespace Go.Proofs.YtmojdmgpfpbpeaaDoor.Tm
open Go.RowKit Go

theorem fine_in (s : ByteArray) (k : Nat) (h : k < s.size) : isDig s[k] = (decide ((48 : Int) ≤ ↑s[k].toNat) && decide ((↑s[k].toNat : Int) ≤ 57)) := by
  rw [isDig]; congr 1 <;> (rw [decide_eq_decide]; omega)
theorem cAt_in (s : ByteArray) (k : Nat) (h : k < s.size) : cAt (bl s) k = (s[k].toNat : Int) - 48 := by
  rw [cAt, List.getElem?_eq_getElem (by rw [bl_length]; exact h)]; rfl
theorem cAt_out (s : ByteArray) (k : Nat) (h : ¬ k < s.size) : cAt (bl s) k = 0 := by
  rw [cAt, List.getElem?_eq_none (by rw [bl_length]; omega)]

set_option maxHeartbeats 3200000 in
theorem lawNano (b : Bool) (d r : ByteArray) (T TA : TypeId) (x xA : Value) (w : World) (hd : d.size ≤ 140737488351232) (hr : r.size ≤ 140737488351232) (hV : w.cell? ⟨0, 0, none⟩ = some (.iface T x)) (hgV : 0 < w.heap.size)
    (hA : w.cell? ⟨3, 0, none⟩ = some (.iface TA xA)) (hgA : 3 < w.heap.size) :
    Calls Tryd.prog 5 #[.bool b, .string d, .string r] w (ret w) := by
  by_cases h1 : 2147483647 < d.size
  · go_enter Tryd.func5, Tryd.ntmps5
    go_wp2
    go_ret
    exact ⟨rfl, Below.refl _ _⟩
  by_cases h2 : 2147483647 < r.size
  · go_enter Tryd.func5, Tryd.ntmps5
    go_wp2
    go_ret
    exact ⟨rfl, Below.refl _ _⟩
  rcases Nat.eq_zero_or_pos d.size with e | h0
  · obtain rfl := empty_of d e
    go_enter Tryd.func5, Tryd.ntmps5
    go_wp2_with (go_at_call 10; refine (nano_half _ _ hV).mono ?_; rintro e w1 ⟨rfl, hb⟩)
    go_ret
    exact ⟨rfl, hb⟩
  have hne := toList_ne d h0
  have hne2 := isEmpty_ne d h0
  have hcase : (((d[0].toNat : Int) == 43) = true) ∨ (((d[0].toNat : Int) == 43) = false ∧ ((d[0].toNat : Int) == 45) = true) ∨ (((d[0].toNat : Int) == 43) = false ∧ ((d[0].toNat : Int) == 45) = false) := by
    simp only [beq_iff_eq, beq_eq_false_iff_ne]; omega
  rcases hcase with t1 | ⟨t1, t2⟩ | ⟨t1, t2⟩
  · go_enter Tryd.func5, Tryd.ntmps5
    go_wp2_with (go_at_call 10; refine (nano_half _ _ hV).mono ?_; rintro e w1 ⟨rfl, hb⟩)
    go_ret
    exact ⟨rfl, hb⟩
  · go_enter Tryd.func5, Tryd.ntmps5
    go_wp2_with (go_at_call 10; refine (nano_half _ _ hV).mono ?_; rintro e w1 ⟨rfl, hb⟩)
    go_ret
    exact ⟨rfl, hb⟩
  have hp := plain_start d (fun _ => ⟨t1, t2⟩)
  have HP := hideP hp; clear hp
  go_enter Tryd.func5, Tryd.ntmps5
  go_wp2_with (go_at_call 10; refine (nano_half _ _ hV).mono ?_; rintro e w1 ⟨rfl, hb⟩)
  have hV1 := (hb.cell (p := ⟨0, 0, none⟩) hgV).trans hV
  have hA1 := (hb.cell (p := ⟨3, 0, none⟩) hgA).trans hA
  have hg1 : 3 < w1.heap.size := Nat.lt_of_lt_of_le hgA hb.size
  have HB := hideP hb; clear hb
  have HV1 := hideP hV1; clear hV1 hV
  have HA1 := hideP hA1; clear hA1 hA
  clear t1 t2 hne hne2
  go_loop [9, 11] (fun f i => ∃ (k : Nat) (c : Bool), i = .int .i64 k ∧ f = .bool c ∧ c = fineAt (bl d) k ∧ k ≤ 9 ∧ k ≤ d.size) (fun _ i => 9 - (intOf i).toNat)
  case atStart => exact ⟨0, _, rfl, rfl, (fine_zero _).symm, by decide, by omega⟩
  case round =>
    obtain ⟨k, c, rfl, rfl, hc, hk, hkd⟩ := hrel
    have HC := hideP hc; clear hc
    by_cases hgo : k < d.size ∧ k < 9
    · obtain ⟨hlt, hk9⟩ := hgo
      cases c
      · go_wp2
        go_round
        case rel => exact ⟨k + 1, _, by go_num, rfl, by rw [fine_succ d k hlt, ← HC.out]; rfl, by omega, by omega⟩
        case measure => simp [intOf]; omega
      · by_cases h3 : (48 : Int) ≤ ↑d[k].toNat
        · by_cases h4 : (↑d[k].toNat : Int) ≤ 57
          · go_wp2
            go_round
            case rel => exact ⟨k + 1, _, by go_num, rfl, by rw [fine_succ d k hlt, ← HC.out, fine_in d k hlt, decide_eq_true h3, decide_eq_true h4]; rfl, by omega, by omega⟩
            case measure => simp [intOf]; omega
          · go_wp2
            go_round
            case rel => exact ⟨k + 1, _, by go_num, rfl, by rw [fine_succ d k hlt, ← HC.out, fine_in d k hlt, decide_eq_true h3, decide_eq_false h4]; rfl, by omega, by omega⟩
            case measure => simp [intOf]; omega
        · go_wp2
          go_round
          case rel => exact ⟨k + 1, _, by go_num, rfl, by rw [fine_succ d k hlt, ← HC.out, fine_in d k hlt, decide_eq_false h3]; rfl, by omega, by omega⟩
          case measure => simp [intOf]; omega
    · have hfe : c = fineAt (bl d) 9 := by rw [HC.out]; exact fine_end _ _ hk (by rw [bl_length]; exact hgo)
      have HF := hideP hfe; clear hfe HC
      have hstop : (¬ k < d.size) ∨ (k < d.size ∧ ¬ k < 9) := by omega
      clear hgo
      rcases hstop with g | ⟨g, g2⟩
      all_goals
        go_wp2
        go_loop [10, 12] (fun y i => ∃ (j : Nat) (z : Int), i = .int .i64 j ∧ y = .int .i64 z ∧ z = wantAt (bl d) j ∧ j ≤ 9) (fun _ i => 9 - (intOf i).toNat)
        case atStart => exact ⟨0, _, rfl, rfl, rfl, by decide⟩
        case round =>
          obtain ⟨j, z, rfl, rfl, hz, hj⟩ := hrel
          have hsm := want_small (bl d) j hj
          rw [← hz] at hsm
          have HZ := hideP hz; clear hz
          by_cases hj9 : j < 9
          · by_cases hjd : j < d.size
            · have hbyte := d[j].toNat_lt
              go_wp2
              go_round
              case rel => exact ⟨j + 1, _, by go_num, rfl, by rw [wantAt, ← HZ.out, cAt_in d j hjd], by omega⟩
              case measure => simp [intOf]; omega
            · go_wp2
              all_goals
                go_round
                case rel => exact ⟨j + 1, _, by go_num, rfl, by rw [wantAt, ← HZ.out, cAt_out d j hjd, Int.add_zero], by omega⟩
                case measure => simp [intOf]; omega
          · obtain rfl : j = 9 := by omega
            cases b
            all_goals
              go_wp2_with (go_at_call 10; refine (nano_law _ d r T TA x xA _ (by decide) (by omega) (by omega) HV1.out hg1 HA1.out HP.out).mono ?_; rintro e w2 ⟨(⟨hf, rfl⟩ | ⟨hf, rfl⟩), hb2⟩; (all_goals (have hcf := HF.out.trans hf; subst hcf; have HB2 := hideP hb2; clear hb2 hf; try rw [← HZ.out])))
              all_goals
                go_ret
                exact ⟨by simp, HB.out.trans (HB2.out.mono HB.out.size)⟩
end Go.Proofs.YtmojdmgpfpbpeaaDoor.Tm
