/- The law FnExactSignedOffset: its walk. -/
import Derived.Test.YtmojdmgpfpbpeaaDoorSOff
namespace Go.Proofs.YtmojdmgpfpbpeaaDoor.Tm
open Go.RowKit Go

set_option maxHeartbeats 400000 in
theorem soffImpl (s : ByteArray) (z : Int) (T : TypeId) (x : Value) (w : World) (hs : s.size ≤ 140737488351232) (h0 : 0 < s.size) (hV : w.cell? ⟨0, 0, none⟩ = some (.iface T x)) (hz : (soff (bl s) : Int) = z) :
    Calls Tryd.prog 9 #[.string s] w fun e w' => e = .returned (.int .i64 z) ∧ Below w.heap.size w w' := by
  have H := Lib.hid hz; clear hz
  go_enter Tryd.func9, Tryd.ntmps9
  go_wp2_with (first | (go_at_call 21; refine (soff_any s T x _ hs h0 hV).mono ?_; rintro e w1 ⟨rfl, hb⟩) | go_in)
  go_ret
  exact ⟨soff_ret H.out, hb⟩

def OffAt (s : ByteArray) (n : Nat) (h : Int) : Prop := 1 ≤ n ∧ n ≤ s.size ∧ (∀ c ∈ ((bl s).drop 1).take (n - 1), isDig c = true) ∧ h = (min (dval (((bl s).drop 1).take (n - 1))) 100 : Nat)
theorem off_start (s : ByteArray) (h : 0 < s.size) : OffAt s 1 0 := ⟨Nat.le_refl _, h, by simp, by simp [dval, dvalFrom_nil]⟩
theorem off_take (s : ByteArray) (n : Nat) (h1 : 1 ≤ n) (h : n < s.size) : ((bl s).drop 1).take (n + 1 - 1) = ((bl s).drop 1).take (n - 1) ++ [s[n]] := by
  obtain ⟨m, rfl⟩ : ∃ m, n = m + 1 := ⟨n - 1, by omega⟩
  have hl : m < ((bl s).drop 1).length := by rw [List.length_drop, bl_length]; omega
  rw [show m + 1 + 1 - 1 = m + 1 from rfl, show m + 1 - 1 = m from rfl, List.take_succ_eq_append_getElem hl]
  congr 1
  rw [List.getElem_drop]
  congr 1
  show (bl s)[1 + m]'(by rw [bl_length]; omega) = (bl s)[m + 1]'(by rw [bl_length]; omega)
  congr 1
  omega
theorem off_step (s : ByteArray) (n : Nat) (h : Int) (hl : OffAt s n h) (hlt : n < s.size) (h1 : (48 : Int) ≤ ↑s[n].toNat) (h2 : (↑s[n].toNat : Int) ≤ 57) : OffAt s (n + 1) (if 100 < h * 10 + ((↑s[n].toNat : Int) - 48) then 100 else h * 10 + (↑s[n].toNat - 48)) := by
  obtain ⟨g1, g2, g3, g4⟩ := hl
  refine ⟨by omega, hlt, ?_, ?_⟩
  · rw [off_take s n g1 hlt]
    intro c hc
    rcases List.mem_append.1 hc with hc | hc
    · exact g3 c hc
    · obtain rfl := List.mem_singleton.1 hc
      exact (isDig_iff _).2 ⟨by omega, by omega⟩
  · rw [off_take s n g1 hlt, dval, dvalFrom_append, dvalFrom_cons, dvalFrom_nil]
    rw [dval] at g4
    split <;> omega
theorem off_end (s : ByteArray) (n : Nat) (h : Int) (hl : OffAt s n h) (hn : (hlt : n < s.size) → ¬ ((48 : Int) ≤ ↑s[n].toNat ∧ (↑s[n].toNat : Int) ≤ 57)) : (digs (bl (s.extract 1 s.size))).length = n - 1 ∧ h = (min (dval (digs (bl (s.extract 1 s.size)))) 100 : Nat) := by
  obtain ⟨g1, g2, g3, g4⟩ := hl
  have e : digs (bl (s.extract 1 s.size)) = ((bl s).drop 1).take (n - 1) := by
    rw [bl_extract_end]
    refine takeWhile_at _ _ _ g3 ?_
    intro c hc
    rw [List.getElem?_drop] at hc
    obtain ⟨hlt, rfl⟩ := List.getElem?_eq_some_iff.1 hc
    rw [bl_length] at hlt
    have e1 : 1 + (n - 1) = n := by omega
    have := hn (by omega)
    show isDig s[1 + (n - 1)] = false
    have e2 : s[1 + (n - 1)] = s[n]'(by omega) := by congr 1
    rw [e2]
    have : ¬ (48 ≤ (s[n]'(by omega)).toNat ∧ (s[n]'(by omega)).toNat ≤ 57) := by omega
    simpa [isDig] using this
  rw [e]
  exact ⟨by rw [List.length_take, List.length_drop, bl_length]; omega, g4⟩

theorem off_cases (s : ByteArray) (k : Nat) (y : Int) (h0 : 0 < s.size) (hk1 : 1 ≤ k) (e1 : (digs (bl (s.extract 1 s.size))).length = k - 1) (e2 : y = (min (dval (digs (bl (s.extract 1 s.size)))) 100 : Nat)) :
    ((soff (bl s) : Int) = 0 ∧ ((s[0].toNat : Int) != 43) = true ∧ ((s[0].toNat : Int) != 45) = true) ∨
          ((soff (bl s) : Int) = 0 ∧ (((s[0].toNat : Int) != 43) = false ∨ (((s[0].toNat : Int) != 43) = true ∧ ((s[0].toNat : Int) != 45) = false)) ∧ ((k : Int) == 1) = true) ∨
          ((soff (bl s) : Int) = 0 ∧ (((s[0].toNat : Int) != 43) = false ∨ (((s[0].toNat : Int) != 43) = true ∧ ((s[0].toNat : Int) != 45) = false)) ∧ ((k : Int) == 1) = false ∧ 23 < y) ∨
          ((soff (bl s) : Int) = k ∧ (((s[0].toNat : Int) != 43) = false ∨ (((s[0].toNat : Int) != 43) = true ∧ ((s[0].toNat : Int) != 45) = false)) ∧ ((k : Int) == 1) = false ∧ ¬ 23 < y) := by
  have hsf := soff_eq s h0
  have hq : (digs (bl (s.extract 1 s.size))) = [] ↔ k = 1 := by rw [← List.length_eq_zero_iff, e1]; omega
  simp only [bne_iff_ne, bne_eq_false_iff_eq, beq_iff_eq, beq_eq_false_iff_ne]
  generalize dval (digs (bl (s.extract 1 s.size))) = D at *
  by_cases hsg : s[0].toNat = 43 ∨ s[0].toNat = 45
  · by_cases hk : k = 1
    · rw [if_neg (fun h => h.2.1 (hq.2 hk))] at hsf
      clear hq e1
      generalize s[0].toNat = c at *
      omega
    · by_cases hy : 23 < y
      · rw [if_neg (fun h => by have := h.2.2; omega)] at hsf
        clear hq e1
        generalize s[0].toNat = c at *
        omega
      · rw [if_pos ⟨hsg, fun h => hk (hq.1 h), by omega⟩] at hsf
        clear hq
        generalize s[0].toNat = c at *
        omega
  · rw [if_neg (fun h => hsg h.1)] at hsf
    clear hq e1
    generalize s[0].toNat = c at *
    omega
set_option maxHeartbeats 1600000 in
theorem lawSOff (s : ByteArray) (T : TypeId) (x : Value) (w : World) (hs : s.size ≤ 140737488351232) (hV : w.cell? ⟨0, 0, none⟩ = some (.iface T x)) (hg : 0 < w.heap.size) :
    Calls Tryd.prog 4 #[.string s] w (ret w) := by
  by_cases h1 : 2147483647 < s.size
  · go_enter Tryd.func4, Tryd.ntmps4
    go_wp2
    go_ret
    exact ⟨rfl, Below.refl _ _⟩
  rcases Nat.eq_zero_or_pos s.size with e | h0
  · obtain rfl := empty_of s e
    go_enter Tryd.func4, Tryd.ntmps4
    go_wp2_with (go_at_call 9; refine (soffImpl ⟨#[43, 51]⟩ 2 T x _ (by decide) (by decide) hV (by decide)).mono ?_; rintro e w1 ⟨rfl, hb⟩)
    go_ret
    exact ⟨rfl, hb⟩
  have hne := toList_ne s h0
  have hne2 := isEmpty_ne s h0
  go_enter Tryd.func4, Tryd.ntmps4
  go_wp2
  go_loop [3, 4] (fun i x => ∃ (k : Nat) (y : Int), i = .int .i64 k ∧ x = .int .i64 y ∧ OffAt s k y) (fun i _ => s.size - (intOf i).toNat)
  case atStart => exact ⟨1, 0, rfl, rfl, off_start s h0⟩
  case round =>
    obtain ⟨k, y, rfl, rfl, hl⟩ := hrel
    have hk1 := hl.1
    have hk := hl.2.1
    have hy0 : 0 ≤ y ∧ y ≤ 100 := by have := hl.2.2.2; omega
    by_cases hgo : ∃ hlt : k < s.size, (48 : Int) ≤ ↑s[k].toNat ∧ (↑s[k].toNat : Int) ≤ 57
    · obtain ⟨hlt, hc1, hc2⟩ := hgo
      go_wp2
      go_round
      case rel => exact ⟨k + 1, _, by go_num, rfl, off_step s k y hl hlt hc1 hc2⟩
      case measure => simp [intOf]; omega
    · have hend := off_end s k y hl (fun hlt h => hgo ⟨hlt, h⟩)
      have hstop : (¬ k < s.size) ∨ (∃ hlt : k < s.size, (↑s[k].toNat : Int) < 48) ∨ (∃ hlt : k < s.size, (48 : Int) ≤ ↑s[k].toNat ∧ (57 : Int) < ↑s[k].toNat) := by
        rcases Nat.lt_or_ge k s.size with hlt | hge
        · rcases Int.lt_or_le (s[k].toNat : Int) 48 with g | g
          · exact .inr (.inl ⟨hlt, g⟩)
          · exact .inr (.inr ⟨hlt, g, by rcases Int.lt_or_le 57 (s[k].toNat : Int) with g2 | g2; exact g2; exact absurd ⟨hlt, g, g2⟩ hgo⟩)
        · exact .inl (by omega)
      have hcase := off_cases s k y h0 hk1 hend.1 hend.2
      clear hend hgo hl
      rcases hcase with ⟨hz, t1, t2⟩ | ⟨hz, t1 | ⟨t1, t2⟩, t3⟩ | ⟨hz, t1 | ⟨t1, t2⟩, t3, t4⟩ | ⟨hz, t1 | ⟨t1, t2⟩, t3, t4⟩
      all_goals
        have HZ := Lib.hid hz; clear hz
        rcases hstop with g | ⟨hlt, g⟩ | ⟨hlt, g, g2⟩
        all_goals
          go_wp2_with (first | (go_at_call 9; refine (soffImpl s _ T x _ hs h0 hV (HZ.out)).mono ?_; rintro e w1 ⟨rfl, hb⟩; have HB := Lib.hid hb; clear hb) | (go_at_call 9; refine (soffImpl ⟨#[43, 51]⟩ 2 T x _ (by decide) (by decide) ((HB.out.cell (p := ⟨0, 0, none⟩) hg).trans hV) (by decide)).mono ?_; rintro e w2 ⟨rfl, hb2⟩))
          go_ret
          exact ⟨by simp, HB.out.trans (hb2.mono HB.out.size)⟩
end Go.Proofs.YtmojdmgpfpbpeaaDoor.Tm
