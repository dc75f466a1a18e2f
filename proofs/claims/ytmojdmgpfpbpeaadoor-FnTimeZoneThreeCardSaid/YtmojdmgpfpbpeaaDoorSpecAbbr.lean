/- The walk of the reference's Abbreviated. -/
import Derived.Test.YtmojdmgpfpbpeaaDoorSpecZone
import Derived.Test.YtmojdmgpfpbpeaaDoorZone
namespace Go.Proofs.YtmojdmgpfpbpeaaDoor.Tm
open Go.RowKit Go

def AbbrP (nm : ByteArray) (off : Int) : Prop := (∀ c ∈ bl nm, isUp c = true) ∧ ZoneOkP nm off ∧ nm.size = 3 ∧ bl nm ≠ [71, 77, 84]
def UpTo (nm : ByteArray) (k : Nat) : Prop := k ≤ nm.size ∧ ∀ c ∈ (bl nm).take k, isUp c = true
theorem upTo_step (s : ByteArray) (n : Nat) (h : UpTo s n) (hlt : n < s.size) (h1 : (65 : Int) ≤ ↑s[n].toNat) (h2 : (↑s[n].toNat : Int) ≤ 90) : UpTo s (n + 1) := by
  refine ⟨hlt, ?_⟩
  rw [bl_take s n hlt]
  intro c hc
  rcases List.mem_append.1 hc with hc | hc
  · exact h.2 c hc
  · obtain rfl := List.mem_singleton.1 hc
    rw [isUp, decide_eq_true (by omega), decide_eq_true (by omega)]; rfl
theorem not_up (s : ByteArray) (n : Nat) (hlt : n < s.size) (h : (↑s[n].toNat : Int) < 65 ∨ (90 : Int) < ↑s[n].toNat) : ¬ ∀ c ∈ bl s, isUp c = true := by
  intro hall
  have := hall s[n] (List.mem_of_getElem? (get_some s n hlt))
  rw [isUp, Bool.and_eq_true, decide_eq_true_eq, decide_eq_true_eq] at this
  omega
theorem upTo_all (s : ByteArray) (n : Nat) (h : UpTo s n) (hn : ¬ n < s.size) : ∀ c ∈ bl s, isUp c = true := by
  have := h.2; rwa [List.take_of_length_le (by rw [bl_length]; omega)] at this

theorem abbr_last (nm : ByteArray) (off : Int) (b : Bool) (hz : ZoneOkP nm off) (hu : ∀ c ∈ bl nm, isUp c = true) (hy : b = true → AbbrP nm off) (hn : b = false → ¬ AbbrP nm off) :
    (b = false ∧ ((nm.size : Int) == 3) = false) ∨ (b = false ∧ ((nm.size : Int) == 3) = true ∧ (nm.toList == [71, 77, 84]) = true) ∨ (b = true ∧ ((nm.size : Int) == 3) = true ∧ (nm.toList == [71, 77, 84]) = false) := by
  simp only [beq_iff_eq, beq_eq_false_iff_ne, toList_eq]
  by_cases h3 : nm.size = 3
  · by_cases hg : bl nm = [71, 77, 84]
    · refine .inr (.inl ⟨?_, by omega, hg⟩)
      cases b
      · rfl
      · exact absurd hg (hy rfl).2.2.2
    · refine .inr (.inr ⟨?_, by omega, hg⟩)
      cases b
      · exact absurd ⟨hu, hz, h3, hg⟩ (hn rfl)
      · rfl
  · refine .inl ⟨?_, by omega⟩
    cases b
    · rfl
    · exact absurd (hy rfl).2.2.1 h3
set_option maxHeartbeats 3200000 in
theorem abbr_any (nm : ByteArray) (off : Int) (b : Bool) (w : World) (hs : nm.size ≤ 140737488351232) (hyes : b = true → AbbrP nm off) (hno : b = false → ¬ AbbrP nm off) :
    Calls Tryd.prog 12 #[.agg #[.string nm, .int .i64 off]] w fun e w' => e = .returned (.bool b) ∧ Below w.heap.size w w' := by
  have HY := hideP hyes; clear hyes
  have HN := hideP hno; clear hno
  go_enter Tryd.func12, Tryd.ntmps12
  go_wp2
  go_loop [3] (fun i => ∃ (k : Nat), i = .int .i64 k ∧ UpTo nm k) (fun i => nm.size - (intOf i).toNat)
  case atStart => exact ⟨0, rfl, Nat.zero_le _, by simp⟩
  case round =>
    obtain ⟨k, rfl, hk⟩ := hrel
    have hks := hk.1
    have HK := hideP hk; clear hk
    by_cases hlt : k < nm.size
    · by_cases h1 : (65 : Int) ≤ ↑nm[k].toNat
      · by_cases h2 : (↑nm[k].toNat : Int) ≤ 90
        · go_wp2
          go_round
          case rel => exact ⟨k + 1, by go_num, upTo_step nm k HK.out hlt h1 h2⟩
          case measure => simp [intOf]; omega
        · have hb : b = false := by
            cases b
            · rfl
            · exact absurd (HY.out rfl).1 (not_up nm k hlt (.inr (by omega)))
          subst hb
          go_wp2
          go_ret
          exact ⟨rfl, (Below.refl _ _).alloc (Nat.le_refl _) _⟩
      · have hb : b = false := by
          cases b
          · rfl
          · exact absurd (HY.out rfl).1 (not_up nm k hlt (.inl (by omega)))
        subst hb
        go_wp2
        go_ret
        exact ⟨rfl, (Below.refl _ _).alloc (Nat.le_refl _) _⟩
    · have hall := upTo_all nm k HK.out hlt
      have HU := hideP hall; clear hall
      by_cases hz : ZoneOkP nm off
      · have hx := abbr_last nm off b hz HU.out HY.out HN.out
        have HZ := hideP hz; clear hz HY HN HU HK
        rcases hx with ⟨rfl, t1⟩ | ⟨rfl, t1, t2⟩ | ⟨rfl, t1, t2⟩
        all_goals
          go_wp2_with (go_at_call 18; refine (zoneOk_yes nm off _ HZ.out).mono ?_; rintro e w1 ⟨rfl, hb⟩; (have hc0 : w1.cell? ⟨w.heap.size, 0, none⟩ = some (.string nm) := (hb.cell (p := ⟨w.heap.size, 0, none⟩) (by simp)).trans (by simp)); have HB := hideP hb; clear hb)
          go_ret
          exact ⟨by simp [*], ((Below.refl _ _).alloc (Nat.le_refl _) _).trans (HB.out.mono (by simp))⟩
      · have hb : b = false := by
          cases b
          · rfl
          · exact absurd (HY.out rfl).2.1 hz
        subst hb
        have HZ := hideP hz; clear hz
        go_wp2_with (go_at_call 18; refine (zoneOk_no nm off _ HZ.out hs).mono ?_; rintro e w1 ⟨rfl, hb⟩)
        go_ret
        exact ⟨by simp, ((Below.refl _ _).alloc (Nat.le_refl _) _).trans (hb.mono (by simp))⟩
end Go.Proofs.YtmojdmgpfpbpeaaDoor.Tm
