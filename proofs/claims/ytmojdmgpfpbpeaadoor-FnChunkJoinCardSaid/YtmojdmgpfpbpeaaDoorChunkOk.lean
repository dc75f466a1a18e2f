/- What the elements of a layout satisfy: a number that is not zero, and a place that is not empty and lies in the text. -/
import Derived.Test.YtmojdmgpfpbpeaaDoorChunkA
namespace Go.Proofs.YtmojdmgpfpbpeaaDoor.Tm
open Go.RowKit Go

/-- An element's number is positive, its place is not empty, and it lies in the text. -/
def StdFine (l : List UInt8) (r : Nat × Nat × Nat) : Prop := 0 < r.1 ∧ r.1 < 9223372036854775807 ∧ r.2.1 < r.2.2 ∧ r.2.2 ≤ l.length
theorem fine_take {l t : List UInt8} {n : Nat} (h : (l.take n == t) = true) (ht : t.length = n) : n ≤ l.length := by
  rw [beq_iff_eq] at h
  have := congrArg List.length h
  rw [List.length_take] at this
  omega
theorem fine_drop {l t : List UInt8} {n : Nat} (h : ((l.drop 1).take n == t) = true) (ht : t.length = n) (hn : 0 < n) : n + 1 ≤ l.length := by
  have := fine_take h ht
  rw [List.length_drop] at this
  omega
theorem fine_at {l : List UInt8} {j n : Nat} (h : at_ l j n = true) : j < l.length := by
  rw [at_] at h
  cases e : l[j]? with
  | none => rw [e] at h; cases h
  | some c => exact (List.getElem?_eq_some_iff.1 e).1
theorem fine_run (d : UInt8) (l : List UInt8) : runOf d l ≤ l.length := by
  rw [runOf]; exact (List.takeWhile_prefix _).length_le

theorem fineJ {l : List UInt8} {r} (h : stdJ l = some r) : StdFine l r := by
  rw [stdJ] at h
  split at h
  · rename_i q; split at h
    · rename_i q2; cases h; exact ⟨by decide, by decide, by decide, fine_take q2 rfl⟩
    · split at h
      · cases h
      · cases h; exact ⟨by decide, by decide, by decide, fine_take q rfl⟩
  · cases h
theorem fineM {l : List UInt8} {r} (h : stdM l = some r) : StdFine l r := by
  rw [stdM] at h
  split at h
  · rename_i q; split at h
    · rename_i q2; cases h; exact ⟨by decide, by decide, by decide, fine_take q2 rfl⟩
    · split at h
      · cases h
      · cases h; exact ⟨by decide, by decide, by decide, fine_take q rfl⟩
  · split at h
    · rename_i q; cases h; exact ⟨by decide, by decide, by decide, fine_take q rfl⟩
    · cases h
theorem fine0 {l : List UInt8} {r} (h : std0 l = some r) : StdFine l r := by
  rw [std0] at h
  cases e : l[1]? with
  | none => rw [e] at h; cases h
  | some d =>
    have hl := (List.getElem?_eq_some_iff.1 e).1
    rw [e] at h
    simp only at h
    split at h
    · cases h
      refine ⟨?_, ?_, Nat.zero_lt_succ _, hl⟩
      · simp only [std0x]; repeat' split
        all_goals decide
      · simp only [std0x]; repeat' split
        all_goals decide
    · split at h
      · rename_i q; cases h; exact ⟨by decide, by decide, by decide, fine_at q.2⟩
      · cases h
theorem fine1 {l : List UInt8} {r} (h0 : 0 < l.length) (h : std1 l = some r) : StdFine l r := by
  rw [std1] at h
  split at h
  · rename_i q; cases h; exact ⟨by decide, by decide, by decide, fine_at q⟩
  · cases h; exact ⟨by decide, by decide, by decide, h0⟩
theorem fine2 {l : List UInt8} {r} (h0 : 0 < l.length) (h : std2 l = some r) : StdFine l r := by
  rw [std2] at h
  split at h
  · rename_i q; cases h; exact ⟨by decide, by decide, by decide, fine_take q rfl⟩
  · cases h; exact ⟨by decide, by decide, by decide, h0⟩
theorem fineU {l : List UInt8} {r} (h : stdUnder l = some r) : StdFine l r := by
  rw [stdUnder] at h
  split at h
  · rename_i q; split at h
    · rename_i q2; cases h; exact ⟨by decide, by decide, by decide, fine_drop q2 rfl (by decide)⟩
    · cases h; exact ⟨by decide, by decide, by decide, fine_at q⟩
  · split at h
    · rename_i q; cases h; rw [Bool.and_eq_true] at q; exact ⟨by decide, by decide, by decide, fine_at q.2⟩
    · cases h
theorem fineZone {l : List UInt8} {c : UInt8} {a b d e f : Nat} {r} (hp : ∀ x ∈ [a, b, d, e, f], 0 < x ∧ x < 9223372036854775807) (h : stdZone c l a b d e f = some r) : StdFine l r := by
  rw [stdZone] at h
  split at h
  · rename_i q; cases h; exact ⟨(hp a (by simp)).1, (hp a (by simp)).2, Nat.zero_lt_succ _, fine_take q rfl⟩
  split at h
  · rename_i q; cases h; exact ⟨(hp b (by simp)).1, (hp b (by simp)).2, Nat.zero_lt_succ _, fine_take q rfl⟩
  split at h
  · rename_i q; cases h; exact ⟨(hp d (by simp)).1, (hp d (by simp)).2, Nat.zero_lt_succ _, fine_take q rfl⟩
  split at h
  · rename_i q; cases h; exact ⟨(hp e (by simp)).1, (hp e (by simp)).2, Nat.zero_lt_succ _, fine_take q rfl⟩
  split at h
  · rename_i q; cases h; exact ⟨(hp f (by simp)).1, (hp f (by simp)).2, Nat.zero_lt_succ _, fine_take q rfl⟩
  cases h
theorem fineFrac {l : List UInt8} {b : Bool} {r} (h : stdFrac b l = some r) : StdFine l r := by
  rw [stdFrac] at h
  cases e : l[1]? with
  | none => rw [e] at h; cases h
  | some d =>
    have hl := (List.getElem?_eq_some_iff.1 e).1
    rw [e] at h
    simp only at h
    split at h
    · split at h
      · cases h
      · cases h
        have h1 := fine_run d (l.drop 1)
        rw [List.length_drop] at h1
        have h2 : 0 < runOf d (l.drop 1) := by
          rw [runOf]
          obtain ⟨hl1, he⟩ := List.getElem?_eq_some_iff.1 e
          have e1 : l.drop 1 = d :: l.drop 2 := by rw [List.drop_eq_getElem_cons hl1, he]
          rw [e1, List.takeWhile_cons, if_pos (by simp)]
          simp
        have h3 : runOf d (l.drop 1) % 4096 < 4096 := Nat.mod_lt _ (by decide)
        refine ⟨?_, ?_, by simp only; omega, by simp only; omega⟩
        · simp only [fracStd]; repeat' split
          all_goals omega
        · simp only [fracStd]; repeat' split
          all_goals omega
    · cases h
theorem stdN_fine {n : Nat} {l : List UInt8} {r} (h0 : 0 < l.length) (h : stdN n l = some r) : StdFine l r := by
  rw [stdN] at h
  by_cases c1 : n = 74
  · rw [if_pos c1] at h; exact fineJ h
  rw [if_neg c1] at h
  by_cases c2 : n = 77
  · rw [if_pos c2] at h; exact fineM h
  rw [if_neg c2] at h
  by_cases c3 : n = 48
  · rw [if_pos c3] at h; exact fine0 h
  rw [if_neg c3] at h
  by_cases c4 : n = 49
  · rw [if_pos c4] at h; exact fine1 h0 h
  rw [if_neg c4] at h
  by_cases c5 : n = 50
  · rw [if_pos c5] at h; exact fine2 h0 h
  rw [if_neg c5] at h
  by_cases c6 : n = 95
  · rw [if_pos c6] at h; exact fineU h
  rw [if_neg c6] at h
  by_cases c7 : n = 51
  · rw [if_pos c7] at h; cases h; exact ⟨by decide, by decide, by decide, h0⟩
  rw [if_neg c7] at h
  by_cases c8 : n = 52
  · rw [if_pos c8] at h; cases h; exact ⟨by decide, by decide, by decide, h0⟩
  rw [if_neg c8] at h
  by_cases c9 : n = 53
  · rw [if_pos c9] at h; cases h; exact ⟨by decide, by decide, by decide, h0⟩
  rw [if_neg c9] at h
  by_cases c10 : n = 80
  · rw [if_pos c10] at h
    cases q : at_ l 1 77
    · rw [q] at h; cases h
    · rw [q] at h; cases h; exact ⟨by decide, by decide, by decide, fine_at q⟩
  rw [if_neg c10] at h
  by_cases c11 : n = 112
  · rw [if_pos c11] at h
    cases q : at_ l 1 109
    · rw [q] at h; cases h
    · rw [q] at h; cases h; exact ⟨by decide, by decide, by decide, fine_at q⟩
  rw [if_neg c11] at h
  by_cases c12 : n = 45
  · rw [if_pos c12] at h; exact fineZone (by decide) h
  rw [if_neg c12] at h
  by_cases c13 : n = 90
  · rw [if_pos c13] at h; exact fineZone (by decide) h
  rw [if_neg c13] at h
  by_cases c14 : n = 46
  · rw [if_pos c14] at h; exact fineFrac h
  rw [if_neg c14] at h
  by_cases c15 : n = 44
  · rw [if_pos c15] at h; exact fineFrac h
  rw [if_neg c15] at h
  cases h
theorem stdL_fine {l : List UInt8} {r} (h : stdL l = some r) : StdFine l r := by
  cases l with
  | nil => cases h
  | cons c l => exact stdN_fine (by simp) h
end Go.Proofs.YtmojdmgpfpbpeaaDoor.Tm
