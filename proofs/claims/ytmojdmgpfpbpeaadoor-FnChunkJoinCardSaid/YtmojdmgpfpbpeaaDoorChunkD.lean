/- The run of digits of a fraction in a layout. -/
import Derived.Test.YtmojdmgpfpbpeaaDoorChunkB
namespace Go.Proofs.YtmojdmgpfpbpeaaDoor.Tm
open Go.RowKit Go
theorem takeWhile_upto (p : UInt8 → Bool) (l : List UInt8) (i : Nat) (h : ∀ c ∈ l.take i, p c = true) (hn : ∀ c, l[i]? = some c → p c = false) : l.takeWhile p = l.take i := by
  induction l generalizing i with
  | nil => simp
  | cons c r ih =>
    cases i with
    | zero => have := hn c rfl; simp [this]
    | succ i =>
      have hc := h c (by simp)
      simp only [List.takeWhile_cons, hc, if_true, List.take_succ_cons, List.cons.injEq, true_and]
      exact ih i (fun d hd => h d (by simp [hd])) (fun d hd => hn d (by simpa using hd))
/-- The bytes behind a mark, from its own place k on up to m, are all as the first one. -/
def RunTo (s : ByteArray) (k m : Nat) (d : UInt8) : Prop := k + 1 ≤ m ∧ m ≤ s.size ∧ ∀ c ∈ ((rest s k).drop 1).take (m - (k + 1)), (c == d) = true
theorem run_start (s : ByteArray) (k : Nat) (d : UInt8) (h : k < s.size) : RunTo s k (k + 1) d := ⟨Nat.le_refl _, h, by simp⟩
theorem run_get (s : ByteArray) (k m : Nat) (h1 : k + 1 ≤ m) (h : m < s.size) : ((rest s k).drop 1)[m - (k + 1)]? = some s[m] := by
  rw [List.getElem?_drop, rest_get, show k + (1 + (m - (k + 1))) = m from by omega, List.getElem?_eq_getElem (by rw [bl_length]; exact h)]; rfl
theorem run_step (s : ByteArray) (k m : Nat) (d : UInt8) (h : RunTo s k m d) (hlt : m < s.size) (hc : ((s[m].toNat : Int) == (d.toNat : Int)) = true) : RunTo s k (m + 1) d := by
  obtain ⟨h1, h2, h3⟩ := h
  refine ⟨by omega, hlt, ?_⟩
  obtain ⟨hl, he⟩ := List.getElem?_eq_some_iff.1 (run_get s k m h1 hlt)
  rw [show m + 1 - (k + 1) = m - (k + 1) + 1 from by omega, List.take_succ_eq_append_getElem hl]
  intro c hcm
  rcases List.mem_append.1 hcm with g | g
  · exact h3 c g
  · obtain rfl := List.mem_singleton.1 g
    rw [he, beq_iff_eq]
    rw [beq_iff_eq] at hc
    exact UInt8.toNat_inj.1 (by omega)
theorem run_end (s : ByteArray) (k m : Nat) (d : UInt8) (h : RunTo s k m d) (hs : ∀ hlt : m < s.size, ((s[m].toNat : Int) == (d.toNat : Int)) = false) : runOf d ((rest s k).drop 1) = m - (k + 1) := by
  obtain ⟨h1, h2, h3⟩ := h
  have hl : ((rest s k).drop 1).length = s.size - (k + 1) := by rw [List.length_drop, rest, List.length_drop, bl_length]; omega
  have := takeWhile_upto (fun c => c == d) ((rest s k).drop 1) (m - (k + 1)) h3 (by
    intro c hc
    have hlt : m < s.size := by
      obtain ⟨g, _⟩ := List.getElem?_eq_some_iff.1 hc
      omega
    rw [run_get s k m h1 hlt] at hc
    obtain rfl := Option.some.inj hc
    have := hs hlt
    rw [beq_eq_false_iff_ne] at this ⊢
    exact fun e => this (by rw [e]))
  rw [runOf, this, List.length_take, hl]; omega
theorem frac_std (s : ByteArray) (k m : Nat) (comma : Bool) (h1 : k + 1 < s.size) (hd : s[k + 1].toNat = 48 ∨ s[k + 1].toNat = 57) (hm : k + 1 ≤ m) (hr : runOf s[k + 1] ((rest s k).drop 1) = m - (k + 1)) :
    stdFrac comma (rest s k) = if ((bl s)[m]?.any isDig) then none else some (fracStd (if s[k + 1].toNat = 48 then 34 else 35) (m - (k + 1)) comma, 0, 1 + (m - (k + 1))) := by
  rw [stdFrac, rest_in s k 1 h1]
  show (if s[k + 1].toNat = 48 ∨ s[k + 1].toNat = 57 then _ else _) = _
  rw [if_pos hd, hr, rest_get, show k + (1 + (m - (k + 1))) = m from by omega]
theorem frac_none (s : ByteArray) (k : Nat) (comma : Bool) (h1 : k + 1 < s.size) (hd : ¬ (s[k + 1].toNat = 48 ∨ s[k + 1].toNat = 57)) : stdFrac comma (rest s k) = none := by
  rw [stdFrac, rest_in s k 1 h1]
  show (if s[k + 1].toNat = 48 ∨ s[k + 1].toNat = 57 then _ else _) = _
  rw [if_neg hd]
theorem frac_out (s : ByteArray) (k : Nat) (comma : Bool) (h1 : ¬ k + 1 < s.size) : stdFrac comma (rest s k) = none := by
  rw [stdFrac, rest_out s k 1 h1]
end Go.Proofs.YtmojdmgpfpbpeaaDoor.Tm
