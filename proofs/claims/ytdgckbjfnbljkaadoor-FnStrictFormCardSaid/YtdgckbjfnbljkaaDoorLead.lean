/- Lead: what is needed here. -/
import Derived.Test.YtdgckbjfnbljkaaDoorProg
import Derived.Test.YtdgckbjfnbljkaaDoorBase
namespace Go.Proofs.YtdgckbjfnbljkaaDoor.Tm
set_option linter.unusedSimpArgs false
set_option linter.unusedVariables false
open Go.RowKit Go
/-- Where the digits that a text begins with end: what the loop knows when it has read i of them. -/
def LeadAt (s : ByteArray) (i : Nat) (x : Int) : Prop := i ≤ s.size ∧ (∀ c ∈ (bl s).take i, isDig c = true) ∧ x = (dval ((bl s).take i) : Nat) ∧ x ≤ 9223372036854775808
theorem lead_start (s : ByteArray) : LeadAt s 0 0 := ⟨Nat.zero_le _, by simp, by simp [dval, dvalFrom_nil], by decide⟩
theorem takeWhile_at (p : UInt8 → Bool) (l : List UInt8) (i : Nat) (h : ∀ c ∈ l.take i, p c = true) (hn : ∀ c, l[i]? = some c → p c = false) : l.takeWhile p = l.take i := by
  induction l generalizing i with
  | nil => simp
  | cons c r ih =>
    cases i with
    | zero => have := hn c rfl; simp [this]
    | succ i =>
      have hc := h c (by simp)
      simp only [List.takeWhile_cons, hc, if_true, List.take_succ_cons, List.cons.injEq, true_and]
      exact ih i (fun d hd => h d (by simp [hd])) (fun d hd => hn d (by simpa using hd))
/-- What leadingInt answers. -/
def LeadOk (s : ByteArray) (w : World) (e : Ending) (w' : World) : Prop := e = .returned (.tuple #[.int .u64 (dval (digs (bl s)) : Nat), .string (s.extract (digs (bl s)).length s.size), .nilIface]) ∧ dval (digs (bl s)) ≤ 9223372036854775808 ∧ Below w.heap.size w w'
def LeadNo (s : ByteArray) (V : Value) (w : World) (e : Ending) (w' : World) : Prop := e = .returned (.tuple #[.int .u64 0, .string ⟨#[]⟩, V]) ∧ 9223372036854775808 < dval (digs (bl s)) ∧ Below w.heap.size w w'
def LeadRes (s : ByteArray) (V : Value) (w : World) (e : Ending) (w' : World) : Prop := LeadOk s w e w' ∨ LeadNo s V w e w'
theorem lead_step (s : ByteArray) (k : Nat) (y : Int) (hl : LeadAt s k y) (hlt : k < s.size) (h1 : (48 : Int) ≤ ↑s[k].toNat ∧ (↑s[k].toNat : Int) ≤ 57) (h3 : y * 10 + ↑s[k].toNat - 48 ≤ 9223372036854775808) : LeadAt s (k + 1) (y * 10 + ↑s[k].toNat - 48) := by
  obtain ⟨_, hd, hy, _⟩ := hl
  refine ⟨hlt, ?_, ?_, h3⟩
  · rw [bl_take s k hlt]
    intro c hc
    rcases List.mem_append.1 hc with hc | hc
    · exact hd c hc
    · obtain rfl := List.mem_singleton.1 hc
      exact (isDig_iff _).2 ⟨by omega, by omega⟩
  · rw [bl_take s k hlt, dval, dvalFrom_append, dvalFrom_cons, dvalFrom_nil]
    rw [dval] at hy
    omega
theorem digs_split (s : ByteArray) (k : Nat) (hlt : k < s.size) (hd : ∀ c ∈ (bl s).take k, isDig c = true) (h1 : isDig s[k] = true) : ∃ r, digs (bl s) = (bl s).take (k + 1) ++ r := by
  have e : bl s = (bl s).take (k + 1) ++ (bl s).drop (k + 1) := (List.take_append_drop _ _).symm
  refine ⟨((bl s).drop (k + 1)).takeWhile isDig, ?_⟩
  have hall : ∀ c ∈ (bl s).take (k + 1), isDig c = true := by
    rw [bl_take s k hlt]
    intro c hc
    rcases List.mem_append.1 hc with hc | hc
    · exact hd c hc
    · obtain rfl := List.mem_singleton.1 hc; exact h1
  conv => lhs; rw [digs, e]
  rw [List.takeWhile_append_of_pos hall]
theorem lead_over (s : ByteArray) (k : Nat) (y : Int) (hl : LeadAt s k y) (hlt : k < s.size) (h1 : (48 : Int) ≤ ↑s[k].toNat ∧ (↑s[k].toNat : Int) ≤ 57) (h : 922337203685477580 < y ∨ 9223372036854775808 < y * 10 + ↑s[k].toNat - 48) : 9223372036854775808 < dval (digs (bl s)) := by
  obtain ⟨_, hd, hy, _⟩ := hl
  obtain ⟨r, hr⟩ := digs_split s k hlt hd ((isDig_iff _).2 ⟨by omega, by omega⟩)
  rw [hr, bl_take s k hlt, dval, dvalFrom_append, dvalFrom_append, dvalFrom_cons, dvalFrom_nil]
  rw [dval] at hy
  have := dvalFrom_ge r (dvalFrom ((bl s).take k) 0 * 10 + (s[k].toNat - 48))
  omega
theorem lead_end (s : ByteArray) (k : Nat) (y : Int) (hl : LeadAt s k y) (h : (hlt : k < s.size) → ((↑s[k].toNat : Int) < 48 ∨ ((↑s[k].toNat : Int) < 48 ∨ 57 < (↑s[k].toNat : Int)))) : digs (bl s) = (bl s).take k := by
  obtain ⟨_, hd, _, _⟩ := hl
  refine takeWhile_at _ _ _ hd ?_
  intro c hc
  obtain ⟨hlt, rfl⟩ := List.getElem?_eq_some_iff.1 hc
  rw [bl_length] at hlt
  have := h hlt
  show isDig s[k] = false
  have : ¬ (48 ≤ s[k].toNat ∧ s[k].toNat ≤ 57) := by omega
  simpa [isDig_iff, isDig] using this
theorem lead_close (s : ByteArray) (k : Nat) (y : Int) (hl : LeadAt s k y) (h : digs (bl s) = (bl s).take k) : Ending.returned (.tuple #[.int .u64 y, .string (s.extract k s.size), .nilIface]) = .returned (.tuple #[.int .u64 (dval (digs (bl s)) : Nat), .string (s.extract (digs (bl s)).length s.size), .nilIface]) := by
  obtain ⟨hk, hd, hy, _⟩ := hl
  have hlen : ((bl s).take k).length = k := by rw [List.length_take, bl_length]; omega
  rw [h, hlen, hy]
theorem lead_small (s : ByteArray) (k : Nat) (y : Int) (hl : LeadAt s k y) (h : digs (bl s) = (bl s).take k) : dval (digs (bl s)) ≤ 9223372036854775808 := by
  rw [h]; have := hl.2.2.1; have := hl.2.2.2; omega
set_option maxHeartbeats 400000 in
theorem lead_any (s : ByteArray) (V : Value) (w : World) (hs : s.size ≤ 140737488351232) (hV : w.cell? ⟨2, 0, none⟩ = some V) :
    Calls Tryd.prog 44 #[.string s] w (LeadRes s V w) := by
  go_enter Tryd.func44, Tryd.ntmps44
  go_wp2
  go_loop [2, 3, 5] (fun x r i => ∃ (k : Nat) (y : Int), i = .int .i64 k ∧ x = .int .u64 y ∧ r = .string ⟨#[]⟩ ∧ LeadAt s k y) (fun _ _ i => s.size - (intOf i).toNat)
  case atStart => exact ⟨0, 0, rfl, rfl, rfl, lead_start s⟩
  case round =>
    obtain ⟨k, y, rfl, rfl, rfl, hl⟩ := hrel
    have hk := hl.1
    have hy := hl.2.2.2
    have hy0 : 0 ≤ y := by have := hl.2.2.1; omega
    go_wp2
    all_goals first
      | (have hlt : k < s.size := by assumption
         have h1 : (48 : Int) ≤ ↑s[k].toNat ∧ (↑s[k].toNat : Int) ≤ 57 := by assumption
         have h2 : y ≤ 922337203685477580 := by assumption
         have h3 : y * 10 + ↑s[k].toNat - 48 ≤ 9223372036854775808 := by assumption
         go_round
         case rel => exact ⟨k + 1, _, by go_num, rfl, rfl, lead_step s k y hl hlt h1 h3⟩
         case measure => simp [intOf]; omega)
      | (have hlt : k < s.size := by assumption
         have h1 : (48 : Int) ≤ ↑s[k].toNat ∧ (↑s[k].toNat : Int) ≤ 57 := by assumption
         have hno : 9223372036854775808 < dval (digs (bl s)) := by
           first
             | exact lead_over s k y hl hlt h1 (.inl (by assumption))
             | exact lead_over s k y hl hlt h1 (.inr (by assumption))
         have HN := hideP hno; clear hno
         go_quiet (fail)
         go_wp2
         go_ret3
         exact .inr ⟨rfl, HN.out, below_drewN (Below.refl _ _) _⟩)
      | (have hend : digs (bl s) = (bl s).take k := by
           first
             | exact lead_end s k y hl (fun hlt => .inl (by assumption))
             | exact lead_end s k y hl (fun hlt => .inr (by assumption))
             | exact lead_end s k y hl (fun hlt => absurd hlt (by assumption))
         have HE := hideP hend; clear hend
         have hki : (k : Int) ≤ s.size := by omega
         go_quiet (fail)
         go_wp2
         go_ret3
         exact .inl ⟨lead_close s k y hl HE.out, lead_small s k y hl HE.out, below_drewN (Below.refl _ _) _⟩)
end Go.Proofs.YtdgckbjfnbljkaaDoor.Tm
