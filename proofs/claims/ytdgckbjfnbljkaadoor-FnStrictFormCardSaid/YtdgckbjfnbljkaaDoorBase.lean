/- Base: what is needed here. -/
import Derived.WalkKit
import Derived.WalkSpells
import Derived.WalkLawsBesides
import Derived.Deep.LoopGhost
import Derived.BigQuiet
import Derived.Deep.QuietTactic
import Derived.KernelRfl
import Derived.Lib.Hide
import Derived.Deep.DeepCutAuto
import Derived.WalkSmall
import Derived.IntWalk
import Derived.Test.YtdgckbjfnbljkaaDoorProg
namespace Go.Proofs.YtdgckbjfnbljkaaDoor.Tm
set_option linter.unusedSimpArgs false
set_option linter.unusedVariables false
open Go.RowKit Go
/-- A fact that the walk is not to see. -/
@[irreducible] def Hd (p : Prop) : Prop := p
theorem hideP {p : Prop} (h : p) : Hd p := by unfold Hd; exact h
theorem Hd.out {p : Prop} (h : Hd p) : p := by unfold Hd at h; exact h
/-- Is a byte a decimal digit? -/
def isDig (c : UInt8) : Bool := decide (48 ≤ c.toNat) && decide (c.toNat ≤ 57)
/-- The number that digits tell, read on from x. -/
def dvalFrom (l : List UInt8) (x : Nat) : Nat := match l with
  | [] => x
  | c :: r => dvalFrom r (x * 10 + (c.toNat - 48))
theorem dvalFrom_nil (x : Nat) : dvalFrom [] x = x := by rw [dvalFrom]
theorem dvalFrom_cons (c : UInt8) (r : List UInt8) (x : Nat) : dvalFrom (c :: r) x = dvalFrom r (x * 10 + (c.toNat - 48)) := by rw [dvalFrom]
def dval (l : List UInt8) : Nat := dvalFrom l 0
def digs (l : List UInt8) : List UInt8 := l.takeWhile isDig
def bl (s : ByteArray) : List UInt8 := s.data.toList
theorem bl_length (s : ByteArray) : (bl s).length = s.size := by simp [bl]
theorem bl_get (s : ByteArray) (i : Nat) (h : i < s.size) : (bl s)[i]'(by rw [bl_length]; exact h) = s[i] := rfl
theorem bl_take (s : ByteArray) (i : Nat) (h : i < s.size) : (bl s).take (i + 1) = (bl s).take i ++ [s[i]] := by
  rw [List.take_succ_eq_append_getElem (by rw [bl_length]; exact h)]; rfl
theorem bl_drop (s : ByteArray) (i : Nat) (h : i < s.size) : (bl s).drop i = s[i] :: (bl s).drop (i + 1) := by
  rw [List.drop_eq_getElem_cons (by rw [bl_length]; exact h)]; rfl
theorem dvalFrom_append (l m : List UInt8) : ∀ x, dvalFrom (l ++ m) x = dvalFrom m (dvalFrom l x) := by
  induction l with
  | nil => intro x; rw [dvalFrom_nil]; rfl
  | cons c r ih => intro x; rw [List.cons_append, dvalFrom_cons, dvalFrom_cons, ih]
theorem isDig_iff (c : UInt8) : isDig c = true ↔ 48 ≤ c.toNat ∧ c.toNat ≤ 57 := by simp [isDig]
theorem dvalFrom_ge (l : List UInt8) : ∀ x, x ≤ dvalFrom l x := by
  induction l with
  | nil => intro x; rw [dvalFrom_nil]; exact Nat.le_refl _
  | cons c r ih => intro x; rw [dvalFrom_cons]; exact Nat.le_trans (by omega) (ih _)
theorem ba_ext {a b : ByteArray} (h : bl a = bl b) : a = b := by
  cases a; cases b; simp [bl] at h; subst h; rfl
theorem bl_extract (s : ByteArray) (a b : Nat) : bl (s.extract a b) = ((bl s).take b).drop a := by
  simp [bl, ByteArray.data_extract, Array.toList_extract, List.extract_eq_take_drop, List.drop_take]
theorem bl_extract_end (s : ByteArray) (a : Nat) : bl (s.extract a s.size) = (bl s).drop a := by
  rw [bl_extract, List.take_of_length_le (by rw [bl_length]; exact Nat.le_refl _)]
theorem takeWhile_all_append (p : UInt8 → Bool) (l m : List UInt8) (h : ∀ c ∈ l, p c = true) (hm : ∀ c, m[0]? = some c → p c = false) : (l ++ m).takeWhile p = l := by
  rw [List.takeWhile_append_of_pos h]
  cases m with
  | nil => simp
  | cons c m => simp [hm c rfl]
theorem dvalFrom_lt (l : List UInt8) (h : ∀ c ∈ l, isDig c = true) : ∀ x, dvalFrom l x < (x + 1) * 10 ^ l.length := by
  induction l with
  | nil => intro x; rw [dvalFrom_nil]; simp
  | cons c r ih =>
    intro x
    rw [dvalFrom_cons]
    have hc := (isDig_iff c).1 (h c (by simp))
    have := ih (fun d hd => h d (by simp [hd])) (x * 10 + (c.toNat - 48))
    refine Nat.lt_of_lt_of_le this ?_
    rw [List.length_cons, Nat.pow_succ, Nat.mul_comm (10 ^ r.length) 10, ← Nat.mul_assoc]
    exact Nat.mul_le_mul_right _ (by omega)
theorem empty_of (r : ByteArray) (h : r.size = 0) : r = ⟨#[]⟩ := by
  apply ba_ext; rw [show bl ⟨#[]⟩ = [] from rfl]; apply List.eq_nil_of_length_eq_zero; rw [bl_length]; exact h
end Go.Proofs.YtdgckbjfnbljkaaDoor.Tm
