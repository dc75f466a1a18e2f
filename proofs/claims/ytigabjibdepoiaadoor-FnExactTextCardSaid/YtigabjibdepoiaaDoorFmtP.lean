/- What Format writes, as a plain function of the layout's bytes: the elements' texts and the text between. -/
import Derived.Test.YtigabjibdepoiaaDoorChunkWalk
import Derived.Test.YtigabjibdepoiaaDoorDec
import Derived.Test.YtigabjibdepoiaaDoorCalF
namespace Go.Proofs.YtigabjibdepoiaaDoor.Tm
set_option linter.unusedSimpArgs false
set_option linter.unusedVariables false
open Go.RowKit Go
/-- A time as it is told: date, clock, nanoseconds, the zone's name and offset. -/
structure Tm where
  y : Nat
  mo : Nat
  d : Nat
  h : Nat
  mi : Nat
  s : Nat
  ns : Nat
  zn : ByteArray
  off : Int
structure TmOk (t : Tm) : Prop where
  day : DayOk t.y t.mo t.d
  clock : ClockOk t.h t.mi t.s
  ns : t.ns ≤ 999999999
  zn0 : 0 < t.zn.size
  zn1 : t.zn.size ≤ 100
  off0 : -86399 ≤ t.off
  off1 : t.off ≤ 86399
  off2 : t.off = 0 ∨ t.off ≤ -60 ∨ 60 ≤ t.off
  utc : (bl t.zn = [85, 84, 67]) → t.off = 0
/-- Names of months and days. -/
def monN : Nat → List UInt8
  | 1 => [74, 97, 110, 117, 97, 114, 121]
  | 2 => [70, 101, 98, 114, 117, 97, 114, 121]
  | 3 => [77, 97, 114, 99, 104]
  | 4 => [65, 112, 114, 105, 108]
  | 5 => [77, 97, 121]
  | 6 => [74, 117, 110, 101]
  | 7 => [74, 117, 108, 121]
  | 8 => [65, 117, 103, 117, 115, 116]
  | 9 => [83, 101, 112, 116, 101, 109, 98, 101, 114]
  | 10 => [79, 99, 116, 111, 98, 101, 114]
  | 11 => [78, 111, 118, 101, 109, 98, 101, 114]
  | 12 => [68, 101, 99, 101, 109, 98, 101, 114]
  | _ => []
def dayN : Nat → List UInt8
  | 0 => [83, 117, 110, 100, 97, 121]
  | 1 => [77, 111, 110, 100, 97, 121]
  | 2 => [84, 117, 101, 115, 100, 97, 121]
  | 3 => [87, 101, 100, 110, 101, 115, 100, 97, 121]
  | 4 => [84, 104, 117, 114, 115, 100, 97, 121]
  | 5 => [70, 114, 105, 100, 97, 121]
  | 6 => [83, 97, 116, 117, 114, 100, 97, 121]
  | _ => []
def h12 (h : Nat) : Nat := if h % 12 = 0 then 12 else h % 12
/-- Trailing zeros taken away. -/
def trimZ (l : List UInt8) : List UInt8 := (l.reverse.dropWhile fun c => c == 48).reverse
/-- A fraction of a second, by the number of an element: digits, mark, and whether zeros at the end go. -/
def nanoL (ns n : Nat) (comma trim : Bool) : List UInt8 :=
  if trim = true ∧ (n = 0 ∨ ns = 0) then []
  else if trim = true then (if trimZ ((padL 48 ns 9).take n) = [] then [] else (if comma then 44 else 46) :: trimZ ((padL 48 ns 9).take n))
  else (if comma then 44 else 46) :: (padL 48 ns 9).take n
def sgnL (off : Int) : UInt8 := if off < 0 then 45 else 43
/-- An offset: minutes, seconds, colons. -/
def offL (off : Int) (mins secs colon : Bool) : List UInt8 :=
  [sgnL off] ++ padL 48 (off.natAbs / 3600) 2 ++ (if mins = true then (if colon = true then [58] else []) ++ padL 48 (off.natAbs / 60 % 60) 2 else [])
    ++ (if secs = true then (if colon = true then [58] else []) ++ padL 48 (off.natAbs % 60) 2 else [])
def isoL (off : Int) (mins secs colon : Bool) : List UInt8 := if off = 0 then [90] else offL off mins secs colon
/-- The text of an element by its number. -/
def elemL (t : Tm) (n : Nat) : List UInt8 :=
  if n = 257 then monN t.mo else if n = 258 then (monN t.mo).take 3 else if n = 259 then padL 48 t.mo 0 else if n = 260 then padL 48 t.mo 2
  else if n = 261 then dayN (wdN t.y t.mo t.d) else if n = 262 then (dayN (wdN t.y t.mo t.d)).take 3
  else if n = 263 then padL 48 t.d 0 else if n = 264 then (if t.d < 10 then [32] else []) ++ padL 48 t.d 0 else if n = 265 then padL 48 t.d 2
  else if n = 522 then (if ydN t.y t.mo t.d < 100 then 32 :: (if ydN t.y t.mo t.d < 10 then [32] else []) else []) ++ padL 48 (ydN t.y t.mo t.d) 0
  else if n = 523 then padL 48 (ydN t.y t.mo t.d) 3
  else if n = 1036 then padL 48 t.h 2 else if n = 1037 then padL 48 (h12 t.h) 0 else if n = 1038 then padL 48 (h12 t.h) 2
  else if n = 1039 then padL 48 t.mi 0 else if n = 1040 then padL 48 t.mi 2 else if n = 1041 then padL 48 t.s 0 else if n = 1042 then padL 48 t.s 2
  else if n = 275 then padL 48 t.y 4 else if n = 276 then padL 48 (t.y % 100) 2
  else if n = 1045 then (if 12 ≤ t.h then [80, 77] else [65, 77]) else if n = 1046 then (if 12 ≤ t.h then [112, 109] else [97, 109])
  else if n = 23 then bl t.zn
  else if n = 24 then isoL t.off true false false else if n = 25 then isoL t.off true true false else if n = 26 then isoL t.off false false false
  else if n = 27 then isoL t.off true false true else if n = 28 then isoL t.off true true true
  else if n = 29 then offL t.off true false false else if n = 30 then offL t.off true true false else if n = 31 then offL t.off false false false
  else if n = 32 then offL t.off true false true else if n = 33 then offL t.off true true true
  else if n % 65536 = 34 then nanoL t.ns (n / 65536 % 4096) (decide (268435456 ≤ n)) false
  else if n % 65536 = 35 then nanoL t.ns (n / 65536 % 4096) (decide (268435456 ≤ n)) true else []
/-- What Format writes. -/
def fmtF (t : Tm) : Nat → List UInt8 → List UInt8
  | 0, _ => []
  | _ + 1, [] => []
  | f + 1, c :: r => match stdL (c :: r) with
    | none => c :: fmtF t f r
    | some (std, n, m) => (c :: r).take n ++ (elemL t std ++ fmtF t f ((c :: r).drop m))
def fmtL (t : Tm) (l : List UInt8) : List UInt8 := fmtF t l.length l
theorem fmtF_more (t : Tm) : ∀ (f g : Nat) (l : List UInt8), l.length ≤ f → l.length ≤ g → fmtF t f l = fmtF t g l := by
  intro f
  induction f with
  | zero =>
    intro g l h1 h2
    obtain rfl : l = [] := List.eq_nil_of_length_eq_zero (by omega)
    cases g <;> rfl
  | succ f ih =>
    intro g l h1 h2
    cases l with
    | nil => cases g <;> rfl
    | cons c r =>
      cases g with
      | zero => simp at h2
      | succ g =>
        simp only [List.length_cons, Nat.add_le_add_iff_right] at h1 h2
        show (match stdL (c :: r) with | none => c :: fmtF t f r | some (std, n, m) => (c :: r).take n ++ (elemL t std ++ fmtF t f ((c :: r).drop m))) = (match stdL (c :: r) with | none => c :: fmtF t g r | some (std, n, m) => (c :: r).take n ++ (elemL t std ++ fmtF t g ((c :: r).drop m)))
        cases e : stdL (c :: r) with
        | none => simp only; rw [ih g r h1 h2]
        | some x =>
          obtain ⟨std, n, m⟩ := x
          have hf := stdL_fine e
          have h3 := hf.2.2.1
          simp only at h3 ⊢
          have hl : ((c :: r).drop m).length ≤ r.length := by rw [List.length_drop, List.length_cons]; omega
          rw [ih g _ (by omega) (by omega)]
theorem fmtL_nil (t : Tm) : fmtL t [] = [] := rfl
theorem fmtL_none (t : Tm) (c : UInt8) (r : List UInt8) (h : stdL (c :: r) = none) : fmtL t (c :: r) = c :: fmtL t r := by
  show (match stdL (c :: r) with | none => c :: fmtF t r.length r | some (std, n, m) => (c :: r).take n ++ (elemL t std ++ fmtF t r.length ((c :: r).drop m))) = _
  rw [h]; rfl
theorem fmtL_some (t : Tm) (l : List UInt8) (std n m : Nat) (h : stdL l = some (std, n, m)) : fmtL t l = l.take n ++ (elemL t std ++ fmtL t (l.drop m)) := by
  cases l with
  | nil => cases h
  | cons c r =>
    show (match stdL (c :: r) with | none => c :: fmtF t r.length r | some (std, n, m) => (c :: r).take n ++ (elemL t std ++ fmtF t r.length ((c :: r).drop m))) = _
    rw [h]
    have hf := (stdL_fine h).2.2.1
    simp only at hf ⊢
    rw [fmtL, fmtF_more t r.length ((c :: r).drop m).length _ (by rw [List.length_drop, List.length_cons]; omega) (Nat.le_refl _)]
/-- Text ahead of the first element. -/
theorem fmtL_skip (t : Tm) (l : List UInt8) : ∀ k, k ≤ l.length → (∀ j, j < k → stdL (l.drop j) = none) → fmtL t l = l.take k ++ fmtL t (l.drop k) := by
  intro k
  induction k with
  | zero => intro _ _; simp
  | succ k ih =>
    intro hk hj
    have h1 := ih (by omega) (fun j h => hj j (by omega))
    have hd : l.drop k = l[k] :: l.drop (k + 1) := List.drop_eq_getElem_cons (by omega)
    have h2 := hj k (by omega)
    rw [hd] at h2
    rw [h1, hd, fmtL_none t _ _ h2, List.take_succ_eq_append_getElem (by omega), List.append_assoc]; rfl
theorem fmtL_plain (t : Tm) (l : List UInt8) (h : ∀ j, j < l.length → stdL (l.drop j) = none) : fmtL t l = l := by
  rw [fmtL_skip t l l.length (Nat.le_refl _) h]; simp [fmtL_nil]
/-- By the answer of nextStdChunk. -/
theorem fmtL_chunk (t : Tm) (s : ByteArray) (k std n m : Nat) (hk : k < s.size) (hno : ∀ j, j < k → stdL (rest s j) = none) (hstd : stdL (rest s k) = some (std, n, m)) :
    fmtL t (bl s) = bl (s.extract 0 (k + n)) ++ (elemL t std ++ fmtL t (bl (s.extract (k + m) s.size))) := by
  rw [fmtL_skip t (bl s) k (by rw [bl_length]; omega) hno]
  show (bl s).take k ++ fmtL t (rest s k) = _
  rw [fmtL_some t _ std n m hstd, bl_extract_end, bl_extract, List.drop_zero, rest, List.drop_drop, List.take_add, List.append_assoc]
theorem fmtL_no_chunk (t : Tm) (s : ByteArray) (hno : ∀ j, j < s.size → stdL (rest s j) = none) : fmtL t (bl s) = bl s :=
  fmtL_plain t (bl s) (fun j h => hno j (by rw [bl_length] at h; exact h))
/-! How long it can get. -/
theorem padL_le {c : UInt8} {n k : Nat} (h : n < 10 ^ k) (hk : 0 < k) (w : Int) : (padL c n w).length ≤ max w.toNat k := by
  have := decL_len_le h hk
  rw [padL, List.length_append, List.length_replicate]; omega
theorem monN_le (m : Nat) : (monN m).length ≤ 9 := by unfold monN; split <;> decide
theorem dayN_le (m : Nat) : (dayN m).length ≤ 9 := by unfold dayN; split <;> decide
theorem trimZ_le (l : List UInt8) : (trimZ l).length ≤ l.length := by
  unfold trimZ
  rw [List.length_reverse]
  have := (List.dropWhile_suffix (l := l.reverse) (fun c => c == 48)).length_le
  rwa [List.length_reverse] at this
theorem nano_le (ns n : Nat) (c tr : Bool) (h : ns ≤ 999999999) : (nanoL ns n c tr).length ≤ 10 := by
  have hp := padL_le (c := 48) (n := ns) (k := 9) (by omega) (by decide) 9
  have ht : ((padL 48 ns 9).take n).length ≤ 9 := by rw [List.length_take]; omega
  have hz := trimZ_le ((padL 48 ns 9).take n)
  unfold nanoL
  repeat' split
  all_goals simp only [List.length_cons, List.length_nil] <;> omega
theorem off_le (off : Int) (a b c : Bool) (h0 : -86399 ≤ off) (h1 : off ≤ 86399) : (offL off a b c).length ≤ 9 := by
  have p1 := padL_le (c := 48) (n := off.natAbs / 3600) (k := 2) (by omega) (by decide) 2
  have p2 := padL_le (c := 48) (n := off.natAbs / 60 % 60) (k := 2) (by omega) (by decide) 2
  have p3 := padL_le (c := 48) (n := off.natAbs % 60) (k := 2) (by omega) (by decide) 2
  unfold offL
  cases a <;> cases b <;> cases c <;> simp <;> omega
theorem iso_le (off : Int) (a b c : Bool) (h0 : -86399 ≤ off) (h1 : off ≤ 86399) : (isoL off a b c).length ≤ 9 := by
  unfold isoL
  split
  · decide
  · exact off_le off a b c h0 h1
theorem ite_le {c : Prop} [Decidable c] {a b : List UInt8} (ha : a.length ≤ 100) (hb : b.length ≤ 100) : (if c then a else b).length ≤ 100 := by split <;> assumption
theorem elemL_le (t : Tm) (h : TmOk t) (n : Nat) : (elemL t n).length ≤ 100 := by
  obtain ⟨y1, y2⟩ := ydN_le h.day
  have hy := h.day.1
  have hd : t.d < 10 ^ 2 := by
    have := h.day.2.2.2.2.1
    unfold mLen at this; repeat' split at this
    all_goals omega
  have hm : t.mo < 10 ^ 2 := by have := h.day.2.2.1; omega
  obtain ⟨k1, k2, k3⟩ := h.clock
  have q0 : h12 t.h < 10 ^ 2 := by unfold h12; split <;> omega
  have m9 := monN_le t.mo
  have d9 := dayN_le (wdN t.y t.mo t.d)
  have hz : (bl t.zn).length ≤ 100 := by rw [bl_length]; exact h.zn1
  have e1 := padL_le (c := 48) (n := t.d) (k := 2) hd (by decide) 0
  have e2 := padL_le (c := 48) (n := ydN t.y t.mo t.d) (k := 3) (by omega) (by decide) 0
  unfold elemL
  repeat' with_reducible apply ite_le
  all_goals first
    | (simp; done)
    | omega
    | (rw [List.length_take]; omega)
    | exact Nat.le_trans (padL_le (k := 2) (by first | assumption | omega) (by decide) _) (by decide)
    | exact Nat.le_trans (padL_le (k := 3) (by first | assumption | omega) (by decide) _) (by decide)
    | exact Nat.le_trans (padL_le (k := 4) (by first | assumption | omega) (by decide) _) (by decide)
    | exact Nat.le_trans (nano_le _ _ _ _ h.ns) (by decide)
    | exact Nat.le_trans (iso_le _ _ _ _ h.off0 h.off1) (by decide)
    | exact Nat.le_trans (off_le _ _ _ _ h.off0 h.off1) (by decide)
    | (rw [List.length_append]; split <;> simp <;> omega)
    | (rw [List.length_append]; repeat' split
       all_goals (simp only [List.length_cons, List.length_nil]; omega))
theorem fmtF_le (t : Tm) (h : TmOk t) : ∀ (f : Nat) (l : List UInt8), (fmtF t f l).length ≤ 101 * l.length := by
  intro f
  induction f with
  | zero => intro l; exact Nat.zero_le _
  | succ f ih =>
    intro l
    cases l with
    | nil => exact Nat.zero_le _
    | cons c r =>
      show (match stdL (c :: r) with | none => c :: fmtF t f r | some (std, n, m) => (c :: r).take n ++ (elemL t std ++ fmtF t f ((c :: r).drop m))).length ≤ _
      cases e : stdL (c :: r) with
      | none => have := ih r; simp only [List.length_cons]; omega
      | some x =>
        obtain ⟨std, n, m⟩ := x
        obtain ⟨_, _, h3, h4⟩ := stdL_fine e
        have h5 := ih ((c :: r).drop m)
        have h6 := elemL_le t h std
        simp only [List.length_cons, List.length_append, List.length_take, List.length_drop] at h3 h4 h5 ⊢
        omega
theorem fmtL_le (t : Tm) (h : TmOk t) (l : List UInt8) : (fmtL t l).length ≤ 101 * l.length := fmtF_le t h _ l
end Go.Proofs.YtigabjibdepoiaaDoor.Tm
