/- The walk of appendFormat: a whole round. -/
import Derived.Test.YtigabjibdepoiaaDoorFmtB
import Derived.Test.YtigabjibdepoiaaDoorFmtC
import Derived.Test.YtigabjibdepoiaaDoorFmtD
import Derived.Test.YtigabjibdepoiaaDoorFmtG
import Derived.Test.YtigabjibdepoiaaDoorFmtH
namespace Go.Proofs.YtigabjibdepoiaaDoor.Tm
set_option linter.unusedSimpArgs false
set_option linter.unusedVariables false
open Go.RowKit Go

/-! The numbers of elements, by what they need. -/
def StdD (std : Nat) : Prop := std = 276 ∨ std = 275 ∨ std = 258 ∨ std = 257 ∨ std = 259 ∨ std = 260 ∨ std = 262 ∨ std = 261 ∨ std = 263 ∨ std = 264 ∨ std = 265
def StdY (std : Nat) : Prop := std = 522 ∨ std = 523
def StdC (std : Nat) : Prop := std = 1036 ∨ std = 1037 ∨ std = 1038 ∨ std = 1039 ∨ std = 1040 ∨ std = 1041 ∨ std = 1042 ∨ std = 1045 ∨ std = 1046
def StdZ (std : Nat) : Prop := std = 24 ∨ std = 25 ∨ std = 26 ∨ std = 27 ∨ std = 28 ∨ std = 29 ∨ std = 30 ∨ std = 31 ∨ std = 32 ∨ std = 33
theorem frac_no (code k : Nat) (comma : Bool) (h : code < 65536) : FrNo (fracStd code k comma) code (k % 4096) comma := ⟨rfl, h, Nat.mod_lt _ (by decide)⟩
def StdIs (std : Nat) : Prop := StdD std ∨ StdY std ∨ StdC std ∨ StdZ std ∨ std = 23 ∨ (∃ k comma, FrNo std 34 k comma) ∨ (∃ k comma, FrNo std 35 k comma)
theorem std_is_of {std : Nat} (h : (std = 276 ∨ std = 275 ∨ std = 258 ∨ std = 257 ∨ std = 259 ∨ std = 260 ∨ std = 262 ∨ std = 261 ∨ std = 263 ∨ std = 264 ∨ std = 265) ∨ (std = 522 ∨ std = 523) ∨ (std = 1036 ∨ std = 1037 ∨ std = 1038 ∨ std = 1039 ∨ std = 1040 ∨ std = 1041 ∨ std = 1042 ∨ std = 1045 ∨ std = 1046) ∨ (std = 24 ∨ std = 25 ∨ std = 26 ∨ std = 27 ∨ std = 28 ∨ std = 29 ∨ std = 30 ∨ std = 31 ∨ std = 32 ∨ std = 33) ∨ std = 23) : StdIs std := by
  rcases h with h | h | h | h | h
  · exact .inl h
  · exact .inr (.inl h)
  · exact .inr (.inr (.inl h))
  · exact .inr (.inr (.inr (.inl h)))
  · exact .inr (.inr (.inr (.inr (.inl h))))
theorem stdZone_is {c : UInt8} {l : List UInt8} {a b d e f : Nat} {r : Nat × Nat × Nat} (h : stdZone c l a b d e f = some r) : r.1 = a ∨ r.1 = b ∨ r.1 = d ∨ r.1 = e ∨ r.1 = f := by
  unfold stdZone at h
  repeat' split at h
  all_goals first | (cases h; simp; done) | cases h
theorem stdFrac_is {comma : Bool} {l : List UInt8} {r : Nat × Nat × Nat} (h : stdFrac comma l = some r) : StdIs r.1 := by
  unfold stdFrac at h
  split at h
  · cases h
  · split at h
    · split at h
      · cases h
      · cases h
        simp only
        split
        · exact .inr (.inr (.inr (.inr (.inr (.inl ⟨_, _, frac_no 34 _ comma (by decide)⟩)))))
        · exact .inr (.inr (.inr (.inr (.inr (.inr ⟨_, _, frac_no 35 _ comma (by decide)⟩)))))
    · cases h
theorem stdJ_is {l : List UInt8} {r : Nat × Nat × Nat} (h : stdJ l = some r) : StdIs r.1 := by
  rw [stdJ] at h
  split at h
  · split at h
    · cases h; exact std_is_of (by omega)
    · split at h
      · cases h
      · cases h; exact std_is_of (by omega)
  · cases h
theorem stdM_is {l : List UInt8} {r : Nat × Nat × Nat} (h : stdM l = some r) : StdIs r.1 := by
  rw [stdM] at h
  split at h
  · split at h
    · cases h; exact std_is_of (by omega)
    · split at h
      · cases h
      · cases h; exact std_is_of (by omega)
  · split at h
    · cases h; exact std_is_of (by omega)
    · cases h
theorem std0_is {l : List UInt8} {r : Nat × Nat × Nat} (h : std0 l = some r) : StdIs r.1 := by
  rw [std0] at h
  split at h
  · cases h
  · split at h
    · cases h
      simp only [std0x]
      repeat' split
      all_goals exact std_is_of (by omega)
    · split at h
      · cases h; exact std_is_of (by omega)
      · cases h
theorem stdU_is {l : List UInt8} {r : Nat × Nat × Nat} (h : stdUnder l = some r) : StdIs r.1 := by
  rw [stdUnder] at h
  split at h
  · split at h
    · cases h; exact std_is_of (by omega)
    · cases h; exact std_is_of (by omega)
  · split at h
    · cases h; exact std_is_of (by omega)
    · cases h
theorem stdN_is {n : Nat} {l : List UInt8} {r : Nat × Nat × Nat} (h : stdN n l = some r) : StdIs r.1 := by
  rw [stdN] at h
  by_cases c0 : n = 74
  · rw [if_pos c0] at h
    exact stdJ_is h
  rw [if_neg c0] at h
  by_cases c1 : n = 77
  · rw [if_pos c1] at h
    exact stdM_is h
  rw [if_neg c1] at h
  by_cases c2 : n = 48
  · rw [if_pos c2] at h
    exact std0_is h
  rw [if_neg c2] at h
  by_cases c3 : n = 49
  · rw [if_pos c3] at h
    rw [std1] at h; split at h <;> (cases h; exact std_is_of (by omega))
  rw [if_neg c3] at h
  by_cases c4 : n = 50
  · rw [if_pos c4] at h
    rw [std2] at h; split at h <;> (cases h; exact std_is_of (by omega))
  rw [if_neg c4] at h
  by_cases c5 : n = 95
  · rw [if_pos c5] at h
    exact stdU_is h
  rw [if_neg c5] at h
  by_cases c6 : n = 51
  · rw [if_pos c6] at h
    cases h; exact std_is_of (by omega)
  rw [if_neg c6] at h
  by_cases c7 : n = 52
  · rw [if_pos c7] at h
    cases h; exact std_is_of (by omega)
  rw [if_neg c7] at h
  by_cases c8 : n = 53
  · rw [if_pos c8] at h
    cases h; exact std_is_of (by omega)
  rw [if_neg c8] at h
  by_cases c9 : n = 80
  · rw [if_pos c9] at h
    split at h
    · cases h; exact std_is_of (by omega)
    · cases h
  rw [if_neg c9] at h
  by_cases c10 : n = 112
  · rw [if_pos c10] at h
    split at h
    · cases h; exact std_is_of (by omega)
    · cases h
  rw [if_neg c10] at h
  by_cases c11 : n = 45
  · rw [if_pos c11] at h
    have := stdZone_is h; exact std_is_of (by omega)
  rw [if_neg c11] at h
  by_cases c12 : n = 90
  · rw [if_pos c12] at h
    have := stdZone_is h; exact std_is_of (by omega)
  rw [if_neg c12] at h
  by_cases c13 : n = 46
  · rw [if_pos c13] at h
    exact stdFrac_is h
  rw [if_neg c13] at h
  by_cases c14 : n = 44
  · rw [if_pos c14] at h
    exact stdFrac_is h
  rw [if_neg c14] at h
  cases h
theorem stdL_is {l : List UInt8} {r : Nat × Nat × Nat} (h : stdL l = some r) : StdIs r.1 := by
  cases l with
  | nil => cases h
  | cons c l => exact stdN_is h
/-! What the masks tell of the numbers. -/
theorem and_bit {x i : Nat} (h : x / 2 ^ i % 2 = 0) : x &&& 2 ^ i = 0 := by
  apply Nat.eq_of_testBit_eq
  intro j
  rw [Nat.testBit_and, Nat.zero_testBit]
  by_cases e : i = j
  · subst e
    rw [Nat.testBit_eq_decide_div_mod_eq, decide_eq_false (by omega), Bool.false_and]
  · rw [Nat.testBit_two_pow_of_ne e, Bool.and_false]
theorem fr_mask {S c k : Nat} {comma : Bool} (h : FrNo S c k comma) (hc : c < 256) (i : Nat) (hi : i = 8 ∨ i = 9 ∨ i = 10) : bits .and .i64 (S : Int) ((2 ^ i : Nat) : Int) = 0 := by
  obtain ⟨rfl, _, hk⟩ := h
  have hb : (c + k * 65536 + (if comma then 268435456 else 0)) < 2 ^ 63 := by split <;> omega
  have hb2 : 2 ^ i < 2 ^ 63 := Nat.pow_lt_pow_right (by decide) (by omega)
  rw [(i64_nat _ _ hb hb2).1, and_bit]
  · rfl
  · rcases hi with rfl | rfl | rfl <;> split <;> omega
theorem elemL_fr (t : Tm) {S c k : Nat} {comma : Bool} (h : FrNo S c k comma) (hc : c = 34 ∨ c = 35) : elemL t S = nanoL t.ns k comma (c == 35) := by
  obtain ⟨hS, _, hk⟩ := h
  have h1 : S % 65536 = c := by rw [hS]; split <;> omega
  have h2 : S / 65536 % 4096 = k := by rw [hS]; split <;> omega
  have h3 : decide (268435456 ≤ S) = comma := by
    cases comma
    · rw [decide_eq_false]; rw [hS]; simp; omega
    · rw [decide_eq_true]; rw [hS]; simp
  unfold elemL
  rw [if_neg (by omega), if_neg (by omega), if_neg (by omega), if_neg (by omega), if_neg (by omega), if_neg (by omega), if_neg (by omega), if_neg (by omega), if_neg (by omega), if_neg (by omega), if_neg (by omega), if_neg (by omega), if_neg (by omega), if_neg (by omega), if_neg (by omega), if_neg (by omega), if_neg (by omega), if_neg (by omega), if_neg (by omega), if_neg (by omega), if_neg (by omega), if_neg (by omega), if_neg (by omega), if_neg (by omega), if_neg (by omega), if_neg (by omega), if_neg (by omega), if_neg (by omega), if_neg (by omega), if_neg (by omega), if_neg (by omega), if_neg (by omega), if_neg (by omega)]
  rw [h2, h3]
  rcases hc with rfl | rfl
  · rw [if_pos h1]; rfl
  · rw [if_neg (by omega), if_pos h1]; rfl
theorem f23_d (t : Tm) (hO : TmOk t) (v : Value) (s : ByteArray) (gp : Nat) (nm : ByteArray) (off : Int) (cyd ch cmi cs : Int) (x18 x20 : Value) (w : World) (w0 : World) (v0 : Value) (base : Nat) (xs : List Value) (l : List UInt8) (n : Nat) (hB : BSt w0 v0 base xs w v l n) (hn : n + 1000 ≤ 140737488351232) (a : Act) (std : Nat) (hm : StdD std) (hF : FmtF v s gp nm off (toldOf t) (dayOf t.y t.mo t.d : Nat) t.y t.mo t.d cyd ch cmi cs x18 (.int .i64 (std : Nat)) x20 (.int .i64 (std : Nat)) a)
    (K : Act → World → Prop) (Q : Exit → Act → World → Prop)
    (hk : ∀ v' a' w', FmtF v' s gp nm off (toldOf t) (dayOf t.y t.mo t.d : Nat) t.y t.mo t.d cyd ch cmi cs x18 (.int .i64 (std : Nat)) x20 (.int .i64 (std : Nat)) a' → BSt w0 v0 base xs w' v' (l ++ elemL t std) (n + 200) → K a' w') :
    Code.wp Tryd.prog fp23 (Exit.then K Q) a w := by
  rcases hm with rfl | rfl | rfl | rfl | rfl | rfl | rfl | rfl | rfl | rfl | rfl
  · exact e276 t hO v s gp nm off cyd ch cmi cs x18 x20 w w0 v0 base xs l n hB hn a hF K Q hk
  · exact e275 t hO v s gp nm off cyd ch cmi cs x18 x20 w w0 v0 base xs l n hB hn a hF K Q hk
  · exact e258 t hO v s gp nm off cyd ch cmi cs x18 x20 w w0 v0 base xs l n hB hn a hF K Q hk
  · exact e257 t hO v s gp nm off cyd ch cmi cs x18 x20 w w0 v0 base xs l n hB hn a hF K Q hk
  · exact e259 t hO v s gp nm off cyd ch cmi cs x18 x20 w w0 v0 base xs l n hB hn a hF K Q hk
  · exact e260 t hO v s gp nm off cyd ch cmi cs x18 x20 w w0 v0 base xs l n hB hn a hF K Q hk
  · exact e262 t hO v s gp nm off cyd ch cmi cs x18 x20 w w0 v0 base xs l n hB hn a hF K Q hk
  · exact e261 t hO v s gp nm off cyd ch cmi cs x18 x20 w w0 v0 base xs l n hB hn a hF K Q hk
  · exact e263 t hO v s gp nm off cyd ch cmi cs x18 x20 w w0 v0 base xs l n hB hn a hF K Q hk
  · exact e264 t hO v s gp nm off cyd ch cmi cs x18 x20 w w0 v0 base xs l n hB hn a hF K Q hk
  · exact e265 t hO v s gp nm off cyd ch cmi cs x18 x20 w w0 v0 base xs l n hB hn a hF K Q hk
theorem f23_y (t : Tm) (hO : TmOk t) (v : Value) (s : ByteArray) (gp : Nat) (nm : ByteArray) (off : Int) (cy cm cd ch cmi cs : Int) (x18 x20 : Value) (w : World) (w0 : World) (v0 : Value) (base : Nat) (xs : List Value) (l : List UInt8) (n : Nat) (hB : BSt w0 v0 base xs w v l n) (hn : n + 1000 ≤ 140737488351232) (a : Act) (std : Nat) (hm : StdY std) (hF : FmtF v s gp nm off (toldOf t) (dayOf t.y t.mo t.d : Nat) cy cm cd ((ydN t.y t.mo t.d : Nat) : Int) ch cmi cs x18 (.int .i64 (std : Nat)) x20 (.int .i64 (std : Nat)) a)
    (K : Act → World → Prop) (Q : Exit → Act → World → Prop)
    (hk : ∀ v' a' w', FmtF v' s gp nm off (toldOf t) (dayOf t.y t.mo t.d : Nat) cy cm cd ((ydN t.y t.mo t.d : Nat) : Int) ch cmi cs x18 (.int .i64 (std : Nat)) x20 (.int .i64 (std : Nat)) a' → BSt w0 v0 base xs w' v' (l ++ elemL t std) (n + 200) → K a' w') :
    Code.wp Tryd.prog fp23 (Exit.then K Q) a w := by
  rcases hm with rfl | rfl
  · exact e522 t hO v s gp nm off cy cm cd ch cmi cs x18 x20 w w0 v0 base xs l n hB hn a hF K Q hk
  · exact e523 t hO v s gp nm off cy cm cd ch cmi cs x18 x20 w w0 v0 base xs l n hB hn a hF K Q hk
theorem f23_c (t : Tm) (hO : TmOk t) (v : Value) (s : ByteArray) (gp : Nat) (nm : ByteArray) (off : Int) (cy cm cd cyd : Int) (x18 x20 : Value) (w : World) (w0 : World) (v0 : Value) (base : Nat) (xs : List Value) (l : List UInt8) (n : Nat) (hB : BSt w0 v0 base xs w v l n) (hn : n + 1000 ≤ 140737488351232) (a : Act) (std : Nat) (hm : StdC std) (hF : FmtF v s gp nm off (toldOf t) (dayOf t.y t.mo t.d : Nat) cy cm cd cyd t.h t.mi t.s x18 (.int .i64 (std : Nat)) x20 (.int .i64 (std : Nat)) a)
    (K : Act → World → Prop) (Q : Exit → Act → World → Prop)
    (hk : ∀ v' a' w', FmtF v' s gp nm off (toldOf t) (dayOf t.y t.mo t.d : Nat) cy cm cd cyd t.h t.mi t.s x18 (.int .i64 (std : Nat)) x20 (.int .i64 (std : Nat)) a' → BSt w0 v0 base xs w' v' (l ++ elemL t std) (n + 200) → K a' w') :
    Code.wp Tryd.prog fp23 (Exit.then K Q) a w := by
  rcases hm with rfl | rfl | rfl | rfl | rfl | rfl | rfl | rfl | rfl
  · exact e1036 t hO v s gp nm off cy cm cd cyd x18 x20 w w0 v0 base xs l n hB hn a hF K Q hk
  · exact e1037 t hO v s gp nm off cy cm cd cyd x18 x20 w w0 v0 base xs l n hB hn a hF K Q hk
  · exact e1038 t hO v s gp nm off cy cm cd cyd x18 x20 w w0 v0 base xs l n hB hn a hF K Q hk
  · exact e1039 t hO v s gp nm off cy cm cd cyd x18 x20 w w0 v0 base xs l n hB hn a hF K Q hk
  · exact e1040 t hO v s gp nm off cy cm cd cyd x18 x20 w w0 v0 base xs l n hB hn a hF K Q hk
  · exact e1041 t hO v s gp nm off cy cm cd cyd x18 x20 w w0 v0 base xs l n hB hn a hF K Q hk
  · exact e1042 t hO v s gp nm off cy cm cd cyd x18 x20 w w0 v0 base xs l n hB hn a hF K Q hk
  · exact e1045 t hO v s gp nm off cy cm cd cyd x18 x20 w w0 v0 base xs l n hB hn a hF K Q hk
  · exact e1046 t hO v s gp nm off cy cm cd cyd x18 x20 w w0 v0 base xs l n hB hn a hF K Q hk
theorem f23_z (t : Tm) (hO : TmOk t) (v : Value) (s : ByteArray) (gp : Nat) (nm : ByteArray) (off ab dy : Int) (cy cm cd cyd ch cmi cs : Int) (x18 x20 : Value) (w : World) (hoff : t.off = off) (w0 : World) (v0 : Value) (base : Nat) (xs : List Value) (l : List UInt8) (n : Nat) (hB : BSt w0 v0 base xs w v l n) (hn : n + 1000 ≤ 140737488351232) (a : Act) (std : Nat) (hm : StdZ std) (hF : FmtF v s gp nm off ab dy cy cm cd cyd ch cmi cs x18 (.int .i64 (std : Nat)) x20 (.int .i64 (std : Nat)) a)
    (K : Act → World → Prop) (Q : Exit → Act → World → Prop)
    (hk : ∀ v' a' w', FmtF v' s gp nm off ab dy cy cm cd cyd ch cmi cs x18 (.int .i64 (std : Nat)) x20 (.int .i64 (std : Nat)) a' → BSt w0 v0 base xs w' v' (l ++ elemL t std) (n + 200) → K a' w') :
    Code.wp Tryd.prog fp23 (Exit.then K Q) a w := by
  rcases hm with rfl | rfl | rfl | rfl | rfl | rfl | rfl | rfl | rfl | rfl
  · exact e24 t hO v s gp nm off ab dy cy cm cd cyd ch cmi cs x18 x20 w hoff w0 v0 base xs l n hB hn a hF K Q hk
  · exact e25 t hO v s gp nm off ab dy cy cm cd cyd ch cmi cs x18 x20 w hoff w0 v0 base xs l n hB hn a hF K Q hk
  · exact e26 t hO v s gp nm off ab dy cy cm cd cyd ch cmi cs x18 x20 w hoff w0 v0 base xs l n hB hn a hF K Q hk
  · exact e27 t hO v s gp nm off ab dy cy cm cd cyd ch cmi cs x18 x20 w hoff w0 v0 base xs l n hB hn a hF K Q hk
  · exact e28 t hO v s gp nm off ab dy cy cm cd cyd ch cmi cs x18 x20 w hoff w0 v0 base xs l n hB hn a hF K Q hk
  · exact e29 t hO v s gp nm off ab dy cy cm cd cyd ch cmi cs x18 x20 w hoff w0 v0 base xs l n hB hn a hF K Q hk
  · exact e30 t hO v s gp nm off ab dy cy cm cd cyd ch cmi cs x18 x20 w hoff w0 v0 base xs l n hB hn a hF K Q hk
  · exact e31 t hO v s gp nm off ab dy cy cm cd cyd ch cmi cs x18 x20 w hoff w0 v0 base xs l n hB hn a hF K Q hk
  · exact e32 t hO v s gp nm off ab dy cy cm cd cyd ch cmi cs x18 x20 w hoff w0 v0 base xs l n hB hn a hF K Q hk
  · exact e33 t hO v s gp nm off ab dy cy cm cd cyd ch cmi cs x18 x20 w hoff w0 v0 base xs l n hB hn a hF K Q hk
/-! What a round has told already. -/
def DateC (t : Tm) (cy cm cd : Int) : Prop := cy = -1 ∨ (cy = (t.y : Nat) ∧ cm = (t.mo : Nat) ∧ cd = (t.d : Nat))
def YdayC (t : Tm) (cyd : Int) : Prop := cyd = -1 ∨ cyd = (ydN t.y t.mo t.d : Nat)
def ClockC (t : Tm) (ch cmi cs : Int) : Prop := ch = -1 ∨ (ch = (t.h : Nat) ∧ cmi = (t.mi : Nat) ∧ cs = (t.s : Nat))
theorem f16_any (t : Tm) (hO : TmOk t) (v : Value) (s : ByteArray) (gp : Nat) (nm : ByteArray) (off : Int) (cy cm cd cyd ch cmi cs : Int) (x18 x20 x92 : Value) (w : World) (std : Nat) (nd : Bool) (ha : bits .and .i64 (std : Int) 256 = if nd = true then 256 else 0) (hc : DateC t cy cm cd) (a : Act) (hF : FmtF v s gp nm off (toldOf t) (dayOf t.y t.mo t.d : Nat) cy cm cd cyd ch cmi cs x18 (.int .i64 (std : Nat)) x20 x92 a)
    (K : Act → World → Prop) (Q : Exit → Act → World → Prop)
    (hk : ∀ cy' cm' cd' a', FmtF v s gp nm off (toldOf t) (dayOf t.y t.mo t.d : Nat) cy' cm' cd' cyd ch cmi cs x18 (.int .i64 (std : Nat)) x20 x92 a' → DateC t cy' cm' cd' → (nd = true → cy' = (t.y : Nat) ∧ cm' = (t.mo : Nat) ∧ cd' = (t.d : Nat)) → K a' w) :
    Code.wp Tryd.prog fp16 (Exit.then K Q) a w := by
  rcases hc with rfl | ⟨rfl, rfl, rfl⟩
  · cases nd
    · exact f16_no v s gp nm off (toldOf t) (dayOf t.y t.mo t.d : Nat) cm cd cyd ch cmi cs x18 x20 x92 w std ha a hF K Q (fun a' h => hk _ _ _ a' h (.inl rfl) (fun e => by cases e))
    · exact f16_do t hO v s gp nm off cm cd cyd ch cmi cs x18 x20 x92 w std ha a hF K Q (fun a' h => hk _ _ _ a' h (.inr ⟨rfl, rfl, rfl⟩) (fun _ => ⟨rfl, rfl, rfl⟩))
  · exact f16_had v s gp nm off (toldOf t) (dayOf t.y t.mo t.d : Nat) (t.mo : Nat) (t.d : Nat) cyd ch cmi cs t.y x18 (.int .i64 (std : Nat)) x20 x92 w a hF K Q (fun a' h => hk _ _ _ a' h (.inr ⟨rfl, rfl, rfl⟩) (fun _ => ⟨rfl, rfl, rfl⟩))
theorem f18_any (t : Tm) (hO : TmOk t) (v : Value) (s : ByteArray) (gp : Nat) (nm : ByteArray) (off : Int) (cy cm cd cyd ch cmi cs : Int) (x18 x20 x92 : Value) (w : World) (std : Nat) (nd : Bool) (ha : bits .and .i64 (std : Int) 512 = if nd = true then 512 else 0) (hc : YdayC t cyd) (a : Act) (hF : FmtF v s gp nm off (toldOf t) (dayOf t.y t.mo t.d : Nat) cy cm cd cyd ch cmi cs x18 (.int .i64 (std : Nat)) x20 x92 a)
    (K : Act → World → Prop) (Q : Exit → Act → World → Prop)
    (hk : ∀ cyd' a', FmtF v s gp nm off (toldOf t) (dayOf t.y t.mo t.d : Nat) cy cm cd cyd' ch cmi cs x18 (.int .i64 (std : Nat)) x20 x92 a' → YdayC t cyd' → (nd = true → cyd' = (ydN t.y t.mo t.d : Nat)) → K a' w) :
    Code.wp Tryd.prog fp18 (Exit.then K Q) a w := by
  rcases hc with rfl | rfl
  · cases nd
    · exact f18_no v s gp nm off (toldOf t) (dayOf t.y t.mo t.d : Nat) cy cm cd ch cmi cs x18 x20 x92 w std ha a hF K Q (fun a' h => hk _ a' h (.inl rfl) (fun e => by cases e))
    · exact f18_do t hO v s gp nm off cy cm cd ch cmi cs x18 x20 x92 w std ha a hF K Q (fun a' h => hk _ a' h (.inr rfl) (fun _ => rfl))
  · exact f18_had v s gp nm off (toldOf t) (dayOf t.y t.mo t.d : Nat) cy cm cd ch cmi cs (ydN t.y t.mo t.d) x18 (.int .i64 (std : Nat)) x20 x92 w a hF K Q (fun a' h => hk _ a' h (.inr rfl) (fun _ => rfl))
theorem f20_any (t : Tm) (hO : TmOk t) (v : Value) (s : ByteArray) (gp : Nat) (nm : ByteArray) (off : Int) (cy cm cd cyd ch cmi cs : Int) (x18 x20 x92 : Value) (w : World) (std : Nat) (nd : Bool) (ha : bits .and .i64 (std : Int) 1024 = if nd = true then 1024 else 0) (hc : ClockC t ch cmi cs) (a : Act) (hF : FmtF v s gp nm off (toldOf t) (dayOf t.y t.mo t.d : Nat) cy cm cd cyd ch cmi cs x18 (.int .i64 (std : Nat)) x20 x92 a)
    (K : Act → World → Prop) (Q : Exit → Act → World → Prop)
    (hk : ∀ ch' cmi' cs' a', FmtF v s gp nm off (toldOf t) (dayOf t.y t.mo t.d : Nat) cy cm cd cyd ch' cmi' cs' x18 (.int .i64 (std : Nat)) x20 x92 a' → ClockC t ch' cmi' cs' → (nd = true → ch' = (t.h : Nat) ∧ cmi' = (t.mi : Nat) ∧ cs' = (t.s : Nat)) → K a' w) :
    Code.wp Tryd.prog fp20 (Exit.then K Q) a w := by
  rcases hc with rfl | ⟨rfl, rfl, rfl⟩
  · cases nd
    · exact f20_no v s gp nm off (toldOf t) (dayOf t.y t.mo t.d : Nat) cy cm cd cyd cmi cs x18 x20 x92 w std ha a hF K Q (fun a' h => hk _ _ _ a' h (.inl rfl) (fun e => by cases e))
    · exact f20_do t hO v s gp nm off cy cm cd cyd cmi cs x18 x20 x92 w std ha a hF K Q (fun a' h => hk _ _ _ a' h (.inr ⟨rfl, rfl, rfl⟩) (fun _ => ⟨rfl, rfl, rfl⟩))
  · exact f20_had v s gp nm off (toldOf t) (dayOf t.y t.mo t.d : Nat) cy cm cd cyd (t.mi : Nat) (t.s : Nat) t.h x18 (.int .i64 (std : Nat)) x20 x92 w a hF K Q (fun a' h => hk _ _ _ a' h (.inr ⟨rfl, rfl, rfl⟩) (fun _ => ⟨rfl, rfl, rfl⟩))
end Go.Proofs.YtigabjibdepoiaaDoor.Tm
