/- The walks of isDigit and stdFracSecond. The run of digits of a fraction in a layout. -/
import Derived.Test.YtigabjibdepoiaaDoorChunkA
namespace Go.Proofs.YtigabjibdepoiaaDoor.Tm
set_option linter.unusedSimpArgs false
set_option linter.unusedVariables false
open Go.RowKit Go

set_option maxHeartbeats 400000 in
theorem isdig_any (s : ByteArray) (i : Nat) (b : Bool) (w : World) (hs : s.size ≤ 140737488351232) (hi : i ≤ 140737488351232) (hb : ((bl s)[i]?.any isDig) = b) :
    Calls Tryd.prog 87 #[.string s, .int .i64 i] w fun e w' => e = .returned (.bool b) ∧ w = w' := by
  by_cases h : i < s.size
  · rw [List.getElem?_eq_getElem (by rw [bl_length]; exact h), Option.any_some] at hb
    have hb2 : isDig s[i] = b := hb
    rw [isDig] at hb2
    clear hb
    have h2 : ¬ (s.size : Int) ≤ i := by omega
    by_cases h3 : (48 : Int) ≤ ↑s[i].toNat
    · by_cases h4 : (↑s[i].toNat : Int) ≤ 57
      · rw [decide_eq_true (by omega), decide_eq_true (by omega)] at hb2
        subst hb2
        go_enter Tryd.func87, Tryd.ntmps87
        go_wp2
        go_ret
        exact ⟨by simp [h3, h4], rfl⟩
      · rw [decide_eq_true (by omega), decide_eq_false (by omega)] at hb2
        subst hb2
        go_enter Tryd.func87, Tryd.ntmps87
        go_wp2
        go_ret
        exact ⟨by simp [h3, h4], rfl⟩
    · rw [decide_eq_false (by omega)] at hb2
      subst hb2
      go_enter Tryd.func87, Tryd.ntmps87
      go_wp2
      go_ret
      exact ⟨by simp [h3], rfl⟩
  · rw [List.getElem?_eq_none (by rw [bl_length]; omega)] at hb
    subst hb
    have h2 : (s.size : Int) ≤ i := by omega
    go_enter Tryd.func87, Tryd.ntmps87
    go_wp2
    go_ret
    exact ⟨rfl, rfl⟩

theorem wraps_i64 (n : Int) (h₀ : 0 ≤ n) (h₁ : n < 2 ^ 63) : IntKind.i64.wrap n = n := by rw [IntKind.wrap_i64]; omega
theorem i64_nat (a b : Nat) (ha : a < 2 ^ 63) (hb : b < 2 ^ 63) : bits .and .i64 (a : Int) b = ((a &&& b : Nat) : Int) ∧ bits .or .i64 (a : Int) b = ((a ||| b : Nat) : Int) := bits_nat .i64 63 (by decide) wraps_i64 a b ha hb
theorem soff_ret2 {a b : Int} (h : a = b) : Ending.returned (.int .i64 a) = .returned (.int .i64 b) := by rw [h]
theorem mask12 (n : Nat) : n &&& 4095 = n % 4096 := Nat.and_two_pow_sub_one_eq_mod n 12
theorem or16 (a b : Nat) (h : a < 65536) : a ||| (b * 65536) = a + b * 65536 := by
  have := Nat.shiftLeft_add_eq_or_of_lt (b := a) (i := 16) h b
  rw [Nat.shiftLeft_eq] at this
  rw [Nat.or_comm, ← this, Nat.add_comm]
theorem or28 (a : Nat) (h : a < 268435456) : a ||| 268435456 = a + 268435456 := by
  have := Nat.shiftLeft_add_eq_or_of_lt (b := a) (i := 28) h 1
  rw [Nat.shiftLeft_eq] at this
  rw [Nat.or_comm, show (268435456 : Nat) = 1 * 2 ^ 28 from rfl, ← this, Nat.add_comm]
theorem frac_bits (code n : Nat) (hn : n ≤ 140737488351232) (hc : code < 65536) : bits BinOp.or IntKind.i64 (code : Int) (wrap64 (bits BinOp.and IntKind.i64 (n : Int) 4095 * 65536)) = ((code + n % 4096 * 65536 : Nat) : Int) := by
  rw [show (4095 : Int) = ((4095 : Nat) : Int) from rfl, (i64_nat n 4095 (by omega) (by decide)).1, mask12]
  have h1 : wrap64 (((n % 4096 : Nat) : Int) * 65536) = ((n % 4096 * 65536 : Nat) : Int) := by
    unfold wrap64; omega
  rw [h1, (i64_nat code _ (by omega) (by omega)).2, or16 _ _ hc]

set_option maxHeartbeats 400000 in
theorem fracsec (code : Nat) (n c : Int) (m : Nat) (comma : Bool) (w : World) (hm : n = (m : Int)) (hn : m ≤ 140737488351232) (hc : (c == 46) = !comma) (hcode : code < 65536) :
    Calls Tryd.prog 88 #[.int .i64 code, .int .i64 n, .int .i64 c] w fun e w' => e = .returned (.int .i64 (fracStd code m comma : Nat)) ∧ w = w' := by
  subst hm
  have hb := frac_bits code m hn hcode
  have HB := hideP hb; clear hb
  cases comma
  · rw [Bool.not_false] at hc
    go_enter Tryd.func88, Tryd.ntmps88
    go_wp2
    go_ret
    exact ⟨soff_ret2 (by rw [HB.out, fracStd]; simp), rfl⟩
  · rw [Bool.not_true] at hc
    go_enter Tryd.func88, Tryd.ntmps88
    go_wp2
    go_ret
    exact ⟨soff_ret2 (by rw [HB.out, show (268435456 : Int) = ((268435456 : Nat) : Int) from rfl, (i64_nat _ _ (by omega) (by decide)).2, or28 _ (by omega), fracStd]; simp), rfl⟩
end Go.Proofs.YtigabjibdepoiaaDoor.Tm
namespace Go.Proofs.YtigabjibdepoiaaDoor.Tm
set_option linter.unusedSimpArgs false
set_option linter.unusedVariables false
open Go.RowKit Go
theorem takeWhile_upto (p : UInt8 → Bool) (l : List UInt8) (i : Nat) (h : ∀ c ∈ l.take i, p c = true) (hn : ∀ c, l[i]? = some c → p c = false) : l.takeWhile p = l.take i := by
  induction l generalizing i with
  | nil => simp
  | cons c r ih =>
    cases i with
    | zero => have := hn c rfl; simp [this]
    | succ i =>
      have hc := h c (by simp)
      simp only [List.takeWhile_cons, hc, if_true, List.take_succ_cons, List.cons.injEq, true_and]
      exact ih i (fun d hd => h d (by simp [hd])) (fun d hd => hn d (by simpa using hd))
/-- The bytes behind a mark, from its own place k on up to m, are all as the first one. -/
def RunTo (s : ByteArray) (k m : Nat) (d : UInt8) : Prop := k + 1 ≤ m ∧ m ≤ s.size ∧ ∀ c ∈ ((rest s k).drop 1).take (m - (k + 1)), (c == d) = true
theorem run_start (s : ByteArray) (k : Nat) (d : UInt8) (h : k < s.size) : RunTo s k (k + 1) d := ⟨Nat.le_refl _, h, by simp⟩
theorem run_get (s : ByteArray) (k m : Nat) (h1 : k + 1 ≤ m) (h : m < s.size) : ((rest s k).drop 1)[m - (k + 1)]? = some s[m] := by
  rw [List.getElem?_drop, rest_get, show k + (1 + (m - (k + 1))) = m from by omega, List.getElem?_eq_getElem (by rw [bl_length]; exact h)]; rfl
theorem run_step (s : ByteArray) (k m : Nat) (d : UInt8) (h : RunTo s k m d) (hlt : m < s.size) (hc : ((s[m].toNat : Int) == (d.toNat : Int)) = true) : RunTo s k (m + 1) d := by
  obtain ⟨h1, h2, h3⟩ := h
  refine ⟨by omega, hlt, ?_⟩
  obtain ⟨hl, he⟩ := List.getElem?_eq_some_iff.1 (run_get s k m h1 hlt)
  rw [show m + 1 - (k + 1) = m - (k + 1) + 1 from by omega, List.take_succ_eq_append_getElem hl]
  intro c hcm
  rcases List.mem_append.1 hcm with g | g
  · exact h3 c g
  · obtain rfl := List.mem_singleton.1 g
    rw [he, beq_iff_eq]
    rw [beq_iff_eq] at hc
    exact UInt8.toNat_inj.1 (by omega)
theorem run_end (s : ByteArray) (k m : Nat) (d : UInt8) (h : RunTo s k m d) (hs : ∀ hlt : m < s.size, ((s[m].toNat : Int) == (d.toNat : Int)) = false) : runOf d ((rest s k).drop 1) = m - (k + 1) := by
  obtain ⟨h1, h2, h3⟩ := h
  have hl : ((rest s k).drop 1).length = s.size - (k + 1) := by rw [List.length_drop, rest, List.length_drop, bl_length]; omega
  have := takeWhile_upto (fun c => c == d) ((rest s k).drop 1) (m - (k + 1)) h3 (by
    intro c hc
    have hlt : m < s.size := by
      obtain ⟨g, _⟩ := List.getElem?_eq_some_iff.1 hc
      omega
    rw [run_get s k m h1 hlt] at hc
    obtain rfl := Option.some.inj hc
    have := hs hlt
    rw [beq_eq_false_iff_ne] at this ⊢
    exact fun e => this (by rw [e]))
  rw [runOf, this, List.length_take, hl]; omega
theorem frac_std (s : ByteArray) (k m : Nat) (comma : Bool) (h1 : k + 1 < s.size) (hd : s[k + 1].toNat = 48 ∨ s[k + 1].toNat = 57) (hm : k + 1 ≤ m) (hr : runOf s[k + 1] ((rest s k).drop 1) = m - (k + 1)) :
    stdFrac comma (rest s k) = if ((bl s)[m]?.any isDig) then none else some (fracStd (if s[k + 1].toNat = 48 then 34 else 35) (m - (k + 1)) comma, 0, 1 + (m - (k + 1))) := by
  rw [stdFrac, rest_in s k 1 h1]
  show (if s[k + 1].toNat = 48 ∨ s[k + 1].toNat = 57 then _ else _) = _
  rw [if_pos hd, hr, rest_get, show k + (1 + (m - (k + 1))) = m from by omega]
theorem frac_none (s : ByteArray) (k : Nat) (comma : Bool) (h1 : k + 1 < s.size) (hd : ¬ (s[k + 1].toNat = 48 ∨ s[k + 1].toNat = 57)) : stdFrac comma (rest s k) = none := by
  rw [stdFrac, rest_in s k 1 h1]
  show (if s[k + 1].toNat = 48 ∨ s[k + 1].toNat = 57 then _ else _) = _
  rw [if_neg hd]
theorem frac_out (s : ByteArray) (k : Nat) (comma : Bool) (h1 : ¬ k + 1 < s.size) : stdFrac comma (rest s k) = none := by
  rw [stdFrac, rest_out s k 1 h1]
end Go.Proofs.YtigabjibdepoiaaDoor.Tm
