/- The walk of appendNano: a fraction of a second behind a buffer. -/
import Derived.Test.YtigabjibdepoiaaDoorBst
import Derived.Test.YtigabjibdepoiaaDoorChunkB
import Derived.Test.YtigabjibdepoiaaDoorFmtP
namespace Go.Proofs.YtigabjibdepoiaaDoor.Tm
set_option linter.unusedSimpArgs false
set_option linter.unusedVariables false
open Go.RowKit Go
theorem padL9 {ns : Nat} (h : ns ≤ 999999999) : (padL 48 ns 9).length = 9 := by
  have h1 := decL_len_le (n := ns) (k := 9) (by omega) (by decide)
  rw [padL, List.length_append, List.length_replicate]; omega
theorem decL_digits (n : Nat) : ∀ c ∈ decL n, 48 ≤ c.toNat ∧ c.toNat ≤ 57 := by
  induction n using Nat.strongRecOn with
  | _ n ih =>
    intro c hc
    by_cases h : n < 10
    · rw [decL_lt h] at hc
      obtain rfl := List.mem_singleton.1 hc
      rw [digC_nat h]; omega
    · rw [decL_ge h] at hc
      rcases List.mem_append.1 hc with g | g
      · exact ih (n / 10) (by omega) c g
      · obtain rfl := List.mem_singleton.1 g
        rw [digC_nat (by omega)]; omega
theorem padL_digits (n : Nat) (w : Int) : ∀ c ∈ padL 48 n w, 48 ≤ c.toNat ∧ c.toNat ≤ 57 := by
  intro c hc
  rcases List.mem_append.1 hc with g | g
  · obtain ⟨_, rfl⟩ := List.mem_replicate.1 g; decide
  · exact decL_digits n c g
theorem trimZ_zero (l : List UInt8) : trimZ (l ++ [48]) = trimZ l := by
  unfold trimZ
  rw [List.reverse_append]; rfl
theorem trimZ_keep (l : List UInt8) (c : UInt8) (h : c ≠ 48) : trimZ (l ++ [c]) = l ++ [c] := by
  unfold trimZ
  rw [List.reverse_append]
  show (List.dropWhile _ (c :: l.reverse)).reverse = _
  have : (c == 48) = false := by rw [beq_eq_false_iff_ne]; exact h
  rw [List.dropWhile_cons_of_neg (by simp [this])]
  simp
/-- While zeros are taken away: behind the mark at P stand the first q - P of the digits. -/
structure NaI (w : World) (base g cap : Nat) (ys : List Value) (dot : UInt8) (D : List UInt8) (P k q : Nat) : Prop where
  le : P ≤ q
  le2 : q ≤ P + k
  dl : k ≤ D.length
  pl : P = ys.length
  buf : Buf w base (.slice (some ⟨g, 0, none⟩) (q + 1) cap) (ys ++ bytes (dot :: D.take (q - P)))
  eq : trimZ (D.take k) = trimZ (D.take (q - P))
section
variable {w : World} {base g cap : Nat} {ys : List Value} {dot : UInt8} {D : List UInt8} {P k q : Nat}
theorem NaI.room (h : NaI w base g cap ys dot D P k q) : q + 1 ≤ cap ∧ cap ≤ maxLen := by
  obtain ⟨_, _, h1, h2, _⟩ := slice_own h.buf; exact ⟨h1, h2⟩
theorem NaI.at0 (h : NaI w base g cap ys dot D P k P) : w.cell? ⟨g, P, none⟩ = some (u8 dot) := by
  have := h.buf.cellAt P (by rw [List.length_append, ← h.pl, bytes_length]; simp)
  rw [this]
  congr 1
  rw [List.getElem_append_right (by rw [h.pl]; exact Nat.le_refl _)]
  simp [bytes, h.pl]
theorem NaI.atS {i : Nat} (h : NaI w base g cap ys dot D P k (P + i + 1)) (hi : i < D.length) : w.cell? ⟨g, P + i + 1, none⟩ = some (u8 D[i]) := by
  have e : P + i + 1 - P = i + 1 := by omega
  have hb := h.buf
  rw [e] at hb
  have hl : (bytes (dot :: D.take (i + 1))).length = i + 2 := by rw [bytes_length]; simp; omega
  have := hb.cellAt (P + i + 1) (by rw [List.length_append, ← h.pl, hl]; omega)
  rw [this]
  congr 1
  rw [List.getElem_append_right (by rw [← h.pl]; omega)]
  have e2 : P + i + 1 - ys.length = i + 1 := by rw [← h.pl]; omega
  simp only [bytes, List.getElem_map, e2, List.getElem_cons_succ, List.getElem_take]
theorem NaI.next {i : Nat} (h : NaI w base g cap ys dot D P k (P + i + 1)) (hi : i < D.length) (hz : D[i] = 48) : NaI w base g cap ys dot D P k (P + i) := by
  have e : P + i + 1 - P = i + 1 := by omega
  have e2 : P + i - P = i := by omega
  obtain ⟨h1, h2, h3, h4, h5, h6⟩ := h
  rw [e] at h5 h6
  rw [List.take_succ_eq_append_getElem hi] at h5 h6
  refine ⟨by omega, by omega, h3, h4, ?_, ?_⟩
  · rw [e2]
    rw [show bytes (dot :: (D.take i ++ [D[i]])) = bytes (dot :: D.take i) ++ bytes [D[i]] from by rw [← bytes_append]; rfl, ← List.append_assoc] at h5
    have := h5.shorter
    have hl : (ys ++ bytes (dot :: D.take i)).length = P + i + 1 := by rw [List.length_append, ← h4, bytes_length]; simp; omega
    rw [hl] at this
    exact this
  · rw [e2, h6, hz, trimZ_zero]
theorem NaI.done0 (h : NaI w base g cap ys dot D P k P) : Buf w base (.slice (some ⟨g, 0, none⟩) P cap) ys ∧ trimZ (D.take k) = [] := by
  have e : P - P = 0 := Nat.sub_self P
  have hb := h.buf
  have he := h.eq
  rw [e, List.take_zero] at hb he
  refine ⟨?_, by rw [he]; rfl⟩
  have := hb.shorter
  rwa [← h.pl] at this
theorem NaI.doneS {i : Nat} (h : NaI w base g cap ys dot D P k (P + i + 1)) (hi : i < D.length) (hz : D[i] ≠ 48) : Buf w base (.slice (some ⟨g, 0, none⟩) (P + i + 1 + 1) cap) (ys ++ bytes (dot :: trimZ (D.take k))) ∧ trimZ (D.take k) ≠ [] := by
  have e : P + i + 1 - P = i + 1 := by omega
  have he := h.eq
  have hb := h.buf
  rw [e, List.take_succ_eq_append_getElem hi] at he hb
  rw [trimZ_keep _ _ hz] at he
  rw [he]
  exact ⟨hb, fun e => by have := congrArg List.length e; rw [List.length_append] at this; simp only [List.length_cons, List.length_nil] at this; omega⟩
end
/-! The numbers of an element. -/
theorem fr_and (c k : Nat) (comma : Bool) (hc : c < 65536) (hk : k < 4096) : bits .and .i64 ((c + k * 65536 + (if comma then 268435456 else 0) : Nat) : Int) 65535 = (c : Int) := by
  have hb : (c + k * 65536 + (if comma then 268435456 else 0)) < 2 ^ 63 := by split <;> omega
  rw [show (65535 : Int) = ((65535 : Nat) : Int) from rfl, (i64_nat _ 65535 hb (by decide)).1, show (65535 : Nat) = 2 ^ 16 - 1 from rfl, Nat.and_two_pow_sub_one_eq_mod]
  congr 1
  split <;> omega
theorem fr_digs (c k : Nat) (comma : Bool) (hc : c < 65536) (hk : k < 4096) : bits .and .i64 (((c + k * 65536 + (if comma then 268435456 else 0)) / 65536 : Nat) : Int) 4095 = (k : Int) := by
  have hb : (c + k * 65536 + (if comma then 268435456 else 0)) / 65536 < 2 ^ 63 := by split <;> omega
  rw [show (4095 : Int) = ((4095 : Nat) : Int) from rfl, (i64_nat _ 4095 hb (by decide)).1, show (4095 : Nat) = 2 ^ 12 - 1 from rfl, Nat.and_two_pow_sub_one_eq_mod]
  congr 1
  split <;> omega
theorem fr_sep (c k : Nat) (comma : Bool) (hc : c < 65536) (hk : k < 4096) : (c + k * 65536 + (if comma then 268435456 else 0)) / 268435456 = if comma then 1 else 0 := by
  split <;> omega
set_option maxHeartbeats 400000 in
theorem digitsLen_any (c k : Nat) (comma : Bool) (w : World) (hc : c < 65536) (hk : k < 4096) :
    Calls Tryd.prog 128 #[.int .i64 ((c + k * 65536 + (if comma then 268435456 else 0) : Nat) : Int)] w (fun e w' => e = .returned (.int .i64 k) ∧ w = w') := by
  have hd := fr_digs c k comma hc hk
  have hb : c + k * 65536 + (if comma then 268435456 else 0) < 600000000 := by split <;> omega
  generalize c + k * 65536 + (if comma then 268435456 else 0) = S at *
  have e1 : (S / 65536 : Nat) = (S : Int) / 65536 := by omega
  rw [e1] at hd
  have hb2 : (S : Int) < 600000000 := by omega
  clear hb e1 hc hk
  go_enter Tryd.func128, Tryd.ntmps128
  go_wp2
  go_ret
  exact ⟨rfl, rfl⟩
set_option maxRecDepth 100000 in
set_option maxHeartbeats 400000 in
theorem separator_any (c k : Nat) (comma : Bool) (w : World) (hc : c < 65536) (hk : k < 4096) :
    Calls Tryd.prog 129 #[.int .i64 ((c + k * 65536 + (if comma then 268435456 else 0) : Nat) : Int)] w (fun e w' => e = .returned (.int .u8 (if comma then 44 else 46)) ∧ w = w') := by
  have hd := fr_sep c k comma hc hk
  have hb : c + k * 65536 + (if comma then 268435456 else 0) < 600000000 := by split <;> omega
  generalize c + k * 65536 + (if comma then 268435456 else 0) = S at *
  have hb2 : (S : Int) < 600000000 := by omega
  have HQ := hideP (show (S : Int) / 268435456 = if comma then 1 else 0 by cases comma <;> simp only [if_true, if_false, Bool.false_eq_true, reduceIte] at hd ⊢ <;> omega)
  clear hb hc hk hd
  go_enter Tryd.func129, Tryd.ntmps129
  go_upto_if 5 with (fail)
  have hq := HQ.out
  generalize (S : Int) / 268435456 = q at *
  subst hq
  clear HQ
  clear hb2
  cases comma
  · refine wp_cond_true rfl ?_
    go_wp2
    go_ret
    exact ⟨rfl, rfl⟩
  · refine wp_cond_false rfl ?_
    go_wp2
    go_ret
    exact ⟨rfl, rfl⟩
end Go.Proofs.YtigabjibdepoiaaDoor.Tm
