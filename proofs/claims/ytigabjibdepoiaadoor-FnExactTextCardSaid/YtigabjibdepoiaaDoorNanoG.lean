/- The walk of appendNano, all ways. -/
import Derived.Test.YtigabjibdepoiaaDoorNanoF
namespace Go.Proofs.YtigabjibdepoiaaDoor.Tm
set_option linter.unusedSimpArgs false
set_option linter.unusedVariables false
open Go.RowKit Go
/-- The number of a fraction's element. -/
def FrNo (S c k : Nat) (comma : Bool) : Prop := S = c + k * 65536 + (if comma then 268435456 else 0) ∧ c < 65536 ∧ k < 4096
theorem FrNo.digs {S c k : Nat} {comma : Bool} (h : FrNo S c k comma) (w : World) : Calls Tryd.prog 128 #[.int .i64 S] w (fun e w' => e = .returned (.int .i64 k) ∧ w = w') := by
  obtain ⟨rfl, h1, h2⟩ := h; exact digitsLen_any c k comma w h1 h2
theorem FrNo.sep {S c k : Nat} {comma : Bool} (h : FrNo S c k comma) (w : World) : Calls Tryd.prog 129 #[.int .i64 S] w (fun e w' => e = .returned (.int .u8 (if comma then 44 else 46)) ∧ w = w') := by
  obtain ⟨rfl, h1, h2⟩ := h; exact separator_any c k comma w h1 h2
theorem FrNo.and {S c k : Nat} {comma : Bool} (h : FrNo S c k comma) : bits .and .i64 (S : Int) 65535 = (c : Int) := by
  obtain ⟨rfl, h1, h2⟩ := h; exact fr_and c k comma h1 h2
def markC (comma : Bool) : UInt8 := if comma then 44 else 46
theorem mark_int (comma : Bool) : (if comma = true then (44 : Int) else 46) = ((markC comma).toNat : Int) := by cases comma <;> rfl
theorem FrNo.sep2 {S c k : Nat} {comma : Bool} (h : FrNo S c k comma) (w : World) : Calls Tryd.prog 129 #[.int .i64 S] w (fun e w' => e = .returned (.int .u8 (markC comma).toNat) ∧ w = w') := by
  rw [← mark_int]; exact h.sep w
section
variable {w0 : World} {v0 : Value} {base : Nat} {xs : List Value} {w : World} {v : Value} {l : List UInt8} {n : Nat}
set_option maxHeartbeats 400000 in
/-- Zeros that go, and no digits: nothing is written. -/
theorem nano_none (S k ns : Nat) (comma : Bool) (hS : FrNo S 35 k comma) (hns : ns ≤ 999999999) (h : BSt w0 v0 base xs w v l n) (hz : k = 0 ∨ ns = 0) :
    Calls Tryd.prog 107 #[v, .int .i64 ns, .int .i64 S] w (BPost w0 v0 base xs l n) := by
  have ha : bits .and .i64 (S : Int) 65535 = 35 := hS.and
  have HS := hideP hS
  have HB := hideP h
  have hsp : k = 0 ∨ (0 < k ∧ ns = 0) := by omega
  clear hS h hz
  rcases hsp with rfl | ⟨hk, rfl⟩
  · go_enter Tryd.func107, Tryd.ntmps107
    go_wp2_with (go_at_call 128; refine (HS.out.digs _).mono ?_; rintro e w1 ⟨rfl, rfl⟩)
    go_ret
    exact ⟨v, rfl, HB.out⟩
  · have hk2 : ((k : Int) == 0) = false := by rw [beq_eq_false_iff_ne]; omega
    go_enter Tryd.func107, Tryd.ntmps107
    go_wp2_with (go_at_call 128; refine (HS.out.digs _).mono ?_; rintro e w1 ⟨rfl, rfl⟩)
    go_ret
    exact ⟨v, rfl, HB.out⟩
theorem BSt.shape (h : BSt w0 v0 base xs w v l n) : ∃ g cap, v = .slice (some ⟨g, 0, none⟩) (xs.length + l.length) cap ∧ xs.length + l.length ≤ cap ∧ cap ≤ maxLen ∧ base ≤ g ∧ g < w.heap.size := by
  obtain ⟨g, cap, cur, tag, rfl, hb, hg, h1, h2, h3, h4⟩ := h.buf
  rw [List.length_append, bytes_length] at h1
  exact ⟨g, cap, by rw [List.length_append, bytes_length], h1, h2, hb, (Array.getElem?_eq_some_iff.1 hg).1⟩
/-- A buffer cut shorter. -/
theorem BSt.cut {g cap m : Nat} {a b : List UInt8} (h : BSt w0 v0 base xs w (.slice (some ⟨g, 0, none⟩) m cap) (a ++ b) n) : BSt w0 v0 base xs w (.slice (some ⟨g, 0, none⟩) (xs.length + a.length) cap) a n := by
  have hb := h.buf
  rw [bytes_append, ← List.append_assoc] at hb
  have h2 := hb.shorter
  rw [List.length_append, bytes_length] at h2
  exact ⟨h2, ⟨h.mov.grown, h.mov.place⟩, h.base_le, by have := h.len; rw [List.length_append] at this; omega⟩
set_option maxRecDepth 100000 in
set_option maxHeartbeats 1600000 in
/-- Zeros stay. -/
theorem nano_zeros (S k ns : Nat) (comma : Bool) (hS : FrNo S 34 k comma) (hns : ns ≤ 999999999) (h : BSt w0 v0 base xs w v l n) (hn : n + 100 ≤ 140737488351232) :
    Calls Tryd.prog 107 #[v, .int .i64 ns, .int .i64 S] w (BPost w0 v0 base xs (l ++ nanoL ns k comma false) (n + 21)) := by
  have ha : bits .and .i64 (S : Int) 65535 = 34 := hS.and
  have hk : (k : Int) < 4096 := by have := hS.2.2; omega
  have HS := hideP hS
  have HB := hideP h
  have HL := hideP (show nanoL ns k comma false = markC comma :: (padL 48 ns 9).take k by unfold nanoL markC; simp)
  have H9 := hideP (padL9 hns)
  have hlen := h.len
  clear hS h
  go_enter Tryd.func107, Tryd.ntmps107
  go_wp2_with (first
    | (go_at_call 128; refine (HS.out.digs _).mono ?_; rintro e w1 ⟨rfl, rfl⟩)
    | (go_at_call 129; refine (HS.out.sep2 _).mono ?_; rintro e w1 ⟨rfl, rfl⟩)
    | (at_builtin; refine wpList_bst_one (markC comma) _ _ rfl _ _ rfl HB.out rfl rfl rfl (by omega) ?_; intro v1 w1 hb1; have HB1 := hideP hb1; clear hb1))
  refine (int_bst ns 9 HB1.out (by omega) (by omega) (by omega) (by omega)).mono ?_
  rintro e w2 ⟨v2, rfl, hb2⟩
  obtain ⟨g, cap, rfl, h1, h2, h3, h4⟩ := hb2.shape
  obtain ⟨P, hP⟩ : ∃ P, P = xs.length + l.length := ⟨_, rfl⟩
  have hPL : xs.length + ((l ++ [markC comma]) ++ padL 48 ns 9).length = P + 10 := by rw [List.length_append, List.length_append, H9.out, hP]; simp; omega
  rw [hPL] at h1 hb2 ⊢
  have hPb : P ≤ 140737488351132 := by omega
  have HB2 := hideP hb2
  have HP := hideP hP
  clear hb2 hP hPL HB1 hlen
  unfold maxLen at h2
  by_cases hk9 : (k : Int) < 9
  · have hc := (HB2.out.text (m := ((l ++ [markC comma]) ++ (padL 48 ns 9).take k) ++ (padL 48 ns 9).drop k) (by rw [List.append_assoc (l ++ [markC comma]), List.take_append_drop])).cut
    have el : xs.length + ((l ++ [markC comma]) ++ (padL 48 ns 9).take k).length = P + 10 - 9 + k := by
      rw [List.length_append, List.length_append, List.length_take, H9.out, HP.out, List.length_singleton]; omega
    rw [el] at hc
    have HC := hideP hc
    clear hc el
    go_wp2
    go_ret
    exact ⟨_, rfl, HC.out.text (by rw [HL.out, List.append_assoc]; rfl)⟩
  · have HT := hideP (show (padL 48 ns 9).take k = padL 48 ns 9 from List.take_of_length_le (by rw [H9.out]; omega))
    go_wp2
    go_ret
    exact ⟨_, rfl, HB2.out.text (by rw [HL.out, HT.out, List.append_assoc]; rfl)⟩
theorem markC_lt (comma : Bool) : ((markC comma).toNat : Int) < 256 := by cases comma <;> decide
theorem markC_48 (comma : Bool) : (((markC comma).toNat : Int) == 48) = false := by cases comma <;> decide
theorem markC_digit (comma : Bool) (d : UInt8) (h : 48 ≤ d.toNat ∧ d.toNat ≤ 57) : ((d.toNat : Int) == ((markC comma).toNat : Int)) = false := by
  rw [beq_eq_false_iff_ne]
  cases comma
  · have : (markC false).toNat = 46 := rfl
    omega
  · have : (markC true).toNat = 44 := rfl
    omega
/-- A digit stands last: what its test tells. -/
theorem na_digit {w : World} {base g cap : Nat} {ys : List Value} {comma : Bool} {D : List UInt8} {P k q : Nat} (h : NaI w base g cap ys (markC comma) D P (min k 9) q) (hq : P < q) (hD : D.length = 9) (hd : ∀ c ∈ D, 48 ≤ c.toNat ∧ c.toNat ≤ 57) :
    ∃ c : Nat, w.cell? ⟨g, q, none⟩ = some (.int .u8 c) ∧ ((c : Int) == ((markC comma).toNat : Int)) = false ∧
      (((c : Int) == 48) = true ∧ NaI w base g cap ys (markC comma) D P (min k 9) (q - 1) ∨
       ((c : Int) == 48) = false ∧ Buf w base (.slice (some ⟨g, 0, none⟩) (q + 1) cap) (ys ++ bytes (markC comma :: trimZ (D.take (min k 9)))) ∧ trimZ (D.take (min k 9)) ≠ []) := by
  obtain ⟨i, rfl⟩ : ∃ i, q = P + i + 1 := ⟨q - P - 1, by omega⟩
  have hi : i < D.length := by have := h.le2; omega
  refine ⟨D[i].toNat, h.atS hi, markC_digit comma D[i] (hd D[i] (List.getElem_mem hi)), ?_⟩
  by_cases hz : D[i] = 48
  · exact .inl ⟨by rw [hz]; rfl, h.next hi hz⟩
  · refine .inr ⟨?_, h.doneS hi hz⟩
    rw [beq_eq_false_iff_ne]
    intro e
    exact hz (UInt8.toNat_inj.1 (by have : (48 : UInt8).toNat = 48 := rfl; omega))
def slLen : Value → Nat | .slice _ n _ => n | _ => 0
set_option maxRecDepth 100000 in
set_option maxHeartbeats 3200000 in
/-- Zeros at the end go. -/
theorem nano_nines (S k ns : Nat) (comma : Bool) (hS : FrNo S 35 k comma) (hns : ns ≤ 999999999) (h0 : 0 < k) (h00 : 0 < ns) (h : BSt w0 v0 base xs w v l n) (hn : n + 100 ≤ 140737488351232) :
    Calls Tryd.prog 107 #[v, .int .i64 ns, .int .i64 S] w (BPost w0 v0 base xs (l ++ nanoL ns k comma true) (n + 21)) := by
  have ha : bits .and .i64 (S : Int) 65535 = 35 := hS.and
  have hk : (k : Int) < 4096 := by have := hS.2.2; omega
  have HS := hideP hS
  have HB := hideP h
  have HL0 := hideP (show trimZ ((padL 48 ns 9).take k) = [] → nanoL ns k comma true = [] by intro e; unfold nanoL; rw [if_neg (by omega), if_pos rfl, if_pos e])
  have HL1 := hideP (show trimZ ((padL 48 ns 9).take k) ≠ [] → nanoL ns k comma true = markC comma :: trimZ ((padL 48 ns 9).take k) by intro e; unfold nanoL markC; rw [if_neg (by omega), if_pos rfl, if_neg e])
  have H9 := hideP (padL9 hns)
  have HDG := hideP (padL_digits ns 9)
  have hlen := h.len
  have hk2 : ((k : Int) == 0) = false := by rw [beq_eq_false_iff_ne]; omega
  have hns2 : ((ns : Int) == 0) = false := by rw [beq_eq_false_iff_ne]; omega
  clear hS h
  go_enter Tryd.func107, Tryd.ntmps107
  go_wp2_with (first
    | (go_at_call 128; refine (HS.out.digs _).mono ?_; rintro e w1 ⟨rfl, rfl⟩)
    | (go_at_call 129; refine (HS.out.sep2 _).mono ?_; rintro e w1 ⟨rfl, rfl⟩)
    | (at_builtin; refine wpList_bst_one (markC comma) _ _ rfl _ _ rfl HB.out rfl rfl rfl (by omega) ?_; intro v1 w1 hb1; have HB1 := hideP hb1; clear hb1))
  refine (int_bst ns 9 HB1.out (by omega) (by omega) (by omega) (by omega)).mono ?_
  rintro e w2 ⟨v2, rfl, hb2⟩
  obtain ⟨g, cap, rfl, h1, h2, h3, h4⟩ := hb2.shape
  obtain ⟨P, hP⟩ : ∃ P, P = xs.length + l.length := ⟨_, rfl⟩
  have hPL : xs.length + ((l ++ [markC comma]) ++ padL 48 ns 9).length = P + 10 := by rw [List.length_append, List.length_append, H9.out, hP]; simp; omega
  rw [hPL] at h1 hb2 ⊢
  have hPb : P ≤ 140737488351132 := by omega
  generalize padL 48 ns 9 = D at *
  have HB2 := hideP hb2
  have HP := hideP hP
  clear hb2 hP hPL HB1 hlen ha
  unfold maxLen at h2
  obtain ⟨q0, hq0, hkq⟩ : ∃ q0 : Nat, q0 = P + min k 9 ∧ P + 1 ≤ q0 := ⟨P + min k 9, rfl, by omega⟩
  have HN := hideP (show NaI w2 base g cap (xs ++ bytes l) (markC comma) D P (min k 9) q0 by
    have hc := (HB2.out.text (m := ((l ++ [markC comma]) ++ D.take (min k 9)) ++ D.drop (min k 9)) (by rw [List.append_assoc (l ++ [markC comma]), List.take_append_drop])).cut
    have el : xs.length + ((l ++ [markC comma]) ++ D.take (min k 9)).length = q0 + 1 := by
      rw [List.length_append, List.length_append, List.length_take, H9.out, List.length_singleton, hq0, HP.out]; omega
    rw [el] at hc
    have e2 : q0 - P = min k 9 := by omega
    refine ⟨by omega, by omega, by rw [H9.out]; omega, by rw [List.length_append, bytes_length]; exact HP.out, ?_, by rw [e2]⟩
    rw [e2]
    have := hc.buf
    rw [show (l ++ [markC comma]) ++ D.take (min k 9) = l ++ (markC comma :: D.take (min k 9)) from by rw [List.append_assoc]; rfl, bytes_append, ← List.append_assoc] at this
    exact this)
  have HM := hideP HB2.out.mov
  have HTK := hideP (show D.take k = D.take (min k 9) by
    rcases Nat.lt_or_ge k 9 with e | e
    · rw [Nat.min_eq_left (by omega)]
    · rw [Nat.min_eq_right e, List.take_of_length_le (by rw [H9.out]; exact e), List.take_of_length_le (by rw [H9.out]; exact Nat.le_refl _)])
  have HD9 := hideP (show (D.take k).length ≤ 9 from by rw [HTK.out, List.length_take]; omega)
  by_cases hk9 : (k : Int) < 9
  case' pos =>
    have hqk : P + 10 - 9 + k = q0 + 1 := by omega
    have HQK := hideP hqk
    clear hqk
    go_upto_if 43 with (fail)
    rw [HQK.out]
  case' neg =>
    have hqk : P + 10 = q0 + 1 := by omega
    have HQK := hideP hqk
    clear hqk
    go_upto_if 43 with (fail)
    rw [HQK.out]
  all_goals
    have hq0b : (q0 : Int) ≤ 140737488352000 := by omega
    have HQ0 := hideP hq0
    clear hq0 hkq h1 hPb
    go_wp2
    go_loop [0] (fun b => ∃ q : Nat, b = .slice (some ⟨g, 0, none⟩) (q + 1) cap ∧ (q : Int) ≤ 140737488352000 ∧ NaI w2 base g cap (xs ++ bytes l) (markC comma) D P (min k 9) q) (fun b => slLen b)
    case atStart => exact ⟨q0, rfl, hq0b, HN.out⟩
    case round =>
      obtain ⟨q, rfl, hqb, hN⟩ := hrel
      obtain ⟨hr1, hr2⟩ := hN.room
      have hml := markC_lt comma
      have hm48 : (((markC comma).toNat : Int) == 48) = false := markC_48 comma
      rcases Nat.eq_or_lt_of_le hN.le with hqP | hqP
      · subst hqP
        have hcell := hN.at0
        unfold u8 at hcell
        obtain ⟨d1, d2⟩ := hN.done0
        have HD1 := hideP d1
        have HD2 := hideP (HL0.out (by rw [HTK.out]; exact d2))
        clear hN d1 d2
        go_wp2
        go_ret
        exact ⟨_, rfl, ⟨by rw [HD2.out, List.append_nil]; exact HD1.out, ⟨HM.out.grown, HM.out.place⟩, HB.out.base_le, by rw [HD2.out, List.append_nil]; have := HB.out.len; omega⟩⟩
      · obtain ⟨c, hcell, hcase⟩ := na_digit hN hqP H9.out HDG.out
        have hdm : ((c : Int) == ((markC comma).toNat : Int)) = false := hcase.1
        rcases hcase.2 with ⟨hz2, hnx⟩ | ⟨hz2, d1, d2⟩
        · have HNX := hideP hnx
          have HQ1 := hideP (show 1 ≤ q by omega)
          clear hN hnx hdm hcase hqP
          go_wp2
          go_round
          case rel => exact ⟨q - 1, by rw [Nat.sub_add_cancel HQ1.out], by omega, HNX.out⟩
          case measure => simp [slLen]
        · have HD1 := hideP d1
          rw [← HTK.out] at d2
          have HD2 := hideP (HL1.out d2)
          have HLE := hideP (show (trimZ (D.take k)).length ≤ 9 from Nat.le_trans (trimZ_le _) HD9.out)
          clear hN d1 d2 hcase hqP
          go_wp2
          go_ret
          exact ⟨_, rfl, ⟨by rw [HD2.out, HTK.out, bytes_append, ← List.append_assoc]; exact HD1.out, ⟨HM.out.grown, HM.out.place⟩, HB.out.base_le, by rw [HD2.out]; have := HB.out.len; have := HLE.out; simp only [List.length_append, List.length_cons]; omega⟩⟩
/-- What appendNano appends. -/
theorem nano_bst (S c k ns : Nat) (comma : Bool) (hS : FrNo S c k comma) (hc : c = 34 ∨ c = 35) (hns : ns ≤ 999999999) (h : BSt w0 v0 base xs w v l n) (hn : n + 100 ≤ 140737488351232) :
    Calls Tryd.prog 107 #[v, .int .i64 ns, .int .i64 S] w (BPost w0 v0 base xs (l ++ nanoL ns k comma (c == 35)) (n + 21)) := by
  rcases hc with rfl | rfl
  · exact nano_zeros S k ns comma hS hns h hn
  · by_cases hz : k = 0 ∨ ns = 0
    · refine (nano_none S k ns comma hS hns h hz).mono ?_
      rintro e w' ⟨v', rfl, hb⟩
      refine ⟨v', rfl, (hb.text ?_).more (by omega)⟩
      show l = l ++ nanoL ns k comma true
      unfold nanoL
      rw [if_pos ⟨rfl, hz⟩, List.append_nil]
    · exact nano_nines S k ns comma hS hns (by omega) (by omega) h hn
end
end Go.Proofs.YtigabjibdepoiaaDoor.Tm
