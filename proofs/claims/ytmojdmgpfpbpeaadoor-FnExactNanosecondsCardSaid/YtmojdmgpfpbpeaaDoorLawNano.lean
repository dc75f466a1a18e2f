/- The law FnExactNanoseconds: its walk. -/
import Derived.Test.YtmojdmgpfpbpeaaDoorNano
namespace Go.Proofs.YtmojdmgpfpbpeaaDoor.Tm
open Go.RowKit Go

def cAt (l : List UInt8) (k : Nat) : Int := match l[k]? with
  | some c => (c.toNat : Int) - 48
  | none => 0
/-- What the law reckons of a text's first k places. -/
def wantAt (l : List UInt8) : Nat → Int
  | 0 => 0
  | k + 1 => wantAt l k * 10 + cAt l k
theorem cAt_bound (l : List UInt8) (k : Nat) : -48 ≤ cAt l k ∧ cAt l k ≤ 207 := by
  rw [cAt]
  split
  · rename_i c _
    have := c.toNat_lt
    omega
  · omega
theorem want_bound (l : List UInt8) (k : Nat) : -(300 * 10 ^ k : Nat) + 100 ≤ wantAt l k ∧ wantAt l k ≤ (300 * 10 ^ k : Nat) - 100 := by
  induction k with
  | zero => simp [wantAt]
  | succ k ih =>
    rw [wantAt, Nat.pow_succ]
    have := cAt_bound l k
    omega
theorem want_small (l : List UInt8) (k : Nat) (h : k ≤ 9) : -300000000000 ≤ wantAt l k ∧ wantAt l k ≤ 300000000000 := by
  have h1 := want_bound l k
  have h2 : 10 ^ k ≤ 10 ^ 9 := Nat.pow_le_pow_right (by decide) h
  omega
theorem want_digits (l : List UInt8) (k : Nat) (hk : k ≤ l.length) (h : ∀ c ∈ l.take k, isDig c = true) : wantAt l k = (dval (l.take k) : Nat) := by
  induction k with
  | zero => simp [wantAt, dval, dvalFrom_nil]
  | succ k ih =>
    have hl : k < l.length := by omega
    rw [List.take_succ_eq_append_getElem hl] at h ⊢
    have hc := (isDig_iff _).1 (h l[k] (List.mem_append_right _ (List.mem_singleton.2 rfl)))
    rw [wantAt, ih (by omega) (fun c hc => h c (List.mem_append_left _ hc)), dval, dval, dvalFrom_append, dvalFrom_cons, dvalFrom_nil, cAt, List.getElem?_eq_getElem hl]
    simp only []
    omega
theorem want_beyond (l : List UInt8) (j : Nat) : wantAt l (l.length + j) = wantAt l l.length * (10 ^ j : Nat) := by
  induction j with
  | zero => simp
  | succ j ih =>
    rw [← Nat.add_assoc, wantAt, ih, cAt, List.getElem?_eq_none (by omega), Nat.pow_succ]
    simp [Int.mul_assoc]
theorem want_nine (l : List UInt8) (h : ∀ c ∈ l.take 9, isDig c = true) : wantAt l 9 = (dval (l.take 9) * 10 ^ (9 - min l.length 9) : Nat) := by
  rcases Nat.lt_or_ge l.length 9 with g | g
  · have h1 := want_beyond l (9 - l.length)
    rw [show l.length + (9 - l.length) = 9 from by omega] at h1
    rw [h1, want_digits l l.length (Nat.le_refl _) (by rw [List.take_length]; rwa [List.take_of_length_le (by omega)] at h), List.take_length, List.take_of_length_le (show l.length ≤ 9 by omega), Nat.min_eq_left (by omega)]
    simp
  · rw [want_digits l 9 g h, Nat.min_eq_right g]; simp

def fineAt (l : List UInt8) (k : Nat) : Bool := (l.take k).all isDig
theorem fine_zero (l : List UInt8) : fineAt l 0 = true := rfl
theorem fine_succ (s : ByteArray) (k : Nat) (h : k < s.size) : fineAt (bl s) (k + 1) = (fineAt (bl s) k && isDig s[k]) := by
  rw [fineAt, bl_take s k h, List.all_append, fineAt]; simp
theorem fine_iff (l : List UInt8) (k : Nat) : fineAt l k = true ↔ ∀ c ∈ l.take k, isDig c = true := by rw [fineAt, List.all_eq_true]
theorem fine_end (l : List UInt8) (k : Nat) (hk : k ≤ 9) (hend : ¬ (k < l.length ∧ k < 9)) : fineAt l k = fineAt l 9 := by
  rcases Nat.lt_or_ge k 9 with g | g
  · rw [fineAt, fineAt, List.take_of_length_le (by omega), List.take_of_length_le (by omega)]
  · rw [show k = 9 from by omega]

theorem frac_join (m : UInt8) (d r : List UInt8) : fracOf (m :: (d ++ r)) (d.length + 1) = d.take 9 := by
  rw [fracOf]
  rcases Nat.lt_or_ge d.length 9 with g | g
  · rw [Nat.min_eq_left (by omega), List.take_succ_cons, List.drop_succ_cons, List.drop_zero, List.take_of_length_le (show d.length ≤ 9 by omega), List.take_left]
  · rw [Nat.min_eq_right (by omega), List.take_succ_cons, List.drop_succ_cons, List.drop_zero, List.take_append_of_le_length g]
theorem body_plain (l : List UInt8) (h : ∀ c, l[0]? = some c → isSign c = false) : bodyOf l = l ∧ isNeg l = false := by
  cases l with
  | nil => exact ⟨rfl, rfl⟩
  | cons c r =>
    have := h c rfl
    rw [bodyOf_cons, isNeg_cons, this]
    refine ⟨by simp, ?_⟩
    rw [isSign, Bool.or_eq_false_iff] at this
    exact this.2
theorem take_first (l : List UInt8) : (l.take 9)[0]? = l[0]? := by simp

set_option maxHeartbeats 400000 in
theorem nanoImpl_yes (s : ByteArray) (n : Nat) (v : Nat) (V : Value) (w : World) (hs : s.size ≤ 140737488351232) (h0 : 0 < s.size) (h1 : 1 ≤ n) (hn : n ≤ s.size) (hV : w.cell? ⟨0, 0, none⟩ = some V)
    (hm : MarkAt s h0) (h : ∀ c ∈ bodyOf (fracOf (bl s) n), isDig c = true) (hneg : isNeg (fracOf (bl s) n) = false) (hv : nanoVal (bl s) n = v) :
    Calls Tryd.prog 10 #[.string s, .int .i64 n] w fun e w' => e = .returned (.tuple #[.int .i64 v, .bool true]) ∧ Below w.heap.size w w' := by
  have H := hideP h; clear h
  have HN := hideP hneg; clear hneg
  have HM := hideP hm; clear hm
  have HV := hideP hv; clear hv
  go_enter Tryd.func10, Tryd.ntmps10
  go_wp2_with (first | (go_at_call 22; refine (nano_yes s n V _ hs h0 h1 hn hV HM.out H.out HN.out).mono ?_; rintro e w1 ⟨rfl, hb⟩; rw [HV.out]) | go_in)
  go_ret3
  simp only []
  go_wp2
  go_ret2
  exact ⟨rfl, hb⟩
set_option maxHeartbeats 400000 in
theorem nanoImpl_no (s : ByteArray) (n : Nat) (T TA : TypeId) (x xA : Value) (w : World) (hs : s.size ≤ 140737488351232) (h0 : 0 < s.size) (h1 : 1 ≤ n) (hn : n ≤ s.size) (hV : w.cell? ⟨0, 0, none⟩ = some (.iface T x)) (hgA : 3 < w.heap.size) (hA : w.cell? ⟨3, 0, none⟩ = some (.iface TA xA))
    (hm : MarkAt s h0) (h : ¬ ∀ c ∈ bodyOf (fracOf (bl s) n), isDig c = true) :
    Calls Tryd.prog 10 #[.string s, .int .i64 n] w fun e w' => e = .returned (.tuple #[.int .i64 0, .bool false]) ∧ Below w.heap.size w w' := by
  have H := hideP h; clear h
  have HM := hideP hm; clear hm
  go_enter Tryd.func10, Tryd.ntmps10
  go_wp2_with (first | (go_at_call 22; refine (nano_no s n T TA x xA _ hs h0 h1 hn hV hgA hA HM.out H.out).mono ?_; rintro e w1 ⟨rfl, hb⟩) | go_in)
  go_ret3
  simp only []
  go_wp2
  go_ret2
  exact ⟨rfl, hb⟩

theorem ba_append_size (a b : ByteArray) : (a ++ b).size = a.size + b.size := ByteArray.size_append
theorem bl_join (c : UInt8) (d r : ByteArray) : bl (⟨#[c]⟩ ++ d ++ r) = c :: (bl d ++ bl r) := by
  rw [bl_append, bl_append]; rfl
theorem join_size (c : UInt8) (d r : ByteArray) : ((⟨#[c]⟩ : ByteArray) ++ d ++ r).size = 1 + d.size + r.size := by
  rw [ByteArray.size_append, ByteArray.size_append]; rfl
theorem mark_join (c : UInt8) (d r : ByteArray) (hc : c.toNat = 46 ∨ c.toNat = 44) : MarkAt ((⟨#[c]⟩ : ByteArray) ++ d ++ r) (by rw [join_size]; omega) := by
  have h : (bl ((⟨#[c]⟩ : ByteArray) ++ d ++ r))[0]? = some c := by rw [bl_join]; rfl
  obtain ⟨hlt, he⟩ := List.getElem?_eq_some_iff.1 h
  have e : ((⟨#[c]⟩ : ByteArray) ++ d ++ r)[0]'(by rw [join_size]; omega) = c := he
  rw [MarkAt, e]; exact hc
theorem plain_start (d : ByteArray) (h : ∀ h0 : 0 < d.size, ((d[0].toNat : Int) == 43) = false ∧ ((d[0].toNat : Int) == 45) = false) : ∀ c, (bl d)[0]? = some c → isSign c = false := by
  intro c hc
  obtain ⟨hlt, rfl⟩ := List.getElem?_eq_some_iff.1 hc
  rw [bl_length] at hlt
  have := h hlt
  simp only [beq_eq_false_iff_ne] at this
  show isSign d[0] = false
  rw [isSign, Bool.or_eq_false_iff, beq_eq_false_iff_ne, beq_eq_false_iff_ne]
  omega

/-- What the law's last call answers. -/
theorem nano_law (c : UInt8) (d r : ByteArray) (T TA : TypeId) (x xA : Value) (w : World) (hc : c.toNat = 46 ∨ c.toNat = 44) (hd : d.size ≤ 2147483647) (hr : r.size ≤ 2147483647) (hV : w.cell? ⟨0, 0, none⟩ = some (.iface T x)) (hgA : 3 < w.heap.size) (hA : w.cell? ⟨3, 0, none⟩ = some (.iface TA xA))
    (hp : ∀ c, (bl d)[0]? = some c → isSign c = false) :
    Calls Tryd.prog 10 #[.string (⟨#[c]⟩ ++ d ++ r), .int .i64 ((d.size : Int) + 1)] w fun e w' => ((fineAt (bl d) 9 = true ∧ e = .returned (.tuple #[.int .i64 (wantAt (bl d) 9), .bool true])) ∨ (fineAt (bl d) 9 = false ∧ e = .returned (.tuple #[.int .i64 0, .bool false]))) ∧ Below w.heap.size w w' := by
  have e1 : fracOf (bl (⟨#[c]⟩ ++ d ++ r)) (d.size + 1) = (bl d).take 9 := by rw [bl_join, ← bl_length d]; exact frac_join _ _ _
  have e2 := body_plain ((bl d).take 9) (by rw [take_first]; exact hp)
  have hs := join_size c d r
  rw [show ((d.size : Int) + 1) = ((d.size + 1 : Nat) : Int) from by omega]
  by_cases hf : fineAt (bl d) 9 = true
  · have hall := (fine_iff _ _).1 hf
    refine (nanoImpl_yes _ _ (dval ((bl d).take 9) * 10 ^ (9 - min d.size 9)) _ w (by omega) (by omega) (by omega) (by omega) hV (mark_join c d r hc) (by rw [e1, e2.1]; exact hall) (by rw [e1]; exact e2.2) ?_).mono fun e w' ⟨he, hb⟩ => ⟨.inl ⟨hf, ?_⟩, hb⟩
    · rw [nanoVal, e1, e2.1]; congr 2; omega
    · rw [he, want_nine _ hall, bl_length]
  · refine (nanoImpl_no _ _ T TA x xA w (by omega) (by omega) (by omega) (by omega) hV hgA hA (mark_join c d r hc) (by rw [e1, e2.1]; exact fun h => hf ((fine_iff _ _).2 h))).mono fun e w' ⟨he, hb⟩ => ⟨.inr ⟨by simpa using hf, he⟩, hb⟩
theorem nano_half (V : Value) (w : World) (hV : w.cell? ⟨0, 0, none⟩ = some V) :
    Calls Tryd.prog 10 #[.string ⟨#[46, 53]⟩, .int .i64 2] w fun e w' => e = .returned (.tuple #[.int .i64 500000000, .bool true]) ∧ Below w.heap.size w w' :=
  nanoImpl_yes ⟨#[46, 53]⟩ 2 500000000 V w (by decide) (by decide) (by decide) (by decide) hV (.inl (by decide)) (by decide) (by decide) (by decide)
end Go.Proofs.YtmojdmgpfpbpeaaDoor.Tm
