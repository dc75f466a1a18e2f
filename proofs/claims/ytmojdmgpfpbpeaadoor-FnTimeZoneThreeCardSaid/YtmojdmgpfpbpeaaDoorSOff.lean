/- The walk of parseSignedOffset and of what calls it plainly. -/
import Derived.Test.YtmojdmgpfpbpeaaDoorLead2
namespace Go.Proofs.YtmojdmgpfpbpeaaDoor.Tm
open Go.RowKit Go

theorem extract_zero (s : ByteArray) : s.extract 0 s.size = s := by
  apply ba_ext; rw [bl_extract_end, List.drop_zero]
theorem size_of_bl {s : ByteArray} {l : List UInt8} (h : bl s = l) : s.size = l.length := by rw [← h, bl_length]
theorem digs_le (l : List UInt8) : (digs l).length ≤ l.length := by
  rw [digs]
  have h := congrArg List.length (List.takeWhile_append_dropWhile (p := isDig) (l := l))
  rw [List.length_append] at h
  omega
theorem toList_ne_of_size {a b : ByteArray} (h : a.size ≠ b.size) : (a.toList == b.toList) = false := by
  rw [beq_eq_false_iff_ne]
  intro e
  rw [toList_eq, toList_eq] at e
  have := congrArg List.length e
  rw [bl_length, bl_length] at this
  exact h this

theorem lead_none (s : ByteArray) (V : Value) (w : World) (hs : s.size ≤ 140737488351232) (hV : w.cell? ⟨0, 0, none⟩ = some V) (h : digs (bl s) = []) :
    Calls Tryd.prog 20 #[.string s] w fun e w' => e = .returned (.tuple #[.int .u64 0, .string s, .nilIface]) ∧ Below w.heap.size w w' := by
  refine (lead_any s V w hs hV).mono fun e w' he => ?_
  rcases he with ⟨rfl, _, hb⟩ | ⟨_, hgt, _⟩
  · rw [h]
    refine ⟨?_, hb⟩
    rw [show ([] : List UInt8).length = 0 from rfl, extract_zero]
    rfl
  · rw [h] at hgt; exact absurd hgt (by decide)
/-- The rest of a text behind its digits, where there are some. -/
def RestOf (s rem : ByteArray) : Prop := bl rem = (bl s).drop (digs (bl s)).length ∧ (s.toList == rem.toList) = false ∧ rem.size + (digs (bl s)).length = s.size
theorem lead_some (s : ByteArray) (V : Value) (w : World) (hs : s.size ≤ 140737488351232) (hV : w.cell? ⟨0, 0, none⟩ = some V) (h : digs (bl s) ≠ []) (hle : dval (digs (bl s)) ≤ 9223372036854775808) :
    Calls Tryd.prog 20 #[.string s] w fun e w' => ∃ rem, e = .returned (.tuple #[.int .u64 (dval (digs (bl s)) : Nat), .string rem, .nilIface]) ∧ RestOf s rem ∧ Below w.heap.size w w' := by
  refine (lead_any s V w hs hV).mono fun e w' he => ?_
  rcases he with ⟨rfl, _, hb⟩ | ⟨_, hgt, _⟩
  · have e1 : bl (s.extract (digs (bl s)).length s.size) = (bl s).drop (digs (bl s)).length := bl_extract_end _ _
    have e2 := size_of_bl e1
    rw [List.length_drop, bl_length] at e2
    have := digs_le (bl s)
    rw [bl_length] at this
    have hpos := List.length_pos_iff.2 h
    exact ⟨_, rfl, ⟨e1, toList_ne_of_size (by omega), by omega⟩, hb⟩
  · omega
theorem lead_err (s : ByteArray) (V : Value) (w : World) (hs : s.size ≤ 140737488351232) (hV : w.cell? ⟨0, 0, none⟩ = some V) (hgt : 9223372036854775808 < dval (digs (bl s))) :
    Calls Tryd.prog 20 #[.string s] w fun e w' => e = .returned (.tuple #[.int .u64 0, .string ⟨#[]⟩, V]) ∧ Below w.heap.size w w' := by
  refine (lead_any s V w hs hV).mono fun e w' he => ?_
  rcases he with ⟨rfl, hle, hb⟩ | ⟨rfl, _, hb⟩
  · omega
  · exact ⟨rfl, hb⟩

/-- The length of a signed number of hours that a text begins with. -/
def soff (l : List UInt8) : Nat := match l with
  | [] => 0
  | c :: r => if (c.toNat = 43 ∨ c.toNat = 45) ∧ digs r ≠ [] ∧ dval (digs r) ≤ 23 then 1 + (digs r).length else 0
theorem soff_cons (c : UInt8) (r : List UInt8) : soff (c :: r) = if (c.toNat = 43 ∨ c.toNat = 45) ∧ digs r ≠ [] ∧ dval (digs r) ≤ 23 then 1 + (digs r).length else 0 := by rw [soff]
theorem bl_first (s : ByteArray) (h : 0 < s.size) : bl s = s[0] :: bl (s.extract 1 s.size) := by
  rw [bl_extract_end, ← bl_drop s 0 h, List.drop_zero]
theorem soff_eq (s : ByteArray) (h : 0 < s.size) : soff (bl s) = if (s[0].toNat = 43 ∨ s[0].toNat = 45) ∧ digs (bl (s.extract 1 s.size)) ≠ [] ∧ dval (digs (bl (s.extract 1 s.size))) ≤ 23 then 1 + (digs (bl (s.extract 1 s.size))).length else 0 := by
  rw [bl_first s h, soff_cons]

theorem soff_ret {a b : Int} (h : a = b) : Ending.returned (.int .i64 a) = .returned (.int .i64 b) := by rw [h]
set_option maxHeartbeats 1600000 in
theorem soff_any (s : ByteArray) (T : TypeId) (x : Value) (w : World) (hs : s.size ≤ 140737488351232) (h0 : 0 < s.size) (hV : w.cell? ⟨0, 0, none⟩ = some (.iface T x)) :
    Calls Tryd.prog 21 #[.string s] w fun e w' => e = .returned (.int .i64 (soff (bl s) : Nat)) ∧ Below w.heap.size w w' := by
  have hz1 : (s.extract 1 s.size).size = s.size - 1 := by rw [ByteArray.size_extract]; omega
  have hz : (s.extract 1 s.size).size ≤ 140737488351232 := by omega
  have hsf := soff_eq s h0
  have hcase : (s[0].toNat = 43 ∧ ((s[0].toNat : Int) != 45) = true ∧ ((s[0].toNat : Int) != 43) = false) ∨ (s[0].toNat = 45 ∧ ((s[0].toNat : Int) != 45) = false ∧ ((s[0].toNat : Int) != 43) = true) ∨ (¬ (s[0].toNat = 43 ∨ s[0].toNat = 45) ∧ ((s[0].toNat : Int) != 45) = true ∧ ((s[0].toNat : Int) != 43) = true) := by
    simp only [bne_iff_ne, bne_eq_false_iff_eq]; omega
  rcases hcase with ⟨hc, t1, t2⟩ | ⟨hc, t1, t2⟩ | ⟨hc, t1, t2⟩
  case' inr.inr =>
    rw [if_neg (fun h => hc h.1)] at hsf
    have HS := hideP hsf; clear hsf hc hz1 hz
    go_enter Tryd.func21, Tryd.ntmps21
    go_wp2
    go_ret
    exact ⟨by rw [HS.out]; rfl, Below.refl _ _⟩
  all_goals
    have hsg : s[0].toNat = 43 ∨ s[0].toNat = 45 := by omega
    have HC := hideP hc; clear hc
    have HG := hideP hsg; clear hsg
    by_cases hd : digs (bl (s.extract 1 s.size)) = []
    · rw [if_neg (fun h => h.2.1 hd)] at hsf
      have HS := hideP hsf; clear hsf
      have HD := hideP hd; clear hd
      clear hz1
      go_enter Tryd.func21, Tryd.ntmps21
      go_wp2_with (go_at_call 20; refine (lead_none _ _ _ hz hV HD.out).mono ?_; rintro e w1 ⟨rfl, hb⟩)
      go_ret
      exact ⟨by rw [HS.out]; rfl, hb⟩
    · by_cases hov : 9223372036854775808 < dval (digs (bl (s.extract 1 s.size)))
      · rw [if_neg (fun h => by have := h.2.2; omega)] at hsf
        have HS := hideP hsf; clear hsf
        have HD := hideP hd; clear hd
        have HO := hideP hov; clear hov
        clear hz1
        go_enter Tryd.func21, Tryd.ntmps21
        go_wp2_with (go_at_call 20; refine (lead_err _ _ _ hz hV HO.out).mono ?_; rintro e w1 ⟨rfl, hb⟩)
        go_ret
        exact ⟨by rw [HS.out]; rfl, hb⟩
      · have hle : dval (digs (bl (s.extract 1 s.size))) ≤ 9223372036854775808 := by omega
        obtain ⟨v, hv⟩ : ∃ v : Nat, v = dval (digs (bl (s.extract 1 s.size))) := ⟨_, rfl⟩
        by_cases h23 : 23 < v
        · rw [if_neg (fun h => by have := h.2.2; omega)] at hsf
          have HS := hideP hsf; clear hsf
          have HD := hideP hd; clear hd
          have HO := hideP hle; clear hle hov
          have HV := hideP hv; clear hv
          have h23i : (23 : Int) < (v : Int) := by omega
          clear hz1 h23
          go_enter Tryd.func21, Tryd.ntmps21
          go_wp2_with (go_at_call 20; refine (lead_some _ _ _ hz hV HD.out HO.out).mono ?_; rintro e w1 ⟨rem, rfl, ⟨h1, h2, h3⟩, hb⟩; rw [← HV.out]; have H1 := hideP h1; clear h1; have H3 := hideP h3; clear h3)
          go_ret
          exact ⟨by rw [HS.out]; rfl, hb⟩
        · rw [if_pos ⟨HG.out, hd, by omega⟩] at hsf
          have HS := hideP hsf; clear hsf
          have HD := hideP hd; clear hd
          have HO := hideP hle; clear hle hov
          have HV := hideP hv; clear hv
          have h23i : ¬ (23 : Int) < (v : Int) := by omega
          have HZ := hideP hz1; clear hz1 h23
          go_enter Tryd.func21, Tryd.ntmps21
          go_wp2_with (go_at_call 20; refine (lead_some _ _ _ hz hV HD.out HO.out).mono ?_; rintro e w1 ⟨rem, rfl, ⟨h1, h2, h3⟩, hb⟩; rw [← HV.out]; have hrs : rem.size ≤ s.size := (by have := HZ.out; omega); have H1 := hideP h1; clear h1; have H3 := hideP h3; clear h3)
          go_ret
          exact ⟨soff_ret (by rw [HS.out]; have := H3.out; have := HZ.out; omega), hb⟩
end Go.Proofs.YtmojdmgpfpbpeaaDoor.Tm
