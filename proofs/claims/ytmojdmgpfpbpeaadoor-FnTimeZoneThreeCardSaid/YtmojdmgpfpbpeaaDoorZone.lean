/- The walk of parseTimeZone. -/
import Derived.Test.YtmojdmgpfpbpeaaDoorSOff
namespace Go.Proofs.YtmojdmgpfpbpeaaDoor.Tm
open Go.RowKit Go

def isUp (c : UInt8) : Bool := decide (65 ≤ c.toNat) && decide (c.toNat ≤ 90)
def upper (l : List UInt8) : Nat := ((l.take 6).takeWhile isUp).length
/-- The length of GMT with a signed number of hours behind it. -/
def gmtLen (l : List UInt8) : Nat := 3 + soff (l.drop 3)
/-- The length of an abbreviation that a text begins with, and whether there is one: once the letters are counted. -/
def tzUp (l : List UInt8) (n : Nat) : Nat × Bool :=
  if n = 3 then (3, true)
  else if n = 4 then (if (l[3]?.any fun c => c.toNat == 84) || (l.take 4 == [87, 73, 84, 65]) then (4, true) else (0, false))
  else if n = 5 then (if l[4]?.any fun c => c.toNat == 84 then (5, true) else (0, false))
  else (0, false)
def tzRest (l : List UInt8) : Nat × Bool :=
  if l.take 3 == [71, 77, 84] then (gmtLen l, true)
  else if (l[0]?.any fun c => c.toNat == 43) || (l[0]?.any fun c => c.toNat == 45) then (soff l, decide (0 < soff l))
  else tzUp l (upper l)
def tzP (l : List UInt8) : Nat × Bool :=
  if l.length < 3 then (0, false)
  else if (l.take 4 == [67, 104, 83, 84]) || (l.take 4 == [77, 101, 83, 84]) then (4, true)
  else tzRest l

theorem toList_take (s : ByteArray) (n : Nat) : (s.extract 0 n).toList = (bl s).take n := by
  rw [toList_eq, bl_extract, List.drop_zero]
theorem get_some (s : ByteArray) (k : Nat) (h : k < s.size) : (bl s)[k]? = some s[k] := by
  rw [List.getElem?_eq_getElem (by rw [bl_length]; exact h)]; rfl

def UpAt (s : ByteArray) (n : Nat) : Prop := n ≤ 6 ∧ n ≤ s.size ∧ ∀ c ∈ (bl s).take n, isUp c = true
theorem up_step (s : ByteArray) (n : Nat) (h : UpAt s n) (h6 : n < 6) (hlt : n < s.size) (h1 : (65 : Int) ≤ ↑s[n].toNat) (h2 : (↑s[n].toNat : Int) ≤ 90) : UpAt s (n + 1) := by
  refine ⟨by omega, hlt, ?_⟩
  rw [bl_take s n hlt]
  intro c hc
  rcases List.mem_append.1 hc with hc | hc
  · exact h.2.2 c hc
  · obtain rfl := List.mem_singleton.1 hc
    rw [isUp, decide_eq_true (by omega), decide_eq_true (by omega)]; rfl
theorem up_end (s : ByteArray) (n : Nat) (h : UpAt s n) (hs : n = 6 ∨ (∀ hlt : n < s.size, (↑s[n].toNat : Int) < 65 ∨ (90 : Int) < (↑s[n].toNat))) : upper (bl s) = n := by
  obtain ⟨h1, h2, h3⟩ := h
  have key : ((bl s).take 6).takeWhile isUp = (bl s).take n := by
    have := takeWhile_at isUp ((bl s).take 6) n (by rw [List.take_take, Nat.min_eq_left h1]; exact h3) (by
      intro c hc
      rw [List.getElem?_take] at hc
      split at hc
      · rename_i hn6
        obtain ⟨hlt, rfl⟩ := List.getElem?_eq_some_iff.1 hc
        rw [bl_length] at hlt
        rcases hs with rfl | hs
        · omega
        · have := hs hlt
          show isUp s[n] = false
          have : ¬ (65 ≤ s[n].toNat ∧ s[n].toNat ≤ 90) := by omega
          simpa [isUp] using this
      · cases hc)
    rw [this, List.take_take, Nat.min_eq_left h1]
  rw [upper, key, List.length_take, bl_length]; omega

theorem soff_le (l : List UInt8) : soff l ≤ l.length := by
  cases l with
  | nil => simp [soff]
  | cons c r =>
    rw [soff_cons]
    split
    · have := digs_le r; simp; omega
    · simp
set_option maxHeartbeats 400000 in
theorem gmt_any (s : ByteArray) (z : Int) (T : TypeId) (x : Value) (w : World) (hs : s.size ≤ 140737488351232) (h3 : 3 ≤ s.size) (hV : w.cell? ⟨0, 0, none⟩ = some (.iface T x)) (hz : (gmtLen (bl s) : Int) = z) :
    Calls Tryd.prog 28 #[.string s] w fun e w' => e = .returned (.int .i64 z) ∧ Below w.heap.size w w' := by
  have hsz : (s.extract 3 s.size).size = s.size - 3 := by rw [ByteArray.size_extract]; omega
  have hd := bl_extract_end s 3
  rw [gmtLen, ← hd] at hz
  have hle := soff_le (bl (s.extract 3 s.size))
  rw [bl_length] at hle
  by_cases h : s.size = 3
  · have e : bl (s.extract 3 s.size) = [] := List.eq_nil_of_length_eq_zero (by rw [bl_length]; omega)
    rw [e] at hz
    have HZ := hideP hz; clear hz hle hd e
    have t : ((s.size : Int) - 3 == 0) = true := by rw [beq_iff_eq]; omega
    have HS := hideP hsz; clear hsz
    go_enter Tryd.func28, Tryd.ntmps28
    go_wp2
    go_ret
    exact ⟨soff_ret (by have := HZ.out; simpa [soff] using this), Below.refl _ _⟩
  · have HZ := hideP hz; clear hz hd
    have t : ((s.size : Int) - 3 == 0) = false := by rw [beq_eq_false_iff_ne]; omega
    have hpos : 0 < (s.extract 3 s.size).size := by omega
    have hbig : (s.extract 3 s.size).size ≤ 140737488351232 := by omega
    have hle2 : soff (bl (s.extract 3 s.size)) ≤ 140737488351232 := by omega
    obtain ⟨v, hv⟩ : ∃ v : Nat, v = soff (bl (s.extract 3 s.size)) := ⟨_, rfl⟩
    rw [← hv] at hle2
    have HVV := hideP hv; clear hv hle
    have HS := hideP hsz; clear hsz
    have HP := hideP hpos; clear hpos
    have HB := hideP hbig; clear hbig
    go_enter Tryd.func28, Tryd.ntmps28
    go_wp2_with (go_at_call 21; refine (soff_any _ T x _ HB.out HP.out hV).mono ?_; rintro e w1 ⟨rfl, hb⟩; rw [← HVV.out])
    go_ret
    exact ⟨soff_ret (by have := HZ.out; rw [← HVV.out] at this; omega), hb⟩

theorem ret2_ib {a b : Int} {c d : Bool} (h : a = b) (g : c = d) : Ending.returned (.tuple #[.int .i64 a, .bool c]) = .returned (.tuple #[.int .i64 b, .bool d]) := by rw [h, g]
def TzRes (a : Int) (b : Bool) (w : World) (e : Ending) (w' : World) : Prop := e = .returned (.tuple #[.int .i64 a, .bool b]) ∧ Below w.heap.size w w'
theorem byte_beq (s : ByteArray) (k : Nat) (h : k < s.size) (n : Nat) (m : Int) (hm : (n : Int) = m) : ((bl s)[k]?.any fun c => c.toNat == n) = ((s[k].toNat : Int) == m) := by
  rw [get_some s k h, Option.any_some, Bool.eq_iff_iff, beq_iff_eq, beq_iff_eq]; omega

theorem up_pick (k : Nat) (h : k ≤ 6) : (k = 0 ∧ ((k : Int) == 0) = true ∧ ((k : Int) == 1) = false ∧ ((k : Int) == 2) = false ∧ ((k : Int) == 6) = false ∧ ((k : Int) == 5) = false ∧ ((k : Int) == 4) = false ∧ ((k : Int) == 3) = false) ∨
    (k = 1 ∧ ((k : Int) == 0) = false ∧ ((k : Int) == 1) = true ∧ ((k : Int) == 2) = false ∧ ((k : Int) == 6) = false ∧ ((k : Int) == 5) = false ∧ ((k : Int) == 4) = false ∧ ((k : Int) == 3) = false) ∨
    (k = 2 ∧ ((k : Int) == 0) = false ∧ ((k : Int) == 1) = false ∧ ((k : Int) == 2) = true ∧ ((k : Int) == 6) = false ∧ ((k : Int) == 5) = false ∧ ((k : Int) == 4) = false ∧ ((k : Int) == 3) = false) ∨
    (k = 3 ∧ ((k : Int) == 0) = false ∧ ((k : Int) == 1) = false ∧ ((k : Int) == 2) = false ∧ ((k : Int) == 6) = false ∧ ((k : Int) == 5) = false ∧ ((k : Int) == 4) = false ∧ ((k : Int) == 3) = true) ∨
    (k = 4 ∧ ((k : Int) == 0) = false ∧ ((k : Int) == 1) = false ∧ ((k : Int) == 2) = false ∧ ((k : Int) == 6) = false ∧ ((k : Int) == 5) = false ∧ ((k : Int) == 4) = true ∧ ((k : Int) == 3) = false) ∨
    (k = 5 ∧ ((k : Int) == 0) = false ∧ ((k : Int) == 1) = false ∧ ((k : Int) == 2) = false ∧ ((k : Int) == 6) = false ∧ ((k : Int) == 5) = true ∧ ((k : Int) == 4) = false ∧ ((k : Int) == 3) = false) ∨
    (k = 6 ∧ ((k : Int) == 0) = false ∧ ((k : Int) == 1) = false ∧ ((k : Int) == 2) = false ∧ ((k : Int) == 6) = true ∧ ((k : Int) == 5) = false ∧ ((k : Int) == 4) = false ∧ ((k : Int) == 3) = false) := by
  rcases (show k = 0 ∨ k = 1 ∨ k = 2 ∨ k = 3 ∨ k = 4 ∨ k = 5 ∨ k = 6 by omega) with rfl | rfl | rfl | rfl | rfl | rfl | rfl <;> decide
section
variable (s : ByteArray) (k : Nat) {a : Int} {b : Bool}
theorem tzUpElse (h3 : k ≠ 3) (h4 : k ≠ 4) (h5 : k ≠ 5) (ha : ((tzUp (bl s) k).1 : Int) = a) (hb : (tzUp (bl s) k).2 = b) : (0 : Int) = a ∧ false = b := by
  rw [tzUp, if_neg h3, if_neg h4, if_neg h5] at ha hb; exact ⟨ha, hb⟩
theorem tzUp3 (h3 : k = 3) (ha : ((tzUp (bl s) k).1 : Int) = a) (hb : (tzUp (bl s) k).2 = b) : (3 : Int) = a ∧ true = b := by
  rw [tzUp, if_pos h3] at ha hb; exact ⟨ha, hb⟩
theorem tzUp4 (h : k = 4) (hx : 3 < s.size) (ha : ((tzUp (bl s) k).1 : Int) = a) (hb : (tzUp (bl s) k).2 = b) :
    (if ((s[3].toNat : Int) == 84) || ((s.extract 0 4).toList == [87, 73, 84, 65]) then (4 : Int) else 0) = a ∧ (if ((s[3].toNat : Int) == 84) || ((s.extract 0 4).toList == [87, 73, 84, 65]) then true else false) = b := by
  rw [tzUp, if_neg (by omega), if_pos h, byte_beq s 3 hx 84 84 rfl, ← toList_take] at ha hb
  generalize (((s[3].toNat : Int) == 84) || ((s.extract 0 4).toList == [87, 73, 84, 65])) = c at *
  cases c <;> exact ⟨ha, hb⟩
theorem tzUp5 (h : k = 5) (hx : 4 < s.size) (ha : ((tzUp (bl s) k).1 : Int) = a) (hb : (tzUp (bl s) k).2 = b) :
    (if ((s[4].toNat : Int) == 84) then (5 : Int) else 0) = a ∧ (if ((s[4].toNat : Int) == 84) then true else false) = b := by
  rw [tzUp, if_neg (by omega), if_neg (by omega), if_pos h, byte_beq s 4 hx 84 84 rfl] at ha hb
  generalize ((s[4].toNat : Int) == 84) = c at *
  cases c <;> exact ⟨ha, hb⟩
end
/-- What is known of the first four bytes, where they are neither ChST nor MeST. -/
def NoFour (s : ByteArray) : Prop := s.size < 4 ∨ (4 ≤ s.size ∧ ((s.extract 0 4).toList == [67, 104, 83, 84]) = false ∧ ((s.extract 0 4).toList == [77, 101, 83, 84]) = false)
set_option maxHeartbeats 3200000 in
theorem tz_gmt (s : ByteArray) (a : Int) (T : TypeId) (x : Value) (w : World) (hs : s.size ≤ 140737488351232) (h3 : 3 ≤ s.size) (hV : w.cell? ⟨0, 0, none⟩ = some (.iface T x)) (h4 : NoFour s) (t3 : ((s.extract 0 3).toList == [71, 77, 84]) = true) (ha : (gmtLen (bl s) : Int) = a) :
    Calls Tryd.prog 23 #[.string s] w (TzRes a true w) := by
  have HA := hideP ha; clear ha
  rcases h4 with h4 | ⟨h4, t1, t2⟩
  all_goals
    go_enter Tryd.func23, Tryd.ntmps23
    go_wp2_with (go_at_call 28; refine (gmt_any s a T x _ hs h3 hV HA.out).mono ?_; rintro e w1 ⟨rfl, hb⟩)
    go_ret2
    exact ⟨rfl, hb⟩
set_option maxHeartbeats 3200000 in
theorem tz_sign (s : ByteArray) (a : Int) (b : Bool) (T : TypeId) (x : Value) (w : World) (hs : s.size ≤ 140737488351232) (h3 : 3 ≤ s.size) (hV : w.cell? ⟨0, 0, none⟩ = some (.iface T x)) (h4 : NoFour s) (t3 : ((s.extract 0 3).toList == [71, 77, 84]) = false)
    (t5 : ((s[0].toNat : Int) == 43) = true ∨ (((s[0].toNat : Int) == 43) = false ∧ ((s[0].toNat : Int) == 45) = true)) (ha : (soff (bl s) : Int) = a) (hb : decide (0 < a) = b) :
    Calls Tryd.prog 23 #[.string s] w (TzRes a b w) := by
  have HB := hideP hb; clear hb
  have HA := hideP ha; clear ha
  rcases h4 with h4 | ⟨h4, t1, t2⟩
  all_goals
    rcases t5 with t5 | ⟨t5, t6⟩
    all_goals
      go_enter Tryd.func23, Tryd.ntmps23
      go_wp2_with (go_at_call 21; refine (soff_any s T x _ hs (by omega) hV).mono ?_; rintro e w1 ⟨rfl, hb⟩; rw [HA.out])
      go_ret2
      exact ⟨ret2_ib rfl HB.out, hb⟩
set_option maxHeartbeats 6400000 in
theorem tz_up (s : ByteArray) (a : Int) (b : Bool) (w : World) (hs : s.size ≤ 140737488351232) (h3 : 3 ≤ s.size) (h4 : NoFour s) (t3 : ((s.extract 0 3).toList == [71, 77, 84]) = false)
    (t5 : ((s[0].toNat : Int) == 43) = false) (t6 : ((s[0].toNat : Int) == 45) = false) (ha : ((tzUp (bl s) (upper (bl s))).1 : Int) = a) (hb : (tzUp (bl s) (upper (bl s))).2 = b) :
    Calls Tryd.prog 23 #[.string s] w (TzRes a b w) := by
  have HA := hideP ha; clear ha
  have HB := hideP hb; clear hb
  rcases h4 with h4 | ⟨h4, t1, t2⟩
  all_goals
    go_enter Tryd.func23, Tryd.ntmps23
    go_wp2
    go_loop [5] (fun i => ∃ (k : Nat), i = .int .i64 k ∧ UpAt s k) (fun i => 6 - (intOf i).toNat)
    case atStart => exact ⟨0, rfl, by omega, by omega, by simp⟩
    case round =>
      obtain ⟨k, rfl, hk⟩ := hrel
      have hk6 := hk.1
      have hks := hk.2.1
      have HK := hideP hk; clear hk
      by_cases hgo : k < 6 ∧ ∃ hlt : k < s.size, (65 : Int) ≤ ↑s[k].toNat ∧ (↑s[k].toNat : Int) ≤ 90
      · obtain ⟨hlt6, hlt, hc1, hc2⟩ := hgo
        go_wp2
        go_round
        case rel => exact ⟨k + 1, by go_num, up_step s k HK.out hlt6 hlt hc1 hc2⟩
        case measure => simp [intOf]; omega
      · have hup : upper (bl s) = k := up_end s k HK.out (by
          by_cases h6 : k = 6
          · exact .inl h6
          · refine .inr fun hlt => ?_
            rcases Int.lt_or_le (s[k].toNat : Int) 65 with g | g
            · exact .inl g
            · exact .inr (by rcases Int.lt_or_le 90 (s[k].toNat : Int) with g2 | g2; exact g2; exact absurd ⟨by omega, hlt, g, g2⟩ hgo))
        have HU := hideP hup; clear hup
        have hstop : k = 6 ∨ (k < 6 ∧ ¬ k < s.size) ∨ (k < 6 ∧ ∃ hlt : k < s.size, (↑s[k].toNat : Int) < 65) ∨ (k < 6 ∧ ∃ hlt : k < s.size, (65 : Int) ≤ ↑s[k].toNat ∧ (90 : Int) < ↑s[k].toNat) := by
          by_cases h6 : k = 6
          · exact .inl h6
          · rcases Nat.lt_or_ge k s.size with hlt | hge
            · rcases Int.lt_or_le (s[k].toNat : Int) 65 with g | g
              · exact .inr (.inr (.inl ⟨by omega, hlt, g⟩))
              · exact .inr (.inr (.inr ⟨by omega, hlt, g, by rcases Int.lt_or_le 90 (s[k].toNat : Int) with g2 | g2; exact g2; exact absurd ⟨by omega, hlt, g, g2⟩ hgo⟩))
            · exact .inr (.inl ⟨by omega, by omega⟩)
        clear hgo
        have ha2 := HA.out
        have hb2 := HB.out
        rw [HU.out] at ha2 hb2
        clear HA HB
        have hk := up_pick k hk6
        rcases hk with ⟨hk, f0, f1, f2, f6, f5, f4, f3⟩ | ⟨hk, f0, f1, f2, f6, f5, f4, f3⟩ | ⟨hk, f0, f1, f2, f6, f5, f4, f3⟩ | ⟨hk, f0, f1, f2, f6, f5, f4, f3⟩ | ⟨hk, f0, f1, f2, f6, f5, f4, f3⟩ | ⟨hk, f0, f1, f2, f6, f5, f4, f3⟩ | ⟨hk, f0, f1, f2, f6, f5, f4, f3⟩
        case' inr.inr.inr.inr.inl =>
          have hx3 : 3 < s.size := by omega
          have hx4 : 4 ≤ s.size := by omega
          cases q1 : ((s[3].toNat : Int) == 84)
          case' false => cases q2 : ((s.extract 0 4).toList == [87, 73, 84, 65])
          all_goals
            have ha3 := (tzUp4 s k hk hx3 ha2 hb2)
            (try rw [q1] at ha3)
            (try rw [q2] at ha3)
        case' inr.inr.inr.inr.inr.inl =>
          have hx4 : 4 < s.size := by omega
          cases q1 : ((s[4].toNat : Int) == 84)
          all_goals
            have ha3 := (tzUp5 s k hk hx4 ha2 hb2)
            rw [q1] at ha3
        case' inl => have ha3 := tzUpElse s k (by omega) (by omega) (by omega) ha2 hb2
        case' inr.inl => have ha3 := tzUpElse s k (by omega) (by omega) (by omega) ha2 hb2
        case' inr.inr.inl => have ha3 := tzUpElse s k (by omega) (by omega) (by omega) ha2 hb2
        case' inr.inr.inr.inl => have ha3 := tzUp3 s k hk ha2 hb2
        case' inr.inr.inr.inr.inr.inr => have ha3 := tzUpElse s k (by omega) (by omega) (by omega) ha2 hb2
        all_goals
          obtain ⟨hA, hB⟩ := ha3
          clear ha2 hb2
          subst hA
          subst hB
          rcases hstop with g | ⟨g, g1⟩ | ⟨g, hlt, g1⟩ | ⟨g, hlt, g1, g2⟩
          all_goals
            first
              | (exfalso; omega)
              | (clear hk
                 go_wp2
                 go_ret2
                 exact ⟨rfl, Below.refl _ _⟩)
end Go.Proofs.YtmojdmgpfpbpeaaDoor.Tm
