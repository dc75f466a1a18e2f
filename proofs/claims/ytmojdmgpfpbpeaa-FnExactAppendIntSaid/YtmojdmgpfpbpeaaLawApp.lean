/- The law FnExactAppendInt: its walk. -/
import Derived.Deep.RegionWith
import Derived.Test.YtmojdmgpfpbpeaaAppImpl
namespace Go.Proofs.Ytmojdmgpfpbpeaa.Tm
open Go.RowKit Go
theorem txt07 : mkB ([] ++ intL 7 2) = ⟨#[48, 55]⟩ := by
  show mkB (intL ((7 : Nat) : Int) 2) = _
  rw [intL, if_neg (by omega), Int.toNat_natCast, pad2 (by decide)]
  rfl
/-- The first call of the law, and its text. -/
theorem app07 (w : World) : Calls Try.prog 4 #[.slice none 0 0, .int .i64 7, .int .i64 2] w (fun e w' => ∃ v', e = .returned v' ∧ (convert 22 9 v').run Try.prog w' = .ok (.string ⟨#[48, 55]⟩) w' ∧ Below w.heap.size w w') := by
  refine (appImpl_any 7 2 (.slice none 0 0) [] w (by decide) (by decide) (by decide) (by decide) (by decide) (argB_nil w)).mono ?_
  rintro e w' ⟨v', rfl, hb, hbel⟩
  exact ⟨v', rfl, by rw [← txt07]; exact run_string_buf w' _ v' _ hb, hbel⟩
def LawPost (w : World) (e : Ending) (w' : World) : Prop := e = .returned (.bool true) ∧ Below w.heap.size w w'
set_option maxRecDepth 100000 in
set_option maxHeartbeats 1600000 in
theorem lawApp_short (vb : Value) (l : List UInt8) (x wd : Int) (w : World) (hv : ArgB w vb l) (hbad : 1048576 < l.length ∨ x < -4611686018427387904 ∨ 1000 < wd ∨ wd < -1000) :
    Calls Try.prog 3 #[vb, .int .i64 x, .int .i64 wd] w (LawPost w) := by
  obtain ⟨ao, cap, rfl⟩ := hv.shape
  clear hv
  by_cases hm : (l.length : Int) ≤ 2147483647
  case neg =>
    go_enter Try.func3, Try.ntmps3
    go_wp2
    go_ret
    exact ⟨rfl, Below.refl _ _⟩
  have hsp : (1048576 : Int) < l.length ∨ ((l.length : Int) ≤ 1048576 ∧ x < -4611686018427387904) ∨ ((l.length : Int) ≤ 1048576 ∧ -4611686018427387904 ≤ x ∧ 1000 < wd) ∨ ((l.length : Int) ≤ 1048576 ∧ -4611686018427387904 ≤ x ∧ wd ≤ 1000 ∧ wd < -1000) := by omega
  clear hbad
  rcases hsp with h | ⟨h, h1⟩ | ⟨h, h1, h2⟩ | ⟨h, h1, h2, h3⟩
  all_goals
    go_enter Try.func3, Try.ntmps3
    go_wp2_with (go_at_call 4; refine (app07 _).mono ?_; rintro e w1 ⟨v1, rfl, hcv, hb⟩; have HB := hideP hb; clear hb)
    go_ret
    exact ⟨by simp, HB.out⟩
theorem padL_len (c : UInt8) (n : Nat) (wd : Int) (h : n < 18446744073709551616) : (padL c n wd).length ≤ wd.toNat + 20 := by
  have := decL_20 h
  rw [padL, List.length_append, List.length_replicate]; omega
/-- The law's own call, and its text. -/
theorem appBX (x wd : Int) (vb : Value) (l : List UInt8) (w w1 : World) (hx : -4611686018427387904 ≤ x) (hx2 : x ≤ 9223372036854775807) (hw1 : -1000 ≤ wd) (hw2 : wd ≤ 1000) (hl : l.length ≤ 1048576) (hv : ArgB w vb l) (hb : Below w.heap.size w w1) :
    Calls Try.prog 4 #[vb, .int .i64 x, .int .i64 wd] w1 (fun e w' => ∃ v', e = .returned v' ∧ (convert 22 9 v').run Try.prog w' = .ok (.string (mkB (l ++ intL x wd))) w' ∧ (convert 22 9 vb).run Try.prog w' = .ok (.string (mkB l)) w' ∧ Below w.heap.size w w') := by
  refine (appImpl_any x wd vb l w1 hx hx2 hw1 hw2 hl (hv.below hb)).mono ?_
  rintro e w' ⟨v', rfl, hbb, hbel⟩
  have ht : Below w.heap.size w w' := hb.trans (hbel.mono hb.size)
  exact ⟨v', rfl, run_string_buf w' _ v' _ hbb, hv.txt w' ht, ht⟩
theorem app07' (w w1 : World) (hb : Below w.heap.size w w1) : Calls Try.prog 4 #[.slice none 0 0, .int .i64 7, .int .i64 2] w1 (fun e w' => ∃ v', e = .returned v' ∧ (convert 22 9 v').run Try.prog w' = .ok (.string ⟨#[48, 55]⟩) w' ∧ Below w.heap.size w w') := by
  refine (app07 w1).mono ?_
  rintro e w' ⟨v', rfl, hc, hbel⟩
  exact ⟨v', rfl, hc, hb.trans (hbel.mono hb.size)⟩
set_option maxRecDepth 100000 in
set_option maxHeartbeats 1600000 in
theorem lawApp_long (vb : Value) (l : List UInt8) (x wd : Int) (w : World) (hv : ArgB w vb l) (hl : l.length ≤ 1048576) (hx : -4611686018427387904 ≤ x) (hx2 : x ≤ 9223372036854775807) (hw1 : -1000 ≤ wd) (hw2 : wd ≤ 1000) :
    Calls Try.prog 3 #[vb, .int .i64 x, .int .i64 wd] w (LawPost w) := by
  have HA := hideP hv
  obtain ⟨ao, cap, rfl⟩ := hv.shape
  clear hv
  rcases Int.lt_or_le x 0 with h0 | h0
  · obtain ⟨m, rfl, hm0⟩ : ∃ m : Nat, x = -(m : Int) ∧ 0 < m := ⟨(-x).toNat, by omega, by omega⟩
    have hmx : max (-(m : Int)) (m : Int) = m := by omega
    have hjoin : ((mkB (l ++ intL (-(m : Int)) wd)).toList == (mkB l ++ (⟨#[45]⟩ ++ mkB (padL 48 m wd))).toList) = true := by
      have e : (⟨#[45]⟩ : ByteArray) ++ mkB (padL 48 m wd) = mkB (45 :: padL 48 m wd) := mkB_append [45] _
      rw [e, mkB_append, intL, if_pos h0, Int.neg_neg, Int.toNat_natCast]; exact beq_self_eq_true _
    have hpl := padL_len 48 m wd (by omega)
    have hsum : ¬ 9223372036854775807 < (ByteArray.mk #[45]).size + (mkB (padL 48 m wd)).size := by rw [mkB_size]; have : (ByteArray.mk #[45]).size = 1 := rfl; omega
    have hsum2 : ¬ 9223372036854775807 < (mkB l).size + ((ByteArray.mk #[45]) ++ mkB (padL 48 m wd)).size := by rw [mkB_size, ByteArray.size_append, mkB_size]; have : (ByteArray.mk #[45]).size = 1 := rfl; omega
    have hsum3 : ¬ 9223372036854775807 < (mkB l).size + ((ByteArray.mk #[45]).size + (mkB (padL 48 m wd)).size) := by rw [mkB_size, mkB_size]; have : (ByteArray.mk #[45]).size = 1 := rfl; omega
    clear hpl
    go_enter Try.func3, Try.ntmps3
    go_wp2_with (go_at_call 5; refine (digits_any m wd _ (by omega) (by omega) (by omega)).mono ?_; rintro e w1 ⟨rfl, hb⟩; have hcd := HA.out.txt _ hb.drew; have HB := hideP hb; clear hb)
    go_region_with (first
      | (go_at_call 4; refine (app07' w _ HB2.out).mono ?_; rintro e w3 ⟨v3, rfl, hc3, hb3⟩; have HB3 := hideP hb3; clear hb3)
      | (go_at_call 4; refine (appBX _ wd _ l w _ hx hx2 hw1 hw2 hl HA.out HB.out.drew).mono ?_; rintro e w2 ⟨v2, rfl, hc2, hcb, hb2⟩; have HB2 := hideP hb2; clear hb2))
    all_goals
      go_wp2
      go_ret
      exact ⟨by first | rfl | kernel_rfl | simp, HB3.out⟩
  · obtain ⟨m, rfl⟩ : ∃ m : Nat, x = (m : Int) := ⟨x.toNat, by omega⟩
    have hmx : max (m : Int) (-(m : Int)) = m := by omega
    have hjoin : ((mkB (l ++ intL (m : Int) wd)).toList == (mkB l ++ mkB (padL 48 m wd)).toList) = true := by
      rw [mkB_append, intL, if_neg (by omega), Int.toNat_natCast]; exact beq_self_eq_true _
    have hpl := padL_len 48 m wd (by omega)
    have hsum : ¬ 9223372036854775807 < (mkB l).size + (mkB (padL 48 m wd)).size := by rw [mkB_size, mkB_size]; omega
    clear hpl
    go_enter Try.func3, Try.ntmps3
    go_wp2_with (go_at_call 5; refine (digits_any m wd _ (by omega) (by omega) (by omega)).mono ?_; rintro e w1 ⟨rfl, hb⟩; have hcd := HA.out.txt _ hb.drew; have HB := hideP hb; clear hb)
    go_region_with (first
      | (go_at_call 4; refine (app07' w _ HB2.out).mono ?_; rintro e w3 ⟨v3, rfl, hc3, hb3⟩; have HB3 := hideP hb3; clear hb3)
      | (go_at_call 4; refine (appBX _ wd _ l w _ hx hx2 hw1 hw2 hl HA.out HB.out.drew).mono ?_; rintro e w2 ⟨v2, rfl, hc2, hcb, hb2⟩; have HB2 := hideP hb2; clear hb2))
    all_goals
      go_wp2
      go_ret
      exact ⟨by first | rfl | kernel_rfl | simp, HB3.out⟩
theorem lawApp (vb : Value) (l : List UInt8) (x wd : Int) (w : World) (hv : ArgB w vb l) (hx : -9223372036854775808 ≤ x ∧ x ≤ 9223372036854775807) :
    Calls Try.prog 3 #[vb, .int .i64 x, .int .i64 wd] w fun e w' => e = .returned (.bool true) ∧ Below w.heap.size w w' := by
  by_cases h : 1048576 < l.length ∨ x < -4611686018427387904 ∨ 1000 < wd ∨ wd < -1000
  · exact lawApp_short vb l x wd w hv h
  · exact lawApp_long vb l x wd w hv (by omega) (by omega) hx.2 (by omega) (by omega)
end Go.Proofs.Ytmojdmgpfpbpeaa.Tm
