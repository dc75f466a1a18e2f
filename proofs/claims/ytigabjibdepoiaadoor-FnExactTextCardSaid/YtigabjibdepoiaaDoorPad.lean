/- The reference's digits: padded, Digits and Blank; and the text of a buffer. -/
import Derived.Laws.IdiomStrings
import Derived.Test.YtigabjibdepoiaaDoorApp
import Derived.Test.YtigabjibdepoiaaDoorBuf2
namespace Go.Proofs.YtigabjibdepoiaaDoor.Tm
set_option linter.unusedSimpArgs false
set_option linter.unusedVariables false
open Go.RowKit Go
/-- A text of bytes. -/
def mkB (l : List UInt8) : ByteArray := ⟨l.toArray⟩
theorem bl_mkB (l : List UInt8) : bl (mkB l) = l := by simp [bl, mkB]
theorem mkB_bl (s : ByteArray) : mkB (bl s) = s := ba_ext (bl_mkB _)
theorem mkB_append (a b : List UInt8) : mkB a ++ mkB b = mkB (a ++ b) := ba_ext (by rw [bl_append, bl_mkB, bl_mkB, bl_mkB])
theorem mkB_size (l : List UInt8) : (mkB l).size = l.length := by rw [← bl_length, bl_mkB]
theorem run_string_buf (w : World) (base : Nat) (v : Value) (l : List UInt8) (h : Buf w base v (bytes l)) : (convert 51 9 v).run Tryd.prog w = .ok (.string (mkB l)) w := by
  obtain ⟨g, cap, rfl⟩ : ∃ g cap, v = .slice (some ⟨g, 0, none⟩) (bytes l).length cap := by obtain ⟨g, cap, cur, tag, rfl, _⟩ := h; exact ⟨g, cap, rfl⟩
  rw [bytes_length] at h ⊢
  refine run_convert_bytes_back (P := Tryd.prog) w 51 9 5 ⟨g, 0, none⟩ cap l Tryd.underlying51 Tryd.underlying5 Tryd.underlying9 ?_
  intro j hj
  have hadd : (⟨g, 0, none⟩ : Addr).add j = ⟨g, j, none⟩ := by unfold Addr.add; split <;> simp_all
  rw [hadd, h.cellAt j (by rw [bytes_length]; exact hj)]
  simp [bytes, u8]
theorem buf_lit (w : World) (l : List Value) (tag : TypeId) (hl : l.length ≤ maxLen) : Buf (w.alloc (.cells l.toArray tag)) w.heap.size (.slice (some ⟨w.heap.size, 0, none⟩) l.length l.length) l :=
  ⟨w.heap.size, l.length, l.toArray, tag, rfl, Nat.le_refl _, heap_alloc_new w _, Nat.le_refl _, hl, by simp, by simp⟩
theorem one_text (w : World) (y : Nat) : (convert 51 9 (.slice (some ⟨w.heap.size, 0, none⟩) 1 1)).run Tryd.prog (w.alloc (.cells #[.int .u8 (48 + (y : Int) % 10)] 5)) = .ok (.string (mkB [digC (y % 10)])) (w.alloc (.cells #[.int .u8 (48 + (y : Int) % 10)] 5)) := by
  have h := buf_lit w [u8 (digC (y % 10))] 5 (by show 1 ≤ maxLen; decide)
  rw [u8_dig (by omega)] at h
  have e : ((y % 10 : Nat) : Int) = (y : Int) % 10 := by omega
  rw [e] at h
  exact run_string_buf _ _ _ [digC (y % 10)] (by
    show Buf _ _ _ [u8 (digC (y % 10))]
    rw [u8_dig (by omega), e]; exact h)
/-- While the digits are laid ahead of one another. -/
structure PadD (n0 y : Nat) (f : Bool) (t : List UInt8) : Prop where
  more : (f = true ∨ 0 < y) → decL n0 = decL y ++ t
  done : ¬ (f = true ∨ 0 < y) → decL n0 = t
  le : y ≤ n0
theorem padD_step {n0 y : Nat} {f : Bool} {t : List UInt8} (h : PadD n0 y f t) (hg : f = true ∨ 0 < y) : PadD n0 (y / 10) false (digC (y % 10) :: t) := by
  have h1 := h.more hg
  refine ⟨fun hy => ?_, fun hy => ?_, by have := h.le; omega⟩
  · have hy2 : 0 < y / 10 := by rcases hy with e | e
                                · cases e
                                · exact e
    rw [h1, decL_ge (n := y) (by omega), List.append_assoc]; rfl
  · have hy2 : ¬ 0 < y / 10 := fun e => hy (.inr e)
    rw [h1, decL_lt (n := y) (by omega), show y % 10 = y from by omega]; rfl
def strLen : Value → Nat | .string s => s.size | _ => 0
def flag : Value → Nat | .bool true => 1 | _ => 0
theorem pad_out (c : UInt8) (n : Nat) (wd : Int) (j : Nat) (hj : j = (wd - (decL n).length).toNat) : mkB (List.replicate j c ++ decL n) = mkB (padL c n wd) := by rw [padL, hj]
def TextPost (s : ByteArray) (w : World) (e : Ending) (w' : World) : Prop := e = .returned (.string s) ∧ Below w.heap.size w w'
set_option maxRecDepth 100000 in
set_option maxHeartbeats 800000 in
theorem padded_any (n : Nat) (wd : Int) (c : UInt8) (w : World) (hn : n ≤ 9223372036854775807) (hw1 : -2000000 ≤ wd) (hw2 : wd ≤ 2000000) :
    Calls Tryd.prog 56 #[.int .i64 n, .int .i64 wd, .string ⟨#[c]⟩] w (TextPost (mkB (padL c n wd)) w) := by
  have h20 := decL_20 (n := n) (by omega)
  go_enter Tryd.func56, Tryd.ntmps56
  go_wp2
  go_loopw [0, 7, 8] (fun a o f wr => ∃ (y : Nat) (t : List UInt8) (b : Bool), a = .int .i64 y ∧ o = .string (mkB t) ∧ f = .bool b ∧ PadD n y b t ∧ Below w.heap.size w wr) (fun a _ f _ => (intOf a).toNat + flag f)
  case atStart => exact ⟨n, [], true, rfl, rfl, rfl, ⟨fun _ => by simp, fun h => absurd (.inl rfl) h, Nat.le_refl _⟩, Below.refl _ _⟩
  case round =>
    obtain ⟨y, t, b, rfl, rfl, rfl, hpd, hbel⟩ := hrel
    have hyb : (y : Int) ≤ 9223372036854775807 := by have := hpd.le; omega
    have htl : (mkB t).size ≤ 20 := by
      rw [mkB_size]
      by_cases h : b = true ∨ 0 < y
      · have := congrArg List.length (hpd.more h); rw [List.length_append] at this; omega
      · rw [← hpd.done h]; exact h20
    have HPD := hideP hpd
    have HB := hideP hbel
    have hcv := one_text wr y
    have hsum : ¬ 9223372036854775807 < (mkB [digC (y % 10)]).size + (mkB t).size := by have : (mkB [digC (y % 10)]).size = 1 := by rw [mkB_size]; rfl
                                                                                        omega
    clear hpd hbel
    by_cases hg : b = true ∨ 0 < y
    · have HG := hideP hg
      have hsp : b = true ∨ (b = false ∧ (0 : Int) < (y : Int)) := by cases b <;> simp_all
      clear hg
      rcases hsp with rfl | ⟨rfl, hy⟩
      all_goals
        go_wp2
        go_roundw
        case rel => exact ⟨y / 10, digC (y % 10) :: t, false, by go_num, by rw [mkB_append]; rfl, rfl, padD_step HPD.out HG.out, HB.out.alloc HB.out.size _⟩
        case measure => simp [intOf, flag]; omega
    · obtain ⟨rfl, hy0⟩ : b = false ∧ y = 0 := by cases b <;> simp_all
      subst hy0
      obtain rfl := HPD.out.done hg
      clear hcv hg hsum
      go_wp2
      go_loop [7] (fun o => ∃ j : Nat, o = .string (mkB (List.replicate j c ++ decL n)) ∧ j ≤ (wd - (decL n).length).toNat) (fun o => wd.toNat - strLen o)
      case atStart => exact ⟨0, rfl, Nat.zero_le _⟩
      case round =>
        obtain ⟨j, rfl, hj⟩ := hrel
        obtain ⟨s, hs⟩ : ∃ s, s = mkB (List.replicate j c ++ decL n) := ⟨_, rfl⟩
        have hsz : s.size = j + (decL n).length := by rw [hs, mkB_size, List.length_append, List.length_replicate]
        rw [← hs]
        have HS := hideP hs
        have HZ := hideP hsz
        have hsum : ¬ 9223372036854775807 < (ByteArray.mk #[c]).size + s.size := by
          have : (ByteArray.mk #[c]).size = 1 := rfl
          omega
        by_cases hlt : (s.size : Int) < wd
        · have HJ := hideP (show j + 1 ≤ (wd - (decL n).length).toNat by omega)
          clear hsz hs hj
          go_wp2
          go_round
          case rel => exact ⟨j + 1, by rw [HS.out]; exact congrArg Value.string (mkB_append [c] _), HJ.out⟩
          case measure =>
            have h1 : (ByteArray.mk #[c]).size = 1 := rfl
            simp [strLen, h1]; omega
        · have HO := hideP (show s = mkB (padL c n wd) by rw [hs]; exact pad_out c n wd j (by omega))
          clear hsz hs hj
          go_wp2
          go_ret
          exact ⟨congrArg (fun z => Ending.returned (.string z)) HO.out, HB.out⟩
def DigitsPost (c : UInt8) (n : Nat) (wd : Int) (w : World) (e : Ending) (w' : World) : Prop := TextPost (mkB (padL c n wd)) w e w'
set_option maxHeartbeats 400000 in
theorem digits_any (n : Nat) (wd : Int) (w : World) (hn : n ≤ 9223372036854775807) (hw1 : -2000000 ≤ wd) (hw2 : wd ≤ 2000000) :
    Calls Tryd.prog 29 #[.int .i64 n, .int .i64 wd] w (TextPost (mkB (padL 48 n wd)) w) := by
  go_enter Tryd.func29, Tryd.ntmps29
  go_wp2_with (go_at_call 56; refine (padded_any n wd 48 _ hn hw1 hw2).mono ?_; rintro e w1 ⟨rfl, hb⟩)
  go_ret
  exact ⟨rfl, hb⟩
end Go.Proofs.YtigabjibdepoiaaDoor.Tm
