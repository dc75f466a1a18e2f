/- The law FnChunkJoin: its walk. -/
import Derived.Test.YtmojdmgpfpbpeaaDoorJoin
namespace Go.Proofs.YtmojdmgpfpbpeaaDoor.Tm
open Go.RowKit Go

def w2006 : ByteArray := ⟨#[50, 48, 48, 54]⟩
theorem std2006 : stdL (rest w2006 0) = some (275, 0, 4) := by decide +kernel
theorem out2006 {p el q : ByteArray} (h : ChunkOut w2006 p el q) : el = w2006 := by
  rcases h with ⟨k, std, n, m, hk, hno, hstd, _, _, _, rfl, _⟩ | ⟨hno, _⟩
  · have : k = 0 := by
      rcases Nat.eq_zero_or_pos k with e | h0
      · exact e
      · have := hno 0 h0
        rw [std2006] at this; cases this
    subst this
    rw [std2006] at hstd
    cases hstd
    rfl
  · have := hno 0 (by decide)
    rw [std2006] at this; cases this
theorem out_join {s p el q : ByteArray} (h : ChunkOut s p el q) : p ++ el ++ q = s ∧ p.size + el.size + q.size = s.size ∧ (el ≠ ⟨#[]⟩ ∨ (el = ⟨#[]⟩ ∧ q = ⟨#[]⟩ ∧ p = s)) := by
  rcases h with ⟨k, std, n, m, hk, hno, hstd, h1, h2, rfl, rfl, rfl⟩ | ⟨hno, rfl, rfl, rfl⟩
  · refine ⟨?_, ?_, .inl ?_⟩
    · apply ba_ext
      rw [bl_append, bl_append, bl_extract, bl_extract, bl_extract_end, List.drop_zero]
      have e1 : (bl s).take (k + m) = (bl s).take (k + n) ++ ((bl s).take (k + m)).drop (k + n) := by
        rw [← List.take_append_drop (k + n) ((bl s).take (k + m)), List.take_take, Nat.min_eq_left (by omega), List.drop_left' (by rw [List.length_take, bl_length]; omega)]
      rw [← e1, List.take_append_drop]
    · simp only [ByteArray.size_extract]; omega
    · intro e
      have := congrArg ByteArray.size e
      rw [ByteArray.size_extract] at this
      change min (k + m) s.size - (k + n) = 0 at this
      omega
  · exact ⟨ba_ext (by rw [bl_append, bl_append]; show bl p ++ [] ++ [] = bl p; rw [List.append_nil, List.append_nil]), rfl, .inr ⟨rfl, rfl, rfl⟩⟩
set_option maxRecDepth 100000 in
set_option maxHeartbeats 800000 in
theorem lawJoin (s : ByteArray) (w : World) (hT : TabOk w) (hs : s.size ≤ 140737488351232) :
    Calls Tryd.prog 7 #[.string s] w fun e w' => e = .returned (.bool true) ∧ Below w.heap.size w w' := by
  by_cases hm : (s.size : Int) ≤ 2147483647
  case neg =>
    go_enter Tryd.func7, Tryd.ntmps7
    go_wp2
    go_ret
    exact ⟨rfl, Below.refl _ _⟩
  have HT := hideP hT
  clear hT
  go_enter Tryd.func7, Tryd.ntmps7
  go_wp2_with (fail)
  refine (nextImpl_any s _ HT.out hs).mono ?_
  rintro e w1 ⟨P, E, Q, rfl, hO, hb⟩
  obtain ⟨hj, hsz, hE⟩ := out_join hO
  have HJ := hideP hj
  have HB := hideP hb
  have HT1 := hideP (HT.out.below hb)
  clear hj hO hb HT
  rcases hE with hE | ⟨rfl, rfl, rfl⟩
  case' inl =>
    have t1 : ((P ++ E ++ Q).toList == s.toList) = true := by rw [beq_iff_eq, HJ.out]
    have he : 0 < E.size := Nat.pos_of_ne_zero fun e => hE (empty_of E e)
    have t2 : E.toList ≠ [] := toList_ne E he
    have t3 : E.toList.isEmpty = false := isEmpty_ne E he
    clear hE he
  case' inr =>
    have t1 : ((P ++ ⟨#[]⟩ ++ ⟨#[]⟩).toList == P.toList) = true := by rw [beq_iff_eq, HJ.out]
  all_goals
    go_wp2_with (fail)
    refine (nextImpl_any w2006 _ HT1.out (by decide)).mono ?_
    rintro e w2 ⟨P2, E2, Q2, rfl, hO2, hb2⟩
    obtain rfl := out2006 hO2
    have HB2 := hideP hb2
    have t5 : (w2006.toList == [50, 48, 48, 54]) = true := by decide +kernel
    clear hO2 hb2 HT1
    go_wp2
    go_ret
    exact ⟨by simp [*], HB.out.trans (HB2.out.mono HB.out.size)⟩
end Go.Proofs.YtmojdmgpfpbpeaaDoor.Tm
