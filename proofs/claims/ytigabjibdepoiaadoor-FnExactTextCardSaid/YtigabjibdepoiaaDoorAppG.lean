/- The walk of appendInt, the general way: it counts the digits, lays zeros ahead, and writes the digits from the last one on. -/
import Derived.Test.YtigabjibdepoiaaDoorApp
import Derived.Test.YtigabjibdepoiaaDoorBuf2
namespace Go.Proofs.YtigabjibdepoiaaDoor.Tm
set_option linter.unusedSimpArgs false
set_option linter.unusedVariables false
open Go.RowKit Go
/-- How many digits are still to be counted. -/
def cnt (y : Nat) : Nat := if y = 0 then 0 else (decL y).length
theorem cnt_step {y : Nat} (h : 0 < y) : cnt y = cnt (y / 10) + 1 := by
  rw [cnt, if_neg (by omega), cnt]
  by_cases g : y / 10 = 0
  · rw [if_pos g, decL_lt (by omega)]; rfl
  · rw [if_neg g]; exact (decL_div (by omega)).symm
theorem cnt_len (y : Nat) (h : 0 < y) : cnt y = (decL y).length := by rw [cnt, if_neg (by omega)]
structure CntI (m k y : Nat) : Prop where
  sum : k + cnt y = (decL m).length
  le : y ≤ m
theorem cnt_next {m k y : Nat} (h : CntI m k y) (hy : 0 < y) : CntI m (k + 1) (y / 10) := ⟨by have := h.sum; rw [cnt_step hy] at this; omega, by have := h.le; omega⟩
theorem cnt_start0 (m : Nat) (h : ((m : Int) == 0) = false) : CntI m 0 m := by
  rw [beq_eq_false_iff_ne] at h
  exact ⟨by rw [cnt_len m (by omega)]; omega, Nat.le_refl _⟩
theorem cnt_start1 (m : Nat) (h : ((m : Int) == 0) = true) : CntI m 1 m := by
  rw [beq_iff_eq] at h
  obtain rfl : m = 0 := by omega
  exact ⟨by rw [decL_lt (by decide)]; rfl, Nat.le_refl _⟩
/-- While the digits are written: y is left, t stands behind it, jk is not written yet. -/
structure DigI (base m : Nat) (ys : List Value) (v : Value) (y i : Nat) (w : World) : Prop where
  it : ∃ (jk : List Value) (t : List UInt8), decL m = decL y ++ t ∧ (decL y).length = jk.length ∧ i + 1 = ys.length + jk.length ∧ Buf w base v (ys ++ (jk ++ bytes t))
theorem dig_next {base m : Nat} {ys : List Value} {g n cap y i : Nat} {w : World} (h : DigI base m ys (.slice (some ⟨g, 0, none⟩) n cap) y i w) (hy : 10 ≤ y) :
    0 < i ∧ DigI base m ys (.slice (some ⟨g, 0, none⟩) n cap) (y / 10) (i - 1) (w.setCell ⟨g, i, none⟩ (.int .u8 (48 + ((y : Int) - (y : Int) / 10 * 10)))) := by
  obtain ⟨jk, t, h1, h2, h3, h4⟩ := h.it
  rw [decL_ge (n := y) (by omega)] at h1 h2
  rw [List.length_append, List.length_singleton] at h2
  have hp := decL_pos (y / 10)
  obtain ⟨jk', x, rfl⟩ : ∃ jk' x, jk = jk' ++ [x] := by
    refine ⟨jk.dropLast, jk.getLast (by intro e; subst e; simp at h2), (List.dropLast_concat_getLast _).symm⟩
  rw [List.length_append, List.length_singleton] at h2 h3
  have hb := (h4.store i (.int .u8 (48 + ((y : Int) - (y : Int) / 10 * 10)))).1
  refine ⟨by omega, ⟨jk', digC (y % 10) :: t, by rw [h1, List.append_assoc]; rfl, by omega, by omega, ?_⟩⟩
  rw [show ys ++ (jk' ++ [x] ++ bytes t) = (ys ++ jk') ++ x :: bytes t by simp, set_mid _ _ _ _ _ (by rw [List.length_append]; omega)] at hb
  have hu : (Value.int .u8 (48 + ((y : Int) - (y : Int) / 10 * 10))) = u8 (digC (y % 10)) := by rw [u8_dig (by omega)]; congr 1; omega
  rw [hu] at hb ⊢
  show Buf _ base _ (ys ++ (jk' ++ (u8 (digC (y % 10)) :: bytes t)))
  rwa [← List.append_assoc]
theorem dig_last {base m : Nat} {ys : List Value} {g n cap y i : Nat} {w : World} (h : DigI base m ys (.slice (some ⟨g, 0, none⟩) n cap) y i w) (hy : y < 10) :
    Buf (w.setCell ⟨g, i, none⟩ (.int .u8 (48 + (y : Int)))) base (.slice (some ⟨g, 0, none⟩) n cap) (ys ++ bytes (decL m)) := by
  obtain ⟨jk, t, h1, h2, h3, h4⟩ := h.it
  rw [decL_lt hy] at h1 h2
  obtain ⟨x, rfl⟩ : ∃ x, jk = [x] := List.length_eq_one_iff.1 h2.symm
  have hb := (h4.store i (.int .u8 (48 + (y : Int)))).1
  rw [show ys ++ ([x] ++ bytes t) = ys ++ x :: bytes t from rfl, set_mid _ _ _ _ _ (by simpa using h3)] at hb
  rw [h1, ← u8_dig hy] at *
  exact hb
theorem dig_cell {base m : Nat} {ys : List Value} {g n cap y i : Nat} {w : World} (h : DigI base m ys (.slice (some ⟨g, 0, none⟩) n cap) y i w) :
    i < n ∧ (∃ x, w.cell? ⟨g, i, none⟩ = some x) ∧ w.frozen? ⟨g, i, none⟩ = false ∧ g < w.heap.size := by
  obtain ⟨jk, t, h1, h2, h3, h4⟩ := h.it
  obtain ⟨e, _, _, _, hlt, _⟩ := slice_own h4
  have hp := decL_pos y
  simp only [List.length_append] at e
  exact ⟨by omega, ⟨_, h4.cellAt i (by simp only [List.length_append]; omega)⟩, h4.frozenAt i, hlt⟩
theorem dig_store {base m : Nat} {ys : List Value} {g n cap y i : Nat} {w : World} (h : DigI base m ys (.slice (some ⟨g, 0, none⟩) n cap) y i w) (u : Value) :
    Moved w (.slice (some ⟨g, 0, none⟩) n cap) (w.setCell ⟨g, i, none⟩ u) (.slice (some ⟨g, 0, none⟩) n cap) := by
  obtain ⟨jk, t, h1, h2, h3, h4⟩ := h.it
  exact (h4.store i u).2
theorem dig_start {base m : Nat} {ys jk : List Value} {v : Value} {i : Nat} {w : World} (hj : jk.length = (decL m).length) (hi : i + 1 = ys.length + jk.length) (h : Buf w base v (ys ++ jk)) : DigI base m ys v m i w :=
  ⟨jk, [], by simp, hj.symm, hi, by simpa [bytes] using h⟩
theorem buf_shape {w : World} {base : Nat} {v : Value} {xs : List Value} (n : Nat) (h : Buf w base v xs) (hn : xs.length = n) : ∃ g cap, v = .slice (some ⟨g, 0, none⟩) n cap := by
  obtain ⟨g, cap, cur, tag, rfl, _⟩ := h
  exact ⟨g, cap, by rw [hn]⟩
/-- While the zeros are laid ahead. -/
structure PadI (base : Nat) (xs : List Value) (v0 : Value) (w0 : World) (p : Int) (v : Value) (j : Nat) (w : World) : Prop where
  buf : Buf w base v (xs ++ List.replicate j (.int .u8 48))
  moved : Moved w0 v0 w v
  le : j ≤ p.toNat
theorem pad_next {base : Nat} {xs : List Value} {v0 v v' : Value} {w0 w w' : World} {p : Int} {j : Nat} (h : PadI base xs v0 w0 p v j w) (hj : (j : Int) < p) (hb : Buf w' base v' (xs ++ List.replicate j (.int .u8 48) ++ [.int .u8 48])) (hm : Moved w v w' v') :
    PadI base xs v0 w0 p v' (j + 1) w' := by
  refine ⟨?_, h.moved.trans hm, by omega⟩
  rw [List.append_assoc] at hb
  rwa [List.replicate_succ']
set_option maxRecDepth 100000 in
set_option maxHeartbeats 1600000 in
theorem appInt_g (m : Nat) (wd : Int) (base : Nat) (v : Value) (xs : List Value) (w : World) (hm : m < 9223372036854775808) (hw1 : -2000000 ≤ wd) (hw2 : wd ≤ 2000000)
    (hg : ¬ (wd = 2 ∧ m < 100)) (hg4 : ¬ (wd = 4 ∧ m < 10000)) (hv : Buf w base v xs) (hsz : xs.length + wd.toNat + 21 ≤ 140737488351232) (hbase : base ≤ w.heap.size) :
    Calls Tryd.prog 105 #[v, .int .i64 m, .int .i64 wd] w (BufPost base v (xs ++ bytes (padL 48 m wd)) w) := by
  have HV := hideP hv
  have HS := hideP hsz
  have HB := hideP hbase
  have h20 := decL_20 (n := m) (by omega)
  have hp := decL_pos m
  have C0 := hideP (cnt_start0 m)
  have C1 := hideP (cnt_start1 m)
  have hcase : ((wd == 2) = false ∧ (wd == 4) = false) ∨ ((wd == 2) = true ∧ (wd == 4) = false ∧ ¬ (m : Int) < 100) ∨ ((wd == 2) = false ∧ (wd == 4) = true ∧ ¬ (m : Int) < 10000) := by
    simp only [beq_eq_false_iff_ne, beq_iff_eq]; omega
  clear hv hsz hbase hg hg4
  rcases hcase with ⟨t2, t4⟩ | ⟨t2, t4, t⟩ | ⟨t2, t4, t⟩
  all_goals
    go_enter Tryd.func105, Tryd.ntmps105
    go_wp2
  all_goals
    go_loop [9, 10] (fun n u => ∃ k y : Nat, n = .int .i64 k ∧ u = .int .u64 y ∧ CntI m k y) (fun _ u => (intOf u).toNat)
    case atStart => first | exact ⟨0, m, rfl, rfl, C0.out (by assumption)⟩ | exact ⟨1, m, rfl, rfl, C1.out (by assumption)⟩
    case round =>
      obtain ⟨k, y, rfl, rfl, hc⟩ := hrel
      have hk : k ≤ 20 := by have := hc.sum; omega
      have hyb : (y : Int) ≤ 9223372036854775807 := by have := hc.le; omega
      have HC := hideP hc
      clear hc
      by_cases hy : 0 < y
      · have hy' : (0 : Int) < (y : Int) := by omega
        go_wp2
        go_round
        case rel => exact ⟨k + 1, y / 10, by go_num, by go_num, cnt_next HC.out hy⟩
        case measure => simp [intOf]; omega
      · obtain rfl : y = 0 := by omega
        have hk2 : k = (decL m).length := by have := HC.out.sum; rw [cnt, if_pos rfl] at this; omega
        have HK := hideP hk2
        have hk0 : 0 < k := by omega
        clear hk2 HC hp h20 hy hyb
        go_wp2
        go_loopw [0, 11] (fun b p wr => ∃ j : Nat, p = .int .i64 (wd - k - j) ∧ PadI base xs v w (wd - k) b j wr) (fun _ p _ => (intOf p).toNat)
        case atStart => exact ⟨0, by first | rfl | go_num, ⟨by simpa using HV.out, Moved.refl _ _, Nat.zero_le _⟩⟩
        case round =>
          obtain ⟨j, rfl, hpad⟩ := hrel
          have hj := hpad.le
          have HP := hideP hpad
          have hgr := hpad.moved.grown.size
          clear hpad
          by_cases hgo : (0 : Int) < wd - k - j
          · go_wp2_with (at_builtin; refine wpList_buf_append rfl _ _ _ rfl base _ _ rfl (HP.out.buf.alloc _) _ rfl 1 [_] (src_new _ [_] (one_cons rfl one_nil) _ 1) (by have := HS.out; rw [List.length_append, List.length_replicate]; omega) (Nat.le_trans HB.out (by simp; omega)) ?_; intro v' w1 hv' hmv; have HV2 := hideP hv'; have HM := hideP hmv; clear hv' hmv)
            go_roundw
            case rel => exact ⟨j + 1, by go_num, pad_next HP.out (by omega) HV2.out ((Moved.below ((Below.refl _ _).alloc (Nat.le_refl _) _) _).trans HM.out)⟩
            case measure => simp [intOf]; omega
          · obtain ⟨l, hl⟩ : ∃ l : Nat, l = xs.length + j := ⟨_, rfl⟩
            obtain ⟨g, cap, rfl⟩ := buf_shape l HP.out.buf (by rw [hl, List.length_append, List.length_replicate])
            have hlb : (l : Int) ≤ 140737488351232 := by have := HS.out; omega
            have hl2 : l + k ≤ 140737488351232 := by have := HS.out; omega
            have HJ := hideP (show xs ++ bytes (padL 48 m wd) = (xs ++ List.replicate j (.int .u8 48)) ++ bytes (decL m) by
              rw [padL, bytes_append, ← HK.out, show j = (wd - k).toNat from by omega, List.append_assoc]; simp [bytes, u8])
            have hlen := hideP (show (xs ++ List.replicate j (Value.int .u8 48)).length = l by rw [hl, List.length_append, List.length_replicate])
            clear hl hj
            by_cases hcap : (l : Int) + k ≤ cap
            · obtain ⟨junk, hjl, hjb⟩ := HP.out.buf.cut k (by omega)
              have HD := hideP (dig_start (i := l + k - 1) (by rw [hjl, HK.out]) (by rw [hlen.out, hjl]; omega) hjb)
              have HM := hideP (HP.out.moved.trans (Moved.same (v' := .slice (some ⟨g, 0, none⟩) (l + k) cap) (grown_refl wr _) rfl))
              clear hjb hjl
              go_wp2
              go_loopw [7, 12] (fun u i wr' => ∃ y ii : Nat, u = .int .u64 y ∧ i = .int .i64 ii ∧ y ≤ 9223372036854775807 ∧ DigI base m (xs ++ List.replicate j (.int .u8 48)) (.slice (some ⟨g, 0, none⟩) (l + k) cap) y ii wr' ∧ Moved w v wr' (.slice (some ⟨g, 0, none⟩) (l + k) cap)) (fun u _ _ => (intOf u).toNat)
              case atStart => exact ⟨m, l + k - 1, by first | rfl | go_num, by go_num, by omega, HD.out, HM.out⟩
              case round =>
                obtain ⟨y, ii, rfl, rfl, hym, hdig, hmv⟩ := hrel
                obtain ⟨hil, ⟨x, hcell⟩, hfr, hglt⟩ := dig_cell hdig
                have hyb : (y : Int) ≤ 9223372036854775807 := by omega
                have hib : (ii : Int) < (l : Int) + k := by omega
                have HDG := hideP hdig
                have HMV := hideP hmv
                clear hdig hmv hym
                by_cases hy : (10 : Int) ≤ y
                · obtain ⟨hi0, hnx⟩ := dig_next HDG.out (by omega)
                  have hi0' : (0 : Int) < (ii : Int) := by omega
                  have HNX := hideP hnx
                  clear hnx hi0
                  go_wp2_with (go_at_call 127; refine (utod_any _ _ (by omega) (by omega)).mono ?_; rintro e w2 ⟨rfl, rfl⟩)
                  go_roundw
                  case rel => exact ⟨y / 10, ii - 1, by go_num, by go_num, by omega, HNX.out, HMV.out.trans (dig_store HDG.out _)⟩
                  case measure => simp [intOf]; omega
                · have HL := hideP (dig_last HDG.out (by omega))
                  go_wp2_with (go_at_call 127; refine (utod_any _ _ (by omega) (by omega)).mono ?_; rintro e w2 ⟨rfl, rfl⟩)
                  go_ret
                  exact ⟨_, rfl, by rw [HJ.out]; exact HL.out, HMV.out.trans (dig_store HDG.out _)⟩
            · go_wp2_with (at_builtin; refine wpList_buf_zeros rfl _ _ rfl base g l cap _ rfl HP.out.buf k rfl hk0 (by omega) (by omega) (Nat.le_trans HB.out hgr) ?_; intro v' w1 hv' hmv; obtain ⟨g2, cap2, rfl⟩ := buf_shape (l + k) hv' (by rw [List.length_append, hlen.out, List.length_replicate]); have HV2 := hideP hv'; have HM := hideP hmv; clear hv' hmv)
              have HD := hideP (dig_start (i := l + k - 1) (by rw [List.length_replicate, HK.out]) (by rw [hlen.out, List.length_replicate]; omega) HV2.out)
              have HM0 := hideP (HP.out.moved.trans HM.out)
              clear HM
              have HM := HM0
              go_loopw [7, 12] (fun u i wr' => ∃ y ii : Nat, u = .int .u64 y ∧ i = .int .i64 ii ∧ y ≤ 9223372036854775807 ∧ DigI base m (xs ++ List.replicate j (.int .u8 48)) (.slice (some ⟨g2, 0, none⟩) (l + k) cap2) y ii wr' ∧ Moved w v wr' (.slice (some ⟨g2, 0, none⟩) (l + k) cap2)) (fun u _ _ => (intOf u).toNat)
              case atStart => exact ⟨m, l + k - 1, by first | rfl | go_num, by go_num, by omega, HD.out, HM.out⟩
              case round =>
                obtain ⟨y, ii, rfl, rfl, hym, hdig, hmv⟩ := hrel
                obtain ⟨hil, ⟨x, hcell⟩, hfr, hglt⟩ := dig_cell hdig
                have hyb : (y : Int) ≤ 9223372036854775807 := by omega
                have hib : (ii : Int) < (l : Int) + k := by omega
                have HDG := hideP hdig
                have HMV := hideP hmv
                clear hdig hmv hym
                by_cases hy : (10 : Int) ≤ y
                · obtain ⟨hi0, hnx⟩ := dig_next HDG.out (by omega)
                  have hi0' : (0 : Int) < (ii : Int) := by omega
                  have HNX := hideP hnx
                  clear hnx hi0
                  go_wp2_with (go_at_call 127; refine (utod_any _ _ (by omega) (by omega)).mono ?_; rintro e w2 ⟨rfl, rfl⟩)
                  go_roundw
                  case rel => exact ⟨y / 10, ii - 1, by go_num, by go_num, by omega, HNX.out, HMV.out.trans (dig_store HDG.out _)⟩
                  case measure => simp [intOf]; omega
                · have HL := hideP (dig_last HDG.out (by omega))
                  go_wp2_with (go_at_call 127; refine (utod_any _ _ (by omega) (by omega)).mono ?_; rintro e w2 ⟨rfl, rfl⟩)
                  go_ret
                  exact ⟨_, rfl, by rw [HJ.out]; exact HL.out, HMV.out.trans (dig_store HDG.out _)⟩
end Go.Proofs.YtigabjibdepoiaaDoor.Tm
