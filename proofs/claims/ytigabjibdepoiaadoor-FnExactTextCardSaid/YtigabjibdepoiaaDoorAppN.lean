/- The walk of appendInt of a negative number. -/
import Derived.Test.YtigabjibdepoiaaDoorAppG
namespace Go.Proofs.YtigabjibdepoiaaDoor.Tm
set_option linter.unusedSimpArgs false
set_option linter.unusedVariables false
open Go.RowKit Go
set_option maxRecDepth 100000 in
set_option maxHeartbeats 1600000 in
theorem appInt_n (m : Nat) (wd : Int) (base : Nat) (v : Value) (xs : List Value) (w : World) (hm0 : 0 < m) (hm : m ≤ 4611686018427387904) (hw1 : -2000000 ≤ wd) (hw2 : wd ≤ 2000000)
    (hg : ¬ (wd = 2 ∧ m < 100)) (hg4 : ¬ (wd = 4 ∧ m < 10000)) (hv : Buf w base v xs) (hsz : xs.length + wd.toNat + 22 ≤ 140737488351232) (hbase : base ≤ w.heap.size) :
    Calls Tryd.prog 105 #[v, .int .i64 (-(m : Int)), .int .i64 wd] w (BufPost base v (xs ++ bytes (45 :: padL 48 m wd)) w) := by
  obtain ⟨X, hX⟩ : ∃ X : List Value, X = xs ++ [.int .u8 45] := ⟨_, rfl⟩
  have HX := hideP hX
  have HF := hideP (show xs ++ bytes (45 :: padL 48 m wd) = X ++ bytes (padL 48 m wd) by rw [hX, List.append_assoc]; rfl)
  have hneg : -(m : Int) < 0 := by omega
  have HV0 := hideP hv
  have HS0 := hideP hsz
  have HS := hideP (show X.length + wd.toNat + 21 ≤ 140737488351232 by rw [hX, List.length_append, List.length_singleton]; omega)
  have HB0 := hideP hbase
  clear hX
  have h20 := decL_20 (n := m) (by omega)
  have hp := decL_pos m
  have C0 := hideP (cnt_start0 m)
  have C1 := hideP (cnt_start1 m)
  have hcase : ((wd == 2) = false ∧ (wd == 4) = false) ∨ ((wd == 2) = true ∧ (wd == 4) = false ∧ ¬ (m : Int) < 100) ∨ ((wd == 2) = false ∧ (wd == 4) = true ∧ ¬ (m : Int) < 10000) := by
    simp only [beq_eq_false_iff_ne, beq_iff_eq]; omega
  clear hv hsz hbase hg hg4 hm0
  rcases hcase with ⟨t2, t4⟩ | ⟨t2, t4, t⟩ | ⟨t2, t4, t⟩
  all_goals
    go_enter Tryd.func105, Tryd.ntmps105
    go_wp2_with (at_builtin; refine wpList_buf_append rfl (.tmp 18) (.tmp 19) _ rfl base _ xs rfl (HV0.out.alloc _) _ rfl 1 [_] (src_new w [_] (one_cons rfl one_nil) _ 1) (by have := HS0.out; omega) (Nat.le_trans HB0.out (by simp)) ?_; intro v9 w9 hv1 hm1; have HV := hideP (show Buf w9 base v9 X by rw [HX.out]; exact hv1); have HB := hideP (show base ≤ w9.heap.size from Nat.le_trans (Nat.le_trans HB0.out (by simp)) hm1.grown.size); have HMW := hideP ((Moved.below ((Below.refl _ _).alloc (Nat.le_refl _) _) v).trans hm1); clear hv1 hm1)
  all_goals
    go_loop [9, 10] (fun n u => ∃ k y : Nat, n = .int .i64 k ∧ u = .int .u64 y ∧ CntI m k y) (fun _ u => (intOf u).toNat)
    case atStart => first | exact ⟨0, m, rfl, rfl, C0.out (by assumption)⟩ | exact ⟨1, m, rfl, rfl, C1.out (by assumption)⟩
    case round =>
      obtain ⟨k, y, rfl, rfl, hc⟩ := hrel
      have hk : k ≤ 20 := by have := hc.sum; omega
      have hyb : (y : Int) ≤ 9223372036854775807 := by have := hc.le; omega
      have HC := hideP hc
      clear hc
      by_cases hy : 0 < y
      · have hy' : (0 : Int) < (y : Int) := by omega
        go_wp2
        go_round
        case rel => exact ⟨k + 1, y / 10, by go_num, by go_num, cnt_next HC.out hy⟩
        case measure => simp [intOf]; omega
      · obtain rfl : y = 0 := by omega
        have hk2 : k = (decL m).length := by have := HC.out.sum; rw [cnt, if_pos rfl] at this; omega
        have HK := hideP hk2
        have hk0 : 0 < k := by omega
        clear hk2 HC hp h20 hy hyb
        go_wp2
        go_loopw [0, 11] (fun b p wr => ∃ j : Nat, p = .int .i64 (wd - k - j) ∧ PadI base X v9 w9 (wd - k) b j wr) (fun _ p _ => (intOf p).toNat)
        case atStart => exact ⟨0, by first | rfl | go_num, ⟨by simpa using HV.out, Moved.refl _ _, Nat.zero_le _⟩⟩
        case round =>
          obtain ⟨j, rfl, hpad⟩ := hrel
          have hj := hpad.le
          have HP := hideP hpad
          have hgr := hpad.moved.grown.size
          clear hpad
          by_cases hgo : (0 : Int) < wd - k - j
          · go_wp2_with (at_builtin; refine wpList_buf_append rfl _ _ _ rfl base _ _ rfl (HP.out.buf.alloc _) _ rfl 1 [_] (src_new _ [_] (one_cons rfl one_nil) _ 1) (by have := HS.out; rw [List.length_append, List.length_replicate]; omega) (Nat.le_trans HB.out (by simp; omega)) ?_; intro v' w1 hv' hmv; have HV2 := hideP hv'; have HM := hideP hmv; clear hv' hmv)
            go_roundw
            case rel => exact ⟨j + 1, by go_num, pad_next HP.out (by omega) HV2.out ((Moved.below ((Below.refl _ _).alloc (Nat.le_refl _) _) _).trans HM.out)⟩
            case measure => simp [intOf]; omega
          · obtain ⟨l, hl⟩ : ∃ l : Nat, l = X.length + j := ⟨_, rfl⟩
            obtain ⟨g, cap, rfl⟩ := buf_shape l HP.out.buf (by rw [hl, List.length_append, List.length_replicate])
            have hlb : (l : Int) ≤ 140737488351232 := by have := HS.out; omega
            have hl2 : l + k ≤ 140737488351232 := by have := HS.out; omega
            have HJ := hideP (show X ++ bytes (padL 48 m wd) = (X ++ List.replicate j (.int .u8 48)) ++ bytes (decL m) by
              rw [padL, bytes_append, ← HK.out, show j = (wd - k).toNat from by omega, List.append_assoc]; simp [bytes, u8])
            have hlen := hideP (show (X ++ List.replicate j (Value.int .u8 48)).length = l by rw [hl, List.length_append, List.length_replicate])
            clear hl hj
            by_cases hcap : (l : Int) + k ≤ cap
            · obtain ⟨junk, hjl, hjb⟩ := HP.out.buf.cut k (by omega)
              have HD := hideP (dig_start (i := l + k - 1) (by rw [hjl, HK.out]) (by rw [hlen.out, hjl]; omega) hjb)
              have HM := hideP (HP.out.moved.trans (Moved.same (v' := .slice (some ⟨g, 0, none⟩) (l + k) cap) (grown_refl wr _) rfl))
              clear hjb hjl
              go_wp2
              go_loopw [7, 12] (fun u i wr' => ∃ y ii : Nat, u = .int .u64 y ∧ i = .int .i64 ii ∧ y ≤ 9223372036854775807 ∧ DigI base m (X ++ List.replicate j (.int .u8 48)) (.slice (some ⟨g, 0, none⟩) (l + k) cap) y ii wr' ∧ Moved w9 v9 wr' (.slice (some ⟨g, 0, none⟩) (l + k) cap)) (fun u _ _ => (intOf u).toNat)
              case atStart => exact ⟨m, l + k - 1, by first | rfl | go_num, by go_num, by omega, HD.out, HM.out⟩
              case round =>
                obtain ⟨y, ii, rfl, rfl, hym, hdig, hmv⟩ := hrel
                obtain ⟨hil, ⟨x, hcell⟩, hfr, hglt⟩ := dig_cell hdig
                have hyb : (y : Int) ≤ 9223372036854775807 := by omega
                have hib : (ii : Int) < (l : Int) + k := by omega
                have HDG := hideP hdig
                have HMV := hideP hmv
                clear hdig hmv hym
                by_cases hy : (10 : Int) ≤ y
                · obtain ⟨hi0, hnx⟩ := dig_next HDG.out (by omega)
                  have hi0' : (0 : Int) < (ii : Int) := by omega
                  have HNX := hideP hnx
                  clear hnx hi0
                  go_wp2_with (go_at_call 127; refine (utod_any _ _ (by omega) (by omega)).mono ?_; rintro e w2 ⟨rfl, rfl⟩)
                  go_roundw
                  case rel => exact ⟨y / 10, ii - 1, by go_num, by go_num, by omega, HNX.out, HMV.out.trans (dig_store HDG.out _)⟩
                  case measure => simp [intOf]; omega
                · have HL := hideP (dig_last HDG.out (by omega))
                  go_wp2_with (go_at_call 127; refine (utod_any _ _ (by omega) (by omega)).mono ?_; rintro e w2 ⟨rfl, rfl⟩)
                  go_ret
                  exact ⟨_, rfl, by rw [HF.out, HJ.out]; exact HL.out, HMW.out.trans (HMV.out.trans (dig_store HDG.out _))⟩
            · go_wp2_with (at_builtin; refine wpList_buf_zeros rfl _ _ rfl base g l cap _ rfl HP.out.buf k rfl hk0 (by omega) (by omega) (Nat.le_trans HB.out hgr) ?_; intro v' w1 hv' hmv; obtain ⟨g2, cap2, rfl⟩ := buf_shape (l + k) hv' (by rw [List.length_append, hlen.out, List.length_replicate]); have HV2 := hideP hv'; have HM := hideP hmv; clear hv' hmv)
              have HD := hideP (dig_start (i := l + k - 1) (by rw [List.length_replicate, HK.out]) (by rw [hlen.out, List.length_replicate]; omega) HV2.out)
              have HM0 := hideP (HP.out.moved.trans HM.out)
              clear HM
              have HM := HM0
              go_loopw [7, 12] (fun u i wr' => ∃ y ii : Nat, u = .int .u64 y ∧ i = .int .i64 ii ∧ y ≤ 9223372036854775807 ∧ DigI base m (X ++ List.replicate j (.int .u8 48)) (.slice (some ⟨g2, 0, none⟩) (l + k) cap2) y ii wr' ∧ Moved w9 v9 wr' (.slice (some ⟨g2, 0, none⟩) (l + k) cap2)) (fun u _ _ => (intOf u).toNat)
              case atStart => exact ⟨m, l + k - 1, by first | rfl | go_num, by go_num, by omega, HD.out, HM.out⟩
              case round =>
                obtain ⟨y, ii, rfl, rfl, hym, hdig, hmv⟩ := hrel
                obtain ⟨hil, ⟨x, hcell⟩, hfr, hglt⟩ := dig_cell hdig
                have hyb : (y : Int) ≤ 9223372036854775807 := by omega
                have hib : (ii : Int) < (l : Int) + k := by omega
                have HDG := hideP hdig
                have HMV := hideP hmv
                clear hdig hmv hym
                by_cases hy : (10 : Int) ≤ y
                · obtain ⟨hi0, hnx⟩ := dig_next HDG.out (by omega)
                  have hi0' : (0 : Int) < (ii : Int) := by omega
                  have HNX := hideP hnx
                  clear hnx hi0
                  go_wp2_with (go_at_call 127; refine (utod_any _ _ (by omega) (by omega)).mono ?_; rintro e w2 ⟨rfl, rfl⟩)
                  go_roundw
                  case rel => exact ⟨y / 10, ii - 1, by go_num, by go_num, by omega, HNX.out, HMV.out.trans (dig_store HDG.out _)⟩
                  case measure => simp [intOf]; omega
                · have HL := hideP (dig_last HDG.out (by omega))
                  go_wp2_with (go_at_call 127; refine (utod_any _ _ (by omega) (by omega)).mono ?_; rintro e w2 ⟨rfl, rfl⟩)
                  go_ret
                  exact ⟨_, rfl, by rw [HF.out, HJ.out]; exact HL.out, HMW.out.trans (HMV.out.trans (dig_store HDG.out _))⟩
set_option maxRecDepth 100000 in
set_option maxHeartbeats 800000 in
theorem appInt_n2 (m : Nat) (base : Nat) (v : Value) (xs : List Value) (w : World) (hm0 : 0 < m) (hm : m < 100) (hv : Buf w base v xs) (hsz : xs.length + 5 ≤ 140737488351232) (hbase : base ≤ w.heap.size) :
    Calls Tryd.prog 105 #[v, .int .i64 (-(m : Int)), .int .i64 2] w (BufPost base v (xs ++ bytes (45 :: padL 48 m 2)) w) := by
  obtain ⟨X, hX⟩ : ∃ X : List Value, X = xs ++ [.int .u8 45] := ⟨_, rfl⟩
  have HX := hideP hX
  have HL := hideP (int2 hm)
  rw [intL, if_neg (by omega), Int.toNat_natCast] at HL
  have HF := hideP (show xs ++ bytes (45 :: padL 48 m 2) = X ++ bytes (padL 48 m 2) by rw [hX, List.append_assoc]; rfl)
  have hneg : -(m : Int) < 0 := by omega
  have HV0 := hideP hv
  have HS0 := hideP hsz
  have HS := hideP (show X.length + 4 ≤ 140737488351232 by rw [hX, List.length_append, List.length_singleton]; omega)
  have HB0 := hideP hbase
  have h1 : (m : Int) < 100 := by omega
  clear hX hv hsz hbase hm hm0
  go_enter Tryd.func105, Tryd.ntmps105
  go_wp2_with (first
    | (go_at_call 127; refine (utod_any _ _ (by omega) (by omega)).mono ?_; rintro e w1 ⟨rfl, rfl⟩)
    | (at_builtin; refine wpList_buf_append rfl (.tmp 18) (.tmp 19) _ rfl base _ xs rfl (HV0.out.alloc _) _ rfl 1 [_] (src_new w [_] (one_cons rfl one_nil) _ 1) (by have := HS0.out; omega) (Nat.le_trans HB0.out (by simp)) ?_; intro v9 w9 hv1 hm1; have HV := hideP (show Buf w9 base v9 X by rw [HX.out]; exact hv1); have HB := hideP (show base ≤ w9.heap.size from Nat.le_trans (Nat.le_trans HB0.out (by simp)) hm1.grown.size); have HMW := hideP ((Moved.below ((Below.refl _ _).alloc (Nat.le_refl _) _) v).trans hm1); clear hv1 hm1)
    | (at_builtin; refine wpList_buf_append rfl _ _ _ rfl base _ _ rfl (HV.out.alloc _) _ rfl 2 [_, _] (src_new _ [_, _] (one_cons rfl (one_cons rfl one_nil)) _ 2) (by have := HS.out; omega) (Nat.le_trans HB.out (by simp)) ?_; intro v' w2 hv' hmv; have HV2 := hideP hv'; have HM := hideP hmv; clear hv' hmv))
  go_ret
  exact ⟨v', rfl, by rw [HF.out, HL.out]; exact HV2.out, HMW.out.trans ((Moved.below ((Below.refl _ _).alloc (Nat.le_refl _) _) _).trans HM.out)⟩
set_option maxRecDepth 100000 in
set_option maxHeartbeats 800000 in
theorem appInt_n4 (m : Nat) (base : Nat) (v : Value) (xs : List Value) (w : World) (hm0 : 0 < m) (hm : m < 10000) (hv : Buf w base v xs) (hsz : xs.length + 5 ≤ 140737488351232) (hbase : base ≤ w.heap.size) :
    Calls Tryd.prog 105 #[v, .int .i64 (-(m : Int)), .int .i64 4] w (BufPost base v (xs ++ bytes (45 :: padL 48 m 4)) w) := by
  obtain ⟨X, hX⟩ : ∃ X : List Value, X = xs ++ [.int .u8 45] := ⟨_, rfl⟩
  have HX := hideP hX
  have HL := hideP (int4 hm)
  rw [intL, if_neg (by omega), Int.toNat_natCast] at HL
  have HF := hideP (show xs ++ bytes (45 :: padL 48 m 4) = X ++ bytes (padL 48 m 4) by rw [hX, List.append_assoc]; rfl)
  have hneg : -(m : Int) < 0 := by omega
  have HV0 := hideP hv
  have HS0 := hideP hsz
  have HS := hideP (show X.length + 4 ≤ 140737488351232 by rw [hX, List.length_append, List.length_singleton]; omega)
  have HB0 := hideP hbase
  have h1 : (m : Int) < 10000 := by omega
  clear hX hv hsz hbase hm hm0
  go_enter Tryd.func105, Tryd.ntmps105
  go_wp2_with (first
    | (go_at_call 127; refine (utod_any _ _ (by omega) (by omega)).mono ?_; rintro e w1 ⟨rfl, rfl⟩)
    | (at_builtin; refine wpList_buf_append rfl (.tmp 18) (.tmp 19) _ rfl base _ xs rfl (HV0.out.alloc _) _ rfl 1 [_] (src_new w [_] (one_cons rfl one_nil) _ 1) (by have := HS0.out; omega) (Nat.le_trans HB0.out (by simp)) ?_; intro v9 w9 hv1 hm1; have HV := hideP (show Buf w9 base v9 X by rw [HX.out]; exact hv1); have HB := hideP (show base ≤ w9.heap.size from Nat.le_trans (Nat.le_trans HB0.out (by simp)) hm1.grown.size); have HMW := hideP ((Moved.below ((Below.refl _ _).alloc (Nat.le_refl _) _) v).trans hm1); clear hv1 hm1)
    | (at_builtin; refine wpList_buf_append rfl _ _ _ rfl base _ _ rfl (HV.out.alloc _) _ rfl 4 [_, _, _, _] (src_new _ [_, _, _, _] (one_cons rfl (one_cons rfl (one_cons rfl (one_cons rfl one_nil)))) _ 4) (by have := HS.out; omega) (Nat.le_trans HB.out (by simp)) ?_; intro v' w2 hv' hmv; have HV2 := hideP hv'; have HM := hideP hmv; clear hv' hmv))
  go_ret
  exact ⟨v', rfl, by rw [HF.out, HL.out]; exact HV2.out, HMW.out.trans ((Moved.below ((Below.refl _ _).alloc (Nat.le_refl _) _) _).trans HM.out)⟩
end Go.Proofs.YtigabjibdepoiaaDoor.Tm
