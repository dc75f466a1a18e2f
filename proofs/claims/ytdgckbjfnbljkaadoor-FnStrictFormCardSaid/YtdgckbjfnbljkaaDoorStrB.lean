/- The walk of parseRFC3339 up to the fraction. -/
import Derived.Test.YtdgckbjfnbljkaaDoorStrD
namespace Go.Proofs.YtdgckbjfnbljkaaDoor.Tm
set_option linter.unusedSimpArgs false
set_option linter.unusedVariables false
open Go.RowKit Go
set_option maxRecDepth 100000 in
set_option maxHeartbeats 25600000 in
theorem parse_any (s : ByteArray) (a : Nat) (w : World) (E : Value) (HE : Hd (w.cell? ⟨2, 0, none⟩ = some E)) (hs : s.size ≤ 2147483647) (hu : UtcAt w a) : Calls Tryd.prog 7 #[.string s, .pointer (some ⟨a, 0, none⟩)] w (ParsePost s w) := by
  by_cases hl : (s.size : Int) < 19
  case pos =>
    go_enter Tryd.func7, Tryd.ntmps7
    go_wp2
    have P0 := pst_start w
    obtain ⟨q0, q1, q2⟩ := facts3 P0.res
    refine bodyPost_ret (v := .tuple #[.agg #[.int .u64 0, .int .i64 0, .pointer none], .bool false]) (by simp [results, Tryd.results7, go_sem, q0, q1, q2]) rfl ⟨P0.bel, .inl rfl⟩
  have HU := hideP hu
  have l19 : 19 ≤ s.size := by omega
  clear hu
  go_enter Tryd.func7, Tryd.ntmps7
  go_wp2_with (fail)
  refine (puint_any _ 0 9999 (w.heap.size + 1) true _ (ext_le s 0 4 (by omega)) (by omega) (by omega) (by omega) (pst_start w).ok).mono ?_
  rintro e w1 ⟨y, b1, rfl, y0, y1, hd1, ok1, g1, -⟩
  have P1 := hideP ((pst_start w).go g1 ok1)
  have D1 := hideP hd1
  clear ok1 g1 hd1
  obtain ⟨y, rfl⟩ : ∃ n : Nat, y = n := ⟨y.toNat, by omega⟩
  go_wp2_with (fail)
  refine (puint_any _ 1 12 (w.heap.size + 1) b1 _ (ext_le s 5 7 (by omega)) (by omega) (by omega) (by omega) P1.out.ok).mono ?_
  rintro e w2 ⟨mo, b2, rfl, mo0, mo1, hd2, ok2, g2, -⟩
  have P2 := hideP (P1.out.go g2 ok2)
  have D2 := hideP hd2
  clear ok2 g2 hd2
  obtain ⟨mo, rfl⟩ : ∃ n : Nat, mo = n := ⟨mo.toNat, by omega⟩
  have hdl := daysIn_le y mo
  have HDL := hideP hdl
  clear hdl
  go_wp2_with (fail)
  have HC := hideP (show PSt w w2.drew b2 from P2.out.kept ((Below.refl _ _).drew))
  have i10 : (10 : Int) ≤ s.size := by omega
  go_region_with
    (first
      | (go_at_call 14; refine (daysIn_any mo y _ (by omega) (by omega) (by omega)).mono ?_; rintro e w5 ⟨rfl, rfl⟩)
      | (go_at_call 13; refine (puint_any _ 1 _ (w.heap.size + 1) b2 _ (ext_le s 8 10 (by omega)) (by omega) (by have := HDL.out; omega) (by have := HDL.out; omega) HC.out.ok).mono ?_; rintro e w3 ⟨d, b3, rfl, d0, d1, hd3, ok3, g3, -⟩; have P3 := hideP (HC.out.go g3 ok3); have D3 := hideP hd3; clear ok3 g3 hd3))
  obtain ⟨d, rfl⟩ : ∃ n : Nat, d = n := ⟨d.toNat, by omega⟩
  go_wp2_with (fail)
  refine (puint_any _ 0 23 (w.heap.size + 1) b3 _ (ext_le s 11 13 (by omega)) (by omega) (by omega) (by omega) P3.out.ok).mono ?_
  rintro e w4 ⟨h, b4, rfl, h0, h1, hd4, ok4, g4, -⟩
  have P4 := hideP (P3.out.go g4 ok4)
  have D4 := hideP hd4
  clear ok4 g4 hd4
  obtain ⟨h, rfl⟩ : ∃ n : Nat, h = n := ⟨h.toNat, by omega⟩
  go_wp2_with (fail)
  refine (puint_any _ 0 59 (w.heap.size + 1) b4 _ (ext_le s 14 16 (by omega)) (by omega) (by omega) (by omega) P4.out.ok).mono ?_
  rintro e w5 ⟨mi, b5, rfl, mi0, mi1, hd5, ok5, g5, -⟩
  have P5 := hideP (P4.out.go g5 ok5)
  have D5 := hideP hd5
  clear ok5 g5 hd5
  obtain ⟨mi, rfl⟩ : ∃ n : Nat, mi = n := ⟨mi.toNat, by omega⟩
  go_wp2_with (fail)
  refine (puint_any _ 0 59 (w.heap.size + 1) b5 _ (ext_le s 17 19 (by omega)) (by omega) (by omega) (by omega) P5.out.ok).mono ?_
  rintro e w6 ⟨sc, b6, rfl, sc0, sc1, hd6, ok6, g6, -⟩
  have P6 := hideP (P5.out.go g6 ok6)
  have D6 := hideP hd6
  clear ok6 g6 hd6
  obtain ⟨sc, rfl⟩ : ∃ n : Nat, sc = n := ⟨sc.toNat, by omega⟩
  have okc : w6.cell? ⟨w.heap.size + 1, 0, none⟩ = some (.bool b6) := cell_of_row _ _ 0 _ _ (0, 0) P6.out.ok
  obtain ⟨r0, r1, r2, r3, r4, r5, r6, r7, r8⟩ := P6.out.res.three (.int .u64 0) (.int .i64 0) (.pointer none)
  have i4 : (4 : Int) < s.size := by omega
  have i7 : (7 : Int) < s.size := by omega
  have i10' : (10 : Int) < s.size := by omega
  have i13 : (13 : Int) < s.size := by omega
  have i16 : (16 : Int) < s.size := by omega
  go_upto_region 11 with (fail)
  go_cut [84] from 57 to 83 (fun c wx => ∃ q : Bool, c = .bool q ∧ (q = false → b6 = true ∧ SepAt s) ∧ wx = w6)
  case first =>
    cases b6
    · go_wp2_with (fail)
      go_meet
      case rel => exact ⟨true, rfl, fun h => (by cases h), rfl⟩
    · have n4 : 4 < s.size := by omega
      by_cases m4 : (s[4].toNat : Int) = 45
      case neg =>
        have t4 : ((s[4].toNat : Int) == 45) = false := by rw [beq_eq_false_iff_ne]; exact m4
        clear m4
        go_wp2_with (fail)
        go_meet
        case rel => exact ⟨true, rfl, fun h => (by cases h), rfl⟩
      have t4 : ((s[4].toNat : Int) == 45) = true := by rw [beq_iff_eq]; exact m4
      have S4 := hideP (show (bl s)[4]? = some 45 by rw [get_at n4]; exact congrArg some (byte_of (n := 45) (by decide) m4))
      clear m4
      · have n7 : 7 < s.size := by omega
        by_cases m7 : (s[7].toNat : Int) = 45
        case neg =>
          have t7 : ((s[7].toNat : Int) == 45) = false := by rw [beq_eq_false_iff_ne]; exact m7
          clear m7
          go_wp2_with (fail)
          go_meet
          case rel => exact ⟨true, rfl, fun h => (by cases h), rfl⟩
        have t7 : ((s[7].toNat : Int) == 45) = true := by rw [beq_iff_eq]; exact m7
        have S7 := hideP (show (bl s)[7]? = some 45 by rw [get_at n7]; exact congrArg some (byte_of (n := 45) (by decide) m7))
        clear m7
        · have n10 : 10 < s.size := by omega
          by_cases m10 : (s[10].toNat : Int) = 84
          case neg =>
            have t10 : ((s[10].toNat : Int) == 84) = false := by rw [beq_eq_false_iff_ne]; exact m10
            clear m10
            go_wp2_with (fail)
            go_meet
            case rel => exact ⟨true, rfl, fun h => (by cases h), rfl⟩
          have t10 : ((s[10].toNat : Int) == 84) = true := by rw [beq_iff_eq]; exact m10
          have S10 := hideP (show (bl s)[10]? = some 84 by rw [get_at n10]; exact congrArg some (byte_of (n := 84) (by decide) m10))
          clear m10
          · have n13 : 13 < s.size := by omega
            by_cases m13 : (s[13].toNat : Int) = 58
            case neg =>
              have t13 : ((s[13].toNat : Int) == 58) = false := by rw [beq_eq_false_iff_ne]; exact m13
              clear m13
              go_wp2_with (fail)
              go_meet
              case rel => exact ⟨true, rfl, fun h => (by cases h), rfl⟩
            have t13 : ((s[13].toNat : Int) == 58) = true := by rw [beq_iff_eq]; exact m13
            have S13 := hideP (show (bl s)[13]? = some 58 by rw [get_at n13]; exact congrArg some (byte_of (n := 58) (by decide) m13))
            clear m13
            · have n16 : 16 < s.size := by omega
              by_cases m16 : (s[16].toNat : Int) = 58
              case neg =>
                have t16 : ((s[16].toNat : Int) == 58) = false := by rw [beq_eq_false_iff_ne]; exact m16
                clear m16
                go_wp2_with (fail)
                go_meet
                case rel => exact ⟨true, rfl, fun h => (by cases h), rfl⟩
              have t16 : ((s[16].toNat : Int) == 58) = true := by rw [beq_iff_eq]; exact m16
              have S16 := hideP (show (bl s)[16]? = some 58 by rw [get_at n16]; exact congrArg some (byte_of (n := 58) (by decide) m16))
              clear m16
              go_wp2_with (fail)
              go_meet
              case rel => exact ⟨false, rfl, fun _ => ⟨by first | rfl | trivial, S4.out, S7.out, S10.out, S13.out, S16.out⟩, rfl⟩
  case rest =>
    obtain ⟨q, rfl, hq, rfl⟩ := hcut
    cases q
    · obtain ⟨hb, hsep⟩ := hq rfl
      subst hb
      have HF := hideP (show Front s by
        obtain ⟨e5, f6⟩ := D6.out rfl
        obtain ⟨e4, f5⟩ := D5.out e5
        obtain ⟨e3, f4⟩ := D4.out e4
        obtain ⟨e2, f3⟩ := D3.out e3
        obtain ⟨e1, f2⟩ := D2.out e2
        exact ⟨(D1.out e1).2, f2, f3, f4, f5, f6, hsep⟩)
      have HS := hideP (show Sfx s (s.extract 19 s.size) from ⟨19, Nat.le_refl _, l19, bl_extract_end s 19⟩)
      clear hq hsep r0 r1 r2 r3 r4 r5 r6 r7 r8 okc
      go_upto_region 14 with (fail)
      go_cut [14] from 25 to 87 (fun c wx => c = .int .i64 0 ∧ wx = wc)
      case first =>
        go_wp2_with (fail)
        go_meet
        case rel => exact ⟨rfl, rfl⟩
      case rest =>
        obtain ⟨rfl, rfl⟩ := hcut
        go_step
        exact tail13 s (s.extract 19 s.size) a y mo d h mi sc w _ E HE HU P6 HF HS (by rw [ByteArray.size_extract]; omega) y1 mo0 mo1 d0 d1 h1 mi1 sc1 _ _ _ _ _ _ _ _ _ _ _ _ _ _ _ _ _ _ _ _ _ _ _ _ _ _ _ _ _ _ _ _ _ _ _ _ _ _ _ _ _ _ _ _ _ _ _ _ _ _ _ _ _ _ _ _ _ _ _ _ _ _ _ _ _ _ _ _ _ _ _ _ _ _ _ _ _ _ _ _ _ _ _ _ _ _ _ _ _ _ _ _ _ _ _ _ _ _ _ _ _ _ _ _ _ _ _ _ _ _ _ _ _ _ _ _ _ _ _ _ _ _ _ _ _ _ _ _ _ _ _ _ _ _ _ _ _ _ _ _ _ _ _ _ _ _ _ _ _ _ _ _ _ _ _ _ _ _ _ _ _ _ _ _ _ _ _ _ _ _ _ _ _ _ _ _ _ _ _ _ _ _ _ _ _ _ _
    · clear hq
      go_wp2_with (fail)
      exact bodyPost_ret (v := .tuple #[.agg #[.int .u64 0, .int .i64 0, .pointer none], .bool false]) (by simp [results, Tryd.results7, go_sem, r6, r7, r8]) rfl (no_time s w _ b6 P6.out)
end Go.Proofs.YtdgckbjfnbljkaaDoor.Tm
