/- The walk of parseRFC3339 over a text that is read: its answer is yes. -/
import Derived.Test.YtdgckbjfnbljkaaDoorStrD
namespace Go.Proofs.YtdgckbjfnbljkaaDoor.Tm
set_option linter.unusedSimpArgs false
set_option linter.unusedVariables false
open Go.RowKit Go
/-- The text that the law reads first. -/
structure GoodS (s : ByteArray) : Prop where
  n : s.size = 20
  f : Front s
  vy : dval (bl (s.extract 0 4)) = 2006
  vmo : dval (bl (s.extract 5 7)) = 1
  vd : dval (bl (s.extract 8 10)) = 2
  vh : dval (bl (s.extract 11 13)) = 15
  vmi : dval (bl (s.extract 14 16)) = 4
  vsc : dval (bl (s.extract 17 19)) = 5
  z : (bl s)[19]? = some 90
theorem sep_at {s : ByteArray} {k n : Nat} {c : UInt8} (hn : c.toNat = n) (h : k < s.size) (hc : (bl s)[k]? = some c) : ((s[k].toNat : Int) == (n : Int)) = true := by
  rw [get_at h] at hc
  have := Option.some.inj hc
  rw [this, hn]; simp
theorem rest_z {s : ByteArray} (h : GoodS s) : (s.extract 19 s.size).size = 1 ∧ (bl (s.extract 19 s.size))[0]? = some 90 := by
  refine ⟨by rw [ByteArray.size_extract, h.n]; rfl, ?_⟩
  rw [bl_extract_end, List.getElem?_drop]
  exact h.z
def GoodPost (w : World) (e : Ending) (w' : World) : Prop := Below w.heap.size w w' ∧ ∃ t loc, e = .returned (.tuple #[tmV t loc, .bool true]) ∧ TmD t ∧ LocN w.heap.size w' t loc
set_option maxRecDepth 100000 in
set_option maxHeartbeats 25600000 in
theorem parse_good (s : ByteArray) (a : Nat) (w : World) (HG : Hd (GoodS s)) (hu : UtcAt w a) : Calls Tryd.prog 7 #[.string s, .pointer (some ⟨a, 0, none⟩)] w (GoodPost w) := by
  have hl : ¬ (s.size : Int) < 19 := by have := HG.out.n; omega
  have HU := hideP hu
  have l19 : 19 ≤ s.size := by omega
  clear hu
  go_enter Tryd.func7, Tryd.ntmps7
  go_wp2_with (fail)
  refine (puint_any _ 0 9999 (w.heap.size + 1) true _ (ext_le s 0 4 (by omega)) (by omega) (by omega) (by omega) (pst_start w).ok).mono ?_
  rintro e w1 ⟨y, bb, rfl, y0, y1, hd1, ok1, g1, hv1⟩
  obtain ⟨hx1, hbb1⟩ := hv1 HG.out.f.y (by rw [HG.out.vy]; decide) (by rw [HG.out.vy]; decide)
  have HX1 := hideP hx1
  subst hbb1
  clear hx1 hv1
  have P1 := hideP ((pst_start w).go g1 ok1)
  clear ok1 g1 hd1
  obtain ⟨y, rfl⟩ : ∃ n : Nat, y = n := ⟨y.toNat, by omega⟩
  go_wp2_with (fail)
  refine (puint_any _ 1 12 (w.heap.size + 1) true _ (ext_le s 5 7 (by omega)) (by omega) (by omega) (by omega) P1.out.ok).mono ?_
  rintro e w2 ⟨mo, bb, rfl, mo0, mo1, hd2, ok2, g2, hv2⟩
  obtain ⟨hx2, hbb2⟩ := hv2 HG.out.f.mo (by rw [HG.out.vmo]; decide) (by rw [HG.out.vmo]; decide)
  have HX2 := hideP hx2
  subst hbb2
  clear hx2 hv2
  have P2 := hideP (P1.out.go g2 ok2)
  clear ok2 g2 hd2
  obtain ⟨mo, rfl⟩ : ∃ n : Nat, mo = n := ⟨mo.toNat, by omega⟩
  have hdl := daysIn_le y mo
  have HDL := hideP hdl
  clear hdl
  go_wp2_with (fail)
  have HC := hideP (show PSt w w2.drew true from P2.out.kept ((Below.refl _ _).drew))
  have i10 : (10 : Int) ≤ s.size := by omega
  go_region_with
    (first
      | (go_at_call 14; refine (daysIn_any mo y _ (by omega) (by omega) (by omega)).mono ?_; rintro e w5 ⟨rfl, rfl⟩)
      | (go_at_call 13; refine (puint_any _ 1 _ (w.heap.size + 1) true _ (ext_le s 8 10 (by omega)) (by omega) (by have := HDL.out; omega) (by have := HDL.out; omega) HC.out.ok).mono ?_; rintro e w3 ⟨d, bb, rfl, d0, d1, hd3, ok3, g3, hv3⟩; obtain ⟨hx3, hbb3⟩ := hv3 HG.out.f.d (by rw [HG.out.vd]; decide) (by rw [HG.out.vd]; have := HDL.out; omega); have HX3 := hideP hx3; subst hbb3; clear hx3 hv3; have P3 := hideP (HC.out.go g3 ok3); clear ok3 g3 hd3))
  obtain ⟨d, rfl⟩ : ∃ n : Nat, d = n := ⟨d.toNat, by omega⟩
  go_wp2_with (fail)
  refine (puint_any _ 0 23 (w.heap.size + 1) true _ (ext_le s 11 13 (by omega)) (by omega) (by omega) (by omega) P3.out.ok).mono ?_
  rintro e w4 ⟨h, bb, rfl, h0, h1, hd4, ok4, g4, hv4⟩
  obtain ⟨hx4, hbb4⟩ := hv4 HG.out.f.h (by rw [HG.out.vh]; decide) (by rw [HG.out.vh]; decide)
  have HX4 := hideP hx4
  subst hbb4
  clear hx4 hv4
  have P4 := hideP (P3.out.go g4 ok4)
  clear ok4 g4 hd4
  obtain ⟨h, rfl⟩ : ∃ n : Nat, h = n := ⟨h.toNat, by omega⟩
  go_wp2_with (fail)
  refine (puint_any _ 0 59 (w.heap.size + 1) true _ (ext_le s 14 16 (by omega)) (by omega) (by omega) (by omega) P4.out.ok).mono ?_
  rintro e w5 ⟨mi, bb, rfl, mi0, mi1, hd5, ok5, g5, hv5⟩
  obtain ⟨hx5, hbb5⟩ := hv5 HG.out.f.mi (by rw [HG.out.vmi]; decide) (by rw [HG.out.vmi]; decide)
  have HX5 := hideP hx5
  subst hbb5
  clear hx5 hv5
  have P5 := hideP (P4.out.go g5 ok5)
  clear ok5 g5 hd5
  obtain ⟨mi, rfl⟩ : ∃ n : Nat, mi = n := ⟨mi.toNat, by omega⟩
  go_wp2_with (fail)
  refine (puint_any _ 0 59 (w.heap.size + 1) true _ (ext_le s 17 19 (by omega)) (by omega) (by omega) (by omega) P5.out.ok).mono ?_
  rintro e w6 ⟨sc, bb, rfl, sc0, sc1, hd6, ok6, g6, hv6⟩
  obtain ⟨hx6, hbb6⟩ := hv6 HG.out.f.sc (by rw [HG.out.vsc]; decide) (by rw [HG.out.vsc]; decide)
  have HX6 := hideP hx6
  subst hbb6
  clear hx6 hv6
  have P6 := hideP (P5.out.go g6 ok6)
  clear ok6 g6 hd6
  obtain ⟨sc, rfl⟩ : ∃ n : Nat, sc = n := ⟨sc.toNat, by omega⟩
  have okc : w6.cell? ⟨w.heap.size + 1, 0, none⟩ = some (.bool true) := cell_of_row _ _ 0 _ _ (0, 0) P6.out.ok
  obtain ⟨r0, r1, r2, r3, r4, r5, r6, r7, r8⟩ := P6.out.res.three (.int .u64 0) (.int .i64 0) (.pointer none)
  have i4 : (4 : Int) < s.size := by omega
  have i7 : (7 : Int) < s.size := by omega
  have i10' : (10 : Int) < s.size := by omega
  have i13 : (13 : Int) < s.size := by omega
  have i16 : (16 : Int) < s.size := by omega
  have n4 : 4 < s.size := by omega
  have n7 : 7 < s.size := by omega
  have n10 : 10 < s.size := by omega
  have n13 : 13 < s.size := by omega
  have n16 : 16 < s.size := by omega
  have t4 : ((s[4].toNat : Int) == 45) = true := sep_at (n := 45) (by decide) n4 HG.out.f.sep.1
  have t7 : ((s[7].toNat : Int) == 45) = true := sep_at (n := 45) (by decide) n7 HG.out.f.sep.2.1
  have t10 : ((s[10].toNat : Int) == 84) = true := sep_at (n := 84) (by decide) n10 HG.out.f.sep.2.2.1
  have t13 : ((s[13].toNat : Int) == 58) = true := sep_at (n := 58) (by decide) n13 HG.out.f.sep.2.2.2.1
  have t16 : ((s[16].toNat : Int) == 58) = true := sep_at (n := 58) (by decide) n16 HG.out.f.sep.2.2.2.2
  go_upto_region 14 with (fail)
  go_cut [14] from 25 to 87 (fun c wx => c = .int .i64 0 ∧ wx = w6)
  case first =>
    go_wp2_with (fail)
    go_meet
    case rel => exact ⟨rfl, rfl⟩
  case rest =>
    obtain ⟨rfl, rfl⟩ := hcut
    clear r0 r1 r2 r3 r4 r5 r6 r7 r8 okc t4 t7 t10 t13 t16 n4 n7 n10 n13 n16 i4 i7 i10' i13 i16 i10
    have hR := rest_z HG.out
    have HR := hideP hR
    have tO := tm_ok0 y mo d h mi sc 0 y1 mo0 mo1 d0 d1 h1 mi1 sc1 (by decide)
    have HTO := hideP tO
    clear hR tO
    generalize s.extract 19 s.size = r at *
    have l1 : (r.size : Int) = 1 := by have := HR.out.1; omega
    have l0 : 0 < r.size := by omega
    have tz : ((r[0].toNat : Int) == 90) = true := sep_at (n := 90) (by decide) l0 HR.out.2
    go_wp2_with (fail)
    refine (utc_any _).mono ?_
    rintro e w7 ⟨ub, rfl, hub, hut, hb7⟩
    have P7 := hideP (P6.out.kept hb7)
    have hd : Calls Tryd.prog 17 #[.int .i64 y, .int .i64 mo, .int .i64 d, .int .i64 h, .int .i64 mi, .int .i64 sc, .int .i64 0, .pointer (some ⟨ub, 0, none⟩)] w7 (DatePost ⟨y, mo, d, h, mi, sc, 0, utcB, 0⟩ true ub w7) := date_utc ⟨y, mo, d, h, mi, sc, 0, utcB, 0⟩ ub w7 HTO.out hut rfl
    have HD := hideP hd
    clear hd hut hub hb7
    go_wp2_with (fail)
    refine HD.out.mono ?_
    rintro e w8 ⟨rfl, hb8⟩
    have P8 := hideP (P7.out.kept hb8)
    clear hb8 HD
    unfold tmV
    rw [show locV true ub = Value.pointer none from rfl]
    generalize hT : (⟨y, mo, d, h, mi, sc, 0, utcB, 0⟩ : Tm) = T at *
    have HT := hideP hT
    clear hT
    have B9 := hideP (Blk.new w8 33 #[.int .u64 T.ns, .int .i64 (unixOf T + 62135596800), .pointer none])
    have P9 := hideP (P8.out.kept (below_alloc w8 (.cells #[.int .u64 T.ns, .int .i64 (unixOf T + 62135596800), .pointer none] 33)))
    go_upto_region 22 with (fail)
    generalize w8.alloc (.cells #[.int .u64 T.ns, .int .i64 (unixOf T + 62135596800), .pointer none] 33) = w9 at *
    generalize w8.heap.size = g at *
    obtain ⟨p0, p1, p2⟩ := facts3 B9.out
    obtain ⟨f0, f1, f2, f3, f4, f5, f6, f7, f8⟩ := P9.out.res.three (.int .u64 T.ns) (.int .i64 (unixOf T + 62135596800)) (.pointer none)
    go_wp2_with (fail)
    refine bodyPost_ret (v := .tuple #[.agg #[.int .u64 T.ns, .int .i64 (unixOf T + 62135596800), .pointer none], .bool true]) (by simp [results, Tryd.results7, go_sem, f6, f7, f8]) rfl ?_
    exact ⟨((P9.out.bel.setCell (Nat.le_refl _) _).setCell (Nat.le_refl _) _).setCell (Nat.le_refl _) _, T, .pointer none, rfl, tmD_of HTO.out, .inl ⟨rfl, by rw [← HT.out]⟩⟩
end Go.Proofs.YtdgckbjfnbljkaaDoor.Tm
