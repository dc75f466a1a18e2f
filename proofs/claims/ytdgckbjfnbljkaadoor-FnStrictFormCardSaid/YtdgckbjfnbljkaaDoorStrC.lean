/- The walk of parseRFC3339 from the date on. -/
import Derived.Test.YtdgckbjfnbljkaaDoorStrA
namespace Go.Proofs.YtdgckbjfnbljkaaDoor.Tm
set_option linter.unusedSimpArgs false
set_option linter.unusedVariables false
open Go.RowKit Go
def seqDrop : Nat → Code → Code
  | 0, c => c
  | n + 1, .seq _ b => seqDrop n b
  | _ + 1, c => c
noncomputable def tailC (n : Nat) : Code := (Tryd.f7.body.map (seqDrop n)).getD .skip
/-- What the date and the clock of a text show. -/
structure Front (s : ByteArray) : Prop where
  y : DigAt s 0 4
  mo : DigAt s 5 7
  d : DigAt s 8 10
  h : DigAt s 11 13
  mi : DigAt s 14 16
  sc : DigAt s 17 19
  sep : SepAt s
/-- What is left of a text. -/
def Sfx (s r : ByteArray) : Prop := ∃ k, 19 ≤ k ∧ k ≤ s.size ∧ bl r = (bl s).drop k
theorem form_of {s r : ByteArray} (n : Nat) (c : UInt8) (hf : Front s) (hs : Sfx s r) (hn : r.size = n + 1) (hc : (bl r)[n]? = some c) (h : c = 90 ∨ isDig c = true) : FormP s := by
  obtain ⟨k, h1, h2, h3⟩ := hs
  have hl : r.size = s.size - k := by
    have := congrArg List.length h3
    rwa [bl_length, List.length_drop, bl_length] at this
  refine ⟨by omega, hf.y, hf.mo, hf.d, hf.h, hf.mi, hf.sc, hf.sep.1, hf.sep.2.1, hf.sep.2.2.1, hf.sep.2.2.2.1, hf.sep.2.2.2.2, c, ?_, h⟩
  rw [h3, List.getElem?_drop] at hc
  rw [← hc]; congr 1; omega
theorem size1 {r : ByteArray} (h : (r.size : Int) = 1) : r.size = 0 + 1 := by omega
theorem get_at {r : ByteArray} {n : Nat} (h : n < r.size) : (bl r)[n]? = some r[n] := by
  rw [List.getElem?_eq_getElem (by rw [bl_length]; exact h)]; rfl
theorem byte_of {c : UInt8} {n : Nat} (hn : n < 256) (h : (c.toNat : Int) = n) : c = UInt8.ofNat n := by
  apply UInt8.toNat_inj.1
  rw [UInt8.toNat_ofNat']; omega
theorem dig_last {r : ByteArray} (h : ∀ c ∈ bl (r.extract 4 6), isDig c = true) (hr : r.size = 5 + 1) : ∃ c, (bl r)[5]? = some c ∧ (c = 90 ∨ isDig c = true) := by
  have h5 : 5 < r.size := by omega
  refine ⟨r[5], get_at h5, .inr (h _ ?_)⟩
  rw [bl_extract]
  have : ((bl r).take 6).drop 4 = [r[4], r[5]] := by
    have hl := bl_length r
    match hb : bl r, hl with
    | [x0, x1, x2, x3, x4, x5], _ =>
      have e4 := get_at (r := r) (n := 4) (by omega)
      have e5 := get_at (r := r) (n := 5) (by omega)
      rw [hb] at e4 e5
      simp at e4 e5
      simp [e4, e5]
    | [], h | [_], h | [_, _], h | [_, _, _], h | [_, _, _, _], h | [_, _, _, _, _], h => simp at h; omega
    | _ :: _ :: _ :: _ :: _ :: _ :: _ :: _, h => simp at h; omega
  rw [this]; simp
/-- The way of an exit: no time. -/
theorem no_time (s : ByteArray) (w W : World) (b : Bool) (h : PSt w W b) : ParsePost s w (.returned (.tuple #[.agg #[.int .u64 0, .int .i64 0, .pointer none], .bool false])) (((W.setCell ⟨w.heap.size, 0, none⟩ (.int .u64 0)).setCell ⟨w.heap.size, 1, none⟩ (.int .i64 0)).setCell ⟨w.heap.size, 2, none⟩ (.pointer none)) :=
  ⟨(exit_no s w W b h).1, .inl rfl⟩
theorem tmD_of {t : Tm} (h : TmOk t) : TmD t := ⟨h.day, h.clock, h.ns, h.off0, h.off1⟩
theorem PSt.far {w0 w : World} {b : Bool} (h : PSt w0 w b) {g : Nat} (hg : w0.heap.size + 1 < g) (i : Nat) (v : Value) : PSt w0 (w.setCell ⟨g, i, none⟩ v) b :=
  ⟨h.bel.setCell (show w0.heap.size ≤ g by omega) _, h.res.far (by omega) _ _, (Below.heap_setCell w ⟨g, i, none⟩ v _ (by intro e; have e : w0.heap.size + 1 = g := e; omega)).trans h.ok⟩
theorem unix_b {t : Tm} (h : TmOk t) : -90000000000000 ≤ unixOf t ∧ unixOf t ≤ 90000000000000 := by
  have := toldD_b (tmD_of h)
  have := h.off0
  have := h.off1
  unfold unixOf; omega
theorem unix_off {t : Tm} (h : t.off = 0) {z : Int} {zn : ByteArray} : unixOf { t with off := z, zn := zn } = unixOf t - z := by
  unfold unixOf toldOf
  simp only [h]
  omega
theorem unix_shift {t : Tm} {zn : ByteArray} {z U : Int} (h : t.off = 0) (hU : unixOf t = U) : U + 62135596800 + -z = unixOf { t with off := z, zn := zn } + 62135596800 := by
  rw [unix_off h, hU]; omega
theorem shift_b {U z : Int} (h : -90000000000000 ≤ U ∧ U ≤ 90000000000000) (z1 : -86399 ≤ z) (z2 : z ≤ 86399) : (-100000000000000 ≤ U + 62135596800 ∧ U + 62135596800 ≤ 100000000000000) ∧ (-100000000000000 ≤ U + 62135596800 + -z ∧ U + 62135596800 + -z ≤ 100000000000000) := by omega
/-- The way of a return with a time. -/
theorem yes_time (s : ByteArray) (w W : World) (t : Tm) (loc : Value) (h : PSt w W true) (hd : TmD t) (hl : LocN (w.heap.size + 1) W t loc) (hf : FormP s) (n x : Int)
    (hn : n = (t.ns : Int)) (hx : x = unixOf t + 62135596800) : ParsePost s w (.returned (.tuple #[.agg #[.int .u64 n, .int .i64 x, loc], .bool true])) (((W.setCell ⟨w.heap.size, 0, none⟩ (.int .u64 n)).setCell ⟨w.heap.size, 1, none⟩ (.int .i64 x)).setCell ⟨w.heap.size, 2, none⟩ loc) := by
  subst hn hx
  have hs := Nat.lt_succ_self w.heap.size
  exact ⟨((h.bel.setCell (Nat.le_refl _) _).setCell (Nat.le_refl _) _).setCell (Nat.le_refl _) _, .inr ⟨t, loc, rfl, hd, (((hl.far hs 0 _).far hs 1 _).far hs 2 _).le (Nat.le_succ _), hf⟩⟩
theorem tmD_off {t : Tm} (h : TmOk t) {z : Int} {zn : ByteArray} (z1 : -86399 ≤ z) (z2 : z ≤ 86399) : TmD { t with off := z, zn := zn } := ⟨h.day, h.clock, h.ns, z1, z2⟩
set_option maxRecDepth 100000 in
set_option maxHeartbeats 25600000 in
theorem tail14 (s r : ByteArray) (a y mo d h mi sc ns : Nat) (w W : World) (HU : Hd (UtcAt w a)) (HP : Hd (PSt w W true)) (HF : Hd (Front s)) (HS : Hd (Sfx s r)) (hr : r.size ≤ 2147483647)
    (y1 : (y : Int) ≤ 9999) (mo0 : 1 ≤ (mo : Int)) (mo1 : (mo : Int) ≤ 12) (d0 : 1 ≤ (d : Int)) (d1 : (d : Int) ≤ (daysIn y mo : Nat)) (h1 : (h : Int) ≤ 23) (mi1 : (mi : Int) ≤ 59) (sc1 : (sc : Int) ≤ 59) (n1 : ns ≤ 999999999)
    (v2 v3 v15 v16 v17 v18 v19 v20 v21 v22 v23 v24 v25 v26 v27 v28 v29 v30 v31 v32 v33 v34 v35 v36 v37 v38 v39 v40 v41 v42 v43 v44 v45 v46 v47 v48 v49 v50 v51 v52 v53 v54 v55 v56 v57 v58 v59 v60 v61 v62 v63 v64 v65 v66 v67 v68 v69 v70 v71 v72 v73 v74 v75 v76 v77 v78 v79 v80 v81 v82 v83 v84 v85 v86 v87 v88 v89 v90 v91 v92 v93 v94 v95 v96 v97 v98 v99 v100 v101 v102 v103 v104 v105 v106 v107 v108 v109 v110 v111 v112 v113 v114 v115 v116 v117 v118 v119 v120 v121 v122 v123 v124 v125 v126 v127 v128 v129 v130 v131 v132 v133 v134 v135 v136 v137 v138 v139 v140 v141 v142 v143 v144 v145 v146 v147 v148 v149 v150 v151 v152 v153 v154 v155 v156 v157 v158 v159 v160 v161 v162 v163 v164 v165 v166 v167 v168 v169 v170 v171 v172 v173 v174 v175 v176 v177 v178 v179 v180 v181 v182 v183 v184 v185 v186 v187 v188 v189 v190 v191 v192 v193 v194 v195 v196 v197 v198 v199 : Value) :
    Code.wp Tryd.prog (tailC 14) (bodyPost Tryd.prog Tryd.f7 (ParsePost s w)) ⟨#[.string r, .pointer (some ⟨a, 0, none⟩), v2, v3, .pointer (some ⟨w.heap.size, 0, none⟩), .bool false, .pointer (some ⟨w.heap.size + 1, 0, none⟩), .func (Fn.func 13) #[] #[.pointer (some ⟨w.heap.size + 1, 0, none⟩)], .int .i64 y, .int .i64 mo, .int .i64 d, .int .i64 h, .int .i64 mi, .int .i64 sc, .int .i64 ns, v15, v16, v17, v18, v19, v20, v21, v22, v23, v24, v25, v26, v27, v28, v29, v30, v31, v32, v33, v34, v35, v36, v37, v38, v39, v40, v41, v42, v43, v44, v45, v46, v47, v48, v49, v50, v51, v52, v53, v54, v55, v56, v57, v58, v59, v60, v61, v62, v63, v64, v65, v66, v67, v68, v69, v70, v71, v72, v73, v74, v75, v76, v77, v78, v79, v80, v81, v82, v83, v84, v85, v86, v87, v88, v89, v90, v91, v92, v93, v94, v95, v96, v97, v98, v99, v100, v101, v102, v103, v104, v105, v106, v107, v108, v109, v110, v111, v112, v113, v114, v115, v116, v117, v118, v119, v120, v121, v122, v123, v124, v125, v126, v127, v128, v129, v130, v131, v132, v133, v134, v135, v136, v137, v138, v139, v140, v141, v142, v143, v144, v145, v146, v147, v148, v149, v150, v151, v152, v153, v154, v155, v156, v157, v158, v159, v160, v161, v162, v163, v164, v165, v166, v167, v168, v169, v170, v171, v172, v173, v174, v175, v176, v177, v178, v179, v180, v181, v182, v183, v184, v185, v186, v187, v188, v189, v190, v191, v192, v193, v194, v195, v196, v197, v198, v199], []⟩ W := by
  conv => arg 2; whnf
  have tO := tm_ok0 y mo d h mi sc ns y1 mo0 mo1 d0 d1 h1 mi1 sc1 n1
  have HTO := hideP tO
  clear tO
  go_wp2_with (fail)
  refine (utc_any _).mono ?_
  rintro e w7 ⟨ub, rfl, hub, hut, hb7⟩
  have P7 := hideP (HP.out.kept hb7)
  have hd : Calls Tryd.prog 17 #[.int .i64 y, .int .i64 mo, .int .i64 d, .int .i64 h, .int .i64 mi, .int .i64 sc, .int .i64 ns, .pointer (some ⟨ub, 0, none⟩)] w7 (DatePost ⟨y, mo, d, h, mi, sc, ns, utcB, 0⟩ true ub w7) := date_utc ⟨y, mo, d, h, mi, sc, ns, utcB, 0⟩ ub w7 HTO.out hut rfl
  have HD := hideP hd
  clear hd hut hub hb7
  go_wp2_with (fail)
  refine HD.out.mono ?_
  rintro e w8 ⟨rfl, hb8⟩
  have P8 := hideP (P7.out.kept hb8)
  clear hb8 HD
  unfold tmV
  rw [show locV true ub = Value.pointer none from rfl]
  generalize hT : (⟨y, mo, d, h, mi, sc, ns, utcB, 0⟩ : Tm) = T at *
  have HT := hideP hT
  clear hT
  have B9 := hideP (Blk.new w8 33 #[.int .u64 T.ns, .int .i64 (unixOf T + 62135596800), .pointer none])
  have P9 := hideP (P8.out.kept (below_alloc w8 (.cells #[.int .u64 T.ns, .int .i64 (unixOf T + 62135596800), .pointer none] 33)))
  have GB := hideP (show w.heap.size + 1 < w8.heap.size from P8.out.ok.lt)
  have HW8 := hideP P8.out.bel.size
  go_upto_region 22 with (fail)
  generalize w8.alloc (.cells #[.int .u64 T.ns, .int .i64 (unixOf T + 62135596800), .pointer none] 33) = w9 at *
  generalize w8.heap.size = g at *
  go_cut [137] from 130 to 136 (fun c wx => ∃ q : Bool, c = .bool q ∧ (q = false → r.size = 0 + 1 ∧ (bl r)[0]? = some 90) ∧ wx = w9)
  case first =>
    go_wp2_with (fail)
    all_goals
      go_meet
      case rel =>
        refine ⟨_, rfl, fun hq => ?_, rfl⟩
        first
          | (exfalso; revert hq; decide)
          | (have h1 : r.size = 0 + 1 := by omega
             refine ⟨h1, ?_⟩
             rw [get_at (by omega)]
             exact congrArg some (byte_of (n := 90) (by decide) (by simpa using hq)))
  case rest =>
    obtain ⟨q, rfl, hq, rfl⟩ := hcut
    cases q
    · have HZ := hideP (hq rfl)
      clear hq
      obtain ⟨p0, p1, p2⟩ := facts3 B9.out
      obtain ⟨f0, f1, f2, f3, f4, f5, f6, f7, f8⟩ := P9.out.res.three (.int .u64 T.ns) (.int .i64 (unixOf T + 62135596800)) (.pointer none)
      go_wp2_with (fail)
      refine bodyPost_ret (v := .tuple #[.agg #[.int .u64 T.ns, .int .i64 (unixOf T + 62135596800), .pointer none], .bool true]) (by simp [results, Tryd.results7, go_sem, f6, f7, f8]) rfl ?_
      exact ⟨((P9.out.bel.setCell (Nat.le_refl _) _).setCell (Nat.le_refl _) _).setCell (Nat.le_refl _) _, .inr ⟨T, .pointer none, rfl, tmD_of HTO.out, .inl ⟨rfl, by rw [← HT.out]⟩, form_of 0 90 HF.out HS.out HZ.out.1 HZ.out.2 (.inl rfl)⟩⟩
    · clear hq
      obtain ⟨r0, r1, r2, r3, r4, r5, r6, r7, r8⟩ := P9.out.res.three (.int .u64 0) (.int .i64 0) (.pointer none)
      by_cases h6 : (r.size : Int) = 6
      case neg =>
        go_wp2_with (fail)
        exact bodyPost_ret (v := .tuple #[.agg #[.int .u64 0, .int .i64 0, .pointer none], .bool false]) (by simp [results, Tryd.results7, go_sem, r6, r7, r8]) rfl (no_time s w _ true P9.out)
      case pos =>
        have H6 := hideP (show r.size = 5 + 1 by omega)
        clear r0 r1 r2 r3 r4 r5 r6 r7 r8
        go_wp2_with (fail)
        refine (puint_any _ 0 23 (w.heap.size + 1) true _ (ext_le _ 1 3 (by omega)) (by omega) (by omega) (by omega) P9.out.ok).mono ?_
        rintro e w10 ⟨hr, b10, rfl, hr0, hr1, hd10, ok10, g10, -⟩
        have P10 := hideP (P9.out.go g10 ok10)
        have B10 := hideP (show Blk w10 g 33 #[.int .u64 T.ns, .int .i64 (unixOf T + 62135596800), .pointer none] from (g10.block _ B9.out.lt (by have := GB.out; intro e; injection e; omega)).trans B9.out)
        clear ok10 g10 hd10
        go_wp2_with (fail)
        refine (puint_any _ 0 59 (w.heap.size + 1) b10 _ (ext_le _ 4 6 (by omega)) (by omega) (by omega) (by omega) P10.out.ok).mono ?_
        rintro e w11 ⟨mm, b11, rfl, mm0, mm1, hd11, ok11, g11, -⟩
        have P11 := hideP (P10.out.go g11 ok11)
        have B11 := hideP (show Blk w11 g 33 #[.int .u64 T.ns, .int .i64 (unixOf T + 62135596800), .pointer none] from (g11.block _ B10.out.lt (by have := GB.out; intro e; injection e; omega)).trans B10.out)
        have D11 := hideP hd11
        clear ok11 g11 hd11
        have okc : w11.cell? ⟨w.heap.size + 1, 0, none⟩ = some (.bool b11) := cell_of_row _ _ 0 _ _ (0, 0) P11.out.ok
        go_upto_region 27 with (fail)
        go_cut [167] from 130 to 166 (fun c wx => ∃ q : Bool, c = .bool q ∧ (q = false → b11 = true) ∧ wx = w11)
        case first =>
          cases b11
          all_goals
            go_wp2_with (fail)
            all_goals
              go_meet
              case rel => exact ⟨_, rfl, fun h => (by first | trivial | rfl | (revert h; decide)), rfl⟩
        case rest =>
          obtain ⟨q, rfl, hq, rfl⟩ := hcut
          cases q
          · obtain rfl := hq rfl
            have HD := hideP (dig_last (D11.out rfl).2 H6.out)
            clear hq D11
            have Z0 : 0 ≤ (hr * 60 + mm) * 60 := by omega
            have Z1 : (hr * 60 + mm) * 60 ≤ 86399 := by omega
            go_upto_region 30 with (fail)
            go_cut [176] from 168 to 175 (fun c wx => ∃ q : Bool, c = .bool q ∧ wx = wc)
            case first =>
              go_wp2_with (fail)
              go_meet
              case rel => exact ⟨_, rfl, rfl⟩
            case rest =>
              obtain ⟨q, rfl, rfl⟩ := hcut
              generalize (hr * 60 + mm) * 60 = z0 at *
              go_upto_if 176 with (fail)
              go_cut [19] from 177 to 178 (fun c wx => ∃ z : Int, c = .int .i64 z ∧ -86399 ≤ z ∧ z ≤ 86399 ∧ wx = wc)
              case first =>
                cases q
                all_goals
                  go_wp2_with (fail)
                  go_meet
                  case rel => exact ⟨_, rfl, by omega, by omega, rfl⟩
              case rest =>
                obtain ⟨z, rfl, z1, z2, rfl⟩ := hcut
                clear Z0 Z1 hr0 hr1 mm0 mm1 h6 okc B9 B10
                have hx := unix_b HTO.out
                have HXT := hideP (fun (U : Int) (hU : unixOf T = U) => unix_shift (zn := ⟨#[]⟩) (z := z) (show T.off = 0 by rw [← HT.out]) hU)
                generalize hU : unixOf T = U at B11 hx ⊢
                have HXU := hideP (HXT.out U hU)
                clear hU HXT
                obtain ⟨hx1, hx2⟩ := shift_b hx z1 z2
                go_wp2_with (fail)
                refine (addSec_any g T.ns (U + 62135596800) (-z) _ HTO.out.ns hx1.1 hx1.2 (by omega) (by omega) (B11.out.cell 0) (B11.out.cell 1) (B11.out.free 1)).mono ?_
                rintro e w12 ⟨rfl, rfl⟩
                have B12 := hideP (show Blk (wc.setCell ⟨g, 1, none⟩ (.int .i64 (U + 62135596800 + -z))) g 33 #[.int .u64 T.ns, .int .i64 (U + 62135596800 + -z), .pointer none] from B11.out.set 1 _)
                have P12 := hideP (P11.out.far GB.out 1 (.int .i64 (U + 62135596800 + -z)))
                have HX := hideP hx2
                clear hx1 hx2 hx B11 P11
                generalize wc.setCell ⟨g, 1, none⟩ (.int .i64 (U + 62135596800 + -z)) = w12 at *
                generalize U + 62135596800 + -z = X at *
                go_wp2_with (fail)
                refine (unixSec_any g T.ns X _ HTO.out.ns HX.out (B12.out.cell 0) (B12.out.cell 1)).mono ?_
                rintro e w13 ⟨rfl, rfl⟩
                go_wp2_with (fail)
                refine (lookup_utc a _ _ (HU.out.kept P12.out.bel)).mono ?_
                rintro e w14 ⟨rfl, rfl⟩
                have HTD := hideP (tmD_off (zn := ⟨#[]⟩) HTO.out z1 z2)
                have HO := hideP (show ({ T with off := z, zn := ⟨#[]⟩ } : Tm).off = z from rfl)
                have HZN := hideP (show ({ T with off := z, zn := ⟨#[]⟩ } : Tm).zn = ⟨#[]⟩ from rfl)
                have HN := hideP (show (({ T with off := z, zn := ⟨#[]⟩ } : Tm).ns : Int) = (T.ns : Int) from rfl)
                generalize ({ T with off := z, zn := ⟨#[]⟩ } : Tm) = T' at *
                have HFORM := hideP (show FormP s by obtain ⟨c, c1, c2⟩ := HD.out; exact form_of 5 c HF.out HS.out H6.out c1 c2)
                by_cases hz : z = 0
                · have HZ := hideP hz
                  have tz : ((0 : Int) == z) = true := by rw [hz]; rfl
                  clear hz
                  go_wp2_with (fail)
                  refine (setLoc_any g a true T.ns (.pointer none) _ HTO.out.ns (B12.out.cell 0) (B12.out.cell 2) (B12.out.free 2) ((HU.out.kept P12.out.bel).c0)).mono ?_
                  rintro e w15 ⟨rfl, rfl⟩
                  rw [if_pos rfl]
                  have B15 := hideP (show Blk (w12.setCell ⟨g, 2, none⟩ (.pointer none)) g 33 #[.int .u64 T.ns, .int .i64 X, .pointer none] from B12.out.set 2 _)
                  have P15 := hideP (P12.out.far GB.out 2 (.pointer none))
                  generalize w12.setCell ⟨g, 2, none⟩ (.pointer none) = w15 at *
                  obtain ⟨p0, p1, p2⟩ := facts3 B15.out
                  obtain ⟨f0, f1, f2, f3, f4, f5, f6, f7, f8⟩ := P15.out.res.three (.int .u64 T.ns) (.int .i64 X) (.pointer none)
                  go_wp2_with (fail)
                  refine bodyPost_ret (v := .tuple #[.agg #[.int .u64 T.ns, .int .i64 X, .pointer none], .bool true]) (by simp [results, Tryd.results7, go_sem, f6, f7, f8]) rfl ?_
                  exact yes_time s w w15 T' _ P15.out HTD.out (.inl ⟨rfl, HO.out.trans HZ.out⟩) HFORM.out _ _ HN.out.symm HXU.out
                · have tz : ((0 : Int) == z) = false := by rw [beq_eq_false_iff_ne]; exact fun h => hz h.symm
                  clear hz
                  go_wp2_with (fail)
                  refine (fixedPub_any ⟨#[]⟩ z _).mono ?_
                  rintro e w14 ⟨b, zb, tb, rfl, gb, gz, hl, hbel⟩
                  have B14 := hideP (B12.out.kept hbel)
                  have P14 := hideP (P12.out.kept hbel)
                  have L14 := hideP hl
                  have NB := hideP (show b ≠ g ∧ zb ≠ g ∧ w.heap.size + 1 ≤ b ∧ w.heap.size + 1 ≤ zb from by have := B12.out.lt; have := GB.out; exact ⟨by omega, by omega, by omega, by omega⟩)
                  clear hl hbel gb gz
                  go_wp2_with (fail)
                  refine (setLoc_any g b false T.ns (.pointer none) _ HTO.out.ns (B14.out.cell 0) (B14.out.cell 2) (B14.out.free 2) L14.out.c0).mono ?_
                  rintro e w15 ⟨rfl, rfl⟩
                  rw [if_neg (by decide)]
                  have B15 := hideP (show Blk (w14.setCell ⟨g, 2, none⟩ (.pointer (some ⟨b, 0, none⟩))) g 33 #[.int .u64 T.ns, .int .i64 X, .pointer (some ⟨b, 0, none⟩)] from B14.out.set 2 _)
                  have P15 := hideP (P14.out.far GB.out 2 (.pointer (some ⟨b, 0, none⟩)))
                  have L15 := hideP (loc_far L14.out NB.out.1 NB.out.2.1 2 (.pointer (some ⟨b, 0, none⟩)))
                  generalize w14.setCell ⟨g, 2, none⟩ (.pointer (some ⟨b, 0, none⟩)) = w15 at *
                  obtain ⟨p0, p1, p2⟩ := facts3 B15.out
                  obtain ⟨f0, f1, f2, f3, f4, f5, f6, f7, f8⟩ := P15.out.res.three (.int .u64 T.ns) (.int .i64 X) (.pointer (some ⟨b, 0, none⟩))
                  go_wp2_with (fail)
                  refine bodyPost_ret (v := .tuple #[.agg #[.int .u64 T.ns, .int .i64 X, .pointer (some ⟨b, 0, none⟩)], .bool true]) (by simp [results, Tryd.results7, go_sem, f6, f7, f8]) rfl ?_
                  exact yes_time s w w15 T' _ P15.out HTD.out (.inr ⟨b, zb, tb, rfl, NB.out.2.2.1, NB.out.2.2.2, by rw [HO.out, HZN.out]; exact L15.out⟩) HFORM.out _ _ HN.out.symm HXU.out
          · clear hq
            obtain ⟨r0, r1, r2, r3, r4, r5, r6, r7, r8⟩ := P11.out.res.three (.int .u64 0) (.int .i64 0) (.pointer none)
            go_wp2_with (fail)
            exact bodyPost_ret (v := .tuple #[.agg #[.int .u64 0, .int .i64 0, .pointer none], .bool false]) (by simp [results, Tryd.results7, go_sem, r6, r7, r8]) rfl (no_time s w _ b11 P11.out)
end Go.Proofs.YtdgckbjfnbljkaaDoor.Tm
