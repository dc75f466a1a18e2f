/- The walk of parseRFC3339's fraction. -/
import Derived.Test.YtdgckbjfnbljkaaDoorStrC
namespace Go.Proofs.YtdgckbjfnbljkaaDoor.Tm
set_option linter.unusedSimpArgs false
set_option linter.unusedVariables false
open Go.RowKit Go
/-- A point, and digits from it up to k. -/
def FracTo (r : ByteArray) (k : Nat) : Prop := (bl r)[0]? = some 46 ∧ ∀ c ∈ ((bl r).take k).drop 1, isDig c = true
theorem fracTo_start {r : ByteArray} {c : UInt8} (h0 : (bl r)[0]? = some 46) (h1 : (bl r)[1]? = some c) (h : isDig c = true) : FracTo r 2 := by
  refine ⟨h0, ?_⟩
  match hb : bl r with
  | [] => simp
  | [x] => simp
  | x :: y :: l =>
    rw [hb] at h1
    simp at h1
    subst h1
    intro d hd
    simp at hd
    subst hd
    exact h
theorem fracTo_step {r : ByteArray} {k : Nat} (h : FracTo r k) (hk : 2 ≤ k) (hlt : k < r.size) (hd : isDig r[k] = true) : FracTo r (k + 1) := by
  refine ⟨h.1, ?_⟩
  rw [bl_take r k hlt, List.drop_append_of_le_length (by rw [List.length_take, bl_length]; omega)]
  intro c hc
  rcases List.mem_append.1 hc with g | g
  · exact h.2 c g
  · obtain rfl := List.mem_singleton.1 g; exact hd
theorem frac_digs {r : ByteArray} {k : Nat} (h : FracTo r k) : ∀ c ∈ fracOf (bl r) k, isDig c = true := by
  intro c hc
  refine h.2 c ?_
  rw [fracOf, Nat.min_comm, ← List.take_take, List.drop_take] at hc
  exact List.mem_of_mem_take hc
theorem frac_mark {r : ByteArray} {k : Nat} (h : FracTo r k) (h0 : 0 < r.size) : MarkAt r h0 := by
  have e := get_at h0
  rw [h.1] at e
  have e := Option.some.inj e
  left; rw [← e]; rfl
theorem body_digs {l : List UInt8} (h : ∀ c ∈ l, isDig c = true) : (∀ c ∈ bodyOf l, isDig c = true) ∧ isNeg l = false := by
  match l with
  | [] => exact ⟨by simp [bodyOf], rfl⟩
  | c :: t =>
    have hc := h c (by simp)
    rw [isDig_iff] at hc
    have hs : isSign c = false := by unfold isSign; simp; omega
    rw [bodyOf_cons, isNeg_cons, hs]
    refine ⟨h, ?_⟩
    rw [beq_eq_false_iff_ne]; omega
theorem nano_le {l : List UInt8} {n : Nat} (h : ∀ c ∈ bodyOf (fracOf l n), isDig c = true) (hn : 1 ≤ n) : nanoVal l n ≤ 999999999 := by
  have h1 := frac_lt l n h
  unfold nanoVal
  have h2 : dval (bodyOf (fracOf l n)) * 10 ^ (10 - min n 10) < 10 ^ (min n 10 - 1) * 10 ^ (10 - min n 10) := Nat.mul_lt_mul_of_pos_right h1 (Nat.pow_pos (by decide))
  rw [← Nat.pow_add, show min n 10 - 1 + (10 - min n 10) = 9 from by omega] at h2
  exact Nat.le_of_lt_succ h2
theorem sfx_drop {s r : ByteArray} {k : Nat} (h : Sfx s r) (hk : k ≤ r.size) : Sfx s (r.extract k r.size) := by
  obtain ⟨j, h1, h2, h3⟩ := h
  have hl : r.size = s.size - j := by
    have := congrArg List.length h3
    rwa [bl_length, List.length_drop, bl_length] at this
  refine ⟨j + k, by omega, by omega, ?_⟩
  rw [bl_extract_end, h3, List.drop_drop]
set_option maxRecDepth 100000 in
set_option maxHeartbeats 25600000 in
theorem tail13 (s r : ByteArray) (a y mo d h mi sc : Nat) (w W : World) (E : Value) (HE : Hd (w.cell? ⟨2, 0, none⟩ = some E)) (HU : Hd (UtcAt w a)) (HP : Hd (PSt w W true)) (HF : Hd (Front s)) (HS : Hd (Sfx s r)) (hr : r.size ≤ 2147483647)
    (y1 : (y : Int) ≤ 9999) (mo0 : 1 ≤ (mo : Int)) (mo1 : (mo : Int) ≤ 12) (d0 : 1 ≤ (d : Int)) (d1 : (d : Int) ≤ (daysIn y mo : Nat)) (h1 : (h : Int) ≤ 23) (mi1 : (mi : Int) ≤ 59) (sc1 : (sc : Int) ≤ 59)
    (v2 v3 v15 v16 v17 v18 v19 v20 v21 v22 v23 v24 v25 v26 v27 v28 v29 v30 v31 v32 v33 v34 v35 v36 v37 v38 v39 v40 v41 v42 v43 v44 v45 v46 v47 v48 v49 v50 v51 v52 v53 v54 v55 v56 v57 v58 v59 v60 v61 v62 v63 v64 v65 v66 v67 v68 v69 v70 v71 v72 v73 v74 v75 v76 v77 v78 v79 v80 v81 v82 v83 v84 v85 v86 v87 v88 v89 v90 v91 v92 v93 v94 v95 v96 v97 v98 v99 v100 v101 v102 v103 v104 v105 v106 v107 v108 v109 v110 v111 v112 v113 v114 v115 v116 v117 v118 v119 v120 v121 v122 v123 v124 v125 v126 v127 v128 v129 v130 v131 v132 v133 v134 v135 v136 v137 v138 v139 v140 v141 v142 v143 v144 v145 v146 v147 v148 v149 v150 v151 v152 v153 v154 v155 v156 v157 v158 v159 v160 v161 v162 v163 v164 v165 v166 v167 v168 v169 v170 v171 v172 v173 v174 v175 v176 v177 v178 v179 v180 v181 v182 v183 v184 v185 v186 v187 v188 v189 v190 v191 v192 v193 v194 v195 v196 v197 v198 v199 : Value) :
    Code.wp Tryd.prog (tailC 13) (bodyPost Tryd.prog Tryd.f7 (ParsePost s w)) ⟨#[.string r, .pointer (some ⟨a, 0, none⟩), v2, v3, .pointer (some ⟨w.heap.size, 0, none⟩), .bool false, .pointer (some ⟨w.heap.size + 1, 0, none⟩), .func (Fn.func 13) #[] #[.pointer (some ⟨w.heap.size + 1, 0, none⟩)], .int .i64 y, .int .i64 mo, .int .i64 d, .int .i64 h, .int .i64 mi, .int .i64 sc, .int .i64 0, v15, v16, v17, v18, v19, v20, v21, v22, v23, v24, v25, v26, v27, v28, v29, v30, v31, v32, v33, v34, v35, v36, v37, v38, v39, v40, v41, v42, v43, v44, v45, v46, v47, v48, v49, v50, v51, v52, v53, v54, v55, v56, v57, v58, v59, v60, v61, v62, v63, v64, v65, v66, v67, v68, v69, v70, v71, v72, v73, v74, v75, v76, v77, v78, v79, v80, v81, v82, v83, v84, v85, v86, v87, v88, v89, v90, v91, v92, v93, v94, v95, v96, v97, v98, v99, v100, v101, v102, v103, v104, v105, v106, v107, v108, v109, v110, v111, v112, v113, v114, v115, v116, v117, v118, v119, v120, v121, v122, v123, v124, v125, v126, v127, v128, v129, v130, v131, v132, v133, v134, v135, v136, v137, v138, v139, v140, v141, v142, v143, v144, v145, v146, v147, v148, v149, v150, v151, v152, v153, v154, v155, v156, v157, v158, v159, v160, v161, v162, v163, v164, v165, v166, v167, v168, v169, v170, v171, v172, v173, v174, v175, v176, v177, v178, v179, v180, v181, v182, v183, v184, v185, v186, v187, v188, v189, v190, v191, v192, v193, v194, v195, v196, v197, v198, v199], []⟩ W := by
  conv => arg 2; whnf
  dsimp only
  go_upto_region 15 with (fail)
  go_cut [99] from 88 to 98 (fun c wx => ∃ q : Bool, c = .bool q ∧ (q = true → 2 ≤ r.size ∧ FracTo r 2) ∧ wx = W)
  case first =>
    by_cases l2 : (2 : Int) ≤ r.size
    · have h0 : 0 < r.size := by omega
      have i0 : (0 : Int) < r.size := by omega
      by_cases hm : (r[0].toNat : Int) = 46
      · have hm2 : ((r[0].toNat : Int) == 46) = true := by rw [beq_iff_eq]; exact hm
        have HM := hideP (show (bl r)[0]? = some 46 by rw [get_at h0]; exact congrArg some (byte_of (n := 46) (by decide) hm))
        clear hm
        have h1' : 1 < r.size := by omega
        have HI := hideP (show ∀ w', Calls Tryd.prog 15 #[.string r, .int .i64 1] w' (fun e w'' => e = .returned (.bool (isDig r[1])) ∧ w' = w'') from fun w' => isdig_any r 1 (isDig r[1]) w' (by omega) (by decide) (by rw [get_at h1']; rfl))
        have HL := hideP l2
        generalize hD : isDig r[1] = D at *
        have HDD := hideP hD
        clear hD
        go_wp2_with (go_at_call 15; refine (HI.out _).mono ?_; rintro e w' ⟨rfl, rfl⟩)
        go_meet
        case rel => exact ⟨_, rfl, fun hq => ⟨by have := HL.out; omega, fracTo_start HM.out (get_at (by have := HL.out; omega)) (HDD.out.trans hq)⟩, rfl⟩
      · have hm2 : ((r[0].toNat : Int) == 46) = false := by rw [beq_eq_false_iff_ne]; exact hm
        clear hm
        go_wp2_with (fail)
        go_meet
        case rel => exact ⟨false, rfl, fun hq => (by cases hq), rfl⟩
    · go_wp2_with (fail)
      go_meet
      case rel => exact ⟨false, rfl, fun hq => (by cases hq), rfl⟩
  case rest =>
    obtain ⟨q, rfl, hq, rfl⟩ := hcut
    have HQ := hideP hq
    clear hq
    go_upto_if 99 with (fail)
    go_cut [0, 14] from 100 to 120 (fun c0 c14 wx => ∃ (r' : ByteArray) (ns : Nat), c0 = .string r' ∧ c14 = .int .i64 ns ∧ r'.size ≤ r.size ∧ Sfx s r' ∧ ns ≤ 999999999 ∧ PSt w wx true)
    case first =>
      cases q
      · go_wp2_with (fail)
        go_meet
        case rel => exact ⟨r, 0, rfl, rfl, Nat.le_refl _, HS.out, by decide, HP.out⟩
      · obtain ⟨l2, hf⟩ := HQ.out rfl
        have HFR := hideP hf
        clear hf HQ
        have HSZ := hideP (show r.size ≤ 140737488351232 by omega)
        have h0 : 0 < r.size := by omega
        go_wp2_with (fail)
        go_loop [15] (fun i => ∃ k : Nat, i = .int .i64 k ∧ 2 ≤ k ∧ k ≤ r.size ∧ FracTo r k) (fun i => r.size - (intOf i).toNat)
        case atStart => exact ⟨2, rfl, by omega, l2, HFR.out⟩
        case round =>
          obtain ⟨k, rfl, k2, hk, hfr⟩ := hrel
          have HFK := hideP hfr
          clear hfr HFR
          have hcell : wc.cell? ⟨2, 0, none⟩ = some E := (HP.out.bel.cell (World.block_lt_of_cell? _ _ HE.out)).trans HE.out
          have HY := hideP (nano_yes r k E wc HSZ.out h0 (by omega) hk hcell (frac_mark HFK.out h0) (body_digs (frac_digs HFK.out)).1 (body_digs (frac_digs HFK.out)).2)
          clear hcell
          have HV := hideP (nano_le (l := bl r) (n := k) (body_digs (frac_digs HFK.out)).1 (by omega))
          have HK := hideP hk
          generalize nanoVal (bl r) k = V at *
          by_cases hlt : (k : Int) < r.size
          · have hlt' : k < r.size := by omega
            have HI := hideP (show ∀ w', Calls Tryd.prog 15 #[.string r, .int .i64 k] w' (fun e w'' => e = .returned (.bool (isDig r[k])) ∧ w' = w'') from fun w' => isdig_any r k (isDig r[k]) w' (by omega) (by omega) (by rw [get_at hlt']; rfl))
            generalize hD : isDig r[k] = D at *
            have HDD := hideP hD
            clear hD
            cases D
            · go_wp2_with (go_at_call 15; refine (HI.out _).mono ?_; rintro e w' ⟨rfl, rfl⟩)
              refine HY.out.mono ?_
              rintro e w1 ⟨rfl, hb⟩
              have P1 := hideP (HP.out.kept hb)
              clear hb
              go_wp2_with (fail)
              go_meet
              case rel => exact ⟨r.extract k r.size, V, rfl, rfl, by rw [ByteArray.size_extract]; omega, sfx_drop HS.out HK.out, HV.out, P1.out⟩
            · go_wp2_with (go_at_call 15; refine (HI.out _).mono ?_; rintro e w' ⟨rfl, rfl⟩)
              go_round
              case rel => exact ⟨k + 1, by go_num, by omega, hlt', fracTo_step HFK.out k2 hlt' HDD.out⟩
              case measure => simp [intOf]; omega
          · go_wp2_with (fail)
            refine HY.out.mono ?_
            rintro e w1 ⟨rfl, hb⟩
            have P1 := hideP (HP.out.kept hb)
            clear hb
            go_wp2_with (fail)
            go_meet
            case rel => exact ⟨r.extract k r.size, V, rfl, rfl, by rw [ByteArray.size_extract]; omega, sfx_drop HS.out HK.out, HV.out, P1.out⟩
    case rest =>
      obtain ⟨r', ns, rfl, rfl, hr', hs', hn', hp'⟩ := hcut
      go_step
      exact tail14 s r' a y mo d h mi sc ns w wc HU (hideP hp') HF (hideP hs') (by omega) y1 mo0 mo1 d0 d1 h1 mi1 sc1 hn' _ _ _ _ _ _ _ _ _ _ _ _ _ _ _ _ _ _ _ _ _ _ _ _ _ _ _ _ _ _ _ _ _ _ _ _ _ _ _ _ _ _ _ _ _ _ _ _ _ _ _ _ _ _ _ _ _ _ _ _ _ _ _ _ _ _ _ _ _ _ _ _ _ _ _ _ _ _ _ _ _ _ _ _ _ _ _ _ _ _ _ _ _ _ _ _ _ _ _ _ _ _ _ _ _ _ _ _ _ _ _ _ _ _ _ _ _ _ _ _ _ _ _ _ _ _ _ _ _ _ _ _ _ _ _ _ _ _ _ _ _ _ _ _ _ _ _ _ _ _ _ _ _ _ _ _ _ _ _ _ _ _ _ _ _ _ _ _ _ _ _ _ _ _ _ _ _ _ _ _ _ _ _ _ _ _ _
end Go.Proofs.YtdgckbjfnbljkaaDoor.Tm
