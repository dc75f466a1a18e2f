/- The walk of appendFormat, a round: offsets. -/
import Derived.Test.YtigabjibdepoiaaDoorFmtE
namespace Go.Proofs.YtigabjibdepoiaaDoor.Tm
set_option linter.unusedSimpArgs false
set_option linter.unusedVariables false
open Go.RowKit Go
section
variable (u0 u4 u5 u6 u21 u22 u23 u24 u25 u26 u27 u28 u29 u30 u31 u32 u33 u34 u35 u36 u37 u38 u39 u40 u41 u42 u43 u44 u45 u46 u47 u48 u49 u50 u51 u52 u53 u54 u55 u56 u57 u58 u59 u60 u61 u62 u63 u64 u65 u66 u67 u68 u69 u70 u71 u72 u73 u74 u75 u76 u77 u78 u79 u80 u81 u82 u83 u84 u85 u86 u87 u88 u89 u90 u91 u93 u94 u95 u96 u97 u98 u99 u100 u101 u102 u103 u104 u105 u106 u107 u108 u109 u110 u111 u112 u113 u114 u115 u116 u117 u118 u119 u120 u121 u122 u123 u124 u125 u126 u127 u128 u129 u130 u131 u132 u133 u134 u135 u136 u137 u138 u139 u140 u141 u142 u143 u144 u145 u146 u147 u148 u149 u150 u151 u152 u153 u154 u155 u156 u157 u158 u159 u160 u161 u162 u163 u164 u165 u166 u167 u168 u169 u170 u171 u172 u173 u174 u175 u176 u177 u178 u179 u180 u181 u182 u183 u184 u185 u186 u187 u188 u189 u190 u191 u192 u193 u194 u195 u196 u197 u198 u199 u200 u201 u202 u203 u204 u205 u206 u207 u208 u209 u210 u211 u212 u213 u214 u215 u216 u217 u218 u219 u220 u221 u222 u223 u224 u225 u226 u227 u228 u229 u230 u231 u232 u233 u234 u235 u236 u237 u238 u239 u240 u241 u242 u243 u244 u245 u246 u247 u248 u249 u250 u251 u252 u253 u254 u255 u256 u257 u258 u259 u260 u261 u262 u263 u264 u265 u266 u267 u268 u269 u270 u271 u272 u273 u274 u275 u276 u277 u278 u279 u280 u281 u282 u283 u284 u285 u286 u287 u288 u289 u290 u291 u292 u293 u294 u295 u296 u297 u298 u299 u300 u301 u302 u303 u304 u305 u306 u307 u308 u309 u310 u311 u312 u313 u314 u315 u316 u317 u318 u319 u320 u321 u322 u323 u324 u325 u326 u327 u328 u329 u330 u331 u332 u333 u334 u335 u336 u337 u338 u339 u340 u341 u342 u343 u344 u345 u346 u347 u348 u349 u350 u351 u352 u353 u354 u355 u356 u357 u358 u359 u360 u361 u362 u363 u364 u365 u366 u367 u368 u369 u370 u371 u372 u373 u374 u375 u376 u377 u378 u379 u380 u381 u382 u383 u384 u385 u386 u387 u388 u389 u390 u391 u392 : Value)
set_option maxRecDepth 1000000 in
set_option maxHeartbeats 6400000 in
theorem e29_lit (t : Tm) (hO : TmOk t) (v : Value) (s : ByteArray) (gp : Nat) (nm : ByteArray) (off ab dy : Int) (cy cm cd cyd ch cmi cs : Int) (x18 x20 : Value) (w : World) (hoff : t.off = off) (w0 : World) (v0 : Value) (base : Nat) (xs : List Value) (l : List UInt8) (n : Nat) (hB : BSt w0 v0 base xs w v l n) (hn : n + 1000 ≤ 140737488351232)
    (K : Act → World → Prop) (Q : Exit → Act → World → Prop)
    (hk : ∀ v' a' w', FmtF v' s gp nm off ab dy cy cm cd cyd ch cmi cs x18 (.int .i64 29) x20 (.int .i64 29) a' → BSt w0 v0 base xs w' v' (l ++ elemL t 29) (n + 200) → K a' w') :
    Code.wp Tryd.prog fp23 (Exit.then K Q) ⟨List.toArray (u0 :: v :: (.string s) :: (.pointer (some ⟨gp, 0, none⟩)) :: u4 :: u5 :: u6 :: (.string nm) :: (.int .i64 off) :: (.int .u64 ab) :: (.int .u64 dy) :: (.int .i64 cy) :: (.int .i64 cm) :: (.int .i64 cd) :: (.int .i64 cyd) :: (.int .i64 ch) :: (.int .i64 cmi) :: (.int .i64 cs) :: x18 :: (.int .i64 29) :: x20 :: u21 :: u22 :: u23 :: u24 :: u25 :: u26 :: u27 :: u28 :: u29 :: u30 :: u31 :: u32 :: u33 :: u34 :: u35 :: u36 :: u37 :: u38 :: u39 :: u40 :: u41 :: u42 :: u43 :: u44 :: u45 :: u46 :: u47 :: u48 :: u49 :: u50 :: u51 :: u52 :: u53 :: u54 :: u55 :: u56 :: u57 :: u58 :: u59 :: u60 :: u61 :: u62 :: u63 :: u64 :: u65 :: u66 :: u67 :: u68 :: u69 :: u70 :: u71 :: u72 :: u73 :: u74 :: u75 :: u76 :: u77 :: u78 :: u79 :: u80 :: u81 :: u82 :: u83 :: u84 :: u85 :: u86 :: u87 :: u88 :: u89 :: u90 :: u91 :: (.int .i64 29) :: u93 :: u94 :: u95 :: u96 :: u97 :: u98 :: u99 :: u100 :: u101 :: u102 :: u103 :: u104 :: u105 :: u106 :: u107 :: u108 :: u109 :: u110 :: u111 :: u112 :: u113 :: u114 :: u115 :: u116 :: u117 :: u118 :: u119 :: u120 :: u121 :: u122 :: u123 :: u124 :: u125 :: u126 :: u127 :: u128 :: u129 :: u130 :: u131 :: u132 :: u133 :: u134 :: u135 :: u136 :: u137 :: u138 :: u139 :: u140 :: u141 :: u142 :: u143 :: u144 :: u145 :: u146 :: u147 :: u148 :: u149 :: u150 :: u151 :: u152 :: u153 :: u154 :: u155 :: u156 :: u157 :: u158 :: u159 :: u160 :: u161 :: u162 :: u163 :: u164 :: u165 :: u166 :: u167 :: u168 :: u169 :: u170 :: u171 :: u172 :: u173 :: u174 :: u175 :: u176 :: u177 :: u178 :: u179 :: u180 :: u181 :: u182 :: u183 :: u184 :: u185 :: u186 :: u187 :: u188 :: u189 :: u190 :: u191 :: u192 :: u193 :: u194 :: u195 :: u196 :: u197 :: u198 :: u199 :: u200 :: u201 :: u202 :: u203 :: u204 :: u205 :: u206 :: u207 :: u208 :: u209 :: u210 :: u211 :: u212 :: u213 :: u214 :: u215 :: u216 :: u217 :: u218 :: u219 :: u220 :: u221 :: u222 :: u223 :: u224 :: u225 :: u226 :: u227 :: u228 :: u229 :: u230 :: u231 :: u232 :: u233 :: u234 :: u235 :: u236 :: u237 :: u238 :: u239 :: u240 :: u241 :: u242 :: u243 :: u244 :: u245 :: u246 :: u247 :: u248 :: u249 :: u250 :: u251 :: u252 :: u253 :: u254 :: u255 :: u256 :: u257 :: u258 :: u259 :: u260 :: u261 :: u262 :: u263 :: u264 :: u265 :: u266 :: u267 :: u268 :: u269 :: u270 :: u271 :: u272 :: u273 :: u274 :: u275 :: u276 :: u277 :: u278 :: u279 :: u280 :: u281 :: u282 :: u283 :: u284 :: u285 :: u286 :: u287 :: u288 :: u289 :: u290 :: u291 :: u292 :: u293 :: u294 :: u295 :: u296 :: u297 :: u298 :: u299 :: u300 :: u301 :: u302 :: u303 :: u304 :: u305 :: u306 :: u307 :: u308 :: u309 :: u310 :: u311 :: u312 :: u313 :: u314 :: u315 :: u316 :: u317 :: u318 :: u319 :: u320 :: u321 :: u322 :: u323 :: u324 :: u325 :: u326 :: u327 :: u328 :: u329 :: u330 :: u331 :: u332 :: u333 :: u334 :: u335 :: u336 :: u337 :: u338 :: u339 :: u340 :: u341 :: u342 :: u343 :: u344 :: u345 :: u346 :: u347 :: u348 :: u349 :: u350 :: u351 :: u352 :: u353 :: u354 :: u355 :: u356 :: u357 :: u358 :: u359 :: u360 :: u361 :: u362 :: u363 :: u364 :: u365 :: u366 :: u367 :: u368 :: u369 :: u370 :: u371 :: u372 :: u373 :: u374 :: u375 :: u376 :: u377 :: u378 :: u379 :: u380 :: u381 :: u382 :: u383 :: u384 :: u385 :: u386 :: u387 :: u388 :: u389 :: u390 :: u391 :: u392 :: []), []⟩ w := by
  have HK := hideP hk
  have HB := hideP hB
  have o1 := hO.off0
  have o2 := hO.off1
  have o3 := hO.off2
  clear hk hB hO
  have hsp : off = 0 ∨ (∃ z : Nat, off = z ∧ 60 ≤ z ∧ z ≤ 86399) ∨ (∃ z : Nat, off = -(z : Int) ∧ 60 ≤ z ∧ z ≤ 86399) := by
    rw [hoff] at o1 o2 o3
    rcases o3 with h | h | h
    · exact .inl h
    · exact .inr (.inr ⟨(-off).toNat, by omega, by omega, by omega⟩)
    · exact .inr (.inl ⟨off.toNat, by omega, by omega, by omega⟩)
  rcases hsp with rfl | ⟨z, rfl, hz1, hz2⟩ | ⟨z, rfl, hz1, hz2⟩
  · have HE := hideP (show elemL t 29 = offL 0 true false false by show offL t.off true false false = _; rw [hoff])
    clear hoff o1 o2 o3
    conv => arg 2; whnf
    go_wp2_with (first
      | (at_builtin; refine wpList_bst_one 90 _ _ rfl _ _ rfl HB.out rfl rfl rfl (by omega) ?_; intro v1 w1 hb1; have HB := hideP hb1; clear hb1)
      | (at_builtin; refine wpList_bst_one 45 _ _ rfl _ _ rfl HB.out rfl rfl rfl (by omega) ?_; intro v1 w1 hb1; have HB := hideP hb1; clear hb1)
      | (at_builtin; refine wpList_bst_one 43 _ _ rfl _ _ rfl HB.out rfl rfl rfl (by omega) ?_; intro v1 w1 hb1; have HB := hideP hb1; clear hb1)
      | (at_builtin; refine wpList_bst_one 58 _ _ rfl _ _ rfl HB.out rfl rfl rfl (by omega) ?_; intro v1 w1 hb1; have HB := hideP hb1; clear hb1)
      | (go_at_call 105; refine (int_bstI _ _ HB.out (by omega) (by omega) (by decide) (by decide) (by omega)).mono ?_; rintro e w1 ⟨v1, rfl, hb1⟩; have HB := hideP hb1; clear hb1))
    exact HK.out _ _ _ ⟨by kernel_rfl, rfl, rfl, rfl, rfl, rfl, rfl, rfl, rfl, rfl, rfl, rfl, rfl, rfl, rfl, rfl, rfl, rfl, rfl, rfl⟩ ((HB.out.text (by simp only [HE.out, off_zero, Bool.false_eq_true, if_true, if_false, reduceIte, List.append_assoc, List.nil_append, List.append_nil, List.cons_append, List.singleton_append])).more (by omega))
  · have HE := hideP (show elemL t 29 = offL ((z : Int)) true false false by show offL t.off true false false = _; rw [hoff])
    have zb1 : (60 : Int) ≤ z := by omega
    have zb2 : (z : Int) ≤ 86399 := by omega
    have ht2 : ((z : Int) == 0) = false := by rw [beq_eq_false_iff_ne]; omega
    have HZ := hideP hz1
    clear hoff o1 o2 o3 hz1 hz2
    conv => arg 2; whnf
    go_wp2_with (first
      | (at_builtin; refine wpList_bst_one 90 _ _ rfl _ _ rfl HB.out rfl rfl rfl (by omega) ?_; intro v1 w1 hb1; have HB := hideP hb1; clear hb1)
      | (at_builtin; refine wpList_bst_one 45 _ _ rfl _ _ rfl HB.out rfl rfl rfl (by omega) ?_; intro v1 w1 hb1; have HB := hideP hb1; clear hb1)
      | (at_builtin; refine wpList_bst_one 43 _ _ rfl _ _ rfl HB.out rfl rfl rfl (by omega) ?_; intro v1 w1 hb1; have HB := hideP hb1; clear hb1)
      | (at_builtin; refine wpList_bst_one 58 _ _ rfl _ _ rfl HB.out rfl rfl rfl (by omega) ?_; intro v1 w1 hb1; have HB := hideP hb1; clear hb1)
      | (go_at_call 105; refine (int_bstI _ _ HB.out (by omega) (by omega) (by decide) (by decide) (by omega)).mono ?_; rintro e w1 ⟨v1, rfl, hb1⟩; have HB := hideP hb1; clear hb1))
    exact HK.out _ _ _ ⟨by kernel_rfl, rfl, rfl, rfl, rfl, rfl, rfl, rfl, rfl, rfl, rfl, rfl, rfl, rfl, rfl, rfl, rfl, rfl, rfl, rfl⟩ ((HB.out.text (by simp only [HE.out, zq1, zq2, zq3, off_pos, Bool.false_eq_true, if_true, if_false, reduceIte, List.append_assoc, List.nil_append, List.append_nil, List.cons_append, List.singleton_append])).more (by omega))
  · have HE := hideP (show elemL t 29 = offL (-(z : Int)) true false false by show offL t.off true false false = _; rw [hoff])
    have zb1 : (60 : Int) ≤ z := by omega
    have zb2 : (z : Int) ≤ 86399 := by omega
    have ht := tdiv_neg z
    have ht2 := neg_ne z hz1
    have ht3 := neg_lt z hz1
    have HZ := hideP hz1
    clear hoff o1 o2 o3 hz1 hz2
    conv => arg 2; whnf
    go_wp2_with (first
      | (at_builtin; refine wpList_bst_one 90 _ _ rfl _ _ rfl HB.out rfl rfl rfl (by omega) ?_; intro v1 w1 hb1; have HB := hideP hb1; clear hb1)
      | (at_builtin; refine wpList_bst_one 45 _ _ rfl _ _ rfl HB.out rfl rfl rfl (by omega) ?_; intro v1 w1 hb1; have HB := hideP hb1; clear hb1)
      | (at_builtin; refine wpList_bst_one 43 _ _ rfl _ _ rfl HB.out rfl rfl rfl (by omega) ?_; intro v1 w1 hb1; have HB := hideP hb1; clear hb1)
      | (at_builtin; refine wpList_bst_one 58 _ _ rfl _ _ rfl HB.out rfl rfl rfl (by omega) ?_; intro v1 w1 hb1; have HB := hideP hb1; clear hb1)
      | (go_at_call 105; refine (int_bstI _ _ HB.out (by omega) (by omega) (by decide) (by decide) (by omega)).mono ?_; rintro e w1 ⟨v1, rfl, hb1⟩; have HB := hideP hb1; clear hb1))
    exact HK.out _ _ _ ⟨by kernel_rfl, rfl, rfl, rfl, rfl, rfl, rfl, rfl, rfl, rfl, rfl, rfl, rfl, rfl, rfl, rfl, rfl, rfl, rfl, rfl⟩ ((HB.out.text (by simp only [HE.out, zq1, zq2, zq3, off_neg z HZ.out, Bool.false_eq_true, if_true, if_false, reduceIte, List.append_assoc, List.nil_append, List.append_nil, List.cons_append, List.singleton_append])).more (by omega))
end
theorem e29 (t : Tm) (hO : TmOk t) (v : Value) (s : ByteArray) (gp : Nat) (nm : ByteArray) (off ab dy : Int) (cy cm cd cyd ch cmi cs : Int) (x18 x20 : Value) (w : World) (hoff : t.off = off) (w0 : World) (v0 : Value) (base : Nat) (xs : List Value) (l : List UInt8) (n : Nat) (hB : BSt w0 v0 base xs w v l n) (hn : n + 1000 ≤ 140737488351232) (a : Act) (hF : FmtF v s gp nm off ab dy cy cm cd cyd ch cmi cs x18 (.int .i64 29) x20 (.int .i64 29) a)
    (K : Act → World → Prop) (Q : Exit → Act → World → Prop)
    (hk : ∀ v' a' w', FmtF v' s gp nm off ab dy cy cm cd cyd ch cmi cs x18 (.int .i64 29) x20 (.int .i64 29) a' → BSt w0 v0 base xs w' v' (l ++ elemL t 29) (n + 200) → K a' w') :
    Code.wp Tryd.prog fp23 (Exit.then K Q) a w := by
  obtain ⟨h1, h2, q1, q2, q3, q7, q8, q9, q10, q11, q12, q13, q14, q15, q16, q17, q18, q19, q20, q92⟩ := hF
  rw [fmt_frame a h1 h2, q1, q2, q3, q7, q8, q9, q10, q11, q12, q13, q14, q15, q16, q17, q18, q19, q20, q92]
  exact e29_lit _ _ _ _ _ _ _ _ _ _ _ _ _ _ _ _ _ _ _ _ _ _ _ _ _ _ _ _ _ _ _ _ _ _ _ _ _ _ _ _ _ _ _ _ _ _ _ _ _ _ _ _ _ _ _ _ _ _ _ _ _ _ _ _ _ _ _ _ _ _ _ _ _ _ _ _ _ _ _ _ _ _ _ _ _ _ _ _ _ _ _ _ _ _ _ _ _ _ _ _ _ _ _ _ _ _ _ _ _ _ _ _ _ _ _ _ _ _ _ _ _ _ _ _ _ _ _ _ _ _ _ _ _ _ _ _ _ _ _ _ _ _ _ _ _ _ _ _ _ _ _ _ _ _ _ _ _ _ _ _ _ _ _ _ _ _ _ _ _ _ _ _ _ _ _ _ _ _ _ _ _ _ _ _ _ _ _ _ _ _ _ _ _ _ _ _ _ _ _ _ _ _ _ _ _ _ _ _ _ _ _ _ _ _ _ _ _ _ _ _ _ _ _ _ _ _ _ _ _ _ _ _ _ _ _ _ _ _ _ _ _ _ _ _ _ _ _ _ _ _ _ _ _ _ _ _ _ _ _ _ _ _ _ _ _ _ _ _ _ _ _ _ _ _ _ _ _ _ _ _ _ _ _ _ _ _ _ _ _ _ _ _ _ _ _ _ _ _ _ _ _ _ _ _ _ _ _ _ _ _ _ _ _ _ _ _ _ _ _ _ _ _ _ _ _ _ _ _ _ _ _ _ _ _ _ _ _ _ _ _ _ _ _ _ _ _ _ _ _ _ _ _ _ _ _ _ _ _ _ _ _ _ _ _ _ _ _ _ _ _ _ _ _ _ _ t hO v s gp nm off ab dy cy cm cd cyd ch cmi cs x18 x20 w hoff w0 v0 base xs l n hB hn K Q hk
section
variable (u0 u4 u5 u6 u21 u22 u23 u24 u25 u26 u27 u28 u29 u30 u31 u32 u33 u34 u35 u36 u37 u38 u39 u40 u41 u42 u43 u44 u45 u46 u47 u48 u49 u50 u51 u52 u53 u54 u55 u56 u57 u58 u59 u60 u61 u62 u63 u64 u65 u66 u67 u68 u69 u70 u71 u72 u73 u74 u75 u76 u77 u78 u79 u80 u81 u82 u83 u84 u85 u86 u87 u88 u89 u90 u91 u93 u94 u95 u96 u97 u98 u99 u100 u101 u102 u103 u104 u105 u106 u107 u108 u109 u110 u111 u112 u113 u114 u115 u116 u117 u118 u119 u120 u121 u122 u123 u124 u125 u126 u127 u128 u129 u130 u131 u132 u133 u134 u135 u136 u137 u138 u139 u140 u141 u142 u143 u144 u145 u146 u147 u148 u149 u150 u151 u152 u153 u154 u155 u156 u157 u158 u159 u160 u161 u162 u163 u164 u165 u166 u167 u168 u169 u170 u171 u172 u173 u174 u175 u176 u177 u178 u179 u180 u181 u182 u183 u184 u185 u186 u187 u188 u189 u190 u191 u192 u193 u194 u195 u196 u197 u198 u199 u200 u201 u202 u203 u204 u205 u206 u207 u208 u209 u210 u211 u212 u213 u214 u215 u216 u217 u218 u219 u220 u221 u222 u223 u224 u225 u226 u227 u228 u229 u230 u231 u232 u233 u234 u235 u236 u237 u238 u239 u240 u241 u242 u243 u244 u245 u246 u247 u248 u249 u250 u251 u252 u253 u254 u255 u256 u257 u258 u259 u260 u261 u262 u263 u264 u265 u266 u267 u268 u269 u270 u271 u272 u273 u274 u275 u276 u277 u278 u279 u280 u281 u282 u283 u284 u285 u286 u287 u288 u289 u290 u291 u292 u293 u294 u295 u296 u297 u298 u299 u300 u301 u302 u303 u304 u305 u306 u307 u308 u309 u310 u311 u312 u313 u314 u315 u316 u317 u318 u319 u320 u321 u322 u323 u324 u325 u326 u327 u328 u329 u330 u331 u332 u333 u334 u335 u336 u337 u338 u339 u340 u341 u342 u343 u344 u345 u346 u347 u348 u349 u350 u351 u352 u353 u354 u355 u356 u357 u358 u359 u360 u361 u362 u363 u364 u365 u366 u367 u368 u369 u370 u371 u372 u373 u374 u375 u376 u377 u378 u379 u380 u381 u382 u383 u384 u385 u386 u387 u388 u389 u390 u391 u392 : Value)
set_option maxRecDepth 1000000 in
set_option maxHeartbeats 6400000 in
theorem e30_lit (t : Tm) (hO : TmOk t) (v : Value) (s : ByteArray) (gp : Nat) (nm : ByteArray) (off ab dy : Int) (cy cm cd cyd ch cmi cs : Int) (x18 x20 : Value) (w : World) (hoff : t.off = off) (w0 : World) (v0 : Value) (base : Nat) (xs : List Value) (l : List UInt8) (n : Nat) (hB : BSt w0 v0 base xs w v l n) (hn : n + 1000 ≤ 140737488351232)
    (K : Act → World → Prop) (Q : Exit → Act → World → Prop)
    (hk : ∀ v' a' w', FmtF v' s gp nm off ab dy cy cm cd cyd ch cmi cs x18 (.int .i64 30) x20 (.int .i64 30) a' → BSt w0 v0 base xs w' v' (l ++ elemL t 30) (n + 200) → K a' w') :
    Code.wp Tryd.prog fp23 (Exit.then K Q) ⟨List.toArray (u0 :: v :: (.string s) :: (.pointer (some ⟨gp, 0, none⟩)) :: u4 :: u5 :: u6 :: (.string nm) :: (.int .i64 off) :: (.int .u64 ab) :: (.int .u64 dy) :: (.int .i64 cy) :: (.int .i64 cm) :: (.int .i64 cd) :: (.int .i64 cyd) :: (.int .i64 ch) :: (.int .i64 cmi) :: (.int .i64 cs) :: x18 :: (.int .i64 30) :: x20 :: u21 :: u22 :: u23 :: u24 :: u25 :: u26 :: u27 :: u28 :: u29 :: u30 :: u31 :: u32 :: u33 :: u34 :: u35 :: u36 :: u37 :: u38 :: u39 :: u40 :: u41 :: u42 :: u43 :: u44 :: u45 :: u46 :: u47 :: u48 :: u49 :: u50 :: u51 :: u52 :: u53 :: u54 :: u55 :: u56 :: u57 :: u58 :: u59 :: u60 :: u61 :: u62 :: u63 :: u64 :: u65 :: u66 :: u67 :: u68 :: u69 :: u70 :: u71 :: u72 :: u73 :: u74 :: u75 :: u76 :: u77 :: u78 :: u79 :: u80 :: u81 :: u82 :: u83 :: u84 :: u85 :: u86 :: u87 :: u88 :: u89 :: u90 :: u91 :: (.int .i64 30) :: u93 :: u94 :: u95 :: u96 :: u97 :: u98 :: u99 :: u100 :: u101 :: u102 :: u103 :: u104 :: u105 :: u106 :: u107 :: u108 :: u109 :: u110 :: u111 :: u112 :: u113 :: u114 :: u115 :: u116 :: u117 :: u118 :: u119 :: u120 :: u121 :: u122 :: u123 :: u124 :: u125 :: u126 :: u127 :: u128 :: u129 :: u130 :: u131 :: u132 :: u133 :: u134 :: u135 :: u136 :: u137 :: u138 :: u139 :: u140 :: u141 :: u142 :: u143 :: u144 :: u145 :: u146 :: u147 :: u148 :: u149 :: u150 :: u151 :: u152 :: u153 :: u154 :: u155 :: u156 :: u157 :: u158 :: u159 :: u160 :: u161 :: u162 :: u163 :: u164 :: u165 :: u166 :: u167 :: u168 :: u169 :: u170 :: u171 :: u172 :: u173 :: u174 :: u175 :: u176 :: u177 :: u178 :: u179 :: u180 :: u181 :: u182 :: u183 :: u184 :: u185 :: u186 :: u187 :: u188 :: u189 :: u190 :: u191 :: u192 :: u193 :: u194 :: u195 :: u196 :: u197 :: u198 :: u199 :: u200 :: u201 :: u202 :: u203 :: u204 :: u205 :: u206 :: u207 :: u208 :: u209 :: u210 :: u211 :: u212 :: u213 :: u214 :: u215 :: u216 :: u217 :: u218 :: u219 :: u220 :: u221 :: u222 :: u223 :: u224 :: u225 :: u226 :: u227 :: u228 :: u229 :: u230 :: u231 :: u232 :: u233 :: u234 :: u235 :: u236 :: u237 :: u238 :: u239 :: u240 :: u241 :: u242 :: u243 :: u244 :: u245 :: u246 :: u247 :: u248 :: u249 :: u250 :: u251 :: u252 :: u253 :: u254 :: u255 :: u256 :: u257 :: u258 :: u259 :: u260 :: u261 :: u262 :: u263 :: u264 :: u265 :: u266 :: u267 :: u268 :: u269 :: u270 :: u271 :: u272 :: u273 :: u274 :: u275 :: u276 :: u277 :: u278 :: u279 :: u280 :: u281 :: u282 :: u283 :: u284 :: u285 :: u286 :: u287 :: u288 :: u289 :: u290 :: u291 :: u292 :: u293 :: u294 :: u295 :: u296 :: u297 :: u298 :: u299 :: u300 :: u301 :: u302 :: u303 :: u304 :: u305 :: u306 :: u307 :: u308 :: u309 :: u310 :: u311 :: u312 :: u313 :: u314 :: u315 :: u316 :: u317 :: u318 :: u319 :: u320 :: u321 :: u322 :: u323 :: u324 :: u325 :: u326 :: u327 :: u328 :: u329 :: u330 :: u331 :: u332 :: u333 :: u334 :: u335 :: u336 :: u337 :: u338 :: u339 :: u340 :: u341 :: u342 :: u343 :: u344 :: u345 :: u346 :: u347 :: u348 :: u349 :: u350 :: u351 :: u352 :: u353 :: u354 :: u355 :: u356 :: u357 :: u358 :: u359 :: u360 :: u361 :: u362 :: u363 :: u364 :: u365 :: u366 :: u367 :: u368 :: u369 :: u370 :: u371 :: u372 :: u373 :: u374 :: u375 :: u376 :: u377 :: u378 :: u379 :: u380 :: u381 :: u382 :: u383 :: u384 :: u385 :: u386 :: u387 :: u388 :: u389 :: u390 :: u391 :: u392 :: []), []⟩ w := by
  have HK := hideP hk
  have HB := hideP hB
  have o1 := hO.off0
  have o2 := hO.off1
  have o3 := hO.off2
  clear hk hB hO
  have hsp : off = 0 ∨ (∃ z : Nat, off = z ∧ 60 ≤ z ∧ z ≤ 86399) ∨ (∃ z : Nat, off = -(z : Int) ∧ 60 ≤ z ∧ z ≤ 86399) := by
    rw [hoff] at o1 o2 o3
    rcases o3 with h | h | h
    · exact .inl h
    · exact .inr (.inr ⟨(-off).toNat, by omega, by omega, by omega⟩)
    · exact .inr (.inl ⟨off.toNat, by omega, by omega, by omega⟩)
  rcases hsp with rfl | ⟨z, rfl, hz1, hz2⟩ | ⟨z, rfl, hz1, hz2⟩
  · have HE := hideP (show elemL t 30 = offL 0 true true false by show offL t.off true true false = _; rw [hoff])
    clear hoff o1 o2 o3
    conv => arg 2; whnf
    go_wp2_with (first
      | (at_builtin; refine wpList_bst_one 90 _ _ rfl _ _ rfl HB.out rfl rfl rfl (by omega) ?_; intro v1 w1 hb1; have HB := hideP hb1; clear hb1)
      | (at_builtin; refine wpList_bst_one 45 _ _ rfl _ _ rfl HB.out rfl rfl rfl (by omega) ?_; intro v1 w1 hb1; have HB := hideP hb1; clear hb1)
      | (at_builtin; refine wpList_bst_one 43 _ _ rfl _ _ rfl HB.out rfl rfl rfl (by omega) ?_; intro v1 w1 hb1; have HB := hideP hb1; clear hb1)
      | (at_builtin; refine wpList_bst_one 58 _ _ rfl _ _ rfl HB.out rfl rfl rfl (by omega) ?_; intro v1 w1 hb1; have HB := hideP hb1; clear hb1)
      | (go_at_call 105; refine (int_bstI _ _ HB.out (by omega) (by omega) (by decide) (by decide) (by omega)).mono ?_; rintro e w1 ⟨v1, rfl, hb1⟩; have HB := hideP hb1; clear hb1))
    exact HK.out _ _ _ ⟨by kernel_rfl, rfl, rfl, rfl, rfl, rfl, rfl, rfl, rfl, rfl, rfl, rfl, rfl, rfl, rfl, rfl, rfl, rfl, rfl, rfl⟩ ((HB.out.text (by simp only [HE.out, off_zero, Bool.false_eq_true, if_true, if_false, reduceIte, List.append_assoc, List.nil_append, List.append_nil, List.cons_append, List.singleton_append])).more (by omega))
  · have HE := hideP (show elemL t 30 = offL ((z : Int)) true true false by show offL t.off true true false = _; rw [hoff])
    have zb1 : (60 : Int) ≤ z := by omega
    have zb2 : (z : Int) ≤ 86399 := by omega
    have ht2 : ((z : Int) == 0) = false := by rw [beq_eq_false_iff_ne]; omega
    have HZ := hideP hz1
    clear hoff o1 o2 o3 hz1 hz2
    conv => arg 2; whnf
    go_wp2_with (first
      | (at_builtin; refine wpList_bst_one 90 _ _ rfl _ _ rfl HB.out rfl rfl rfl (by omega) ?_; intro v1 w1 hb1; have HB := hideP hb1; clear hb1)
      | (at_builtin; refine wpList_bst_one 45 _ _ rfl _ _ rfl HB.out rfl rfl rfl (by omega) ?_; intro v1 w1 hb1; have HB := hideP hb1; clear hb1)
      | (at_builtin; refine wpList_bst_one 43 _ _ rfl _ _ rfl HB.out rfl rfl rfl (by omega) ?_; intro v1 w1 hb1; have HB := hideP hb1; clear hb1)
      | (at_builtin; refine wpList_bst_one 58 _ _ rfl _ _ rfl HB.out rfl rfl rfl (by omega) ?_; intro v1 w1 hb1; have HB := hideP hb1; clear hb1)
      | (go_at_call 105; refine (int_bstI _ _ HB.out (by omega) (by omega) (by decide) (by decide) (by omega)).mono ?_; rintro e w1 ⟨v1, rfl, hb1⟩; have HB := hideP hb1; clear hb1))
    exact HK.out _ _ _ ⟨by kernel_rfl, rfl, rfl, rfl, rfl, rfl, rfl, rfl, rfl, rfl, rfl, rfl, rfl, rfl, rfl, rfl, rfl, rfl, rfl, rfl⟩ ((HB.out.text (by simp only [HE.out, zq1, zq2, zq3, off_pos, Bool.false_eq_true, if_true, if_false, reduceIte, List.append_assoc, List.nil_append, List.append_nil, List.cons_append, List.singleton_append])).more (by omega))
  · have HE := hideP (show elemL t 30 = offL (-(z : Int)) true true false by show offL t.off true true false = _; rw [hoff])
    have zb1 : (60 : Int) ≤ z := by omega
    have zb2 : (z : Int) ≤ 86399 := by omega
    have ht := tdiv_neg z
    have ht2 := neg_ne z hz1
    have ht3 := neg_lt z hz1
    have HZ := hideP hz1
    clear hoff o1 o2 o3 hz1 hz2
    conv => arg 2; whnf
    go_wp2_with (first
      | (at_builtin; refine wpList_bst_one 90 _ _ rfl _ _ rfl HB.out rfl rfl rfl (by omega) ?_; intro v1 w1 hb1; have HB := hideP hb1; clear hb1)
      | (at_builtin; refine wpList_bst_one 45 _ _ rfl _ _ rfl HB.out rfl rfl rfl (by omega) ?_; intro v1 w1 hb1; have HB := hideP hb1; clear hb1)
      | (at_builtin; refine wpList_bst_one 43 _ _ rfl _ _ rfl HB.out rfl rfl rfl (by omega) ?_; intro v1 w1 hb1; have HB := hideP hb1; clear hb1)
      | (at_builtin; refine wpList_bst_one 58 _ _ rfl _ _ rfl HB.out rfl rfl rfl (by omega) ?_; intro v1 w1 hb1; have HB := hideP hb1; clear hb1)
      | (go_at_call 105; refine (int_bstI _ _ HB.out (by omega) (by omega) (by decide) (by decide) (by omega)).mono ?_; rintro e w1 ⟨v1, rfl, hb1⟩; have HB := hideP hb1; clear hb1))
    exact HK.out _ _ _ ⟨by kernel_rfl, rfl, rfl, rfl, rfl, rfl, rfl, rfl, rfl, rfl, rfl, rfl, rfl, rfl, rfl, rfl, rfl, rfl, rfl, rfl⟩ ((HB.out.text (by simp only [HE.out, zq1, zq2, zq3, off_neg z HZ.out, Bool.false_eq_true, if_true, if_false, reduceIte, List.append_assoc, List.nil_append, List.append_nil, List.cons_append, List.singleton_append])).more (by omega))
end
theorem e30 (t : Tm) (hO : TmOk t) (v : Value) (s : ByteArray) (gp : Nat) (nm : ByteArray) (off ab dy : Int) (cy cm cd cyd ch cmi cs : Int) (x18 x20 : Value) (w : World) (hoff : t.off = off) (w0 : World) (v0 : Value) (base : Nat) (xs : List Value) (l : List UInt8) (n : Nat) (hB : BSt w0 v0 base xs w v l n) (hn : n + 1000 ≤ 140737488351232) (a : Act) (hF : FmtF v s gp nm off ab dy cy cm cd cyd ch cmi cs x18 (.int .i64 30) x20 (.int .i64 30) a)
    (K : Act → World → Prop) (Q : Exit → Act → World → Prop)
    (hk : ∀ v' a' w', FmtF v' s gp nm off ab dy cy cm cd cyd ch cmi cs x18 (.int .i64 30) x20 (.int .i64 30) a' → BSt w0 v0 base xs w' v' (l ++ elemL t 30) (n + 200) → K a' w') :
    Code.wp Tryd.prog fp23 (Exit.then K Q) a w := by
  obtain ⟨h1, h2, q1, q2, q3, q7, q8, q9, q10, q11, q12, q13, q14, q15, q16, q17, q18, q19, q20, q92⟩ := hF
  rw [fmt_frame a h1 h2, q1, q2, q3, q7, q8, q9, q10, q11, q12, q13, q14, q15, q16, q17, q18, q19, q20, q92]
  exact e30_lit _ _ _ _ _ _ _ _ _ _ _ _ _ _ _ _ _ _ _ _ _ _ _ _ _ _ _ _ _ _ _ _ _ _ _ _ _ _ _ _ _ _ _ _ _ _ _ _ _ _ _ _ _ _ _ _ _ _ _ _ _ _ _ _ _ _ _ _ _ _ _ _ _ _ _ _ _ _ _ _ _ _ _ _ _ _ _ _ _ _ _ _ _ _ _ _ _ _ _ _ _ _ _ _ _ _ _ _ _ _ _ _ _ _ _ _ _ _ _ _ _ _ _ _ _ _ _ _ _ _ _ _ _ _ _ _ _ _ _ _ _ _ _ _ _ _ _ _ _ _ _ _ _ _ _ _ _ _ _ _ _ _ _ _ _ _ _ _ _ _ _ _ _ _ _ _ _ _ _ _ _ _ _ _ _ _ _ _ _ _ _ _ _ _ _ _ _ _ _ _ _ _ _ _ _ _ _ _ _ _ _ _ _ _ _ _ _ _ _ _ _ _ _ _ _ _ _ _ _ _ _ _ _ _ _ _ _ _ _ _ _ _ _ _ _ _ _ _ _ _ _ _ _ _ _ _ _ _ _ _ _ _ _ _ _ _ _ _ _ _ _ _ _ _ _ _ _ _ _ _ _ _ _ _ _ _ _ _ _ _ _ _ _ _ _ _ _ _ _ _ _ _ _ _ _ _ _ _ _ _ _ _ _ _ _ _ _ _ _ _ _ _ _ _ _ _ _ _ _ _ _ _ _ _ _ _ _ _ _ _ _ _ _ _ _ _ _ _ _ _ _ _ _ _ _ _ _ _ _ _ _ _ _ _ _ _ _ _ _ _ _ _ _ _ _ t hO v s gp nm off ab dy cy cm cd cyd ch cmi cs x18 x20 w hoff w0 v0 base xs l n hB hn K Q hk
section
variable (u0 u4 u5 u6 u21 u22 u23 u24 u25 u26 u27 u28 u29 u30 u31 u32 u33 u34 u35 u36 u37 u38 u39 u40 u41 u42 u43 u44 u45 u46 u47 u48 u49 u50 u51 u52 u53 u54 u55 u56 u57 u58 u59 u60 u61 u62 u63 u64 u65 u66 u67 u68 u69 u70 u71 u72 u73 u74 u75 u76 u77 u78 u79 u80 u81 u82 u83 u84 u85 u86 u87 u88 u89 u90 u91 u93 u94 u95 u96 u97 u98 u99 u100 u101 u102 u103 u104 u105 u106 u107 u108 u109 u110 u111 u112 u113 u114 u115 u116 u117 u118 u119 u120 u121 u122 u123 u124 u125 u126 u127 u128 u129 u130 u131 u132 u133 u134 u135 u136 u137 u138 u139 u140 u141 u142 u143 u144 u145 u146 u147 u148 u149 u150 u151 u152 u153 u154 u155 u156 u157 u158 u159 u160 u161 u162 u163 u164 u165 u166 u167 u168 u169 u170 u171 u172 u173 u174 u175 u176 u177 u178 u179 u180 u181 u182 u183 u184 u185 u186 u187 u188 u189 u190 u191 u192 u193 u194 u195 u196 u197 u198 u199 u200 u201 u202 u203 u204 u205 u206 u207 u208 u209 u210 u211 u212 u213 u214 u215 u216 u217 u218 u219 u220 u221 u222 u223 u224 u225 u226 u227 u228 u229 u230 u231 u232 u233 u234 u235 u236 u237 u238 u239 u240 u241 u242 u243 u244 u245 u246 u247 u248 u249 u250 u251 u252 u253 u254 u255 u256 u257 u258 u259 u260 u261 u262 u263 u264 u265 u266 u267 u268 u269 u270 u271 u272 u273 u274 u275 u276 u277 u278 u279 u280 u281 u282 u283 u284 u285 u286 u287 u288 u289 u290 u291 u292 u293 u294 u295 u296 u297 u298 u299 u300 u301 u302 u303 u304 u305 u306 u307 u308 u309 u310 u311 u312 u313 u314 u315 u316 u317 u318 u319 u320 u321 u322 u323 u324 u325 u326 u327 u328 u329 u330 u331 u332 u333 u334 u335 u336 u337 u338 u339 u340 u341 u342 u343 u344 u345 u346 u347 u348 u349 u350 u351 u352 u353 u354 u355 u356 u357 u358 u359 u360 u361 u362 u363 u364 u365 u366 u367 u368 u369 u370 u371 u372 u373 u374 u375 u376 u377 u378 u379 u380 u381 u382 u383 u384 u385 u386 u387 u388 u389 u390 u391 u392 : Value)
set_option maxRecDepth 1000000 in
set_option maxHeartbeats 6400000 in
theorem e31_lit (t : Tm) (hO : TmOk t) (v : Value) (s : ByteArray) (gp : Nat) (nm : ByteArray) (off ab dy : Int) (cy cm cd cyd ch cmi cs : Int) (x18 x20 : Value) (w : World) (hoff : t.off = off) (w0 : World) (v0 : Value) (base : Nat) (xs : List Value) (l : List UInt8) (n : Nat) (hB : BSt w0 v0 base xs w v l n) (hn : n + 1000 ≤ 140737488351232)
    (K : Act → World → Prop) (Q : Exit → Act → World → Prop)
    (hk : ∀ v' a' w', FmtF v' s gp nm off ab dy cy cm cd cyd ch cmi cs x18 (.int .i64 31) x20 (.int .i64 31) a' → BSt w0 v0 base xs w' v' (l ++ elemL t 31) (n + 200) → K a' w') :
    Code.wp Tryd.prog fp23 (Exit.then K Q) ⟨List.toArray (u0 :: v :: (.string s) :: (.pointer (some ⟨gp, 0, none⟩)) :: u4 :: u5 :: u6 :: (.string nm) :: (.int .i64 off) :: (.int .u64 ab) :: (.int .u64 dy) :: (.int .i64 cy) :: (.int .i64 cm) :: (.int .i64 cd) :: (.int .i64 cyd) :: (.int .i64 ch) :: (.int .i64 cmi) :: (.int .i64 cs) :: x18 :: (.int .i64 31) :: x20 :: u21 :: u22 :: u23 :: u24 :: u25 :: u26 :: u27 :: u28 :: u29 :: u30 :: u31 :: u32 :: u33 :: u34 :: u35 :: u36 :: u37 :: u38 :: u39 :: u40 :: u41 :: u42 :: u43 :: u44 :: u45 :: u46 :: u47 :: u48 :: u49 :: u50 :: u51 :: u52 :: u53 :: u54 :: u55 :: u56 :: u57 :: u58 :: u59 :: u60 :: u61 :: u62 :: u63 :: u64 :: u65 :: u66 :: u67 :: u68 :: u69 :: u70 :: u71 :: u72 :: u73 :: u74 :: u75 :: u76 :: u77 :: u78 :: u79 :: u80 :: u81 :: u82 :: u83 :: u84 :: u85 :: u86 :: u87 :: u88 :: u89 :: u90 :: u91 :: (.int .i64 31) :: u93 :: u94 :: u95 :: u96 :: u97 :: u98 :: u99 :: u100 :: u101 :: u102 :: u103 :: u104 :: u105 :: u106 :: u107 :: u108 :: u109 :: u110 :: u111 :: u112 :: u113 :: u114 :: u115 :: u116 :: u117 :: u118 :: u119 :: u120 :: u121 :: u122 :: u123 :: u124 :: u125 :: u126 :: u127 :: u128 :: u129 :: u130 :: u131 :: u132 :: u133 :: u134 :: u135 :: u136 :: u137 :: u138 :: u139 :: u140 :: u141 :: u142 :: u143 :: u144 :: u145 :: u146 :: u147 :: u148 :: u149 :: u150 :: u151 :: u152 :: u153 :: u154 :: u155 :: u156 :: u157 :: u158 :: u159 :: u160 :: u161 :: u162 :: u163 :: u164 :: u165 :: u166 :: u167 :: u168 :: u169 :: u170 :: u171 :: u172 :: u173 :: u174 :: u175 :: u176 :: u177 :: u178 :: u179 :: u180 :: u181 :: u182 :: u183 :: u184 :: u185 :: u186 :: u187 :: u188 :: u189 :: u190 :: u191 :: u192 :: u193 :: u194 :: u195 :: u196 :: u197 :: u198 :: u199 :: u200 :: u201 :: u202 :: u203 :: u204 :: u205 :: u206 :: u207 :: u208 :: u209 :: u210 :: u211 :: u212 :: u213 :: u214 :: u215 :: u216 :: u217 :: u218 :: u219 :: u220 :: u221 :: u222 :: u223 :: u224 :: u225 :: u226 :: u227 :: u228 :: u229 :: u230 :: u231 :: u232 :: u233 :: u234 :: u235 :: u236 :: u237 :: u238 :: u239 :: u240 :: u241 :: u242 :: u243 :: u244 :: u245 :: u246 :: u247 :: u248 :: u249 :: u250 :: u251 :: u252 :: u253 :: u254 :: u255 :: u256 :: u257 :: u258 :: u259 :: u260 :: u261 :: u262 :: u263 :: u264 :: u265 :: u266 :: u267 :: u268 :: u269 :: u270 :: u271 :: u272 :: u273 :: u274 :: u275 :: u276 :: u277 :: u278 :: u279 :: u280 :: u281 :: u282 :: u283 :: u284 :: u285 :: u286 :: u287 :: u288 :: u289 :: u290 :: u291 :: u292 :: u293 :: u294 :: u295 :: u296 :: u297 :: u298 :: u299 :: u300 :: u301 :: u302 :: u303 :: u304 :: u305 :: u306 :: u307 :: u308 :: u309 :: u310 :: u311 :: u312 :: u313 :: u314 :: u315 :: u316 :: u317 :: u318 :: u319 :: u320 :: u321 :: u322 :: u323 :: u324 :: u325 :: u326 :: u327 :: u328 :: u329 :: u330 :: u331 :: u332 :: u333 :: u334 :: u335 :: u336 :: u337 :: u338 :: u339 :: u340 :: u341 :: u342 :: u343 :: u344 :: u345 :: u346 :: u347 :: u348 :: u349 :: u350 :: u351 :: u352 :: u353 :: u354 :: u355 :: u356 :: u357 :: u358 :: u359 :: u360 :: u361 :: u362 :: u363 :: u364 :: u365 :: u366 :: u367 :: u368 :: u369 :: u370 :: u371 :: u372 :: u373 :: u374 :: u375 :: u376 :: u377 :: u378 :: u379 :: u380 :: u381 :: u382 :: u383 :: u384 :: u385 :: u386 :: u387 :: u388 :: u389 :: u390 :: u391 :: u392 :: []), []⟩ w := by
  have HK := hideP hk
  have HB := hideP hB
  have o1 := hO.off0
  have o2 := hO.off1
  have o3 := hO.off2
  clear hk hB hO
  have hsp : off = 0 ∨ (∃ z : Nat, off = z ∧ 60 ≤ z ∧ z ≤ 86399) ∨ (∃ z : Nat, off = -(z : Int) ∧ 60 ≤ z ∧ z ≤ 86399) := by
    rw [hoff] at o1 o2 o3
    rcases o3 with h | h | h
    · exact .inl h
    · exact .inr (.inr ⟨(-off).toNat, by omega, by omega, by omega⟩)
    · exact .inr (.inl ⟨off.toNat, by omega, by omega, by omega⟩)
  rcases hsp with rfl | ⟨z, rfl, hz1, hz2⟩ | ⟨z, rfl, hz1, hz2⟩
  · have HE := hideP (show elemL t 31 = offL 0 false false false by show offL t.off false false false = _; rw [hoff])
    clear hoff o1 o2 o3
    conv => arg 2; whnf
    go_wp2_with (first
      | (at_builtin; refine wpList_bst_one 90 _ _ rfl _ _ rfl HB.out rfl rfl rfl (by omega) ?_; intro v1 w1 hb1; have HB := hideP hb1; clear hb1)
      | (at_builtin; refine wpList_bst_one 45 _ _ rfl _ _ rfl HB.out rfl rfl rfl (by omega) ?_; intro v1 w1 hb1; have HB := hideP hb1; clear hb1)
      | (at_builtin; refine wpList_bst_one 43 _ _ rfl _ _ rfl HB.out rfl rfl rfl (by omega) ?_; intro v1 w1 hb1; have HB := hideP hb1; clear hb1)
      | (at_builtin; refine wpList_bst_one 58 _ _ rfl _ _ rfl HB.out rfl rfl rfl (by omega) ?_; intro v1 w1 hb1; have HB := hideP hb1; clear hb1)
      | (go_at_call 105; refine (int_bstI _ _ HB.out (by omega) (by omega) (by decide) (by decide) (by omega)).mono ?_; rintro e w1 ⟨v1, rfl, hb1⟩; have HB := hideP hb1; clear hb1))
    exact HK.out _ _ _ ⟨by kernel_rfl, rfl, rfl, rfl, rfl, rfl, rfl, rfl, rfl, rfl, rfl, rfl, rfl, rfl, rfl, rfl, rfl, rfl, rfl, rfl⟩ ((HB.out.text (by simp only [HE.out, off_zero, Bool.false_eq_true, if_true, if_false, reduceIte, List.append_assoc, List.nil_append, List.append_nil, List.cons_append, List.singleton_append])).more (by omega))
  · have HE := hideP (show elemL t 31 = offL ((z : Int)) false false false by show offL t.off false false false = _; rw [hoff])
    have zb1 : (60 : Int) ≤ z := by omega
    have zb2 : (z : Int) ≤ 86399 := by omega
    have ht2 : ((z : Int) == 0) = false := by rw [beq_eq_false_iff_ne]; omega
    have HZ := hideP hz1
    clear hoff o1 o2 o3 hz1 hz2
    conv => arg 2; whnf
    go_wp2_with (first
      | (at_builtin; refine wpList_bst_one 90 _ _ rfl _ _ rfl HB.out rfl rfl rfl (by omega) ?_; intro v1 w1 hb1; have HB := hideP hb1; clear hb1)
      | (at_builtin; refine wpList_bst_one 45 _ _ rfl _ _ rfl HB.out rfl rfl rfl (by omega) ?_; intro v1 w1 hb1; have HB := hideP hb1; clear hb1)
      | (at_builtin; refine wpList_bst_one 43 _ _ rfl _ _ rfl HB.out rfl rfl rfl (by omega) ?_; intro v1 w1 hb1; have HB := hideP hb1; clear hb1)
      | (at_builtin; refine wpList_bst_one 58 _ _ rfl _ _ rfl HB.out rfl rfl rfl (by omega) ?_; intro v1 w1 hb1; have HB := hideP hb1; clear hb1)
      | (go_at_call 105; refine (int_bstI _ _ HB.out (by omega) (by omega) (by decide) (by decide) (by omega)).mono ?_; rintro e w1 ⟨v1, rfl, hb1⟩; have HB := hideP hb1; clear hb1))
    exact HK.out _ _ _ ⟨by kernel_rfl, rfl, rfl, rfl, rfl, rfl, rfl, rfl, rfl, rfl, rfl, rfl, rfl, rfl, rfl, rfl, rfl, rfl, rfl, rfl⟩ ((HB.out.text (by simp only [HE.out, zq1, zq2, zq3, off_pos, Bool.false_eq_true, if_true, if_false, reduceIte, List.append_assoc, List.nil_append, List.append_nil, List.cons_append, List.singleton_append])).more (by omega))
  · have HE := hideP (show elemL t 31 = offL (-(z : Int)) false false false by show offL t.off false false false = _; rw [hoff])
    have zb1 : (60 : Int) ≤ z := by omega
    have zb2 : (z : Int) ≤ 86399 := by omega
    have ht := tdiv_neg z
    have ht2 := neg_ne z hz1
    have ht3 := neg_lt z hz1
    have HZ := hideP hz1
    clear hoff o1 o2 o3 hz1 hz2
    conv => arg 2; whnf
    go_wp2_with (first
      | (at_builtin; refine wpList_bst_one 90 _ _ rfl _ _ rfl HB.out rfl rfl rfl (by omega) ?_; intro v1 w1 hb1; have HB := hideP hb1; clear hb1)
      | (at_builtin; refine wpList_bst_one 45 _ _ rfl _ _ rfl HB.out rfl rfl rfl (by omega) ?_; intro v1 w1 hb1; have HB := hideP hb1; clear hb1)
      | (at_builtin; refine wpList_bst_one 43 _ _ rfl _ _ rfl HB.out rfl rfl rfl (by omega) ?_; intro v1 w1 hb1; have HB := hideP hb1; clear hb1)
      | (at_builtin; refine wpList_bst_one 58 _ _ rfl _ _ rfl HB.out rfl rfl rfl (by omega) ?_; intro v1 w1 hb1; have HB := hideP hb1; clear hb1)
      | (go_at_call 105; refine (int_bstI _ _ HB.out (by omega) (by omega) (by decide) (by decide) (by omega)).mono ?_; rintro e w1 ⟨v1, rfl, hb1⟩; have HB := hideP hb1; clear hb1))
    exact HK.out _ _ _ ⟨by kernel_rfl, rfl, rfl, rfl, rfl, rfl, rfl, rfl, rfl, rfl, rfl, rfl, rfl, rfl, rfl, rfl, rfl, rfl, rfl, rfl⟩ ((HB.out.text (by simp only [HE.out, zq1, zq2, zq3, off_neg z HZ.out, Bool.false_eq_true, if_true, if_false, reduceIte, List.append_assoc, List.nil_append, List.append_nil, List.cons_append, List.singleton_append])).more (by omega))
end
theorem e31 (t : Tm) (hO : TmOk t) (v : Value) (s : ByteArray) (gp : Nat) (nm : ByteArray) (off ab dy : Int) (cy cm cd cyd ch cmi cs : Int) (x18 x20 : Value) (w : World) (hoff : t.off = off) (w0 : World) (v0 : Value) (base : Nat) (xs : List Value) (l : List UInt8) (n : Nat) (hB : BSt w0 v0 base xs w v l n) (hn : n + 1000 ≤ 140737488351232) (a : Act) (hF : FmtF v s gp nm off ab dy cy cm cd cyd ch cmi cs x18 (.int .i64 31) x20 (.int .i64 31) a)
    (K : Act → World → Prop) (Q : Exit → Act → World → Prop)
    (hk : ∀ v' a' w', FmtF v' s gp nm off ab dy cy cm cd cyd ch cmi cs x18 (.int .i64 31) x20 (.int .i64 31) a' → BSt w0 v0 base xs w' v' (l ++ elemL t 31) (n + 200) → K a' w') :
    Code.wp Tryd.prog fp23 (Exit.then K Q) a w := by
  obtain ⟨h1, h2, q1, q2, q3, q7, q8, q9, q10, q11, q12, q13, q14, q15, q16, q17, q18, q19, q20, q92⟩ := hF
  rw [fmt_frame a h1 h2, q1, q2, q3, q7, q8, q9, q10, q11, q12, q13, q14, q15, q16, q17, q18, q19, q20, q92]
  exact e31_lit _ _ _ _ _ _ _ _ _ _ _ _ _ _ _ _ _ _ _ _ _ _ _ _ _ _ _ _ _ _ _ _ _ _ _ _ _ _ _ _ _ _ _ _ _ _ _ _ _ _ _ _ _ _ _ _ _ _ _ _ _ _ _ _ _ _ _ _ _ _ _ _ _ _ _ _ _ _ _ _ _ _ _ _ _ _ _ _ _ _ _ _ _ _ _ _ _ _ _ _ _ _ _ _ _ _ _ _ _ _ _ _ _ _ _ _ _ _ _ _ _ _ _ _ _ _ _ _ _ _ _ _ _ _ _ _ _ _ _ _ _ _ _ _ _ _ _ _ _ _ _ _ _ _ _ _ _ _ _ _ _ _ _ _ _ _ _ _ _ _ _ _ _ _ _ _ _ _ _ _ _ _ _ _ _ _ _ _ _ _ _ _ _ _ _ _ _ _ _ _ _ _ _ _ _ _ _ _ _ _ _ _ _ _ _ _ _ _ _ _ _ _ _ _ _ _ _ _ _ _ _ _ _ _ _ _ _ _ _ _ _ _ _ _ _ _ _ _ _ _ _ _ _ _ _ _ _ _ _ _ _ _ _ _ _ _ _ _ _ _ _ _ _ _ _ _ _ _ _ _ _ _ _ _ _ _ _ _ _ _ _ _ _ _ _ _ _ _ _ _ _ _ _ _ _ _ _ _ _ _ _ _ _ _ _ _ _ _ _ _ _ _ _ _ _ _ _ _ _ _ _ _ _ _ _ _ _ _ _ _ _ _ _ _ _ _ _ _ _ _ _ _ _ _ _ _ _ _ _ _ _ _ _ _ _ _ _ _ _ _ _ _ _ _ _ t hO v s gp nm off ab dy cy cm cd cyd ch cmi cs x18 x20 w hoff w0 v0 base xs l n hB hn K Q hk
section
variable (u0 u4 u5 u6 u21 u22 u23 u24 u25 u26 u27 u28 u29 u30 u31 u32 u33 u34 u35 u36 u37 u38 u39 u40 u41 u42 u43 u44 u45 u46 u47 u48 u49 u50 u51 u52 u53 u54 u55 u56 u57 u58 u59 u60 u61 u62 u63 u64 u65 u66 u67 u68 u69 u70 u71 u72 u73 u74 u75 u76 u77 u78 u79 u80 u81 u82 u83 u84 u85 u86 u87 u88 u89 u90 u91 u93 u94 u95 u96 u97 u98 u99 u100 u101 u102 u103 u104 u105 u106 u107 u108 u109 u110 u111 u112 u113 u114 u115 u116 u117 u118 u119 u120 u121 u122 u123 u124 u125 u126 u127 u128 u129 u130 u131 u132 u133 u134 u135 u136 u137 u138 u139 u140 u141 u142 u143 u144 u145 u146 u147 u148 u149 u150 u151 u152 u153 u154 u155 u156 u157 u158 u159 u160 u161 u162 u163 u164 u165 u166 u167 u168 u169 u170 u171 u172 u173 u174 u175 u176 u177 u178 u179 u180 u181 u182 u183 u184 u185 u186 u187 u188 u189 u190 u191 u192 u193 u194 u195 u196 u197 u198 u199 u200 u201 u202 u203 u204 u205 u206 u207 u208 u209 u210 u211 u212 u213 u214 u215 u216 u217 u218 u219 u220 u221 u222 u223 u224 u225 u226 u227 u228 u229 u230 u231 u232 u233 u234 u235 u236 u237 u238 u239 u240 u241 u242 u243 u244 u245 u246 u247 u248 u249 u250 u251 u252 u253 u254 u255 u256 u257 u258 u259 u260 u261 u262 u263 u264 u265 u266 u267 u268 u269 u270 u271 u272 u273 u274 u275 u276 u277 u278 u279 u280 u281 u282 u283 u284 u285 u286 u287 u288 u289 u290 u291 u292 u293 u294 u295 u296 u297 u298 u299 u300 u301 u302 u303 u304 u305 u306 u307 u308 u309 u310 u311 u312 u313 u314 u315 u316 u317 u318 u319 u320 u321 u322 u323 u324 u325 u326 u327 u328 u329 u330 u331 u332 u333 u334 u335 u336 u337 u338 u339 u340 u341 u342 u343 u344 u345 u346 u347 u348 u349 u350 u351 u352 u353 u354 u355 u356 u357 u358 u359 u360 u361 u362 u363 u364 u365 u366 u367 u368 u369 u370 u371 u372 u373 u374 u375 u376 u377 u378 u379 u380 u381 u382 u383 u384 u385 u386 u387 u388 u389 u390 u391 u392 : Value)
set_option maxRecDepth 1000000 in
set_option maxHeartbeats 6400000 in
theorem e32_lit (t : Tm) (hO : TmOk t) (v : Value) (s : ByteArray) (gp : Nat) (nm : ByteArray) (off ab dy : Int) (cy cm cd cyd ch cmi cs : Int) (x18 x20 : Value) (w : World) (hoff : t.off = off) (w0 : World) (v0 : Value) (base : Nat) (xs : List Value) (l : List UInt8) (n : Nat) (hB : BSt w0 v0 base xs w v l n) (hn : n + 1000 ≤ 140737488351232)
    (K : Act → World → Prop) (Q : Exit → Act → World → Prop)
    (hk : ∀ v' a' w', FmtF v' s gp nm off ab dy cy cm cd cyd ch cmi cs x18 (.int .i64 32) x20 (.int .i64 32) a' → BSt w0 v0 base xs w' v' (l ++ elemL t 32) (n + 200) → K a' w') :
    Code.wp Tryd.prog fp23 (Exit.then K Q) ⟨List.toArray (u0 :: v :: (.string s) :: (.pointer (some ⟨gp, 0, none⟩)) :: u4 :: u5 :: u6 :: (.string nm) :: (.int .i64 off) :: (.int .u64 ab) :: (.int .u64 dy) :: (.int .i64 cy) :: (.int .i64 cm) :: (.int .i64 cd) :: (.int .i64 cyd) :: (.int .i64 ch) :: (.int .i64 cmi) :: (.int .i64 cs) :: x18 :: (.int .i64 32) :: x20 :: u21 :: u22 :: u23 :: u24 :: u25 :: u26 :: u27 :: u28 :: u29 :: u30 :: u31 :: u32 :: u33 :: u34 :: u35 :: u36 :: u37 :: u38 :: u39 :: u40 :: u41 :: u42 :: u43 :: u44 :: u45 :: u46 :: u47 :: u48 :: u49 :: u50 :: u51 :: u52 :: u53 :: u54 :: u55 :: u56 :: u57 :: u58 :: u59 :: u60 :: u61 :: u62 :: u63 :: u64 :: u65 :: u66 :: u67 :: u68 :: u69 :: u70 :: u71 :: u72 :: u73 :: u74 :: u75 :: u76 :: u77 :: u78 :: u79 :: u80 :: u81 :: u82 :: u83 :: u84 :: u85 :: u86 :: u87 :: u88 :: u89 :: u90 :: u91 :: (.int .i64 32) :: u93 :: u94 :: u95 :: u96 :: u97 :: u98 :: u99 :: u100 :: u101 :: u102 :: u103 :: u104 :: u105 :: u106 :: u107 :: u108 :: u109 :: u110 :: u111 :: u112 :: u113 :: u114 :: u115 :: u116 :: u117 :: u118 :: u119 :: u120 :: u121 :: u122 :: u123 :: u124 :: u125 :: u126 :: u127 :: u128 :: u129 :: u130 :: u131 :: u132 :: u133 :: u134 :: u135 :: u136 :: u137 :: u138 :: u139 :: u140 :: u141 :: u142 :: u143 :: u144 :: u145 :: u146 :: u147 :: u148 :: u149 :: u150 :: u151 :: u152 :: u153 :: u154 :: u155 :: u156 :: u157 :: u158 :: u159 :: u160 :: u161 :: u162 :: u163 :: u164 :: u165 :: u166 :: u167 :: u168 :: u169 :: u170 :: u171 :: u172 :: u173 :: u174 :: u175 :: u176 :: u177 :: u178 :: u179 :: u180 :: u181 :: u182 :: u183 :: u184 :: u185 :: u186 :: u187 :: u188 :: u189 :: u190 :: u191 :: u192 :: u193 :: u194 :: u195 :: u196 :: u197 :: u198 :: u199 :: u200 :: u201 :: u202 :: u203 :: u204 :: u205 :: u206 :: u207 :: u208 :: u209 :: u210 :: u211 :: u212 :: u213 :: u214 :: u215 :: u216 :: u217 :: u218 :: u219 :: u220 :: u221 :: u222 :: u223 :: u224 :: u225 :: u226 :: u227 :: u228 :: u229 :: u230 :: u231 :: u232 :: u233 :: u234 :: u235 :: u236 :: u237 :: u238 :: u239 :: u240 :: u241 :: u242 :: u243 :: u244 :: u245 :: u246 :: u247 :: u248 :: u249 :: u250 :: u251 :: u252 :: u253 :: u254 :: u255 :: u256 :: u257 :: u258 :: u259 :: u260 :: u261 :: u262 :: u263 :: u264 :: u265 :: u266 :: u267 :: u268 :: u269 :: u270 :: u271 :: u272 :: u273 :: u274 :: u275 :: u276 :: u277 :: u278 :: u279 :: u280 :: u281 :: u282 :: u283 :: u284 :: u285 :: u286 :: u287 :: u288 :: u289 :: u290 :: u291 :: u292 :: u293 :: u294 :: u295 :: u296 :: u297 :: u298 :: u299 :: u300 :: u301 :: u302 :: u303 :: u304 :: u305 :: u306 :: u307 :: u308 :: u309 :: u310 :: u311 :: u312 :: u313 :: u314 :: u315 :: u316 :: u317 :: u318 :: u319 :: u320 :: u321 :: u322 :: u323 :: u324 :: u325 :: u326 :: u327 :: u328 :: u329 :: u330 :: u331 :: u332 :: u333 :: u334 :: u335 :: u336 :: u337 :: u338 :: u339 :: u340 :: u341 :: u342 :: u343 :: u344 :: u345 :: u346 :: u347 :: u348 :: u349 :: u350 :: u351 :: u352 :: u353 :: u354 :: u355 :: u356 :: u357 :: u358 :: u359 :: u360 :: u361 :: u362 :: u363 :: u364 :: u365 :: u366 :: u367 :: u368 :: u369 :: u370 :: u371 :: u372 :: u373 :: u374 :: u375 :: u376 :: u377 :: u378 :: u379 :: u380 :: u381 :: u382 :: u383 :: u384 :: u385 :: u386 :: u387 :: u388 :: u389 :: u390 :: u391 :: u392 :: []), []⟩ w := by
  have HK := hideP hk
  have HB := hideP hB
  have o1 := hO.off0
  have o2 := hO.off1
  have o3 := hO.off2
  clear hk hB hO
  have hsp : off = 0 ∨ (∃ z : Nat, off = z ∧ 60 ≤ z ∧ z ≤ 86399) ∨ (∃ z : Nat, off = -(z : Int) ∧ 60 ≤ z ∧ z ≤ 86399) := by
    rw [hoff] at o1 o2 o3
    rcases o3 with h | h | h
    · exact .inl h
    · exact .inr (.inr ⟨(-off).toNat, by omega, by omega, by omega⟩)
    · exact .inr (.inl ⟨off.toNat, by omega, by omega, by omega⟩)
  rcases hsp with rfl | ⟨z, rfl, hz1, hz2⟩ | ⟨z, rfl, hz1, hz2⟩
  · have HE := hideP (show elemL t 32 = offL 0 true false true by show offL t.off true false true = _; rw [hoff])
    clear hoff o1 o2 o3
    conv => arg 2; whnf
    go_wp2_with (first
      | (at_builtin; refine wpList_bst_one 90 _ _ rfl _ _ rfl HB.out rfl rfl rfl (by omega) ?_; intro v1 w1 hb1; have HB := hideP hb1; clear hb1)
      | (at_builtin; refine wpList_bst_one 45 _ _ rfl _ _ rfl HB.out rfl rfl rfl (by omega) ?_; intro v1 w1 hb1; have HB := hideP hb1; clear hb1)
      | (at_builtin; refine wpList_bst_one 43 _ _ rfl _ _ rfl HB.out rfl rfl rfl (by omega) ?_; intro v1 w1 hb1; have HB := hideP hb1; clear hb1)
      | (at_builtin; refine wpList_bst_one 58 _ _ rfl _ _ rfl HB.out rfl rfl rfl (by omega) ?_; intro v1 w1 hb1; have HB := hideP hb1; clear hb1)
      | (go_at_call 105; refine (int_bstI _ _ HB.out (by omega) (by omega) (by decide) (by decide) (by omega)).mono ?_; rintro e w1 ⟨v1, rfl, hb1⟩; have HB := hideP hb1; clear hb1))
    exact HK.out _ _ _ ⟨by kernel_rfl, rfl, rfl, rfl, rfl, rfl, rfl, rfl, rfl, rfl, rfl, rfl, rfl, rfl, rfl, rfl, rfl, rfl, rfl, rfl⟩ ((HB.out.text (by simp only [HE.out, off_zero, Bool.false_eq_true, if_true, if_false, reduceIte, List.append_assoc, List.nil_append, List.append_nil, List.cons_append, List.singleton_append])).more (by omega))
  · have HE := hideP (show elemL t 32 = offL ((z : Int)) true false true by show offL t.off true false true = _; rw [hoff])
    have zb1 : (60 : Int) ≤ z := by omega
    have zb2 : (z : Int) ≤ 86399 := by omega
    have ht2 : ((z : Int) == 0) = false := by rw [beq_eq_false_iff_ne]; omega
    have HZ := hideP hz1
    clear hoff o1 o2 o3 hz1 hz2
    conv => arg 2; whnf
    go_wp2_with (first
      | (at_builtin; refine wpList_bst_one 90 _ _ rfl _ _ rfl HB.out rfl rfl rfl (by omega) ?_; intro v1 w1 hb1; have HB := hideP hb1; clear hb1)
      | (at_builtin; refine wpList_bst_one 45 _ _ rfl _ _ rfl HB.out rfl rfl rfl (by omega) ?_; intro v1 w1 hb1; have HB := hideP hb1; clear hb1)
      | (at_builtin; refine wpList_bst_one 43 _ _ rfl _ _ rfl HB.out rfl rfl rfl (by omega) ?_; intro v1 w1 hb1; have HB := hideP hb1; clear hb1)
      | (at_builtin; refine wpList_bst_one 58 _ _ rfl _ _ rfl HB.out rfl rfl rfl (by omega) ?_; intro v1 w1 hb1; have HB := hideP hb1; clear hb1)
      | (go_at_call 105; refine (int_bstI _ _ HB.out (by omega) (by omega) (by decide) (by decide) (by omega)).mono ?_; rintro e w1 ⟨v1, rfl, hb1⟩; have HB := hideP hb1; clear hb1))
    exact HK.out _ _ _ ⟨by kernel_rfl, rfl, rfl, rfl, rfl, rfl, rfl, rfl, rfl, rfl, rfl, rfl, rfl, rfl, rfl, rfl, rfl, rfl, rfl, rfl⟩ ((HB.out.text (by simp only [HE.out, zq1, zq2, zq3, off_pos, Bool.false_eq_true, if_true, if_false, reduceIte, List.append_assoc, List.nil_append, List.append_nil, List.cons_append, List.singleton_append])).more (by omega))
  · have HE := hideP (show elemL t 32 = offL (-(z : Int)) true false true by show offL t.off true false true = _; rw [hoff])
    have zb1 : (60 : Int) ≤ z := by omega
    have zb2 : (z : Int) ≤ 86399 := by omega
    have ht := tdiv_neg z
    have ht2 := neg_ne z hz1
    have ht3 := neg_lt z hz1
    have HZ := hideP hz1
    clear hoff o1 o2 o3 hz1 hz2
    conv => arg 2; whnf
    go_wp2_with (first
      | (at_builtin; refine wpList_bst_one 90 _ _ rfl _ _ rfl HB.out rfl rfl rfl (by omega) ?_; intro v1 w1 hb1; have HB := hideP hb1; clear hb1)
      | (at_builtin; refine wpList_bst_one 45 _ _ rfl _ _ rfl HB.out rfl rfl rfl (by omega) ?_; intro v1 w1 hb1; have HB := hideP hb1; clear hb1)
      | (at_builtin; refine wpList_bst_one 43 _ _ rfl _ _ rfl HB.out rfl rfl rfl (by omega) ?_; intro v1 w1 hb1; have HB := hideP hb1; clear hb1)
      | (at_builtin; refine wpList_bst_one 58 _ _ rfl _ _ rfl HB.out rfl rfl rfl (by omega) ?_; intro v1 w1 hb1; have HB := hideP hb1; clear hb1)
      | (go_at_call 105; refine (int_bstI _ _ HB.out (by omega) (by omega) (by decide) (by decide) (by omega)).mono ?_; rintro e w1 ⟨v1, rfl, hb1⟩; have HB := hideP hb1; clear hb1))
    exact HK.out _ _ _ ⟨by kernel_rfl, rfl, rfl, rfl, rfl, rfl, rfl, rfl, rfl, rfl, rfl, rfl, rfl, rfl, rfl, rfl, rfl, rfl, rfl, rfl⟩ ((HB.out.text (by simp only [HE.out, zq1, zq2, zq3, off_neg z HZ.out, Bool.false_eq_true, if_true, if_false, reduceIte, List.append_assoc, List.nil_append, List.append_nil, List.cons_append, List.singleton_append])).more (by omega))
end
theorem e32 (t : Tm) (hO : TmOk t) (v : Value) (s : ByteArray) (gp : Nat) (nm : ByteArray) (off ab dy : Int) (cy cm cd cyd ch cmi cs : Int) (x18 x20 : Value) (w : World) (hoff : t.off = off) (w0 : World) (v0 : Value) (base : Nat) (xs : List Value) (l : List UInt8) (n : Nat) (hB : BSt w0 v0 base xs w v l n) (hn : n + 1000 ≤ 140737488351232) (a : Act) (hF : FmtF v s gp nm off ab dy cy cm cd cyd ch cmi cs x18 (.int .i64 32) x20 (.int .i64 32) a)
    (K : Act → World → Prop) (Q : Exit → Act → World → Prop)
    (hk : ∀ v' a' w', FmtF v' s gp nm off ab dy cy cm cd cyd ch cmi cs x18 (.int .i64 32) x20 (.int .i64 32) a' → BSt w0 v0 base xs w' v' (l ++ elemL t 32) (n + 200) → K a' w') :
    Code.wp Tryd.prog fp23 (Exit.then K Q) a w := by
  obtain ⟨h1, h2, q1, q2, q3, q7, q8, q9, q10, q11, q12, q13, q14, q15, q16, q17, q18, q19, q20, q92⟩ := hF
  rw [fmt_frame a h1 h2, q1, q2, q3, q7, q8, q9, q10, q11, q12, q13, q14, q15, q16, q17, q18, q19, q20, q92]
  exact e32_lit _ _ _ _ _ _ _ _ _ _ _ _ _ _ _ _ _ _ _ _ _ _ _ _ _ _ _ _ _ _ _ _ _ _ _ _ _ _ _ _ _ _ _ _ _ _ _ _ _ _ _ _ _ _ _ _ _ _ _ _ _ _ _ _ _ _ _ _ _ _ _ _ _ _ _ _ _ _ _ _ _ _ _ _ _ _ _ _ _ _ _ _ _ _ _ _ _ _ _ _ _ _ _ _ _ _ _ _ _ _ _ _ _ _ _ _ _ _ _ _ _ _ _ _ _ _ _ _ _ _ _ _ _ _ _ _ _ _ _ _ _ _ _ _ _ _ _ _ _ _ _ _ _ _ _ _ _ _ _ _ _ _ _ _ _ _ _ _ _ _ _ _ _ _ _ _ _ _ _ _ _ _ _ _ _ _ _ _ _ _ _ _ _ _ _ _ _ _ _ _ _ _ _ _ _ _ _ _ _ _ _ _ _ _ _ _ _ _ _ _ _ _ _ _ _ _ _ _ _ _ _ _ _ _ _ _ _ _ _ _ _ _ _ _ _ _ _ _ _ _ _ _ _ _ _ _ _ _ _ _ _ _ _ _ _ _ _ _ _ _ _ _ _ _ _ _ _ _ _ _ _ _ _ _ _ _ _ _ _ _ _ _ _ _ _ _ _ _ _ _ _ _ _ _ _ _ _ _ _ _ _ _ _ _ _ _ _ _ _ _ _ _ _ _ _ _ _ _ _ _ _ _ _ _ _ _ _ _ _ _ _ _ _ _ _ _ _ _ _ _ _ _ _ _ _ _ _ _ _ _ _ _ _ _ _ _ _ _ _ _ _ _ _ _ _ t hO v s gp nm off ab dy cy cm cd cyd ch cmi cs x18 x20 w hoff w0 v0 base xs l n hB hn K Q hk
section
variable (u0 u4 u5 u6 u21 u22 u23 u24 u25 u26 u27 u28 u29 u30 u31 u32 u33 u34 u35 u36 u37 u38 u39 u40 u41 u42 u43 u44 u45 u46 u47 u48 u49 u50 u51 u52 u53 u54 u55 u56 u57 u58 u59 u60 u61 u62 u63 u64 u65 u66 u67 u68 u69 u70 u71 u72 u73 u74 u75 u76 u77 u78 u79 u80 u81 u82 u83 u84 u85 u86 u87 u88 u89 u90 u91 u93 u94 u95 u96 u97 u98 u99 u100 u101 u102 u103 u104 u105 u106 u107 u108 u109 u110 u111 u112 u113 u114 u115 u116 u117 u118 u119 u120 u121 u122 u123 u124 u125 u126 u127 u128 u129 u130 u131 u132 u133 u134 u135 u136 u137 u138 u139 u140 u141 u142 u143 u144 u145 u146 u147 u148 u149 u150 u151 u152 u153 u154 u155 u156 u157 u158 u159 u160 u161 u162 u163 u164 u165 u166 u167 u168 u169 u170 u171 u172 u173 u174 u175 u176 u177 u178 u179 u180 u181 u182 u183 u184 u185 u186 u187 u188 u189 u190 u191 u192 u193 u194 u195 u196 u197 u198 u199 u200 u201 u202 u203 u204 u205 u206 u207 u208 u209 u210 u211 u212 u213 u214 u215 u216 u217 u218 u219 u220 u221 u222 u223 u224 u225 u226 u227 u228 u229 u230 u231 u232 u233 u234 u235 u236 u237 u238 u239 u240 u241 u242 u243 u244 u245 u246 u247 u248 u249 u250 u251 u252 u253 u254 u255 u256 u257 u258 u259 u260 u261 u262 u263 u264 u265 u266 u267 u268 u269 u270 u271 u272 u273 u274 u275 u276 u277 u278 u279 u280 u281 u282 u283 u284 u285 u286 u287 u288 u289 u290 u291 u292 u293 u294 u295 u296 u297 u298 u299 u300 u301 u302 u303 u304 u305 u306 u307 u308 u309 u310 u311 u312 u313 u314 u315 u316 u317 u318 u319 u320 u321 u322 u323 u324 u325 u326 u327 u328 u329 u330 u331 u332 u333 u334 u335 u336 u337 u338 u339 u340 u341 u342 u343 u344 u345 u346 u347 u348 u349 u350 u351 u352 u353 u354 u355 u356 u357 u358 u359 u360 u361 u362 u363 u364 u365 u366 u367 u368 u369 u370 u371 u372 u373 u374 u375 u376 u377 u378 u379 u380 u381 u382 u383 u384 u385 u386 u387 u388 u389 u390 u391 u392 : Value)
set_option maxRecDepth 1000000 in
set_option maxHeartbeats 6400000 in
theorem e33_lit (t : Tm) (hO : TmOk t) (v : Value) (s : ByteArray) (gp : Nat) (nm : ByteArray) (off ab dy : Int) (cy cm cd cyd ch cmi cs : Int) (x18 x20 : Value) (w : World) (hoff : t.off = off) (w0 : World) (v0 : Value) (base : Nat) (xs : List Value) (l : List UInt8) (n : Nat) (hB : BSt w0 v0 base xs w v l n) (hn : n + 1000 ≤ 140737488351232)
    (K : Act → World → Prop) (Q : Exit → Act → World → Prop)
    (hk : ∀ v' a' w', FmtF v' s gp nm off ab dy cy cm cd cyd ch cmi cs x18 (.int .i64 33) x20 (.int .i64 33) a' → BSt w0 v0 base xs w' v' (l ++ elemL t 33) (n + 200) → K a' w') :
    Code.wp Tryd.prog fp23 (Exit.then K Q) ⟨List.toArray (u0 :: v :: (.string s) :: (.pointer (some ⟨gp, 0, none⟩)) :: u4 :: u5 :: u6 :: (.string nm) :: (.int .i64 off) :: (.int .u64 ab) :: (.int .u64 dy) :: (.int .i64 cy) :: (.int .i64 cm) :: (.int .i64 cd) :: (.int .i64 cyd) :: (.int .i64 ch) :: (.int .i64 cmi) :: (.int .i64 cs) :: x18 :: (.int .i64 33) :: x20 :: u21 :: u22 :: u23 :: u24 :: u25 :: u26 :: u27 :: u28 :: u29 :: u30 :: u31 :: u32 :: u33 :: u34 :: u35 :: u36 :: u37 :: u38 :: u39 :: u40 :: u41 :: u42 :: u43 :: u44 :: u45 :: u46 :: u47 :: u48 :: u49 :: u50 :: u51 :: u52 :: u53 :: u54 :: u55 :: u56 :: u57 :: u58 :: u59 :: u60 :: u61 :: u62 :: u63 :: u64 :: u65 :: u66 :: u67 :: u68 :: u69 :: u70 :: u71 :: u72 :: u73 :: u74 :: u75 :: u76 :: u77 :: u78 :: u79 :: u80 :: u81 :: u82 :: u83 :: u84 :: u85 :: u86 :: u87 :: u88 :: u89 :: u90 :: u91 :: (.int .i64 33) :: u93 :: u94 :: u95 :: u96 :: u97 :: u98 :: u99 :: u100 :: u101 :: u102 :: u103 :: u104 :: u105 :: u106 :: u107 :: u108 :: u109 :: u110 :: u111 :: u112 :: u113 :: u114 :: u115 :: u116 :: u117 :: u118 :: u119 :: u120 :: u121 :: u122 :: u123 :: u124 :: u125 :: u126 :: u127 :: u128 :: u129 :: u130 :: u131 :: u132 :: u133 :: u134 :: u135 :: u136 :: u137 :: u138 :: u139 :: u140 :: u141 :: u142 :: u143 :: u144 :: u145 :: u146 :: u147 :: u148 :: u149 :: u150 :: u151 :: u152 :: u153 :: u154 :: u155 :: u156 :: u157 :: u158 :: u159 :: u160 :: u161 :: u162 :: u163 :: u164 :: u165 :: u166 :: u167 :: u168 :: u169 :: u170 :: u171 :: u172 :: u173 :: u174 :: u175 :: u176 :: u177 :: u178 :: u179 :: u180 :: u181 :: u182 :: u183 :: u184 :: u185 :: u186 :: u187 :: u188 :: u189 :: u190 :: u191 :: u192 :: u193 :: u194 :: u195 :: u196 :: u197 :: u198 :: u199 :: u200 :: u201 :: u202 :: u203 :: u204 :: u205 :: u206 :: u207 :: u208 :: u209 :: u210 :: u211 :: u212 :: u213 :: u214 :: u215 :: u216 :: u217 :: u218 :: u219 :: u220 :: u221 :: u222 :: u223 :: u224 :: u225 :: u226 :: u227 :: u228 :: u229 :: u230 :: u231 :: u232 :: u233 :: u234 :: u235 :: u236 :: u237 :: u238 :: u239 :: u240 :: u241 :: u242 :: u243 :: u244 :: u245 :: u246 :: u247 :: u248 :: u249 :: u250 :: u251 :: u252 :: u253 :: u254 :: u255 :: u256 :: u257 :: u258 :: u259 :: u260 :: u261 :: u262 :: u263 :: u264 :: u265 :: u266 :: u267 :: u268 :: u269 :: u270 :: u271 :: u272 :: u273 :: u274 :: u275 :: u276 :: u277 :: u278 :: u279 :: u280 :: u281 :: u282 :: u283 :: u284 :: u285 :: u286 :: u287 :: u288 :: u289 :: u290 :: u291 :: u292 :: u293 :: u294 :: u295 :: u296 :: u297 :: u298 :: u299 :: u300 :: u301 :: u302 :: u303 :: u304 :: u305 :: u306 :: u307 :: u308 :: u309 :: u310 :: u311 :: u312 :: u313 :: u314 :: u315 :: u316 :: u317 :: u318 :: u319 :: u320 :: u321 :: u322 :: u323 :: u324 :: u325 :: u326 :: u327 :: u328 :: u329 :: u330 :: u331 :: u332 :: u333 :: u334 :: u335 :: u336 :: u337 :: u338 :: u339 :: u340 :: u341 :: u342 :: u343 :: u344 :: u345 :: u346 :: u347 :: u348 :: u349 :: u350 :: u351 :: u352 :: u353 :: u354 :: u355 :: u356 :: u357 :: u358 :: u359 :: u360 :: u361 :: u362 :: u363 :: u364 :: u365 :: u366 :: u367 :: u368 :: u369 :: u370 :: u371 :: u372 :: u373 :: u374 :: u375 :: u376 :: u377 :: u378 :: u379 :: u380 :: u381 :: u382 :: u383 :: u384 :: u385 :: u386 :: u387 :: u388 :: u389 :: u390 :: u391 :: u392 :: []), []⟩ w := by
  have HK := hideP hk
  have HB := hideP hB
  have o1 := hO.off0
  have o2 := hO.off1
  have o3 := hO.off2
  clear hk hB hO
  have hsp : off = 0 ∨ (∃ z : Nat, off = z ∧ 60 ≤ z ∧ z ≤ 86399) ∨ (∃ z : Nat, off = -(z : Int) ∧ 60 ≤ z ∧ z ≤ 86399) := by
    rw [hoff] at o1 o2 o3
    rcases o3 with h | h | h
    · exact .inl h
    · exact .inr (.inr ⟨(-off).toNat, by omega, by omega, by omega⟩)
    · exact .inr (.inl ⟨off.toNat, by omega, by omega, by omega⟩)
  rcases hsp with rfl | ⟨z, rfl, hz1, hz2⟩ | ⟨z, rfl, hz1, hz2⟩
  · have HE := hideP (show elemL t 33 = offL 0 true true true by show offL t.off true true true = _; rw [hoff])
    clear hoff o1 o2 o3
    conv => arg 2; whnf
    go_wp2_with (first
      | (at_builtin; refine wpList_bst_one 90 _ _ rfl _ _ rfl HB.out rfl rfl rfl (by omega) ?_; intro v1 w1 hb1; have HB := hideP hb1; clear hb1)
      | (at_builtin; refine wpList_bst_one 45 _ _ rfl _ _ rfl HB.out rfl rfl rfl (by omega) ?_; intro v1 w1 hb1; have HB := hideP hb1; clear hb1)
      | (at_builtin; refine wpList_bst_one 43 _ _ rfl _ _ rfl HB.out rfl rfl rfl (by omega) ?_; intro v1 w1 hb1; have HB := hideP hb1; clear hb1)
      | (at_builtin; refine wpList_bst_one 58 _ _ rfl _ _ rfl HB.out rfl rfl rfl (by omega) ?_; intro v1 w1 hb1; have HB := hideP hb1; clear hb1)
      | (go_at_call 105; refine (int_bstI _ _ HB.out (by omega) (by omega) (by decide) (by decide) (by omega)).mono ?_; rintro e w1 ⟨v1, rfl, hb1⟩; have HB := hideP hb1; clear hb1))
    exact HK.out _ _ _ ⟨by kernel_rfl, rfl, rfl, rfl, rfl, rfl, rfl, rfl, rfl, rfl, rfl, rfl, rfl, rfl, rfl, rfl, rfl, rfl, rfl, rfl⟩ ((HB.out.text (by simp only [HE.out, off_zero, Bool.false_eq_true, if_true, if_false, reduceIte, List.append_assoc, List.nil_append, List.append_nil, List.cons_append, List.singleton_append])).more (by omega))
  · have HE := hideP (show elemL t 33 = offL ((z : Int)) true true true by show offL t.off true true true = _; rw [hoff])
    have zb1 : (60 : Int) ≤ z := by omega
    have zb2 : (z : Int) ≤ 86399 := by omega
    have ht2 : ((z : Int) == 0) = false := by rw [beq_eq_false_iff_ne]; omega
    have HZ := hideP hz1
    clear hoff o1 o2 o3 hz1 hz2
    conv => arg 2; whnf
    go_wp2_with (first
      | (at_builtin; refine wpList_bst_one 90 _ _ rfl _ _ rfl HB.out rfl rfl rfl (by omega) ?_; intro v1 w1 hb1; have HB := hideP hb1; clear hb1)
      | (at_builtin; refine wpList_bst_one 45 _ _ rfl _ _ rfl HB.out rfl rfl rfl (by omega) ?_; intro v1 w1 hb1; have HB := hideP hb1; clear hb1)
      | (at_builtin; refine wpList_bst_one 43 _ _ rfl _ _ rfl HB.out rfl rfl rfl (by omega) ?_; intro v1 w1 hb1; have HB := hideP hb1; clear hb1)
      | (at_builtin; refine wpList_bst_one 58 _ _ rfl _ _ rfl HB.out rfl rfl rfl (by omega) ?_; intro v1 w1 hb1; have HB := hideP hb1; clear hb1)
      | (go_at_call 105; refine (int_bstI _ _ HB.out (by omega) (by omega) (by decide) (by decide) (by omega)).mono ?_; rintro e w1 ⟨v1, rfl, hb1⟩; have HB := hideP hb1; clear hb1))
    exact HK.out _ _ _ ⟨by kernel_rfl, rfl, rfl, rfl, rfl, rfl, rfl, rfl, rfl, rfl, rfl, rfl, rfl, rfl, rfl, rfl, rfl, rfl, rfl, rfl⟩ ((HB.out.text (by simp only [HE.out, zq1, zq2, zq3, off_pos, Bool.false_eq_true, if_true, if_false, reduceIte, List.append_assoc, List.nil_append, List.append_nil, List.cons_append, List.singleton_append])).more (by omega))
  · have HE := hideP (show elemL t 33 = offL (-(z : Int)) true true true by show offL t.off true true true = _; rw [hoff])
    have zb1 : (60 : Int) ≤ z := by omega
    have zb2 : (z : Int) ≤ 86399 := by omega
    have ht := tdiv_neg z
    have ht2 := neg_ne z hz1
    have ht3 := neg_lt z hz1
    have HZ := hideP hz1
    clear hoff o1 o2 o3 hz1 hz2
    conv => arg 2; whnf
    go_wp2_with (first
      | (at_builtin; refine wpList_bst_one 90 _ _ rfl _ _ rfl HB.out rfl rfl rfl (by omega) ?_; intro v1 w1 hb1; have HB := hideP hb1; clear hb1)
      | (at_builtin; refine wpList_bst_one 45 _ _ rfl _ _ rfl HB.out rfl rfl rfl (by omega) ?_; intro v1 w1 hb1; have HB := hideP hb1; clear hb1)
      | (at_builtin; refine wpList_bst_one 43 _ _ rfl _ _ rfl HB.out rfl rfl rfl (by omega) ?_; intro v1 w1 hb1; have HB := hideP hb1; clear hb1)
      | (at_builtin; refine wpList_bst_one 58 _ _ rfl _ _ rfl HB.out rfl rfl rfl (by omega) ?_; intro v1 w1 hb1; have HB := hideP hb1; clear hb1)
      | (go_at_call 105; refine (int_bstI _ _ HB.out (by omega) (by omega) (by decide) (by decide) (by omega)).mono ?_; rintro e w1 ⟨v1, rfl, hb1⟩; have HB := hideP hb1; clear hb1))
    exact HK.out _ _ _ ⟨by kernel_rfl, rfl, rfl, rfl, rfl, rfl, rfl, rfl, rfl, rfl, rfl, rfl, rfl, rfl, rfl, rfl, rfl, rfl, rfl, rfl⟩ ((HB.out.text (by simp only [HE.out, zq1, zq2, zq3, off_neg z HZ.out, Bool.false_eq_true, if_true, if_false, reduceIte, List.append_assoc, List.nil_append, List.append_nil, List.cons_append, List.singleton_append])).more (by omega))
end
theorem e33 (t : Tm) (hO : TmOk t) (v : Value) (s : ByteArray) (gp : Nat) (nm : ByteArray) (off ab dy : Int) (cy cm cd cyd ch cmi cs : Int) (x18 x20 : Value) (w : World) (hoff : t.off = off) (w0 : World) (v0 : Value) (base : Nat) (xs : List Value) (l : List UInt8) (n : Nat) (hB : BSt w0 v0 base xs w v l n) (hn : n + 1000 ≤ 140737488351232) (a : Act) (hF : FmtF v s gp nm off ab dy cy cm cd cyd ch cmi cs x18 (.int .i64 33) x20 (.int .i64 33) a)
    (K : Act → World → Prop) (Q : Exit → Act → World → Prop)
    (hk : ∀ v' a' w', FmtF v' s gp nm off ab dy cy cm cd cyd ch cmi cs x18 (.int .i64 33) x20 (.int .i64 33) a' → BSt w0 v0 base xs w' v' (l ++ elemL t 33) (n + 200) → K a' w') :
    Code.wp Tryd.prog fp23 (Exit.then K Q) a w := by
  obtain ⟨h1, h2, q1, q2, q3, q7, q8, q9, q10, q11, q12, q13, q14, q15, q16, q17, q18, q19, q20, q92⟩ := hF
  rw [fmt_frame a h1 h2, q1, q2, q3, q7, q8, q9, q10, q11, q12, q13, q14, q15, q16, q17, q18, q19, q20, q92]
  exact e33_lit _ _ _ _ _ _ _ _ _ _ _ _ _ _ _ _ _ _ _ _ _ _ _ _ _ _ _ _ _ _ _ _ _ _ _ _ _ _ _ _ _ _ _ _ _ _ _ _ _ _ _ _ _ _ _ _ _ _ _ _ _ _ _ _ _ _ _ _ _ _ _ _ _ _ _ _ _ _ _ _ _ _ _ _ _ _ _ _ _ _ _ _ _ _ _ _ _ _ _ _ _ _ _ _ _ _ _ _ _ _ _ _ _ _ _ _ _ _ _ _ _ _ _ _ _ _ _ _ _ _ _ _ _ _ _ _ _ _ _ _ _ _ _ _ _ _ _ _ _ _ _ _ _ _ _ _ _ _ _ _ _ _ _ _ _ _ _ _ _ _ _ _ _ _ _ _ _ _ _ _ _ _ _ _ _ _ _ _ _ _ _ _ _ _ _ _ _ _ _ _ _ _ _ _ _ _ _ _ _ _ _ _ _ _ _ _ _ _ _ _ _ _ _ _ _ _ _ _ _ _ _ _ _ _ _ _ _ _ _ _ _ _ _ _ _ _ _ _ _ _ _ _ _ _ _ _ _ _ _ _ _ _ _ _ _ _ _ _ _ _ _ _ _ _ _ _ _ _ _ _ _ _ _ _ _ _ _ _ _ _ _ _ _ _ _ _ _ _ _ _ _ _ _ _ _ _ _ _ _ _ _ _ _ _ _ _ _ _ _ _ _ _ _ _ _ _ _ _ _ _ _ _ _ _ _ _ _ _ _ _ _ _ _ _ _ _ _ _ _ _ _ _ _ _ _ _ _ _ _ _ _ _ _ _ _ _ _ _ _ _ _ _ _ _ _ t hO v s gp nm off ab dy cy cm cd cyd ch cmi cs x18 x20 w hoff w0 v0 base xs l n hB hn K Q hk
end Go.Proofs.YtigabjibdepoiaaDoor.Tm
