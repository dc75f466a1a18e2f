/- What the loop of appendFormat shares: its parts, its frame, the answers of the functions that it calls. -/
import Derived.Test.YtigabjibdepoiaaDoorChunkWalk
import Derived.Test.YtigabjibdepoiaaDoorFmtP
import Derived.Test.YtigabjibdepoiaaDoorNames
import Derived.Test.YtigabjibdepoiaaDoorNanoG
import Derived.Test.YtigabjibdepoiaaDoorTime3
namespace Go.Proofs.YtigabjibdepoiaaDoor.Tm
set_option linter.unusedSimpArgs false
set_option linter.unusedVariables false
open Go.RowKit Go

/-! The parts of the loop's body. -/
def cL : Code → Code | .seq a _ => a | _ => .skip
def cR : Code → Code | .seq _ b => b | _ => .skip
def cB : Code → Code | .block _ c => c | _ => .skip
noncomputable def fmtBody : Code := ((Tryd.f84.body.bind firstLoop).getD .skip)
noncomputable def fp10 : Code := cL fmtBody
noncomputable def fb1 : Code := cB (cR fmtBody)
noncomputable def fp11 : Code := cL fb1
noncomputable def fp12 : Code := cL (cR fb1)
noncomputable def fp14 : Code := cL (cR (cR fb1))
noncomputable def fp15 : Code := cL (cR (cR (cR fb1)))
noncomputable def fp16 : Code := cL (cR (cR (cR (cR fb1))))
noncomputable def fp18 : Code := cL (cR (cR (cR (cR (cR fb1)))))
noncomputable def fp20 : Code := cL (cR (cR (cR (cR (cR (cR fb1))))))
noncomputable def fp22 : Code := cL (cR (cR (cR (cR (cR (cR (cR fb1)))))))
noncomputable def fp23 : Code := cR (cR (cR (cR (cR (cR (cR (cR fb1)))))))
theorem fmtBody_eq : fmtBody = .seq fp10 (.block 1 (.seq fp11 (.seq fp12 (.seq fp14 (.seq fp15 (.seq fp16 (.seq fp18 (.seq fp20 (.seq fp22 fp23))))))))) := by kernel_rfl
/-- What the slots hold that the rounds share. -/
structure FmtF (v : Value) (s : ByteArray) (gp : Nat) (nm : ByteArray) (off ab dy : Int) (cy cm cd cyd ch cmi cs : Int) (x18 x19 x20 x92 : Value) (a : Act) : Prop where
  size : a.tmps.size = 393
  defers : a.defers = []
  s1 : a.tmps.getD 1 undef = v
  s2 : a.tmps.getD 2 undef = .string s
  s3 : a.tmps.getD 3 undef = .pointer (some ⟨gp, 0, none⟩)
  s7 : a.tmps.getD 7 undef = .string nm
  s8 : a.tmps.getD 8 undef = .int .i64 off
  s9 : a.tmps.getD 9 undef = .int .u64 ab
  s10 : a.tmps.getD 10 undef = .int .u64 dy
  s11 : a.tmps.getD 11 undef = .int .i64 cy
  s12 : a.tmps.getD 12 undef = .int .i64 cm
  s13 : a.tmps.getD 13 undef = .int .i64 cd
  s14 : a.tmps.getD 14 undef = .int .i64 cyd
  s15 : a.tmps.getD 15 undef = .int .i64 ch
  s16 : a.tmps.getD 16 undef = .int .i64 cmi
  s17 : a.tmps.getD 17 undef = .int .i64 cs
  s18 : a.tmps.getD 18 undef = x18
  s19 : a.tmps.getD 19 undef = x19
  s20 : a.tmps.getD 20 undef = x20
  s92 : a.tmps.getD 92 undef = x92
set_option maxRecDepth 1000000 in
theorem fmt_frame (a : Act) (h : a.tmps.size = 393) (hd : a.defers = []) : a = ⟨List.toArray (a.tmps.getD 0 undef :: a.tmps.getD 1 undef :: a.tmps.getD 2 undef :: a.tmps.getD 3 undef :: a.tmps.getD 4 undef :: a.tmps.getD 5 undef :: a.tmps.getD 6 undef :: a.tmps.getD 7 undef :: a.tmps.getD 8 undef :: a.tmps.getD 9 undef :: a.tmps.getD 10 undef :: a.tmps.getD 11 undef :: a.tmps.getD 12 undef :: a.tmps.getD 13 undef :: a.tmps.getD 14 undef :: a.tmps.getD 15 undef :: a.tmps.getD 16 undef :: a.tmps.getD 17 undef :: a.tmps.getD 18 undef :: a.tmps.getD 19 undef :: a.tmps.getD 20 undef :: a.tmps.getD 21 undef :: a.tmps.getD 22 undef :: a.tmps.getD 23 undef :: a.tmps.getD 24 undef :: a.tmps.getD 25 undef :: a.tmps.getD 26 undef :: a.tmps.getD 27 undef :: a.tmps.getD 28 undef :: a.tmps.getD 29 undef :: a.tmps.getD 30 undef :: a.tmps.getD 31 undef :: a.tmps.getD 32 undef :: a.tmps.getD 33 undef :: a.tmps.getD 34 undef :: a.tmps.getD 35 undef :: a.tmps.getD 36 undef :: a.tmps.getD 37 undef :: a.tmps.getD 38 undef :: a.tmps.getD 39 undef :: a.tmps.getD 40 undef :: a.tmps.getD 41 undef :: a.tmps.getD 42 undef :: a.tmps.getD 43 undef :: a.tmps.getD 44 undef :: a.tmps.getD 45 undef :: a.tmps.getD 46 undef :: a.tmps.getD 47 undef :: a.tmps.getD 48 undef :: a.tmps.getD 49 undef :: a.tmps.getD 50 undef :: a.tmps.getD 51 undef :: a.tmps.getD 52 undef :: a.tmps.getD 53 undef :: a.tmps.getD 54 undef :: a.tmps.getD 55 undef :: a.tmps.getD 56 undef :: a.tmps.getD 57 undef :: a.tmps.getD 58 undef :: a.tmps.getD 59 undef :: a.tmps.getD 60 undef :: a.tmps.getD 61 undef :: a.tmps.getD 62 undef :: a.tmps.getD 63 undef :: a.tmps.getD 64 undef :: a.tmps.getD 65 undef :: a.tmps.getD 66 undef :: a.tmps.getD 67 undef :: a.tmps.getD 68 undef :: a.tmps.getD 69 undef :: a.tmps.getD 70 undef :: a.tmps.getD 71 undef :: a.tmps.getD 72 undef :: a.tmps.getD 73 undef :: a.tmps.getD 74 undef :: a.tmps.getD 75 undef :: a.tmps.getD 76 undef :: a.tmps.getD 77 undef :: a.tmps.getD 78 undef :: a.tmps.getD 79 undef :: a.tmps.getD 80 undef :: a.tmps.getD 81 undef :: a.tmps.getD 82 undef :: a.tmps.getD 83 undef :: a.tmps.getD 84 undef :: a.tmps.getD 85 undef :: a.tmps.getD 86 undef :: a.tmps.getD 87 undef :: a.tmps.getD 88 undef :: a.tmps.getD 89 undef :: a.tmps.getD 90 undef :: a.tmps.getD 91 undef :: a.tmps.getD 92 undef :: a.tmps.getD 93 undef :: a.tmps.getD 94 undef :: a.tmps.getD 95 undef :: a.tmps.getD 96 undef :: a.tmps.getD 97 undef :: a.tmps.getD 98 undef :: a.tmps.getD 99 undef :: a.tmps.getD 100 undef :: a.tmps.getD 101 undef :: a.tmps.getD 102 undef :: a.tmps.getD 103 undef :: a.tmps.getD 104 undef :: a.tmps.getD 105 undef :: a.tmps.getD 106 undef :: a.tmps.getD 107 undef :: a.tmps.getD 108 undef :: a.tmps.getD 109 undef :: a.tmps.getD 110 undef :: a.tmps.getD 111 undef :: a.tmps.getD 112 undef :: a.tmps.getD 113 undef :: a.tmps.getD 114 undef :: a.tmps.getD 115 undef :: a.tmps.getD 116 undef :: a.tmps.getD 117 undef :: a.tmps.getD 118 undef :: a.tmps.getD 119 undef :: a.tmps.getD 120 undef :: a.tmps.getD 121 undef :: a.tmps.getD 122 undef :: a.tmps.getD 123 undef :: a.tmps.getD 124 undef :: a.tmps.getD 125 undef :: a.tmps.getD 126 undef :: a.tmps.getD 127 undef :: a.tmps.getD 128 undef :: a.tmps.getD 129 undef :: a.tmps.getD 130 undef :: a.tmps.getD 131 undef :: a.tmps.getD 132 undef :: a.tmps.getD 133 undef :: a.tmps.getD 134 undef :: a.tmps.getD 135 undef :: a.tmps.getD 136 undef :: a.tmps.getD 137 undef :: a.tmps.getD 138 undef :: a.tmps.getD 139 undef :: a.tmps.getD 140 undef :: a.tmps.getD 141 undef :: a.tmps.getD 142 undef :: a.tmps.getD 143 undef :: a.tmps.getD 144 undef :: a.tmps.getD 145 undef :: a.tmps.getD 146 undef :: a.tmps.getD 147 undef :: a.tmps.getD 148 undef :: a.tmps.getD 149 undef :: a.tmps.getD 150 undef :: a.tmps.getD 151 undef :: a.tmps.getD 152 undef :: a.tmps.getD 153 undef :: a.tmps.getD 154 undef :: a.tmps.getD 155 undef :: a.tmps.getD 156 undef :: a.tmps.getD 157 undef :: a.tmps.getD 158 undef :: a.tmps.getD 159 undef :: a.tmps.getD 160 undef :: a.tmps.getD 161 undef :: a.tmps.getD 162 undef :: a.tmps.getD 163 undef :: a.tmps.getD 164 undef :: a.tmps.getD 165 undef :: a.tmps.getD 166 undef :: a.tmps.getD 167 undef :: a.tmps.getD 168 undef :: a.tmps.getD 169 undef :: a.tmps.getD 170 undef :: a.tmps.getD 171 undef :: a.tmps.getD 172 undef :: a.tmps.getD 173 undef :: a.tmps.getD 174 undef :: a.tmps.getD 175 undef :: a.tmps.getD 176 undef :: a.tmps.getD 177 undef :: a.tmps.getD 178 undef :: a.tmps.getD 179 undef :: a.tmps.getD 180 undef :: a.tmps.getD 181 undef :: a.tmps.getD 182 undef :: a.tmps.getD 183 undef :: a.tmps.getD 184 undef :: a.tmps.getD 185 undef :: a.tmps.getD 186 undef :: a.tmps.getD 187 undef :: a.tmps.getD 188 undef :: a.tmps.getD 189 undef :: a.tmps.getD 190 undef :: a.tmps.getD 191 undef :: a.tmps.getD 192 undef :: a.tmps.getD 193 undef :: a.tmps.getD 194 undef :: a.tmps.getD 195 undef :: a.tmps.getD 196 undef :: a.tmps.getD 197 undef :: a.tmps.getD 198 undef :: a.tmps.getD 199 undef :: a.tmps.getD 200 undef :: a.tmps.getD 201 undef :: a.tmps.getD 202 undef :: a.tmps.getD 203 undef :: a.tmps.getD 204 undef :: a.tmps.getD 205 undef :: a.tmps.getD 206 undef :: a.tmps.getD 207 undef :: a.tmps.getD 208 undef :: a.tmps.getD 209 undef :: a.tmps.getD 210 undef :: a.tmps.getD 211 undef :: a.tmps.getD 212 undef :: a.tmps.getD 213 undef :: a.tmps.getD 214 undef :: a.tmps.getD 215 undef :: a.tmps.getD 216 undef :: a.tmps.getD 217 undef :: a.tmps.getD 218 undef :: a.tmps.getD 219 undef :: a.tmps.getD 220 undef :: a.tmps.getD 221 undef :: a.tmps.getD 222 undef :: a.tmps.getD 223 undef :: a.tmps.getD 224 undef :: a.tmps.getD 225 undef :: a.tmps.getD 226 undef :: a.tmps.getD 227 undef :: a.tmps.getD 228 undef :: a.tmps.getD 229 undef :: a.tmps.getD 230 undef :: a.tmps.getD 231 undef :: a.tmps.getD 232 undef :: a.tmps.getD 233 undef :: a.tmps.getD 234 undef :: a.tmps.getD 235 undef :: a.tmps.getD 236 undef :: a.tmps.getD 237 undef :: a.tmps.getD 238 undef :: a.tmps.getD 239 undef :: a.tmps.getD 240 undef :: a.tmps.getD 241 undef :: a.tmps.getD 242 undef :: a.tmps.getD 243 undef :: a.tmps.getD 244 undef :: a.tmps.getD 245 undef :: a.tmps.getD 246 undef :: a.tmps.getD 247 undef :: a.tmps.getD 248 undef :: a.tmps.getD 249 undef :: a.tmps.getD 250 undef :: a.tmps.getD 251 undef :: a.tmps.getD 252 undef :: a.tmps.getD 253 undef :: a.tmps.getD 254 undef :: a.tmps.getD 255 undef :: a.tmps.getD 256 undef :: a.tmps.getD 257 undef :: a.tmps.getD 258 undef :: a.tmps.getD 259 undef :: a.tmps.getD 260 undef :: a.tmps.getD 261 undef :: a.tmps.getD 262 undef :: a.tmps.getD 263 undef :: a.tmps.getD 264 undef :: a.tmps.getD 265 undef :: a.tmps.getD 266 undef :: a.tmps.getD 267 undef :: a.tmps.getD 268 undef :: a.tmps.getD 269 undef :: a.tmps.getD 270 undef :: a.tmps.getD 271 undef :: a.tmps.getD 272 undef :: a.tmps.getD 273 undef :: a.tmps.getD 274 undef :: a.tmps.getD 275 undef :: a.tmps.getD 276 undef :: a.tmps.getD 277 undef :: a.tmps.getD 278 undef :: a.tmps.getD 279 undef :: a.tmps.getD 280 undef :: a.tmps.getD 281 undef :: a.tmps.getD 282 undef :: a.tmps.getD 283 undef :: a.tmps.getD 284 undef :: a.tmps.getD 285 undef :: a.tmps.getD 286 undef :: a.tmps.getD 287 undef :: a.tmps.getD 288 undef :: a.tmps.getD 289 undef :: a.tmps.getD 290 undef :: a.tmps.getD 291 undef :: a.tmps.getD 292 undef :: a.tmps.getD 293 undef :: a.tmps.getD 294 undef :: a.tmps.getD 295 undef :: a.tmps.getD 296 undef :: a.tmps.getD 297 undef :: a.tmps.getD 298 undef :: a.tmps.getD 299 undef :: a.tmps.getD 300 undef :: a.tmps.getD 301 undef :: a.tmps.getD 302 undef :: a.tmps.getD 303 undef :: a.tmps.getD 304 undef :: a.tmps.getD 305 undef :: a.tmps.getD 306 undef :: a.tmps.getD 307 undef :: a.tmps.getD 308 undef :: a.tmps.getD 309 undef :: a.tmps.getD 310 undef :: a.tmps.getD 311 undef :: a.tmps.getD 312 undef :: a.tmps.getD 313 undef :: a.tmps.getD 314 undef :: a.tmps.getD 315 undef :: a.tmps.getD 316 undef :: a.tmps.getD 317 undef :: a.tmps.getD 318 undef :: a.tmps.getD 319 undef :: a.tmps.getD 320 undef :: a.tmps.getD 321 undef :: a.tmps.getD 322 undef :: a.tmps.getD 323 undef :: a.tmps.getD 324 undef :: a.tmps.getD 325 undef :: a.tmps.getD 326 undef :: a.tmps.getD 327 undef :: a.tmps.getD 328 undef :: a.tmps.getD 329 undef :: a.tmps.getD 330 undef :: a.tmps.getD 331 undef :: a.tmps.getD 332 undef :: a.tmps.getD 333 undef :: a.tmps.getD 334 undef :: a.tmps.getD 335 undef :: a.tmps.getD 336 undef :: a.tmps.getD 337 undef :: a.tmps.getD 338 undef :: a.tmps.getD 339 undef :: a.tmps.getD 340 undef :: a.tmps.getD 341 undef :: a.tmps.getD 342 undef :: a.tmps.getD 343 undef :: a.tmps.getD 344 undef :: a.tmps.getD 345 undef :: a.tmps.getD 346 undef :: a.tmps.getD 347 undef :: a.tmps.getD 348 undef :: a.tmps.getD 349 undef :: a.tmps.getD 350 undef :: a.tmps.getD 351 undef :: a.tmps.getD 352 undef :: a.tmps.getD 353 undef :: a.tmps.getD 354 undef :: a.tmps.getD 355 undef :: a.tmps.getD 356 undef :: a.tmps.getD 357 undef :: a.tmps.getD 358 undef :: a.tmps.getD 359 undef :: a.tmps.getD 360 undef :: a.tmps.getD 361 undef :: a.tmps.getD 362 undef :: a.tmps.getD 363 undef :: a.tmps.getD 364 undef :: a.tmps.getD 365 undef :: a.tmps.getD 366 undef :: a.tmps.getD 367 undef :: a.tmps.getD 368 undef :: a.tmps.getD 369 undef :: a.tmps.getD 370 undef :: a.tmps.getD 371 undef :: a.tmps.getD 372 undef :: a.tmps.getD 373 undef :: a.tmps.getD 374 undef :: a.tmps.getD 375 undef :: a.tmps.getD 376 undef :: a.tmps.getD 377 undef :: a.tmps.getD 378 undef :: a.tmps.getD 379 undef :: a.tmps.getD 380 undef :: a.tmps.getD 381 undef :: a.tmps.getD 382 undef :: a.tmps.getD 383 undef :: a.tmps.getD 384 undef :: a.tmps.getD 385 undef :: a.tmps.getD 386 undef :: a.tmps.getD 387 undef :: a.tmps.getD 388 undef :: a.tmps.getD 389 undef :: a.tmps.getD 390 undef :: a.tmps.getD 391 undef :: a.tmps.getD 392 undef :: []), []⟩ :=
  (frame_lit a 393 h hd).trans (by kernel_rfl)
/-! The answers of the functions that a round calls. -/
/-- The first element of a text, or none (its number is then 0). -/
def ChunkIs (s P : ByteArray) (std : Nat) (Q : ByteArray) : Prop :=
  (∃ k n m, k < s.size ∧ (∀ j, j < k → stdL (rest s j) = none) ∧ stdL (rest s k) = some (std, n, m) ∧ P = s.extract 0 (k + n) ∧ Q = s.extract (k + m) s.size)
  ∨ (std = 0 ∧ (∀ j, j < s.size → stdL (rest s j) = none) ∧ P = s ∧ Q = ⟨#[]⟩)
def ChunkTo (s : ByteArray) (w : World) (e : Ending) (w' : World) : Prop := ∃ P std Q, e = .returned (.tuple #[.string P, .int .i64 (std : Nat), .string Q]) ∧ ChunkIs s P std Q ∧ Below w.heap.size w w'
theorem chunk_to (s : ByteArray) (w : World) (hT : TabOk w) (hs : s.size ≤ 140737488351232) : Calls Tryd.prog 63 #[.string s] w (ChunkTo s w) := by
  refine (chunk_any s _ hT hs).mono ?_
  rintro e w1 (⟨k, std, n, m, hk, hno, hstd, rfl, hb⟩ | ⟨hno, rfl, hb⟩)
  · exact ⟨_, std, _, rfl, .inl ⟨k, n, m, hk, hno, hstd, rfl, rfl⟩, hb⟩
  · exact ⟨s, 0, ⟨#[]⟩, rfl, .inr ⟨rfl, hno, rfl, rfl⟩, hb⟩
theorem fmtL_is (t : Tm) {s P : ByteArray} {std : Nat} {Q : ByteArray} (h : ChunkIs s P std Q) (h0 : std ≠ 0) : fmtL t (bl s) = bl P ++ (elemL t std ++ fmtL t (bl Q)) ∧ Q.size < s.size := by
  rcases h with ⟨k, n, m, hk, hno, hstd, rfl, rfl⟩ | ⟨h, _⟩
  · obtain ⟨f1, f2, f3, f4⟩ := stdL_fine hstd
    simp only at f1 f2 f3 f4
    exact ⟨fmtL_chunk t s k std n m hk hno hstd, by rw [ByteArray.size_extract]; omega⟩
  · exact absurd h h0
theorem fmtL_is0 (t : Tm) {s P : ByteArray} {Q : ByteArray} (h : ChunkIs s P 0 Q) : fmtL t (bl s) = bl P := by
  rcases h with ⟨k, n, m, hk, hno, hstd, rfl, rfl⟩ | ⟨_, hno, rfl, rfl⟩
  · have := (stdL_fine hstd).1; simp at this
  · exact fmtL_no_chunk t _ hno
theorem date_t (t : Tm) (w : World) (h : TmOk t) : Calls Tryd.prog 100 #[.int .u64 (dayOf t.y t.mo t.d : Nat)] w (QuietV (.tuple #[.int .i64 t.y, .int .i64 t.mo, .int .i64 t.d]) w) := date_any t.y t.mo t.d w h.day
theorem yday_t (t : Tm) (w : World) (h : TmOk t) : Calls Tryd.prog 108 #[.int .u64 (dayOf t.y t.mo t.d : Nat)] w (QuietV (.tuple #[.int .i64 t.y, .int .i64 (ydN t.y t.mo t.d : Nat)]) w) := by
  have := yearYday_any t.y t.mo t.d w h.day
  rw [ydOf_eq h.day] at this; exact this
theorem day_le {y m d : Nat} (h : DayOk y m d) : dayOf y m d ≤ 200000000000000 := by have := (dayOf_b h).2; omega
theorem clock_t (t : Tm) (w : World) (h : TmOk t) : Calls Tryd.prog 101 #[.int .u64 (toldOf t)] w (QuietV (.tuple #[.int .i64 t.h, .int .i64 t.mi, .int .i64 t.s]) w) := clock_any _ _ _ _ w h.clock (day_le h.day)
theorem days_t (t : Tm) (w : World) (h : TmOk t) : Calls Tryd.prog 99 #[.int .u64 (toldOf t)] w (QuietV (.int .u64 (dayOf t.y t.mo t.d : Nat)) w) := days_any _ _ _ _ w h.clock (day_le h.day)
theorem wday_t (t : Tm) (w : World) (h : TmOk t) : Calls Tryd.prog 110 #[.int .u64 (dayOf t.y t.mo t.d : Nat)] w (QuietV (.int .i64 (wdN t.y t.mo t.d : Nat)) w) := by
  have := weekday_any (dayOf t.y t.mo t.d) w (day_le h.day)
  rw [wd_eq h.day] at this; exact this
theorem wdN_le (y m d : Nat) : wdN y m d ≤ 6 := by unfold wdN; omega
theorem dayname_t (t : Tm) (nb : ByteArray) (w : World) (hn : nb = ⟨(dayN (wdN t.y t.mo t.d)).toArray⟩) : Calls Tryd.prog 111 #[.int .i64 (wdN t.y t.mo t.d : Nat)] w (fun e w' => e = .returned (.string nb) ∧ Below w.heap.size w w') := by
  subst hn; exact day_name _ w (wdN_le _ _ _)
theorem monname_t (t : Tm) (nb : ByteArray) (w : World) (h : TmOk t) (hn : nb = ⟨(monN t.mo).toArray⟩) : Calls Tryd.prog 109 #[.int .i64 t.mo] w (fun e w' => e = .returned (.string nb) ∧ Below w.heap.size w w') := by
  subst hn; exact month_name _ w h.day.2.1 h.day.2.2.1
theorem monN_sz (m : Nat) (h1 : 1 ≤ m) (h2 : m ≤ 12) : 3 ≤ (monN m).length ∧ (monN m).length ≤ 9 := by
  have : m = 1 ∨ m = 2 ∨ m = 3 ∨ m = 4 ∨ m = 5 ∨ m = 6 ∨ m = 7 ∨ m = 8 ∨ m = 9 ∨ m = 10 ∨ m = 11 ∨ m = 12 := by omega
  rcases this with rfl | rfl | rfl | rfl | rfl | rfl | rfl | rfl | rfl | rfl | rfl | rfl <;> decide
theorem dayN_sz (m : Nat) (h2 : m ≤ 6) : 3 ≤ (dayN m).length ∧ (dayN m).length ≤ 9 := by
  have : m = 0 ∨ m = 1 ∨ m = 2 ∨ m = 3 ∨ m = 4 ∨ m = 5 ∨ m = 6 := by omega
  rcases this with rfl | rfl | rfl | rfl | rfl | rfl | rfl <;> decide
/-- appendInt of a number that is known to be from 0 on. -/
theorem int_bstI {w0 : World} {v0 : Value} {base : Nat} {xs : List Value} {w : World} {v : Value} {l : List UInt8} {n : Nat} (x wd : Int) (h : BSt w0 v0 base xs w v l n) (h0 : 0 ≤ x) (h1 : x ≤ 999999999999) (hw1 : 0 ≤ wd) (hw2 : wd ≤ 20) (hn : n + 50 ≤ 140737488351232) :
    Calls Tryd.prog 105 #[v, .int .i64 x, .int .i64 wd] w (BPost w0 v0 base xs (l ++ padL 48 x.toNat wd) (n + 20)) := by
  obtain ⟨m, rfl⟩ : ∃ m : Nat, x = m := ⟨x.toNat, by omega⟩
  exact int_bst m wd h (by omega) hw1 hw2 hn
theorem ne_txt {P : ByteArray} (h : P.size ≠ 0) : P.toList ≠ [] := toList_ne P (by omega)
theorem bl_empty : bl (⟨#[]⟩ : ByteArray) = [] := rfl
end Go.Proofs.YtigabjibdepoiaaDoor.Tm
