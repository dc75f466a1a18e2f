/- What the loop of nextStdChunk shares: its body, its frame, and the elements of a layout as plain functions of bytes. -/
import Derived.Test.YtigabjibdepoiaaDoorProg
import Derived.Test.YtigabjibdepoiaaDoorBase
namespace Go.Proofs.YtigabjibdepoiaaDoor.Tm
set_option linter.unusedSimpArgs false
set_option linter.unusedVariables false
open Go.RowKit Go

/-! The elements of a layout: what stands at the head of a text. -/
def lowP (l : List UInt8) : Bool := l[0]?.any fun c => decide (97 ≤ c.toNat) && decide (c.toNat ≤ 122)
def at_ (l : List UInt8) (j n : Nat) : Bool := l[j]?.any fun c => c.toNat == n
def runOf (d : UInt8) (l : List UInt8) : Nat := (l.takeWhile fun c => c == d).length
def fracStd (code n : Nat) (comma : Bool) : Nat := code + (n % 4096) * 65536 + (if comma then 268435456 else 0)
def std0x (n : Nat) : Nat := if n = 49 then 260 else if n = 50 then 265 else if n = 51 then 1038 else if n = 52 then 1040 else if n = 53 then 1042 else 276
def stdJ (l : List UInt8) : Option (Nat × Nat × Nat) :=
  if l.take 3 == [74, 97, 110] then (if l.take 7 == [74, 97, 110, 117, 97, 114, 121] then some (257, 0, 7) else if lowP (l.drop 3) then none else some (258, 0, 3)) else none
def stdM (l : List UInt8) : Option (Nat × Nat × Nat) :=
  if l.take 3 == [77, 111, 110] then (if l.take 6 == [77, 111, 110, 100, 97, 121] then some (261, 0, 6) else if lowP (l.drop 3) then none else some (262, 0, 3))
  else if l.take 3 == [77, 83, 84] then some (23, 0, 3) else none
def std0 (l : List UInt8) : Option (Nat × Nat × Nat) := match l[1]? with
  | none => none
  | some d => if 49 ≤ d.toNat ∧ d.toNat ≤ 54 then some (std0x d.toNat, 0, 2) else if d.toNat = 48 ∧ at_ l 2 50 = true then some (523, 0, 3) else none
def std1 (l : List UInt8) : Option (Nat × Nat × Nat) := if at_ l 1 53 then some (1036, 0, 2) else some (259, 0, 1)
def std2 (l : List UInt8) : Option (Nat × Nat × Nat) := if l.take 4 == [50, 48, 48, 54] then some (275, 0, 4) else some (263, 0, 1)
def stdUnder (l : List UInt8) : Option (Nat × Nat × Nat) :=
  if at_ l 1 50 then (if (l.drop 1).take 4 == [50, 48, 48, 54] then some (275, 1, 5) else some (264, 0, 2))
  else if at_ l 1 95 && at_ l 2 50 then some (522, 0, 3) else none
def stdZone (c : UInt8) (l : List UInt8) (a b d e f : Nat) : Option (Nat × Nat × Nat) :=
  if l.take 7 == [c, 48, 55, 48, 48, 48, 48] then some (a, 0, 7)
  else if l.take 9 == [c, 48, 55, 58, 48, 48, 58, 48, 48] then some (b, 0, 9)
  else if l.take 5 == [c, 48, 55, 48, 48] then some (d, 0, 5)
  else if l.take 6 == [c, 48, 55, 58, 48, 48] then some (e, 0, 6)
  else if l.take 3 == [c, 48, 55] then some (f, 0, 3) else none
def stdFrac (comma : Bool) (l : List UInt8) : Option (Nat × Nat × Nat) := match l[1]? with
  | none => none
  | some d => if d.toNat = 48 ∨ d.toNat = 57 then
      (if (l[1 + runOf d (l.drop 1)]?.any isDig) then none else some (fracStd (if d.toNat = 48 then 34 else 35) (runOf d (l.drop 1)) comma, 0, 1 + runOf d (l.drop 1)))
    else none
/-- The element at the head of a text that begins with the byte n: its number, how many bytes ahead of it are no part of it, and where it ends. -/
def stdN (n : Nat) (l : List UInt8) : Option (Nat × Nat × Nat) :=
  if n = 74 then stdJ l else if n = 77 then stdM l else if n = 48 then std0 l else if n = 49 then std1 l else if n = 50 then std2 l
  else if n = 95 then stdUnder l else if n = 51 then some (1037, 0, 1) else if n = 52 then some (1039, 0, 1) else if n = 53 then some (1041, 0, 1)
  else if n = 80 then (if at_ l 1 77 then some (1045, 0, 2) else none) else if n = 112 then (if at_ l 1 109 then some (1046, 0, 2) else none)
  else if n = 45 then stdZone 45 l 30 33 29 32 31 else if n = 90 then stdZone 90 l 25 28 24 27 26
  else if n = 46 then stdFrac false l else if n = 44 then stdFrac true l else none
def stdL (l : List UInt8) : Option (Nat × Nat × Nat) := match l with
  | [] => none
  | c :: _ => stdN c.toNat l

/-- The package's table of the elements 01 to 06, as it is laid. -/
structure TabOk (w : World) : Prop where
  c0 : w.cell? ⟨0, 0, none⟩ = some (.int .i64 260)
  c1 : w.cell? ⟨0, 1, none⟩ = some (.int .i64 265)
  c2 : w.cell? ⟨0, 2, none⟩ = some (.int .i64 1038)
  c3 : w.cell? ⟨0, 3, none⟩ = some (.int .i64 1040)
  c4 : w.cell? ⟨0, 4, none⟩ = some (.int .i64 1042)
  c5 : w.cell? ⟨0, 5, none⟩ = some (.int .i64 276)
theorem TabOk.below {w w' : World} (h : TabOk w) (hb : Below w.heap.size w w') : TabOk w' := by
  have lt : 0 < w.heap.size := World.block_lt_of_cell? _ _ h.c0
  exact ⟨(hb.cell (p := ⟨_, 0, none⟩) lt).trans h.c0, (hb.cell (p := ⟨_, 1, none⟩) lt).trans h.c1, (hb.cell (p := ⟨_, 2, none⟩) lt).trans h.c2, (hb.cell (p := ⟨_, 3, none⟩) lt).trans h.c3, (hb.cell (p := ⟨_, 4, none⟩) lt).trans h.c4, (hb.cell (p := ⟨_, 5, none⟩) lt).trans h.c5⟩

/-! The loop. -/
def ChunkRes (p : ByteArray) (std : Int) (q : ByteArray) (w : World) (e : Ending) (w' : World) : Prop := e = .returned (.tuple #[.string p, .int .i64 std, .string q]) ∧ Below w.heap.size w w'
/-- A frame of n slots, written out slot by slot. -/
theorem frame_lit (a : Act) (n : Nat) (h : a.tmps.size = n) (hd : a.defers = []) : a = ⟨((List.range n).map fun i => a.tmps.getD i undef).toArray, []⟩ := by
  obtain ⟨t, d⟩ := a
  simp only at h hd
  subst hd
  congr 1
  apply Array.ext
  · simp [h]
  · intro i h1 h2
    simp [Array.getD, h1]
structure ChunkI (s : ByteArray) (k : Nat) (a : Act) : Prop where
  size : a.tmps.size = 654
  defers : a.defers = []
  s0 : a.tmps.getD 0 undef = .string s
  s2 : a.tmps.getD 2 undef = .string ⟨#[]⟩
  s3 : a.tmps.getD 3 undef = .int .i64 0
  s4 : a.tmps.getD 4 undef = .string ⟨#[]⟩
  s5 : a.tmps.getD 5 undef = .int .i64 k
/-- The three results, where the loop returns. -/
structure ChunkR (p : ByteArray) (std : Int) (q : ByteArray) (a : Act) : Prop where
  defers : a.defers = []
  s2 : a.tmps.getD 2 undef = .string p
  s3 : a.tmps.getD 3 undef = .int .i64 std
  s4 : a.tmps.getD 4 undef = .string q
def firstLoop : Code → Option Code
  | .loop c => some c
  | .seq a b => match firstLoop a with
    | some c => some c
    | none => firstLoop b
  | .block _ c => firstLoop c
  | .scope c => firstLoop c
  | .cond _ a b => match firstLoop a with
    | some c => some c
    | none => firstLoop b
  | _ => none
noncomputable def chunkBody : Code := ((Tryd.f63.body.bind firstLoop).getD .skip)
set_option maxRecDepth 1000000 in
theorem chunk_frame (a : Act) (h : a.tmps.size = 654) (hd : a.defers = []) : a = ⟨List.toArray (a.tmps.getD 0 undef :: a.tmps.getD 1 undef :: a.tmps.getD 2 undef :: a.tmps.getD 3 undef :: a.tmps.getD 4 undef :: a.tmps.getD 5 undef :: a.tmps.getD 6 undef :: a.tmps.getD 7 undef :: a.tmps.getD 8 undef :: a.tmps.getD 9 undef :: a.tmps.getD 10 undef :: a.tmps.getD 11 undef :: a.tmps.getD 12 undef :: a.tmps.getD 13 undef :: a.tmps.getD 14 undef :: a.tmps.getD 15 undef :: a.tmps.getD 16 undef :: a.tmps.getD 17 undef :: a.tmps.getD 18 undef :: a.tmps.getD 19 undef :: a.tmps.getD 20 undef :: a.tmps.getD 21 undef :: a.tmps.getD 22 undef :: a.tmps.getD 23 undef :: a.tmps.getD 24 undef :: a.tmps.getD 25 undef :: a.tmps.getD 26 undef :: a.tmps.getD 27 undef :: a.tmps.getD 28 undef :: a.tmps.getD 29 undef :: a.tmps.getD 30 undef :: a.tmps.getD 31 undef :: a.tmps.getD 32 undef :: a.tmps.getD 33 undef :: a.tmps.getD 34 undef :: a.tmps.getD 35 undef :: a.tmps.getD 36 undef :: a.tmps.getD 37 undef :: a.tmps.getD 38 undef :: a.tmps.getD 39 undef :: a.tmps.getD 40 undef :: a.tmps.getD 41 undef :: a.tmps.getD 42 undef :: a.tmps.getD 43 undef :: a.tmps.getD 44 undef :: a.tmps.getD 45 undef :: a.tmps.getD 46 undef :: a.tmps.getD 47 undef :: a.tmps.getD 48 undef :: a.tmps.getD 49 undef :: a.tmps.getD 50 undef :: a.tmps.getD 51 undef :: a.tmps.getD 52 undef :: a.tmps.getD 53 undef :: a.tmps.getD 54 undef :: a.tmps.getD 55 undef :: a.tmps.getD 56 undef :: a.tmps.getD 57 undef :: a.tmps.getD 58 undef :: a.tmps.getD 59 undef :: a.tmps.getD 60 undef :: a.tmps.getD 61 undef :: a.tmps.getD 62 undef :: a.tmps.getD 63 undef :: a.tmps.getD 64 undef :: a.tmps.getD 65 undef :: a.tmps.getD 66 undef :: a.tmps.getD 67 undef :: a.tmps.getD 68 undef :: a.tmps.getD 69 undef :: a.tmps.getD 70 undef :: a.tmps.getD 71 undef :: a.tmps.getD 72 undef :: a.tmps.getD 73 undef :: a.tmps.getD 74 undef :: a.tmps.getD 75 undef :: a.tmps.getD 76 undef :: a.tmps.getD 77 undef :: a.tmps.getD 78 undef :: a.tmps.getD 79 undef :: a.tmps.getD 80 undef :: a.tmps.getD 81 undef :: a.tmps.getD 82 undef :: a.tmps.getD 83 undef :: a.tmps.getD 84 undef :: a.tmps.getD 85 undef :: a.tmps.getD 86 undef :: a.tmps.getD 87 undef :: a.tmps.getD 88 undef :: a.tmps.getD 89 undef :: a.tmps.getD 90 undef :: a.tmps.getD 91 undef :: a.tmps.getD 92 undef :: a.tmps.getD 93 undef :: a.tmps.getD 94 undef :: a.tmps.getD 95 undef :: a.tmps.getD 96 undef :: a.tmps.getD 97 undef :: a.tmps.getD 98 undef :: a.tmps.getD 99 undef :: a.tmps.getD 100 undef :: a.tmps.getD 101 undef :: a.tmps.getD 102 undef :: a.tmps.getD 103 undef :: a.tmps.getD 104 undef :: a.tmps.getD 105 undef :: a.tmps.getD 106 undef :: a.tmps.getD 107 undef :: a.tmps.getD 108 undef :: a.tmps.getD 109 undef :: a.tmps.getD 110 undef :: a.tmps.getD 111 undef :: a.tmps.getD 112 undef :: a.tmps.getD 113 undef :: a.tmps.getD 114 undef :: a.tmps.getD 115 undef :: a.tmps.getD 116 undef :: a.tmps.getD 117 undef :: a.tmps.getD 118 undef :: a.tmps.getD 119 undef :: a.tmps.getD 120 undef :: a.tmps.getD 121 undef :: a.tmps.getD 122 undef :: a.tmps.getD 123 undef :: a.tmps.getD 124 undef :: a.tmps.getD 125 undef :: a.tmps.getD 126 undef :: a.tmps.getD 127 undef :: a.tmps.getD 128 undef :: a.tmps.getD 129 undef :: a.tmps.getD 130 undef :: a.tmps.getD 131 undef :: a.tmps.getD 132 undef :: a.tmps.getD 133 undef :: a.tmps.getD 134 undef :: a.tmps.getD 135 undef :: a.tmps.getD 136 undef :: a.tmps.getD 137 undef :: a.tmps.getD 138 undef :: a.tmps.getD 139 undef :: a.tmps.getD 140 undef :: a.tmps.getD 141 undef :: a.tmps.getD 142 undef :: a.tmps.getD 143 undef :: a.tmps.getD 144 undef :: a.tmps.getD 145 undef :: a.tmps.getD 146 undef :: a.tmps.getD 147 undef :: a.tmps.getD 148 undef :: a.tmps.getD 149 undef :: a.tmps.getD 150 undef :: a.tmps.getD 151 undef :: a.tmps.getD 152 undef :: a.tmps.getD 153 undef :: a.tmps.getD 154 undef :: a.tmps.getD 155 undef :: a.tmps.getD 156 undef :: a.tmps.getD 157 undef :: a.tmps.getD 158 undef :: a.tmps.getD 159 undef :: a.tmps.getD 160 undef :: a.tmps.getD 161 undef :: a.tmps.getD 162 undef :: a.tmps.getD 163 undef :: a.tmps.getD 164 undef :: a.tmps.getD 165 undef :: a.tmps.getD 166 undef :: a.tmps.getD 167 undef :: a.tmps.getD 168 undef :: a.tmps.getD 169 undef :: a.tmps.getD 170 undef :: a.tmps.getD 171 undef :: a.tmps.getD 172 undef :: a.tmps.getD 173 undef :: a.tmps.getD 174 undef :: a.tmps.getD 175 undef :: a.tmps.getD 176 undef :: a.tmps.getD 177 undef :: a.tmps.getD 178 undef :: a.tmps.getD 179 undef :: a.tmps.getD 180 undef :: a.tmps.getD 181 undef :: a.tmps.getD 182 undef :: a.tmps.getD 183 undef :: a.tmps.getD 184 undef :: a.tmps.getD 185 undef :: a.tmps.getD 186 undef :: a.tmps.getD 187 undef :: a.tmps.getD 188 undef :: a.tmps.getD 189 undef :: a.tmps.getD 190 undef :: a.tmps.getD 191 undef :: a.tmps.getD 192 undef :: a.tmps.getD 193 undef :: a.tmps.getD 194 undef :: a.tmps.getD 195 undef :: a.tmps.getD 196 undef :: a.tmps.getD 197 undef :: a.tmps.getD 198 undef :: a.tmps.getD 199 undef :: a.tmps.getD 200 undef :: a.tmps.getD 201 undef :: a.tmps.getD 202 undef :: a.tmps.getD 203 undef :: a.tmps.getD 204 undef :: a.tmps.getD 205 undef :: a.tmps.getD 206 undef :: a.tmps.getD 207 undef :: a.tmps.getD 208 undef :: a.tmps.getD 209 undef :: a.tmps.getD 210 undef :: a.tmps.getD 211 undef :: a.tmps.getD 212 undef :: a.tmps.getD 213 undef :: a.tmps.getD 214 undef :: a.tmps.getD 215 undef :: a.tmps.getD 216 undef :: a.tmps.getD 217 undef :: a.tmps.getD 218 undef :: a.tmps.getD 219 undef :: a.tmps.getD 220 undef :: a.tmps.getD 221 undef :: a.tmps.getD 222 undef :: a.tmps.getD 223 undef :: a.tmps.getD 224 undef :: a.tmps.getD 225 undef :: a.tmps.getD 226 undef :: a.tmps.getD 227 undef :: a.tmps.getD 228 undef :: a.tmps.getD 229 undef :: a.tmps.getD 230 undef :: a.tmps.getD 231 undef :: a.tmps.getD 232 undef :: a.tmps.getD 233 undef :: a.tmps.getD 234 undef :: a.tmps.getD 235 undef :: a.tmps.getD 236 undef :: a.tmps.getD 237 undef :: a.tmps.getD 238 undef :: a.tmps.getD 239 undef :: a.tmps.getD 240 undef :: a.tmps.getD 241 undef :: a.tmps.getD 242 undef :: a.tmps.getD 243 undef :: a.tmps.getD 244 undef :: a.tmps.getD 245 undef :: a.tmps.getD 246 undef :: a.tmps.getD 247 undef :: a.tmps.getD 248 undef :: a.tmps.getD 249 undef :: a.tmps.getD 250 undef :: a.tmps.getD 251 undef :: a.tmps.getD 252 undef :: a.tmps.getD 253 undef :: a.tmps.getD 254 undef :: a.tmps.getD 255 undef :: a.tmps.getD 256 undef :: a.tmps.getD 257 undef :: a.tmps.getD 258 undef :: a.tmps.getD 259 undef :: a.tmps.getD 260 undef :: a.tmps.getD 261 undef :: a.tmps.getD 262 undef :: a.tmps.getD 263 undef :: a.tmps.getD 264 undef :: a.tmps.getD 265 undef :: a.tmps.getD 266 undef :: a.tmps.getD 267 undef :: a.tmps.getD 268 undef :: a.tmps.getD 269 undef :: a.tmps.getD 270 undef :: a.tmps.getD 271 undef :: a.tmps.getD 272 undef :: a.tmps.getD 273 undef :: a.tmps.getD 274 undef :: a.tmps.getD 275 undef :: a.tmps.getD 276 undef :: a.tmps.getD 277 undef :: a.tmps.getD 278 undef :: a.tmps.getD 279 undef :: a.tmps.getD 280 undef :: a.tmps.getD 281 undef :: a.tmps.getD 282 undef :: a.tmps.getD 283 undef :: a.tmps.getD 284 undef :: a.tmps.getD 285 undef :: a.tmps.getD 286 undef :: a.tmps.getD 287 undef :: a.tmps.getD 288 undef :: a.tmps.getD 289 undef :: a.tmps.getD 290 undef :: a.tmps.getD 291 undef :: a.tmps.getD 292 undef :: a.tmps.getD 293 undef :: a.tmps.getD 294 undef :: a.tmps.getD 295 undef :: a.tmps.getD 296 undef :: a.tmps.getD 297 undef :: a.tmps.getD 298 undef :: a.tmps.getD 299 undef :: a.tmps.getD 300 undef :: a.tmps.getD 301 undef :: a.tmps.getD 302 undef :: a.tmps.getD 303 undef :: a.tmps.getD 304 undef :: a.tmps.getD 305 undef :: a.tmps.getD 306 undef :: a.tmps.getD 307 undef :: a.tmps.getD 308 undef :: a.tmps.getD 309 undef :: a.tmps.getD 310 undef :: a.tmps.getD 311 undef :: a.tmps.getD 312 undef :: a.tmps.getD 313 undef :: a.tmps.getD 314 undef :: a.tmps.getD 315 undef :: a.tmps.getD 316 undef :: a.tmps.getD 317 undef :: a.tmps.getD 318 undef :: a.tmps.getD 319 undef :: a.tmps.getD 320 undef :: a.tmps.getD 321 undef :: a.tmps.getD 322 undef :: a.tmps.getD 323 undef :: a.tmps.getD 324 undef :: a.tmps.getD 325 undef :: a.tmps.getD 326 undef :: a.tmps.getD 327 undef :: a.tmps.getD 328 undef :: a.tmps.getD 329 undef :: a.tmps.getD 330 undef :: a.tmps.getD 331 undef :: a.tmps.getD 332 undef :: a.tmps.getD 333 undef :: a.tmps.getD 334 undef :: a.tmps.getD 335 undef :: a.tmps.getD 336 undef :: a.tmps.getD 337 undef :: a.tmps.getD 338 undef :: a.tmps.getD 339 undef :: a.tmps.getD 340 undef :: a.tmps.getD 341 undef :: a.tmps.getD 342 undef :: a.tmps.getD 343 undef :: a.tmps.getD 344 undef :: a.tmps.getD 345 undef :: a.tmps.getD 346 undef :: a.tmps.getD 347 undef :: a.tmps.getD 348 undef :: a.tmps.getD 349 undef :: a.tmps.getD 350 undef :: a.tmps.getD 351 undef :: a.tmps.getD 352 undef :: a.tmps.getD 353 undef :: a.tmps.getD 354 undef :: a.tmps.getD 355 undef :: a.tmps.getD 356 undef :: a.tmps.getD 357 undef :: a.tmps.getD 358 undef :: a.tmps.getD 359 undef :: a.tmps.getD 360 undef :: a.tmps.getD 361 undef :: a.tmps.getD 362 undef :: a.tmps.getD 363 undef :: a.tmps.getD 364 undef :: a.tmps.getD 365 undef :: a.tmps.getD 366 undef :: a.tmps.getD 367 undef :: a.tmps.getD 368 undef :: a.tmps.getD 369 undef :: a.tmps.getD 370 undef :: a.tmps.getD 371 undef :: a.tmps.getD 372 undef :: a.tmps.getD 373 undef :: a.tmps.getD 374 undef :: a.tmps.getD 375 undef :: a.tmps.getD 376 undef :: a.tmps.getD 377 undef :: a.tmps.getD 378 undef :: a.tmps.getD 379 undef :: a.tmps.getD 380 undef :: a.tmps.getD 381 undef :: a.tmps.getD 382 undef :: a.tmps.getD 383 undef :: a.tmps.getD 384 undef :: a.tmps.getD 385 undef :: a.tmps.getD 386 undef :: a.tmps.getD 387 undef :: a.tmps.getD 388 undef :: a.tmps.getD 389 undef :: a.tmps.getD 390 undef :: a.tmps.getD 391 undef :: a.tmps.getD 392 undef :: a.tmps.getD 393 undef :: a.tmps.getD 394 undef :: a.tmps.getD 395 undef :: a.tmps.getD 396 undef :: a.tmps.getD 397 undef :: a.tmps.getD 398 undef :: a.tmps.getD 399 undef :: a.tmps.getD 400 undef :: a.tmps.getD 401 undef :: a.tmps.getD 402 undef :: a.tmps.getD 403 undef :: a.tmps.getD 404 undef :: a.tmps.getD 405 undef :: a.tmps.getD 406 undef :: a.tmps.getD 407 undef :: a.tmps.getD 408 undef :: a.tmps.getD 409 undef :: a.tmps.getD 410 undef :: a.tmps.getD 411 undef :: a.tmps.getD 412 undef :: a.tmps.getD 413 undef :: a.tmps.getD 414 undef :: a.tmps.getD 415 undef :: a.tmps.getD 416 undef :: a.tmps.getD 417 undef :: a.tmps.getD 418 undef :: a.tmps.getD 419 undef :: a.tmps.getD 420 undef :: a.tmps.getD 421 undef :: a.tmps.getD 422 undef :: a.tmps.getD 423 undef :: a.tmps.getD 424 undef :: a.tmps.getD 425 undef :: a.tmps.getD 426 undef :: a.tmps.getD 427 undef :: a.tmps.getD 428 undef :: a.tmps.getD 429 undef :: a.tmps.getD 430 undef :: a.tmps.getD 431 undef :: a.tmps.getD 432 undef :: a.tmps.getD 433 undef :: a.tmps.getD 434 undef :: a.tmps.getD 435 undef :: a.tmps.getD 436 undef :: a.tmps.getD 437 undef :: a.tmps.getD 438 undef :: a.tmps.getD 439 undef :: a.tmps.getD 440 undef :: a.tmps.getD 441 undef :: a.tmps.getD 442 undef :: a.tmps.getD 443 undef :: a.tmps.getD 444 undef :: a.tmps.getD 445 undef :: a.tmps.getD 446 undef :: a.tmps.getD 447 undef :: a.tmps.getD 448 undef :: a.tmps.getD 449 undef :: a.tmps.getD 450 undef :: a.tmps.getD 451 undef :: a.tmps.getD 452 undef :: a.tmps.getD 453 undef :: a.tmps.getD 454 undef :: a.tmps.getD 455 undef :: a.tmps.getD 456 undef :: a.tmps.getD 457 undef :: a.tmps.getD 458 undef :: a.tmps.getD 459 undef :: a.tmps.getD 460 undef :: a.tmps.getD 461 undef :: a.tmps.getD 462 undef :: a.tmps.getD 463 undef :: a.tmps.getD 464 undef :: a.tmps.getD 465 undef :: a.tmps.getD 466 undef :: a.tmps.getD 467 undef :: a.tmps.getD 468 undef :: a.tmps.getD 469 undef :: a.tmps.getD 470 undef :: a.tmps.getD 471 undef :: a.tmps.getD 472 undef :: a.tmps.getD 473 undef :: a.tmps.getD 474 undef :: a.tmps.getD 475 undef :: a.tmps.getD 476 undef :: a.tmps.getD 477 undef :: a.tmps.getD 478 undef :: a.tmps.getD 479 undef :: a.tmps.getD 480 undef :: a.tmps.getD 481 undef :: a.tmps.getD 482 undef :: a.tmps.getD 483 undef :: a.tmps.getD 484 undef :: a.tmps.getD 485 undef :: a.tmps.getD 486 undef :: a.tmps.getD 487 undef :: a.tmps.getD 488 undef :: a.tmps.getD 489 undef :: a.tmps.getD 490 undef :: a.tmps.getD 491 undef :: a.tmps.getD 492 undef :: a.tmps.getD 493 undef :: a.tmps.getD 494 undef :: a.tmps.getD 495 undef :: a.tmps.getD 496 undef :: a.tmps.getD 497 undef :: a.tmps.getD 498 undef :: a.tmps.getD 499 undef :: a.tmps.getD 500 undef :: a.tmps.getD 501 undef :: a.tmps.getD 502 undef :: a.tmps.getD 503 undef :: a.tmps.getD 504 undef :: a.tmps.getD 505 undef :: a.tmps.getD 506 undef :: a.tmps.getD 507 undef :: a.tmps.getD 508 undef :: a.tmps.getD 509 undef :: a.tmps.getD 510 undef :: a.tmps.getD 511 undef :: a.tmps.getD 512 undef :: a.tmps.getD 513 undef :: a.tmps.getD 514 undef :: a.tmps.getD 515 undef :: a.tmps.getD 516 undef :: a.tmps.getD 517 undef :: a.tmps.getD 518 undef :: a.tmps.getD 519 undef :: a.tmps.getD 520 undef :: a.tmps.getD 521 undef :: a.tmps.getD 522 undef :: a.tmps.getD 523 undef :: a.tmps.getD 524 undef :: a.tmps.getD 525 undef :: a.tmps.getD 526 undef :: a.tmps.getD 527 undef :: a.tmps.getD 528 undef :: a.tmps.getD 529 undef :: a.tmps.getD 530 undef :: a.tmps.getD 531 undef :: a.tmps.getD 532 undef :: a.tmps.getD 533 undef :: a.tmps.getD 534 undef :: a.tmps.getD 535 undef :: a.tmps.getD 536 undef :: a.tmps.getD 537 undef :: a.tmps.getD 538 undef :: a.tmps.getD 539 undef :: a.tmps.getD 540 undef :: a.tmps.getD 541 undef :: a.tmps.getD 542 undef :: a.tmps.getD 543 undef :: a.tmps.getD 544 undef :: a.tmps.getD 545 undef :: a.tmps.getD 546 undef :: a.tmps.getD 547 undef :: a.tmps.getD 548 undef :: a.tmps.getD 549 undef :: a.tmps.getD 550 undef :: a.tmps.getD 551 undef :: a.tmps.getD 552 undef :: a.tmps.getD 553 undef :: a.tmps.getD 554 undef :: a.tmps.getD 555 undef :: a.tmps.getD 556 undef :: a.tmps.getD 557 undef :: a.tmps.getD 558 undef :: a.tmps.getD 559 undef :: a.tmps.getD 560 undef :: a.tmps.getD 561 undef :: a.tmps.getD 562 undef :: a.tmps.getD 563 undef :: a.tmps.getD 564 undef :: a.tmps.getD 565 undef :: a.tmps.getD 566 undef :: a.tmps.getD 567 undef :: a.tmps.getD 568 undef :: a.tmps.getD 569 undef :: a.tmps.getD 570 undef :: a.tmps.getD 571 undef :: a.tmps.getD 572 undef :: a.tmps.getD 573 undef :: a.tmps.getD 574 undef :: a.tmps.getD 575 undef :: a.tmps.getD 576 undef :: a.tmps.getD 577 undef :: a.tmps.getD 578 undef :: a.tmps.getD 579 undef :: a.tmps.getD 580 undef :: a.tmps.getD 581 undef :: a.tmps.getD 582 undef :: a.tmps.getD 583 undef :: a.tmps.getD 584 undef :: a.tmps.getD 585 undef :: a.tmps.getD 586 undef :: a.tmps.getD 587 undef :: a.tmps.getD 588 undef :: a.tmps.getD 589 undef :: a.tmps.getD 590 undef :: a.tmps.getD 591 undef :: a.tmps.getD 592 undef :: a.tmps.getD 593 undef :: a.tmps.getD 594 undef :: a.tmps.getD 595 undef :: a.tmps.getD 596 undef :: a.tmps.getD 597 undef :: a.tmps.getD 598 undef :: a.tmps.getD 599 undef :: a.tmps.getD 600 undef :: a.tmps.getD 601 undef :: a.tmps.getD 602 undef :: a.tmps.getD 603 undef :: a.tmps.getD 604 undef :: a.tmps.getD 605 undef :: a.tmps.getD 606 undef :: a.tmps.getD 607 undef :: a.tmps.getD 608 undef :: a.tmps.getD 609 undef :: a.tmps.getD 610 undef :: a.tmps.getD 611 undef :: a.tmps.getD 612 undef :: a.tmps.getD 613 undef :: a.tmps.getD 614 undef :: a.tmps.getD 615 undef :: a.tmps.getD 616 undef :: a.tmps.getD 617 undef :: a.tmps.getD 618 undef :: a.tmps.getD 619 undef :: a.tmps.getD 620 undef :: a.tmps.getD 621 undef :: a.tmps.getD 622 undef :: a.tmps.getD 623 undef :: a.tmps.getD 624 undef :: a.tmps.getD 625 undef :: a.tmps.getD 626 undef :: a.tmps.getD 627 undef :: a.tmps.getD 628 undef :: a.tmps.getD 629 undef :: a.tmps.getD 630 undef :: a.tmps.getD 631 undef :: a.tmps.getD 632 undef :: a.tmps.getD 633 undef :: a.tmps.getD 634 undef :: a.tmps.getD 635 undef :: a.tmps.getD 636 undef :: a.tmps.getD 637 undef :: a.tmps.getD 638 undef :: a.tmps.getD 639 undef :: a.tmps.getD 640 undef :: a.tmps.getD 641 undef :: a.tmps.getD 642 undef :: a.tmps.getD 643 undef :: a.tmps.getD 644 undef :: a.tmps.getD 645 undef :: a.tmps.getD 646 undef :: a.tmps.getD 647 undef :: a.tmps.getD 648 undef :: a.tmps.getD 649 undef :: a.tmps.getD 650 undef :: a.tmps.getD 651 undef :: a.tmps.getD 652 undef :: a.tmps.getD 653 undef :: []), []⟩ :=
  (frame_lit a 654 h hd).trans (by kernel_rfl)

/-- What the text of a layout shows from its place k on. -/
def rest (s : ByteArray) (k : Nat) : List UInt8 := (bl s).drop k
theorem rest_get (s : ByteArray) (k j : Nat) : (rest s k)[j]? = (bl s)[k + j]? := by rw [rest, List.getElem?_drop]
theorem rest_in (s : ByteArray) (k j : Nat) (h : k + j < s.size) : (rest s k)[j]? = some s[k + j] := by
  rw [rest_get, List.getElem?_eq_getElem (by rw [bl_length]; exact h)]; rfl
theorem rest_out (s : ByteArray) (k j : Nat) (h : ¬ k + j < s.size) : (rest s k)[j]? = none := by
  rw [rest_get, List.getElem?_eq_none (by rw [bl_length]; omega)]
theorem rest_take (s : ByteArray) (k n : Nat) (h : k + n ≤ s.size) : (s.extract k (k + n)).toList = (rest s k).take n := by
  rw [toList_eq, bl_extract, rest, List.drop_take]; congr 1; omega
theorem rest_take_drop (s : ByteArray) (k n : Nat) (h : k + 1 + n ≤ s.size) : (s.extract (k + 1) (k + 1 + n)).toList = ((rest s k).drop 1).take n := by
  rw [rest_take s (k + 1) n h, rest, rest, List.drop_drop]
theorem rest_short (s : ByteArray) (k n : Nat) (t : List UInt8) (hk : k ≤ s.size) (ht : t.length = n) (h : ¬ k + n ≤ s.size) : ((rest s k).take n == t) = false := by
  rw [beq_eq_false_iff_ne]
  intro e
  have := congrArg List.length e
  rw [List.length_take, rest, List.length_drop, bl_length] at this
  omega
/-- A word at place k: it stands there, or it does not. -/
theorem word_cases (s : ByteArray) (k n : Nat) (t : List UInt8) (hk : k ≤ s.size) (ht : t.length = n) :
    ((((rest s k).take n == t) = true) ∧ ((k : Int) + (n : Int) ≤ (s.size : Int)) ∧ ((s.extract k (k + n)).toList == t) = true) ∨
    ((((rest s k).take n == t) = false) ∧ (((k : Int) + (n : Int) ≤ (s.size : Int)) → ((s.extract k (k + n)).toList == t) = false)) := by
  by_cases h : k + n ≤ s.size
  · rw [rest_take s k n h]
    cases (rest s k).take n == t
    · exact .inr ⟨rfl, fun _ => rfl⟩
    · exact .inl ⟨rfl, by omega, rfl⟩
  · exact .inr ⟨rest_short s k n t hk ht h, fun g => absurd g (by omega)⟩
theorem stdL_in (s : ByteArray) (k : Nat) (h : k < s.size) : stdL (rest s k) = stdN s[k].toNat (rest s k) := by
  have e : rest s k = s[k] :: (bl s).drop (k + 1) := bl_drop s k h
  rw [e, stdL]
theorem stdL_of (s : ByteArray) (k : Nat) (h : k < s.size) (n : Nat) {m : Int} (t : ((s[k].toNat : Int) == m) = true) (hm : (n : Int) = m) : stdL (rest s k) = stdN n (rest s k) := by
  rw [stdL_in s k h]
  rw [beq_iff_eq] at t
  rw [show s[k].toNat = n from by omega]
theorem at_in (s : ByteArray) (k j n : Nat) (h : k + j < s.size) {m : Int} (hm : (n : Int) = m) : at_ (rest s k) j n = ((s[k + j].toNat : Int) == m) := by
  rw [at_, rest_in s k j h, Option.any_some, Bool.eq_iff_iff, beq_iff_eq, beq_iff_eq]; omega
theorem at_out (s : ByteArray) (k j n : Nat) (h : ¬ k + j < s.size) : at_ (rest s k) j n = false := by
  rw [at_, rest_out s k j h]; rfl
theorem std0_in (s : ByteArray) (k : Nat) (h : k + 1 < s.size) (n : Nat) (hn : s[k + 1].toNat = n) : std0 (rest s k) = if 49 ≤ n ∧ n ≤ 54 then some (std0x n, 0, 2) else if n = 48 ∧ at_ (rest s k) 2 50 = true then some (523, 0, 3) else none := by
  rw [std0, rest_in s k 1 h, ← hn]
theorem std0_out (s : ByteArray) (k : Nat) (h : ¬ k + 1 < s.size) : std0 (rest s k) = none := by
  rw [std0, rest_out s k 1 h]
theorem low_rest (s : ByteArray) (k j : Nat) : lowP (bl (s.extract (k + j) s.size)) = lowP ((rest s k).drop j) := by
  rw [bl_extract_end, rest, List.drop_drop]

set_option maxHeartbeats 400000 in
theorem low_any (t : ByteArray) (b : Bool) (w : World) (hs : t.size ≤ 140737488351232) (hb : lowP (bl t) = b) :
    Calls Tryd.prog 86 #[.string t] w fun e w' => e = .returned (.bool b) ∧ w = w' := by
  rcases Nat.eq_zero_or_pos t.size with e | h0
  · obtain rfl := empty_of t e
    subst hb
    go_enter Tryd.func86, Tryd.ntmps86
    go_wp2
    go_ret
    exact ⟨rfl, rfl⟩
  · have e0 : (bl t)[0]? = some t[0] := by rw [List.getElem?_eq_getElem (by rw [bl_length]; exact h0)]; rfl
    rw [lowP, e0, Option.any_some] at hb
    have hz : ((t.size : Int) == 0) = false := by rw [beq_eq_false_iff_ne]; omega
    by_cases h1 : (97 : Int) ≤ ↑t[0].toNat
    · by_cases h2 : (↑t[0].toNat : Int) ≤ 122
      · rw [decide_eq_true (by omega), decide_eq_true (by omega)] at hb
        subst hb
        clear e0
        go_enter Tryd.func86, Tryd.ntmps86
        go_wp2
        go_ret
        exact ⟨by simp [*], rfl⟩
      · rw [decide_eq_true (by omega), decide_eq_false (by omega)] at hb
        subst hb
        clear e0
        go_enter Tryd.func86, Tryd.ntmps86
        go_wp2
        go_ret
        exact ⟨by simp [*], rfl⟩
    · rw [decide_eq_false (by omega)] at hb
      subst hb
      clear e0
      go_enter Tryd.func86, Tryd.ntmps86
      go_wp2
      go_ret
      exact ⟨by simp [*], rfl⟩
end Go.Proofs.YtigabjibdepoiaaDoor.Tm
