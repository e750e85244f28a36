/-
FnRefNormalSelf: the regular expressions, the digest and the reference, part 7 of 26.
-/
import Derived.Test.YtkbmigfkclnlaaaGreatDoorV06
import Derived.Test.YtkbmigfkclnlaaaGreatDoorV04
set_option linter.all false
namespace Go.Proofs.YtkbmigfkclnlaaaGreatDoor
open Go.RowKit Go.Rx

theorem arr_lit (t : Array Value) (n : Nat) (h : t.size = n) : t = ((List.range n).map fun i => t.getD i undef).toArray := by
 subst h
 apply Array.ext
 ·simp
 ·intro i h1 h2
  simp [h1]

def lay (t : Array Value) (known : List (Nat × Value)) : Nat → Value := fun i => match known.find? (fun p => p.1 == i) with
 | some p => p.2
 | none => t.getD i undef

theorem lay_eq (t : Array Value) (n : Nat) (h : t.size = n) (known : List (Nat × Value)) (hk : ∀ p, p ∈ known → t.getD p.1 undef = p.2) : t = ((List.range n).map (lay t known)).toArray := by
 have e : (fun i => t.getD i undef) = lay t known := by
  funext i
  unfold lay
  cases hf : known.find? (fun p => p.1 == i) with
  | none => rfl
  | some p =>
   have h1 := List.mem_of_find?_eq_some hf
   have h2 := List.find?_some hf
   simp at h2
   rw [← h2]
   exact hk p h1
 rw [← e]
 exact arr_lit t n h

theorem frm_lit {R B pc : Nat} {pos : Int} {arg : Bool} {a : Act} (h : Frm R B pc pos arg a) : a = ⟨#[.pointer (some ⟨R, 0, none⟩), .pointer (some ⟨B, 0, none⟩), .iface 237 (.pointer (some ⟨B, 5, none⟩)), a.tmps.getD 3 undef, a.tmps.getD 4 undef, a.tmps.getD 5 undef, a.tmps.getD 6 undef, a.tmps.getD 7 undef, a.tmps.getD 8 undef, a.tmps.getD 9 undef, a.tmps.getD 10 undef, .bool false, a.tmps.getD 12 undef, .int .u32 pc, .int .i64 pos, .bool arg, a.tmps.getD 16 undef, a.tmps.getD 17 undef, a.tmps.getD 18 undef, a.tmps.getD 19 undef, a.tmps.getD 20 undef, a.tmps.getD 21 undef, a.tmps.getD 22 undef, a.tmps.getD 23 undef, a.tmps.getD 24 undef, a.tmps.getD 25 undef, a.tmps.getD 26 undef, a.tmps.getD 27 undef, a.tmps.getD 28 undef, a.tmps.getD 29 undef, a.tmps.getD 30 undef, a.tmps.getD 31 undef, a.tmps.getD 32 undef, a.tmps.getD 33 undef, a.tmps.getD 34 undef, a.tmps.getD 35 undef, a.tmps.getD 36 undef, a.tmps.getD 37 undef, a.tmps.getD 38 undef, a.tmps.getD 39 undef, a.tmps.getD 40 undef, a.tmps.getD 41 undef, a.tmps.getD 42 undef, a.tmps.getD 43 undef, a.tmps.getD 44 undef, a.tmps.getD 45 undef, a.tmps.getD 46 undef, a.tmps.getD 47 undef, a.tmps.getD 48 undef, a.tmps.getD 49 undef, a.tmps.getD 50 undef, a.tmps.getD 51 undef, a.tmps.getD 52 undef, a.tmps.getD 53 undef, a.tmps.getD 54 undef, a.tmps.getD 55 undef, a.tmps.getD 56 undef, a.tmps.getD 57 undef, a.tmps.getD 58 undef, a.tmps.getD 59 undef, a.tmps.getD 60 undef, a.tmps.getD 61 undef, a.tmps.getD 62 undef, a.tmps.getD 63 undef, a.tmps.getD 64 undef, a.tmps.getD 65 undef, a.tmps.getD 66 undef, a.tmps.getD 67 undef, a.tmps.getD 68 undef, a.tmps.getD 69 undef, a.tmps.getD 70 undef, a.tmps.getD 71 undef, a.tmps.getD 72 undef, a.tmps.getD 73 undef, a.tmps.getD 74 undef, a.tmps.getD 75 undef, a.tmps.getD 76 undef, a.tmps.getD 77 undef, a.tmps.getD 78 undef, a.tmps.getD 79 undef, a.tmps.getD 80 undef, a.tmps.getD 81 undef, a.tmps.getD 82 undef, a.tmps.getD 83 undef, a.tmps.getD 84 undef, a.tmps.getD 85 undef, a.tmps.getD 86 undef, a.tmps.getD 87 undef, a.tmps.getD 88 undef, a.tmps.getD 89 undef, a.tmps.getD 90 undef, a.tmps.getD 91 undef, a.tmps.getD 92 undef, a.tmps.getD 93 undef, a.tmps.getD 94 undef, a.tmps.getD 95 undef, a.tmps.getD 96 undef, a.tmps.getD 97 undef, a.tmps.getD 98 undef, a.tmps.getD 99 undef, a.tmps.getD 100 undef, a.tmps.getD 101 undef, a.tmps.getD 102 undef, a.tmps.getD 103 undef, a.tmps.getD 104 undef, a.tmps.getD 105 undef, a.tmps.getD 106 undef, a.tmps.getD 107 undef, a.tmps.getD 108 undef, a.tmps.getD 109 undef, a.tmps.getD 110 undef, a.tmps.getD 111 undef, a.tmps.getD 112 undef, a.tmps.getD 113 undef, a.tmps.getD 114 undef, a.tmps.getD 115 undef, a.tmps.getD 116 undef, a.tmps.getD 117 undef, a.tmps.getD 118 undef, a.tmps.getD 119 undef, a.tmps.getD 120 undef, a.tmps.getD 121 undef, a.tmps.getD 122 undef, a.tmps.getD 123 undef, a.tmps.getD 124 undef, a.tmps.getD 125 undef, a.tmps.getD 126 undef, a.tmps.getD 127 undef, a.tmps.getD 128 undef, a.tmps.getD 129 undef, a.tmps.getD 130 undef, a.tmps.getD 131 undef, a.tmps.getD 132 undef, a.tmps.getD 133 undef, a.tmps.getD 134 undef, a.tmps.getD 135 undef, a.tmps.getD 136 undef, a.tmps.getD 137 undef, a.tmps.getD 138 undef, a.tmps.getD 139 undef, a.tmps.getD 140 undef, a.tmps.getD 141 undef, a.tmps.getD 142 undef, a.tmps.getD 143 undef, a.tmps.getD 144 undef, a.tmps.getD 145 undef, a.tmps.getD 146 undef, a.tmps.getD 147 undef, a.tmps.getD 148 undef, a.tmps.getD 149 undef, a.tmps.getD 150 undef, a.tmps.getD 151 undef, a.tmps.getD 152 undef, a.tmps.getD 153 undef, a.tmps.getD 154 undef, a.tmps.getD 155 undef, a.tmps.getD 156 undef, a.tmps.getD 157 undef, a.tmps.getD 158 undef, a.tmps.getD 159 undef, a.tmps.getD 160 undef, a.tmps.getD 161 undef, a.tmps.getD 162 undef, a.tmps.getD 163 undef, a.tmps.getD 164 undef, a.tmps.getD 165 undef, a.tmps.getD 166 undef, a.tmps.getD 167 undef, a.tmps.getD 168 undef, a.tmps.getD 169 undef, a.tmps.getD 170 undef, a.tmps.getD 171 undef, a.tmps.getD 172 undef, a.tmps.getD 173 undef, a.tmps.getD 174 undef, a.tmps.getD 175 undef, a.tmps.getD 176 undef, a.tmps.getD 177 undef, a.tmps.getD 178 undef, a.tmps.getD 179 undef, a.tmps.getD 180 undef, a.tmps.getD 181 undef, a.tmps.getD 182 undef, a.tmps.getD 183 undef, a.tmps.getD 184 undef, a.tmps.getD 185 undef, a.tmps.getD 186 undef, a.tmps.getD 187 undef, a.tmps.getD 188 undef, a.tmps.getD 189 undef, a.tmps.getD 190 undef, a.tmps.getD 191 undef, a.tmps.getD 192 undef, a.tmps.getD 193 undef, a.tmps.getD 194 undef, a.tmps.getD 195 undef, a.tmps.getD 196 undef, a.tmps.getD 197 undef, a.tmps.getD 198 undef, a.tmps.getD 199 undef, a.tmps.getD 200 undef, a.tmps.getD 201 undef, a.tmps.getD 202 undef, a.tmps.getD 203 undef, a.tmps.getD 204 undef, a.tmps.getD 205 undef, a.tmps.getD 206 undef, a.tmps.getD 207 undef, a.tmps.getD 208 undef, a.tmps.getD 209 undef, a.tmps.getD 210 undef, a.tmps.getD 211 undef, a.tmps.getD 212 undef, a.tmps.getD 213 undef, a.tmps.getD 214 undef, a.tmps.getD 215 undef, a.tmps.getD 216 undef, a.tmps.getD 217 undef, a.tmps.getD 218 undef, a.tmps.getD 219 undef, a.tmps.getD 220 undef, a.tmps.getD 221 undef, a.tmps.getD 222 undef, a.tmps.getD 223 undef, a.tmps.getD 224 undef, a.tmps.getD 225 undef, a.tmps.getD 226 undef, a.tmps.getD 227 undef, a.tmps.getD 228 undef, a.tmps.getD 229 undef, a.tmps.getD 230 undef, a.tmps.getD 231 undef, a.tmps.getD 232 undef, a.tmps.getD 233 undef, a.tmps.getD 234 undef, a.tmps.getD 235 undef, a.tmps.getD 236 undef, a.tmps.getD 237 undef, a.tmps.getD 238 undef, a.tmps.getD 239 undef, a.tmps.getD 240 undef, a.tmps.getD 241 undef, a.tmps.getD 242 undef, a.tmps.getD 243 undef, a.tmps.getD 244 undef, a.tmps.getD 245 undef, a.tmps.getD 246 undef, a.tmps.getD 247 undef, a.tmps.getD 248 undef, a.tmps.getD 249 undef, a.tmps.getD 250 undef, a.tmps.getD 251 undef, a.tmps.getD 252 undef, a.tmps.getD 253 undef, a.tmps.getD 254 undef, a.tmps.getD 255 undef, a.tmps.getD 256 undef, a.tmps.getD 257 undef, a.tmps.getD 258 undef, a.tmps.getD 259 undef, a.tmps.getD 260 undef, a.tmps.getD 261 undef, a.tmps.getD 262 undef, a.tmps.getD 263 undef, a.tmps.getD 264 undef, a.tmps.getD 265 undef, a.tmps.getD 266 undef, a.tmps.getD 267 undef, a.tmps.getD 268 undef, a.tmps.getD 269 undef, a.tmps.getD 270 undef, a.tmps.getD 271 undef, a.tmps.getD 272 undef, a.tmps.getD 273 undef, a.tmps.getD 274 undef, a.tmps.getD 275 undef, a.tmps.getD 276 undef, a.tmps.getD 277 undef, a.tmps.getD 278 undef, a.tmps.getD 279 undef, a.tmps.getD 280 undef, a.tmps.getD 281 undef, a.tmps.getD 282 undef, a.tmps.getD 283 undef, a.tmps.getD 284 undef, a.tmps.getD 285 undef, a.tmps.getD 286 undef, a.tmps.getD 287 undef, a.tmps.getD 288 undef, a.tmps.getD 289 undef, a.tmps.getD 290 undef, a.tmps.getD 291 undef, a.tmps.getD 292 undef, a.tmps.getD 293 undef, a.tmps.getD 294 undef, a.tmps.getD 295 undef, a.tmps.getD 296 undef, a.tmps.getD 297 undef, a.tmps.getD 298 undef, a.tmps.getD 299 undef, a.tmps.getD 300 undef, a.tmps.getD 301 undef, a.tmps.getD 302 undef, a.tmps.getD 303 undef, a.tmps.getD 304 undef, a.tmps.getD 305 undef, a.tmps.getD 306 undef, a.tmps.getD 307 undef, a.tmps.getD 308 undef, a.tmps.getD 309 undef, a.tmps.getD 310 undef, a.tmps.getD 311 undef, a.tmps.getD 312 undef, a.tmps.getD 313 undef, a.tmps.getD 314 undef, a.tmps.getD 315 undef, a.tmps.getD 316 undef, a.tmps.getD 317 undef, a.tmps.getD 318 undef, a.tmps.getD 319 undef, a.tmps.getD 320 undef, a.tmps.getD 321 undef, a.tmps.getD 322 undef, a.tmps.getD 323 undef, a.tmps.getD 324 undef, a.tmps.getD 325 undef, a.tmps.getD 326 undef, a.tmps.getD 327 undef, a.tmps.getD 328 undef, a.tmps.getD 329 undef, a.tmps.getD 330 undef, a.tmps.getD 331 undef, a.tmps.getD 332 undef, a.tmps.getD 333 undef, a.tmps.getD 334 undef, a.tmps.getD 335 undef, a.tmps.getD 336 undef, a.tmps.getD 337 undef, a.tmps.getD 338 undef, a.tmps.getD 339 undef, a.tmps.getD 340 undef, a.tmps.getD 341 undef, a.tmps.getD 342 undef, a.tmps.getD 343 undef, a.tmps.getD 344 undef, a.tmps.getD 345 undef, a.tmps.getD 346 undef, a.tmps.getD 347 undef, a.tmps.getD 348 undef, a.tmps.getD 349 undef, a.tmps.getD 350 undef, a.tmps.getD 351 undef, a.tmps.getD 352 undef, a.tmps.getD 353 undef, a.tmps.getD 354 undef, a.tmps.getD 355 undef, a.tmps.getD 356 undef, a.tmps.getD 357 undef, a.tmps.getD 358 undef, a.tmps.getD 359 undef, a.tmps.getD 360 undef, a.tmps.getD 361 undef, a.tmps.getD 362 undef, a.tmps.getD 363 undef, a.tmps.getD 364 undef, a.tmps.getD 365 undef, a.tmps.getD 366 undef, a.tmps.getD 367 undef, a.tmps.getD 368 undef, a.tmps.getD 369 undef, a.tmps.getD 370 undef, a.tmps.getD 371 undef, a.tmps.getD 372 undef, a.tmps.getD 373 undef, a.tmps.getD 374 undef, a.tmps.getD 375 undef, a.tmps.getD 376 undef, a.tmps.getD 377 undef, a.tmps.getD 378 undef, a.tmps.getD 379 undef, a.tmps.getD 380 undef, a.tmps.getD 381 undef, a.tmps.getD 382 undef, a.tmps.getD 383 undef, a.tmps.getD 384 undef, a.tmps.getD 385 undef, a.tmps.getD 386 undef, a.tmps.getD 387 undef, a.tmps.getD 388 undef, a.tmps.getD 389 undef, a.tmps.getD 390 undef, a.tmps.getD 391 undef, a.tmps.getD 392 undef, a.tmps.getD 393 undef, a.tmps.getD 394 undef, a.tmps.getD 395 undef, a.tmps.getD 396 undef, a.tmps.getD 397 undef, a.tmps.getD 398 undef, a.tmps.getD 399 undef, a.tmps.getD 400 undef], []⟩ := by
 obtain ⟨t, df⟩ := a
 have e1 : t = ((List.range 401).map (lay t [(0, .pointer (some ⟨R, 0, none⟩)), (1, .pointer (some ⟨B, 0, none⟩)), (2, .iface 237 (.pointer (some ⟨B, 5, none⟩))), (11, .bool false), (13, .int .u32 pc), (14, .int .i64 pos), (15, .bool arg)])).toArray := by
  refine lay_eq t 401 h.size _ ?_
  intro p hp
  simp only [List.mem_cons, List.not_mem_nil, or_false] at hp
  rcases hp with rfl | rfl | rfl | rfl | rfl | rfl | rfl
  ·exact h.s0
  ·exact h.s1
  ·exact h.s2
  ·exact h.s11
  ·exact h.s13
  ·exact h.s14
  ·exact h.s15
 have e3 : df = [] := h.defers
 subst e3
 exact (congrArg (fun x => (⟨x, []⟩ : Act)) e1).trans (by kernel_rfl)

theorem hed_lit {R B : Nat} {a : Act} (h : Hed R B a) : a = ⟨#[.pointer (some ⟨R, 0, none⟩), .pointer (some ⟨B, 0, none⟩), .iface 237 (.pointer (some ⟨B, 5, none⟩)), a.tmps.getD 3 undef, a.tmps.getD 4 undef, a.tmps.getD 5 undef, a.tmps.getD 6 undef, a.tmps.getD 7 undef, a.tmps.getD 8 undef, a.tmps.getD 9 undef, a.tmps.getD 10 undef, .bool false, a.tmps.getD 12 undef, a.tmps.getD 13 undef, a.tmps.getD 14 undef, a.tmps.getD 15 undef, a.tmps.getD 16 undef, a.tmps.getD 17 undef, a.tmps.getD 18 undef, a.tmps.getD 19 undef, a.tmps.getD 20 undef, a.tmps.getD 21 undef, a.tmps.getD 22 undef, a.tmps.getD 23 undef, a.tmps.getD 24 undef, a.tmps.getD 25 undef, a.tmps.getD 26 undef, a.tmps.getD 27 undef, a.tmps.getD 28 undef, a.tmps.getD 29 undef, a.tmps.getD 30 undef, a.tmps.getD 31 undef, a.tmps.getD 32 undef, a.tmps.getD 33 undef, a.tmps.getD 34 undef, a.tmps.getD 35 undef, a.tmps.getD 36 undef, a.tmps.getD 37 undef, a.tmps.getD 38 undef, a.tmps.getD 39 undef, a.tmps.getD 40 undef, a.tmps.getD 41 undef, a.tmps.getD 42 undef, a.tmps.getD 43 undef, a.tmps.getD 44 undef, a.tmps.getD 45 undef, a.tmps.getD 46 undef, a.tmps.getD 47 undef, a.tmps.getD 48 undef, a.tmps.getD 49 undef, a.tmps.getD 50 undef, a.tmps.getD 51 undef, a.tmps.getD 52 undef, a.tmps.getD 53 undef, a.tmps.getD 54 undef, a.tmps.getD 55 undef, a.tmps.getD 56 undef, a.tmps.getD 57 undef, a.tmps.getD 58 undef, a.tmps.getD 59 undef, a.tmps.getD 60 undef, a.tmps.getD 61 undef, a.tmps.getD 62 undef, a.tmps.getD 63 undef, a.tmps.getD 64 undef, a.tmps.getD 65 undef, a.tmps.getD 66 undef, a.tmps.getD 67 undef, a.tmps.getD 68 undef, a.tmps.getD 69 undef, a.tmps.getD 70 undef, a.tmps.getD 71 undef, a.tmps.getD 72 undef, a.tmps.getD 73 undef, a.tmps.getD 74 undef, a.tmps.getD 75 undef, a.tmps.getD 76 undef, a.tmps.getD 77 undef, a.tmps.getD 78 undef, a.tmps.getD 79 undef, a.tmps.getD 80 undef, a.tmps.getD 81 undef, a.tmps.getD 82 undef, a.tmps.getD 83 undef, a.tmps.getD 84 undef, a.tmps.getD 85 undef, a.tmps.getD 86 undef, a.tmps.getD 87 undef, a.tmps.getD 88 undef, a.tmps.getD 89 undef, a.tmps.getD 90 undef, a.tmps.getD 91 undef, a.tmps.getD 92 undef, a.tmps.getD 93 undef, a.tmps.getD 94 undef, a.tmps.getD 95 undef, a.tmps.getD 96 undef, a.tmps.getD 97 undef, a.tmps.getD 98 undef, a.tmps.getD 99 undef, a.tmps.getD 100 undef, a.tmps.getD 101 undef, a.tmps.getD 102 undef, a.tmps.getD 103 undef, a.tmps.getD 104 undef, a.tmps.getD 105 undef, a.tmps.getD 106 undef, a.tmps.getD 107 undef, a.tmps.getD 108 undef, a.tmps.getD 109 undef, a.tmps.getD 110 undef, a.tmps.getD 111 undef, a.tmps.getD 112 undef, a.tmps.getD 113 undef, a.tmps.getD 114 undef, a.tmps.getD 115 undef, a.tmps.getD 116 undef, a.tmps.getD 117 undef, a.tmps.getD 118 undef, a.tmps.getD 119 undef, a.tmps.getD 120 undef, a.tmps.getD 121 undef, a.tmps.getD 122 undef, a.tmps.getD 123 undef, a.tmps.getD 124 undef, a.tmps.getD 125 undef, a.tmps.getD 126 undef, a.tmps.getD 127 undef, a.tmps.getD 128 undef, a.tmps.getD 129 undef, a.tmps.getD 130 undef, a.tmps.getD 131 undef, a.tmps.getD 132 undef, a.tmps.getD 133 undef, a.tmps.getD 134 undef, a.tmps.getD 135 undef, a.tmps.getD 136 undef, a.tmps.getD 137 undef, a.tmps.getD 138 undef, a.tmps.getD 139 undef, a.tmps.getD 140 undef, a.tmps.getD 141 undef, a.tmps.getD 142 undef, a.tmps.getD 143 undef, a.tmps.getD 144 undef, a.tmps.getD 145 undef, a.tmps.getD 146 undef, a.tmps.getD 147 undef, a.tmps.getD 148 undef, a.tmps.getD 149 undef, a.tmps.getD 150 undef, a.tmps.getD 151 undef, a.tmps.getD 152 undef, a.tmps.getD 153 undef, a.tmps.getD 154 undef, a.tmps.getD 155 undef, a.tmps.getD 156 undef, a.tmps.getD 157 undef, a.tmps.getD 158 undef, a.tmps.getD 159 undef, a.tmps.getD 160 undef, a.tmps.getD 161 undef, a.tmps.getD 162 undef, a.tmps.getD 163 undef, a.tmps.getD 164 undef, a.tmps.getD 165 undef, a.tmps.getD 166 undef, a.tmps.getD 167 undef, a.tmps.getD 168 undef, a.tmps.getD 169 undef, a.tmps.getD 170 undef, a.tmps.getD 171 undef, a.tmps.getD 172 undef, a.tmps.getD 173 undef, a.tmps.getD 174 undef, a.tmps.getD 175 undef, a.tmps.getD 176 undef, a.tmps.getD 177 undef, a.tmps.getD 178 undef, a.tmps.getD 179 undef, a.tmps.getD 180 undef, a.tmps.getD 181 undef, a.tmps.getD 182 undef, a.tmps.getD 183 undef, a.tmps.getD 184 undef, a.tmps.getD 185 undef, a.tmps.getD 186 undef, a.tmps.getD 187 undef, a.tmps.getD 188 undef, a.tmps.getD 189 undef, a.tmps.getD 190 undef, a.tmps.getD 191 undef, a.tmps.getD 192 undef, a.tmps.getD 193 undef, a.tmps.getD 194 undef, a.tmps.getD 195 undef, a.tmps.getD 196 undef, a.tmps.getD 197 undef, a.tmps.getD 198 undef, a.tmps.getD 199 undef, a.tmps.getD 200 undef, a.tmps.getD 201 undef, a.tmps.getD 202 undef, a.tmps.getD 203 undef, a.tmps.getD 204 undef, a.tmps.getD 205 undef, a.tmps.getD 206 undef, a.tmps.getD 207 undef, a.tmps.getD 208 undef, a.tmps.getD 209 undef, a.tmps.getD 210 undef, a.tmps.getD 211 undef, a.tmps.getD 212 undef, a.tmps.getD 213 undef, a.tmps.getD 214 undef, a.tmps.getD 215 undef, a.tmps.getD 216 undef, a.tmps.getD 217 undef, a.tmps.getD 218 undef, a.tmps.getD 219 undef, a.tmps.getD 220 undef, a.tmps.getD 221 undef, a.tmps.getD 222 undef, a.tmps.getD 223 undef, a.tmps.getD 224 undef, a.tmps.getD 225 undef, a.tmps.getD 226 undef, a.tmps.getD 227 undef, a.tmps.getD 228 undef, a.tmps.getD 229 undef, a.tmps.getD 230 undef, a.tmps.getD 231 undef, a.tmps.getD 232 undef, a.tmps.getD 233 undef, a.tmps.getD 234 undef, a.tmps.getD 235 undef, a.tmps.getD 236 undef, a.tmps.getD 237 undef, a.tmps.getD 238 undef, a.tmps.getD 239 undef, a.tmps.getD 240 undef, a.tmps.getD 241 undef, a.tmps.getD 242 undef, a.tmps.getD 243 undef, a.tmps.getD 244 undef, a.tmps.getD 245 undef, a.tmps.getD 246 undef, a.tmps.getD 247 undef, a.tmps.getD 248 undef, a.tmps.getD 249 undef, a.tmps.getD 250 undef, a.tmps.getD 251 undef, a.tmps.getD 252 undef, a.tmps.getD 253 undef, a.tmps.getD 254 undef, a.tmps.getD 255 undef, a.tmps.getD 256 undef, a.tmps.getD 257 undef, a.tmps.getD 258 undef, a.tmps.getD 259 undef, a.tmps.getD 260 undef, a.tmps.getD 261 undef, a.tmps.getD 262 undef, a.tmps.getD 263 undef, a.tmps.getD 264 undef, a.tmps.getD 265 undef, a.tmps.getD 266 undef, a.tmps.getD 267 undef, a.tmps.getD 268 undef, a.tmps.getD 269 undef, a.tmps.getD 270 undef, a.tmps.getD 271 undef, a.tmps.getD 272 undef, a.tmps.getD 273 undef, a.tmps.getD 274 undef, a.tmps.getD 275 undef, a.tmps.getD 276 undef, a.tmps.getD 277 undef, a.tmps.getD 278 undef, a.tmps.getD 279 undef, a.tmps.getD 280 undef, a.tmps.getD 281 undef, a.tmps.getD 282 undef, a.tmps.getD 283 undef, a.tmps.getD 284 undef, a.tmps.getD 285 undef, a.tmps.getD 286 undef, a.tmps.getD 287 undef, a.tmps.getD 288 undef, a.tmps.getD 289 undef, a.tmps.getD 290 undef, a.tmps.getD 291 undef, a.tmps.getD 292 undef, a.tmps.getD 293 undef, a.tmps.getD 294 undef, a.tmps.getD 295 undef, a.tmps.getD 296 undef, a.tmps.getD 297 undef, a.tmps.getD 298 undef, a.tmps.getD 299 undef, a.tmps.getD 300 undef, a.tmps.getD 301 undef, a.tmps.getD 302 undef, a.tmps.getD 303 undef, a.tmps.getD 304 undef, a.tmps.getD 305 undef, a.tmps.getD 306 undef, a.tmps.getD 307 undef, a.tmps.getD 308 undef, a.tmps.getD 309 undef, a.tmps.getD 310 undef, a.tmps.getD 311 undef, a.tmps.getD 312 undef, a.tmps.getD 313 undef, a.tmps.getD 314 undef, a.tmps.getD 315 undef, a.tmps.getD 316 undef, a.tmps.getD 317 undef, a.tmps.getD 318 undef, a.tmps.getD 319 undef, a.tmps.getD 320 undef, a.tmps.getD 321 undef, a.tmps.getD 322 undef, a.tmps.getD 323 undef, a.tmps.getD 324 undef, a.tmps.getD 325 undef, a.tmps.getD 326 undef, a.tmps.getD 327 undef, a.tmps.getD 328 undef, a.tmps.getD 329 undef, a.tmps.getD 330 undef, a.tmps.getD 331 undef, a.tmps.getD 332 undef, a.tmps.getD 333 undef, a.tmps.getD 334 undef, a.tmps.getD 335 undef, a.tmps.getD 336 undef, a.tmps.getD 337 undef, a.tmps.getD 338 undef, a.tmps.getD 339 undef, a.tmps.getD 340 undef, a.tmps.getD 341 undef, a.tmps.getD 342 undef, a.tmps.getD 343 undef, a.tmps.getD 344 undef, a.tmps.getD 345 undef, a.tmps.getD 346 undef, a.tmps.getD 347 undef, a.tmps.getD 348 undef, a.tmps.getD 349 undef, a.tmps.getD 350 undef, a.tmps.getD 351 undef, a.tmps.getD 352 undef, a.tmps.getD 353 undef, a.tmps.getD 354 undef, a.tmps.getD 355 undef, a.tmps.getD 356 undef, a.tmps.getD 357 undef, a.tmps.getD 358 undef, a.tmps.getD 359 undef, a.tmps.getD 360 undef, a.tmps.getD 361 undef, a.tmps.getD 362 undef, a.tmps.getD 363 undef, a.tmps.getD 364 undef, a.tmps.getD 365 undef, a.tmps.getD 366 undef, a.tmps.getD 367 undef, a.tmps.getD 368 undef, a.tmps.getD 369 undef, a.tmps.getD 370 undef, a.tmps.getD 371 undef, a.tmps.getD 372 undef, a.tmps.getD 373 undef, a.tmps.getD 374 undef, a.tmps.getD 375 undef, a.tmps.getD 376 undef, a.tmps.getD 377 undef, a.tmps.getD 378 undef, a.tmps.getD 379 undef, a.tmps.getD 380 undef, a.tmps.getD 381 undef, a.tmps.getD 382 undef, a.tmps.getD 383 undef, a.tmps.getD 384 undef, a.tmps.getD 385 undef, a.tmps.getD 386 undef, a.tmps.getD 387 undef, a.tmps.getD 388 undef, a.tmps.getD 389 undef, a.tmps.getD 390 undef, a.tmps.getD 391 undef, a.tmps.getD 392 undef, a.tmps.getD 393 undef, a.tmps.getD 394 undef, a.tmps.getD 395 undef, a.tmps.getD 396 undef, a.tmps.getD 397 undef, a.tmps.getD 398 undef, a.tmps.getD 399 undef, a.tmps.getD 400 undef], []⟩ := by
 obtain ⟨t, df⟩ := a
 have e1 : t = ((List.range 401).map (lay t [(0, .pointer (some ⟨R, 0, none⟩)), (1, .pointer (some ⟨B, 0, none⟩)), (2, .iface 237 (.pointer (some ⟨B, 5, none⟩))), (11, .bool false)])).toArray := by
  refine lay_eq t 401 h.size _ ?_
  intro p hp
  simp only [List.mem_cons, List.not_mem_nil, or_false] at hp
  rcases hp with rfl | rfl | rfl | rfl
  ·exact h.s0
  ·exact h.s1
  ·exact h.s2
  ·exact h.s11
 have e3 : df = [] := h.defers
 subst e3
 exact (congrArg (fun x => (⟨x, []⟩ : Act)) e1).trans (by kernel_rfl)

end Go.Proofs.YtkbmigfkclnlaaaGreatDoor
namespace Go.Proofs.YtkbmigfkclnlaaaGreatDoor
open Go.RowKit Go.Rx

set_option maxRecDepth 1000000 in
theorem enter_rune1_no_f {a : Act} (N R PR I np : Nat) (pg : Nat → Inst) (w : World) (hP : ProgAt w N R PR I np pg) (pc : Nat) (hp0 : 0 < pc) (hpc : pc < np) (B pos : Nat) (Q : Exit → Act → World → Prop)
  (r : Int) (wd : Nat) (hs : Calls Tryz.prog 174 #[.pointer (some ⟨B, 5, none⟩), .int .i64 pos] w fun e w' => e = .returned (.tuple #[.int .i32 r, .int .i64 wd]) ∧ w' = w) (_hwd : wd < 10) (_hpos : pos < 100000000000)
  (hop : (pg pc).op = 8) (x0 : Int) (hru : (pg pc).rune = [x0]) (hne : r ≠ x0) (hgo : ∀ a, Hed R B a → Q (.exit 1) a w)
  (hfr : Frm R B pc pos false a) : btTail.wp Tryz.prog Q a w := by
 have e := frm_lit hfr
 exact Eq.mpr (congrArg (fun x => btTail.wp Tryz.prog Q x w) e) (enter_rune1_no _ _ _ _ _ _ _ _ _ _ _ _ _ _ _ _ _ _ _ _ _ _ _ _ _ _ _ _ _ _ _ _ _ _ _ _ _ _ _ _ _ _ _ _ _ _ _ _ _ _ _ _ _ _ _ _ _ _ _ _ _ _ _ _ _ _ _ _ _ _ _ _ _ _ _ _ _ _ _ _ _ _ _ _ _ _ _ _ _ _ _ _ _ _ _ _ _ _ _ _ _ _ _ _ _ _ _ _ _ _ _ _ _ _ _ _ _ _ _ _ _ _ _ _ _ _ _ _ _ _ _ _ _ _ _ _ _ _ _ _ _ _ _ _ _ _ _ _ _ _ _ _ _ _ _ _ _ _ _ _ _ _ _ _ _ _ _ _ _ _ _ _ _ _ _ _ _ _ _ _ _ _ _ _ _ _ _ _ _ _ _ _ _ _ _ _ _ _ _ _ _ _ _ _ _ _ _ _ _ _ _ _ _ _ _ _ _ _ _ _ _ _ _ _ _ _ _ _ _ _ _ _ _ _ _ _ _ _ _ _ _ _ _ _ _ _ _ _ _ _ _ _ _ _ _ _ _ _ _ _ _ _ _ _ _ _ _ _ _ _ _ _ _ _ _ _ _ _ _ _ _ _ _ _ _ _ _ _ _ _ _ _ _ _ _ _ _ _ _ _ _ _ _ _ _ _ _ _ _ _ _ _ _ _ _ _ _ _ _ _ _ _ _ _ _ _ _ _ _ _ _ _ _ _ _ _ _ _ _ _ _ _ _ _ _ _ _ _ _ _ _ _ _ _ _ _ _ _ _ _ _ _ _ _ _ _ _ _ _ _ _ _ _ _ _ _ _ _ _ _ _ _ _ _ _ _ _ _ _ _ _ _ _ _ N R PR I np pg w hP pc hp0 hpc B pos Q r wd hs _hwd _hpos hop x0 hru hne hgo)

set_option maxRecDepth 1000000 in
theorem enter_rune1_yes_f {a : Act} (N R PR I np : Nat) (pg : Nat → Inst) (w : World) (hP : ProgAt w N R PR I np pg) (pc : Nat) (hp0 : 0 < pc) (hpc : pc < np) (B pos : Nat) (Q : Exit → Act → World → Prop)
  (r : Int) (wd : Nat) (hs : Calls Tryz.prog 174 #[.pointer (some ⟨B, 5, none⟩), .int .i64 pos] w fun e w' => e = .returned (.tuple #[.int .i32 r, .int .i64 wd]) ∧ w' = w) (_hwd : wd < 10) (_hpos : pos < 100000000000)
  (hop : (pg pc).op = 8) (x0 : Int) (hru : (pg pc).rune = [x0]) (hne : r = x0) (hgo : ∀ a, Frm R B (pg pc).out (pos + wd) false a → Q (.goto 1) a w)
  (hfr : Frm R B pc pos false a) : btTail.wp Tryz.prog Q a w := by
 have e := frm_lit hfr
 exact Eq.mpr (congrArg (fun x => btTail.wp Tryz.prog Q x w) e) (enter_rune1_yes _ _ _ _ _ _ _ _ _ _ _ _ _ _ _ _ _ _ _ _ _ _ _ _ _ _ _ _ _ _ _ _ _ _ _ _ _ _ _ _ _ _ _ _ _ _ _ _ _ _ _ _ _ _ _ _ _ _ _ _ _ _ _ _ _ _ _ _ _ _ _ _ _ _ _ _ _ _ _ _ _ _ _ _ _ _ _ _ _ _ _ _ _ _ _ _ _ _ _ _ _ _ _ _ _ _ _ _ _ _ _ _ _ _ _ _ _ _ _ _ _ _ _ _ _ _ _ _ _ _ _ _ _ _ _ _ _ _ _ _ _ _ _ _ _ _ _ _ _ _ _ _ _ _ _ _ _ _ _ _ _ _ _ _ _ _ _ _ _ _ _ _ _ _ _ _ _ _ _ _ _ _ _ _ _ _ _ _ _ _ _ _ _ _ _ _ _ _ _ _ _ _ _ _ _ _ _ _ _ _ _ _ _ _ _ _ _ _ _ _ _ _ _ _ _ _ _ _ _ _ _ _ _ _ _ _ _ _ _ _ _ _ _ _ _ _ _ _ _ _ _ _ _ _ _ _ _ _ _ _ _ _ _ _ _ _ _ _ _ _ _ _ _ _ _ _ _ _ _ _ _ _ _ _ _ _ _ _ _ _ _ _ _ _ _ _ _ _ _ _ _ _ _ _ _ _ _ _ _ _ _ _ _ _ _ _ _ _ _ _ _ _ _ _ _ _ _ _ _ _ _ _ _ _ _ _ _ _ _ _ _ _ _ _ _ _ _ _ _ _ _ _ _ _ _ _ _ _ _ _ _ _ _ _ _ _ _ _ _ _ _ _ _ _ _ _ _ _ _ _ _ _ _ _ _ _ _ _ _ _ _ _ _ _ N R PR I np pg w hP pc hp0 hpc B pos Q r wd hs _hwd _hpos hop x0 hru hne hgo)

set_option maxRecDepth 1000000 in
theorem enter_rune_no_f {a : Act} (N R PR I np : Nat) (pg : Nat → Inst) (w : World) (hP : ProgAt w N R PR I np pg) (pc : Nat) (hp0 : 0 < pc) (hpc : pc < np) (B pos : Nat) (Q : Exit → Act → World → Prop)
  (r : Int) (wd : Nat) (hs : Calls Tryz.prog 174 #[.pointer (some ⟨B, 5, none⟩), .int .i64 pos] w fun e w' => e = .returned (.tuple #[.int .i32 r, .int .i64 wd]) ∧ w' = w) (_hwd : wd < 10) (_hpos : pos < 100000000000)
  (hop : (pg pc).op = 7) (hcl : ClassLen (pg pc).rune.length) (htk : classTakes (pg pc).rune r = false) (hgo : ∀ a, Hed R B a → Q (.exit 1) a w)
  (hfr : Frm R B pc pos false a) : btTail.wp Tryz.prog Q a w := by
 have e := frm_lit hfr
 exact Eq.mpr (congrArg (fun x => btTail.wp Tryz.prog Q x w) e) (enter_rune_no _ _ _ _ _ _ _ _ _ _ _ _ _ _ _ _ _ _ _ _ _ _ _ _ _ _ _ _ _ _ _ _ _ _ _ _ _ _ _ _ _ _ _ _ _ _ _ _ _ _ _ _ _ _ _ _ _ _ _ _ _ _ _ _ _ _ _ _ _ _ _ _ _ _ _ _ _ _ _ _ _ _ _ _ _ _ _ _ _ _ _ _ _ _ _ _ _ _ _ _ _ _ _ _ _ _ _ _ _ _ _ _ _ _ _ _ _ _ _ _ _ _ _ _ _ _ _ _ _ _ _ _ _ _ _ _ _ _ _ _ _ _ _ _ _ _ _ _ _ _ _ _ _ _ _ _ _ _ _ _ _ _ _ _ _ _ _ _ _ _ _ _ _ _ _ _ _ _ _ _ _ _ _ _ _ _ _ _ _ _ _ _ _ _ _ _ _ _ _ _ _ _ _ _ _ _ _ _ _ _ _ _ _ _ _ _ _ _ _ _ _ _ _ _ _ _ _ _ _ _ _ _ _ _ _ _ _ _ _ _ _ _ _ _ _ _ _ _ _ _ _ _ _ _ _ _ _ _ _ _ _ _ _ _ _ _ _ _ _ _ _ _ _ _ _ _ _ _ _ _ _ _ _ _ _ _ _ _ _ _ _ _ _ _ _ _ _ _ _ _ _ _ _ _ _ _ _ _ _ _ _ _ _ _ _ _ _ _ _ _ _ _ _ _ _ _ _ _ _ _ _ _ _ _ _ _ _ _ _ _ _ _ _ _ _ _ _ _ _ _ _ _ _ _ _ _ _ _ _ _ _ _ _ _ _ _ _ _ _ _ _ _ _ _ _ _ _ _ _ _ _ _ _ _ _ _ _ _ _ _ _ _ _ _ N R PR I np pg w hP pc hp0 hpc B pos Q r wd hs _hwd _hpos hop hcl htk hgo)

set_option maxRecDepth 1000000 in
theorem enter_rune_yes_f {a : Act} (N R PR I np : Nat) (pg : Nat → Inst) (w : World) (hP : ProgAt w N R PR I np pg) (pc : Nat) (hp0 : 0 < pc) (hpc : pc < np) (B pos : Nat) (Q : Exit → Act → World → Prop)
  (r : Int) (wd : Nat) (hs : Calls Tryz.prog 174 #[.pointer (some ⟨B, 5, none⟩), .int .i64 pos] w fun e w' => e = .returned (.tuple #[.int .i32 r, .int .i64 wd]) ∧ w' = w) (_hwd : wd < 10) (_hpos : pos < 100000000000)
  (hop : (pg pc).op = 7) (hcl : ClassLen (pg pc).rune.length) (htk : classTakes (pg pc).rune r = true) (hgo : ∀ a, Frm R B (pg pc).out (pos + wd) false a → Q (.goto 1) a w)
  (hfr : Frm R B pc pos false a) : btTail.wp Tryz.prog Q a w := by
 have e := frm_lit hfr
 exact Eq.mpr (congrArg (fun x => btTail.wp Tryz.prog Q x w) e) (enter_rune_yes _ _ _ _ _ _ _ _ _ _ _ _ _ _ _ _ _ _ _ _ _ _ _ _ _ _ _ _ _ _ _ _ _ _ _ _ _ _ _ _ _ _ _ _ _ _ _ _ _ _ _ _ _ _ _ _ _ _ _ _ _ _ _ _ _ _ _ _ _ _ _ _ _ _ _ _ _ _ _ _ _ _ _ _ _ _ _ _ _ _ _ _ _ _ _ _ _ _ _ _ _ _ _ _ _ _ _ _ _ _ _ _ _ _ _ _ _ _ _ _ _ _ _ _ _ _ _ _ _ _ _ _ _ _ _ _ _ _ _ _ _ _ _ _ _ _ _ _ _ _ _ _ _ _ _ _ _ _ _ _ _ _ _ _ _ _ _ _ _ _ _ _ _ _ _ _ _ _ _ _ _ _ _ _ _ _ _ _ _ _ _ _ _ _ _ _ _ _ _ _ _ _ _ _ _ _ _ _ _ _ _ _ _ _ _ _ _ _ _ _ _ _ _ _ _ _ _ _ _ _ _ _ _ _ _ _ _ _ _ _ _ _ _ _ _ _ _ _ _ _ _ _ _ _ _ _ _ _ _ _ _ _ _ _ _ _ _ _ _ _ _ _ _ _ _ _ _ _ _ _ _ _ _ _ _ _ _ _ _ _ _ _ _ _ _ _ _ _ _ _ _ _ _ _ _ _ _ _ _ _ _ _ _ _ _ _ _ _ _ _ _ _ _ _ _ _ _ _ _ _ _ _ _ _ _ _ _ _ _ _ _ _ _ _ _ _ _ _ _ _ _ _ _ _ _ _ _ _ _ _ _ _ _ _ _ _ _ _ _ _ _ _ _ _ _ _ _ _ _ _ _ _ _ _ _ _ _ _ _ _ _ _ _ _ N R PR I np pg w hP pc hp0 hpc B pos Q r wd hs _hwd _hpos hop hcl htk hgo)

set_option maxRecDepth 1000000 in
theorem enter_nop_f {a : Act} (N R PR I np : Nat) (pg : Nat → Inst) (w : World) (hP : ProgAt w N R PR I np pg) (pc : Nat) (hp0 : 0 < pc) (hpc : pc < np) (B pos : Nat) (Q : Exit → Act → World → Prop)
  (hop : (pg pc).op = 6) (hgo : ∀ a, Frm R B (pg pc).out pos false a → Q (.goto 1) a w)
  (hfr : Frm R B pc pos false a) : btTail.wp Tryz.prog Q a w := by
 have e := frm_lit hfr
 exact Eq.mpr (congrArg (fun x => btTail.wp Tryz.prog Q x w) e) (enter_nop _ _ _ _ _ _ _ _ _ _ _ _ _ _ _ _ _ _ _ _ _ _ _ _ _ _ _ _ _ _ _ _ _ _ _ _ _ _ _ _ _ _ _ _ _ _ _ _ _ _ _ _ _ _ _ _ _ _ _ _ _ _ _ _ _ _ _ _ _ _ _ _ _ _ _ _ _ _ _ _ _ _ _ _ _ _ _ _ _ _ _ _ _ _ _ _ _ _ _ _ _ _ _ _ _ _ _ _ _ _ _ _ _ _ _ _ _ _ _ _ _ _ _ _ _ _ _ _ _ _ _ _ _ _ _ _ _ _ _ _ _ _ _ _ _ _ _ _ _ _ _ _ _ _ _ _ _ _ _ _ _ _ _ _ _ _ _ _ _ _ _ _ _ _ _ _ _ _ _ _ _ _ _ _ _ _ _ _ _ _ _ _ _ _ _ _ _ _ _ _ _ _ _ _ _ _ _ _ _ _ _ _ _ _ _ _ _ _ _ _ _ _ _ _ _ _ _ _ _ _ _ _ _ _ _ _ _ _ _ _ _ _ _ _ _ _ _ _ _ _ _ _ _ _ _ _ _ _ _ _ _ _ _ _ _ _ _ _ _ _ _ _ _ _ _ _ _ _ _ _ _ _ _ _ _ _ _ _ _ _ _ _ _ _ _ _ _ _ _ _ _ _ _ _ _ _ _ _ _ _ _ _ _ _ _ _ _ _ _ _ _ _ _ _ _ _ _ _ _ _ _ _ _ _ _ _ _ _ _ _ _ _ _ _ _ _ _ _ _ _ _ _ _ _ _ _ _ _ _ _ _ _ _ _ _ _ _ _ _ _ _ _ _ _ _ _ _ _ _ _ _ _ _ _ _ _ _ _ _ _ _ _ _ _ N R PR I np pg w hP pc hp0 hpc B pos Q hop hgo)

set_option maxRecDepth 1000000 in
theorem enter_empty4_true_f {a : Act} (N R PR I np : Nat) (pg : Nat → Inst) (w : World) (hP : ProgAt w N R PR I np pg) (pc : Nat) (hp0 : 0 < pc) (hpc : pc < np) (B pos : Nat) (Q : Exit → Act → World → Prop)
  (hop : (pg pc).op = 3) (har : (pg pc).arg = 4) (f : Int) (hctx : Calls Tryz.prog 171 #[.pointer (some ⟨B, 5, none⟩), .int .i64 pos] w fun e w' => e = .returned (.int .u64 f) ∧ w' = w)
  (hmt2 : Calls Tryz.prog 121 #[.int .u64 f, .int .u8 4] w fun e w' => e = .returned (.bool true) ∧ w' = w) (hgo : ∀ a, Frm R B (pg pc).out pos false a → Q (.goto 1) a w)
  (hfr : Frm R B pc pos false a) : btTail.wp Tryz.prog Q a w := by
 have e := frm_lit hfr
 exact Eq.mpr (congrArg (fun x => btTail.wp Tryz.prog Q x w) e) (enter_empty4_true _ _ _ _ _ _ _ _ _ _ _ _ _ _ _ _ _ _ _ _ _ _ _ _ _ _ _ _ _ _ _ _ _ _ _ _ _ _ _ _ _ _ _ _ _ _ _ _ _ _ _ _ _ _ _ _ _ _ _ _ _ _ _ _ _ _ _ _ _ _ _ _ _ _ _ _ _ _ _ _ _ _ _ _ _ _ _ _ _ _ _ _ _ _ _ _ _ _ _ _ _ _ _ _ _ _ _ _ _ _ _ _ _ _ _ _ _ _ _ _ _ _ _ _ _ _ _ _ _ _ _ _ _ _ _ _ _ _ _ _ _ _ _ _ _ _ _ _ _ _ _ _ _ _ _ _ _ _ _ _ _ _ _ _ _ _ _ _ _ _ _ _ _ _ _ _ _ _ _ _ _ _ _ _ _ _ _ _ _ _ _ _ _ _ _ _ _ _ _ _ _ _ _ _ _ _ _ _ _ _ _ _ _ _ _ _ _ _ _ _ _ _ _ _ _ _ _ _ _ _ _ _ _ _ _ _ _ _ _ _ _ _ _ _ _ _ _ _ _ _ _ _ _ _ _ _ _ _ _ _ _ _ _ _ _ _ _ _ _ _ _ _ _ _ _ _ _ _ _ _ _ _ _ _ _ _ _ _ _ _ _ _ _ _ _ _ _ _ _ _ _ _ _ _ _ _ _ _ _ _ _ _ _ _ _ _ _ _ _ _ _ _ _ _ _ _ _ _ _ _ _ _ _ _ _ _ _ _ _ _ _ _ _ _ _ _ _ _ _ _ _ _ _ _ _ _ _ _ _ _ _ _ _ _ _ _ _ _ _ _ _ _ _ _ _ _ _ _ _ _ _ _ _ _ _ _ _ _ _ _ _ _ _ _ N R PR I np pg w hP pc hp0 hpc B pos Q hop har f hctx hmt2 hgo)

set_option maxRecDepth 1000000 in
theorem enter_empty4_false_f {a : Act} (N R PR I np : Nat) (pg : Nat → Inst) (w : World) (hP : ProgAt w N R PR I np pg) (pc : Nat) (hp0 : 0 < pc) (hpc : pc < np) (B pos : Nat) (Q : Exit → Act → World → Prop)
  (hop : (pg pc).op = 3) (har : (pg pc).arg = 4) (f : Int) (hctx : Calls Tryz.prog 171 #[.pointer (some ⟨B, 5, none⟩), .int .i64 pos] w fun e w' => e = .returned (.int .u64 f) ∧ w' = w)
  (hmt2 : Calls Tryz.prog 121 #[.int .u64 f, .int .u8 4] w fun e w' => e = .returned (.bool false) ∧ w' = w) (hgo : ∀ a, Hed R B a → Q (.exit 1) a w)
  (hfr : Frm R B pc pos false a) : btTail.wp Tryz.prog Q a w := by
 have e := frm_lit hfr
 exact Eq.mpr (congrArg (fun x => btTail.wp Tryz.prog Q x w) e) (enter_empty4_false _ _ _ _ _ _ _ _ _ _ _ _ _ _ _ _ _ _ _ _ _ _ _ _ _ _ _ _ _ _ _ _ _ _ _ _ _ _ _ _ _ _ _ _ _ _ _ _ _ _ _ _ _ _ _ _ _ _ _ _ _ _ _ _ _ _ _ _ _ _ _ _ _ _ _ _ _ _ _ _ _ _ _ _ _ _ _ _ _ _ _ _ _ _ _ _ _ _ _ _ _ _ _ _ _ _ _ _ _ _ _ _ _ _ _ _ _ _ _ _ _ _ _ _ _ _ _ _ _ _ _ _ _ _ _ _ _ _ _ _ _ _ _ _ _ _ _ _ _ _ _ _ _ _ _ _ _ _ _ _ _ _ _ _ _ _ _ _ _ _ _ _ _ _ _ _ _ _ _ _ _ _ _ _ _ _ _ _ _ _ _ _ _ _ _ _ _ _ _ _ _ _ _ _ _ _ _ _ _ _ _ _ _ _ _ _ _ _ _ _ _ _ _ _ _ _ _ _ _ _ _ _ _ _ _ _ _ _ _ _ _ _ _ _ _ _ _ _ _ _ _ _ _ _ _ _ _ _ _ _ _ _ _ _ _ _ _ _ _ _ _ _ _ _ _ _ _ _ _ _ _ _ _ _ _ _ _ _ _ _ _ _ _ _ _ _ _ _ _ _ _ _ _ _ _ _ _ _ _ _ _ _ _ _ _ _ _ _ _ _ _ _ _ _ _ _ _ _ _ _ _ _ _ _ _ _ _ _ _ _ _ _ _ _ _ _ _ _ _ _ _ _ _ _ _ _ _ _ _ _ _ _ _ _ _ _ _ _ _ _ _ _ _ _ _ _ _ _ _ _ _ _ _ _ _ _ _ _ _ _ _ _ _ _ N R PR I np pg w hP pc hp0 hpc B pos Q hop har f hctx hmt2 hgo)

set_option maxRecDepth 1000000 in
theorem enter_empty8_true_f {a : Act} (N R PR I np : Nat) (pg : Nat → Inst) (w : World) (hP : ProgAt w N R PR I np pg) (pc : Nat) (hp0 : 0 < pc) (hpc : pc < np) (B pos : Nat) (Q : Exit → Act → World → Prop)
  (hop : (pg pc).op = 3) (har : (pg pc).arg = 8) (f : Int) (hctx : Calls Tryz.prog 171 #[.pointer (some ⟨B, 5, none⟩), .int .i64 pos] w fun e w' => e = .returned (.int .u64 f) ∧ w' = w)
  (hmt2 : Calls Tryz.prog 121 #[.int .u64 f, .int .u8 8] w fun e w' => e = .returned (.bool true) ∧ w' = w) (hgo : ∀ a, Frm R B (pg pc).out pos false a → Q (.goto 1) a w)
  (hfr : Frm R B pc pos false a) : btTail.wp Tryz.prog Q a w := by
 have e := frm_lit hfr
 exact Eq.mpr (congrArg (fun x => btTail.wp Tryz.prog Q x w) e) (enter_empty8_true _ _ _ _ _ _ _ _ _ _ _ _ _ _ _ _ _ _ _ _ _ _ _ _ _ _ _ _ _ _ _ _ _ _ _ _ _ _ _ _ _ _ _ _ _ _ _ _ _ _ _ _ _ _ _ _ _ _ _ _ _ _ _ _ _ _ _ _ _ _ _ _ _ _ _ _ _ _ _ _ _ _ _ _ _ _ _ _ _ _ _ _ _ _ _ _ _ _ _ _ _ _ _ _ _ _ _ _ _ _ _ _ _ _ _ _ _ _ _ _ _ _ _ _ _ _ _ _ _ _ _ _ _ _ _ _ _ _ _ _ _ _ _ _ _ _ _ _ _ _ _ _ _ _ _ _ _ _ _ _ _ _ _ _ _ _ _ _ _ _ _ _ _ _ _ _ _ _ _ _ _ _ _ _ _ _ _ _ _ _ _ _ _ _ _ _ _ _ _ _ _ _ _ _ _ _ _ _ _ _ _ _ _ _ _ _ _ _ _ _ _ _ _ _ _ _ _ _ _ _ _ _ _ _ _ _ _ _ _ _ _ _ _ _ _ _ _ _ _ _ _ _ _ _ _ _ _ _ _ _ _ _ _ _ _ _ _ _ _ _ _ _ _ _ _ _ _ _ _ _ _ _ _ _ _ _ _ _ _ _ _ _ _ _ _ _ _ _ _ _ _ _ _ _ _ _ _ _ _ _ _ _ _ _ _ _ _ _ _ _ _ _ _ _ _ _ _ _ _ _ _ _ _ _ _ _ _ _ _ _ _ _ _ _ _ _ _ _ _ _ _ _ _ _ _ _ _ _ _ _ _ _ _ _ _ _ _ _ _ _ _ _ _ _ _ _ _ _ _ _ _ _ _ _ _ _ _ _ _ _ _ _ _ _ N R PR I np pg w hP pc hp0 hpc B pos Q hop har f hctx hmt2 hgo)

set_option maxRecDepth 1000000 in
theorem enter_empty8_false_f {a : Act} (N R PR I np : Nat) (pg : Nat → Inst) (w : World) (hP : ProgAt w N R PR I np pg) (pc : Nat) (hp0 : 0 < pc) (hpc : pc < np) (B pos : Nat) (Q : Exit → Act → World → Prop)
  (hop : (pg pc).op = 3) (har : (pg pc).arg = 8) (f : Int) (hctx : Calls Tryz.prog 171 #[.pointer (some ⟨B, 5, none⟩), .int .i64 pos] w fun e w' => e = .returned (.int .u64 f) ∧ w' = w)
  (hmt2 : Calls Tryz.prog 121 #[.int .u64 f, .int .u8 8] w fun e w' => e = .returned (.bool false) ∧ w' = w) (hgo : ∀ a, Hed R B a → Q (.exit 1) a w)
  (hfr : Frm R B pc pos false a) : btTail.wp Tryz.prog Q a w := by
 have e := frm_lit hfr
 exact Eq.mpr (congrArg (fun x => btTail.wp Tryz.prog Q x w) e) (enter_empty8_false _ _ _ _ _ _ _ _ _ _ _ _ _ _ _ _ _ _ _ _ _ _ _ _ _ _ _ _ _ _ _ _ _ _ _ _ _ _ _ _ _ _ _ _ _ _ _ _ _ _ _ _ _ _ _ _ _ _ _ _ _ _ _ _ _ _ _ _ _ _ _ _ _ _ _ _ _ _ _ _ _ _ _ _ _ _ _ _ _ _ _ _ _ _ _ _ _ _ _ _ _ _ _ _ _ _ _ _ _ _ _ _ _ _ _ _ _ _ _ _ _ _ _ _ _ _ _ _ _ _ _ _ _ _ _ _ _ _ _ _ _ _ _ _ _ _ _ _ _ _ _ _ _ _ _ _ _ _ _ _ _ _ _ _ _ _ _ _ _ _ _ _ _ _ _ _ _ _ _ _ _ _ _ _ _ _ _ _ _ _ _ _ _ _ _ _ _ _ _ _ _ _ _ _ _ _ _ _ _ _ _ _ _ _ _ _ _ _ _ _ _ _ _ _ _ _ _ _ _ _ _ _ _ _ _ _ _ _ _ _ _ _ _ _ _ _ _ _ _ _ _ _ _ _ _ _ _ _ _ _ _ _ _ _ _ _ _ _ _ _ _ _ _ _ _ _ _ _ _ _ _ _ _ _ _ _ _ _ _ _ _ _ _ _ _ _ _ _ _ _ _ _ _ _ _ _ _ _ _ _ _ _ _ _ _ _ _ _ _ _ _ _ _ _ _ _ _ _ _ _ _ _ _ _ _ _ _ _ _ _ _ _ _ _ _ _ _ _ _ _ _ _ _ _ _ _ _ _ _ _ _ _ _ _ _ _ _ _ _ _ _ _ _ _ _ _ _ _ _ _ _ _ _ _ _ _ _ _ _ _ _ _ _ _ N R PR I np pg w hP pc hp0 hpc B pos Q hop har f hctx hmt2 hgo)

set_option maxRecDepth 1000000 in
theorem enter_alt_back_f {a : Act} (N R PR I np : Nat) (pg : Nat → Inst) (w : World) (hP : ProgAt w N R PR I np pg) (pc : Nat) (hp0 : 0 < pc) (hpc : pc < np) (B pos : Nat) (Q : Exit → Act → World → Prop)
  (hop : (pg pc).op = 0) (hgo : ∀ a, Frm R B (pg pc).arg pos false a → Q (.goto 1) a w)
  (hfr : Frm R B pc pos true a) : btTail.wp Tryz.prog Q a w := by
 have e := frm_lit hfr
 exact Eq.mpr (congrArg (fun x => btTail.wp Tryz.prog Q x w) e) (enter_alt_back _ _ _ _ _ _ _ _ _ _ _ _ _ _ _ _ _ _ _ _ _ _ _ _ _ _ _ _ _ _ _ _ _ _ _ _ _ _ _ _ _ _ _ _ _ _ _ _ _ _ _ _ _ _ _ _ _ _ _ _ _ _ _ _ _ _ _ _ _ _ _ _ _ _ _ _ _ _ _ _ _ _ _ _ _ _ _ _ _ _ _ _ _ _ _ _ _ _ _ _ _ _ _ _ _ _ _ _ _ _ _ _ _ _ _ _ _ _ _ _ _ _ _ _ _ _ _ _ _ _ _ _ _ _ _ _ _ _ _ _ _ _ _ _ _ _ _ _ _ _ _ _ _ _ _ _ _ _ _ _ _ _ _ _ _ _ _ _ _ _ _ _ _ _ _ _ _ _ _ _ _ _ _ _ _ _ _ _ _ _ _ _ _ _ _ _ _ _ _ _ _ _ _ _ _ _ _ _ _ _ _ _ _ _ _ _ _ _ _ _ _ _ _ _ _ _ _ _ _ _ _ _ _ _ _ _ _ _ _ _ _ _ _ _ _ _ _ _ _ _ _ _ _ _ _ _ _ _ _ _ _ _ _ _ _ _ _ _ _ _ _ _ _ _ _ _ _ _ _ _ _ _ _ _ _ _ _ _ _ _ _ _ _ _ _ _ _ _ _ _ _ _ _ _ _ _ _ _ _ _ _ _ _ _ _ _ _ _ _ _ _ _ _ _ _ _ _ _ _ _ _ _ _ _ _ _ _ _ _ _ _ _ _ _ _ _ _ _ _ _ _ _ _ _ _ _ _ _ _ _ _ _ _ _ _ _ _ _ _ _ _ _ _ _ _ _ _ _ _ _ _ _ _ _ _ _ _ _ _ _ _ _ _ _ N R PR I np pg w hP pc hp0 hpc B pos Q hop hgo)

set_option maxRecDepth 1000000 in
theorem enter_alt_f {a : Act} (N R PR I np : Nat) (pg : Nat → Inst) (w : World) (hP : ProgAt w N R PR I np pg) (pc : Nat) (hp0 : 0 < pc) (hpc : pc < np) (B pos : Nat) (Q : Exit → Act → World → Prop)
  (G : World → Prop) (hG : ∀ w', G w' → ProgAt w' N R PR I np pg) (hpush : Calls Tryz.prog 119 #[.pointer (some ⟨B, 0, none⟩), .pointer (some ⟨R, 0, none⟩), .int .u32 pc, .int .i64 pos, .bool true] w fun e w' => e = .returned (.tuple #[]) ∧ G w')
  (hop : (pg pc).op = 0) (hgo : ∀ a w', Frm R B (pg pc).out pos false a → G w' → Q (.goto 1) a w')
  (hfr : Frm R B pc pos false a) : btTail.wp Tryz.prog Q a w := by
 have e := frm_lit hfr
 exact Eq.mpr (congrArg (fun x => btTail.wp Tryz.prog Q x w) e) (enter_alt _ _ _ _ _ _ _ _ _ _ _ _ _ _ _ _ _ _ _ _ _ _ _ _ _ _ _ _ _ _ _ _ _ _ _ _ _ _ _ _ _ _ _ _ _ _ _ _ _ _ _ _ _ _ _ _ _ _ _ _ _ _ _ _ _ _ _ _ _ _ _ _ _ _ _ _ _ _ _ _ _ _ _ _ _ _ _ _ _ _ _ _ _ _ _ _ _ _ _ _ _ _ _ _ _ _ _ _ _ _ _ _ _ _ _ _ _ _ _ _ _ _ _ _ _ _ _ _ _ _ _ _ _ _ _ _ _ _ _ _ _ _ _ _ _ _ _ _ _ _ _ _ _ _ _ _ _ _ _ _ _ _ _ _ _ _ _ _ _ _ _ _ _ _ _ _ _ _ _ _ _ _ _ _ _ _ _ _ _ _ _ _ _ _ _ _ _ _ _ _ _ _ _ _ _ _ _ _ _ _ _ _ _ _ _ _ _ _ _ _ _ _ _ _ _ _ _ _ _ _ _ _ _ _ _ _ _ _ _ _ _ _ _ _ _ _ _ _ _ _ _ _ _ _ _ _ _ _ _ _ _ _ _ _ _ _ _ _ _ _ _ _ _ _ _ _ _ _ _ _ _ _ _ _ _ _ _ _ _ _ _ _ _ _ _ _ _ _ _ _ _ _ _ _ _ _ _ _ _ _ _ _ _ _ _ _ _ _ _ _ _ _ _ _ _ _ _ _ _ _ _ _ _ _ _ _ _ _ _ _ _ _ _ _ _ _ _ _ _ _ _ _ _ _ _ _ _ _ _ _ _ _ _ _ _ _ _ _ _ _ _ _ _ _ _ _ _ _ _ _ _ _ _ _ _ _ _ _ _ _ _ _ _ _ N R PR I np pg w hP pc hp0 hpc B pos Q G hG hpush hop hgo)

set_option maxRecDepth 1000000 in
theorem enter_cap_back_f {a : Act} (N R PR I np : Nat) (pg : Nat → Inst) (w : World) (hP : ProgAt w N R PR I np pg) (pc : Nat) (hp0 : 0 < pc) (hpc : pc < np) (B : Nat) (Q : Exit → Act → World → Prop)
  (hop : (pg pc).op = 2) (C nc : Nat) (v : Int) (hK : (pg pc).arg < nc) (_hnc : nc < 100) (hB1 : w.cell? ⟨B, 1, none⟩ = some (.slice (some ⟨C, 0, none⟩) nc nc)) (hC : w.cell? ⟨C, (pg pc).arg, none⟩ = some (.int .i64 v)) (hBl : B < w.heap.size) (hCl : C < w.heap.size)
  (hCf : w.frozen? ⟨C, (pg pc).arg, none⟩ = false) (posi : Int) (hgo : ∀ a (y : Ext w), Hed R B a → Q (.exit 1) a (y.now.setCell ⟨C, (pg pc).arg, none⟩ (.int .i64 posi)))
  (hfr : Frm R B pc posi true a) : btTail.wp Tryz.prog Q a w := by
 have e := frm_lit hfr
 exact Eq.mpr (congrArg (fun x => btTail.wp Tryz.prog Q x w) e) (enter_cap_back _ _ _ _ _ _ _ _ _ _ _ _ _ _ _ _ _ _ _ _ _ _ _ _ _ _ _ _ _ _ _ _ _ _ _ _ _ _ _ _ _ _ _ _ _ _ _ _ _ _ _ _ _ _ _ _ _ _ _ _ _ _ _ _ _ _ _ _ _ _ _ _ _ _ _ _ _ _ _ _ _ _ _ _ _ _ _ _ _ _ _ _ _ _ _ _ _ _ _ _ _ _ _ _ _ _ _ _ _ _ _ _ _ _ _ _ _ _ _ _ _ _ _ _ _ _ _ _ _ _ _ _ _ _ _ _ _ _ _ _ _ _ _ _ _ _ _ _ _ _ _ _ _ _ _ _ _ _ _ _ _ _ _ _ _ _ _ _ _ _ _ _ _ _ _ _ _ _ _ _ _ _ _ _ _ _ _ _ _ _ _ _ _ _ _ _ _ _ _ _ _ _ _ _ _ _ _ _ _ _ _ _ _ _ _ _ _ _ _ _ _ _ _ _ _ _ _ _ _ _ _ _ _ _ _ _ _ _ _ _ _ _ _ _ _ _ _ _ _ _ _ _ _ _ _ _ _ _ _ _ _ _ _ _ _ _ _ _ _ _ _ _ _ _ _ _ _ _ _ _ _ _ _ _ _ _ _ _ _ _ _ _ _ _ _ _ _ _ _ _ _ _ _ _ _ _ _ _ _ _ _ _ _ _ _ _ _ _ _ _ _ _ _ _ _ _ _ _ _ _ _ _ _ _ _ _ _ _ _ _ _ _ _ _ _ _ _ _ _ _ _ _ _ _ _ _ _ _ _ _ _ _ _ _ _ _ _ _ _ _ _ _ _ _ _ _ _ _ _ _ _ _ _ _ _ _ _ _ _ _ _ _ _ _ N R PR I np pg w hP pc hp0 hpc B Q hop C nc v hK _hnc hB1 hC hBl hCl hCf posi hgo)

set_option maxRecDepth 1000000 in
theorem enter_cap_f {a : Act} (N R PR I np : Nat) (pg : Nat → Inst) (w : World) (hP : ProgAt w N R PR I np pg) (pc : Nat) (hp0 : 0 < pc) (hpc : pc < np) (B pos : Nat) (Q : Exit → Act → World → Prop)
  (hop : (pg pc).op = 2) (C nc : Nat) (v : Int) (hK : (pg pc).arg < nc) (_hnc : nc < 100) (hB1 : w.cell? ⟨B, 1, none⟩ = some (.slice (some ⟨C, 0, none⟩) nc nc)) (hC : w.cell? ⟨C, (pg pc).arg, none⟩ = some (.int .i64 v)) (hBl : B < w.heap.size) (hCl : C < w.heap.size) (hIC : I ≠ C)
  (G : World → Prop) (hG : ∀ w', G w' → ProgAt w' N R PR I np pg ∧ w'.cell? ⟨B, 1, none⟩ = some (.slice (some ⟨C, 0, none⟩) nc nc) ∧ (∃ v', w'.cell? ⟨C, (pg pc).arg, none⟩ = some v') ∧ w'.frozen? ⟨C, (pg pc).arg, none⟩ = false ∧ B < w'.heap.size ∧ C < w'.heap.size)
  (hpush : ∀ y : Ext w, Calls Tryz.prog 119 #[.pointer (some ⟨B, 0, none⟩), .pointer (some ⟨R, 0, none⟩), .int .u32 pc, .int .i64 v, .bool true] y.now fun e w' => e = .returned (.tuple #[]) ∧ G w')
  (hgo : ∀ a w1 (y : Ext w1), G w1 → Frm R B (pg pc).out pos false a → Q (.goto 1) a (y.now.setCell ⟨C, (pg pc).arg, none⟩ (.int .i64 pos)))
  (hfr : Frm R B pc pos false a) : btTail.wp Tryz.prog Q a w := by
 have e := frm_lit hfr
 exact Eq.mpr (congrArg (fun x => btTail.wp Tryz.prog Q x w) e) (enter_cap _ _ _ _ _ _ _ _ _ _ _ _ _ _ _ _ _ _ _ _ _ _ _ _ _ _ _ _ _ _ _ _ _ _ _ _ _ _ _ _ _ _ _ _ _ _ _ _ _ _ _ _ _ _ _ _ _ _ _ _ _ _ _ _ _ _ _ _ _ _ _ _ _ _ _ _ _ _ _ _ _ _ _ _ _ _ _ _ _ _ _ _ _ _ _ _ _ _ _ _ _ _ _ _ _ _ _ _ _ _ _ _ _ _ _ _ _ _ _ _ _ _ _ _ _ _ _ _ _ _ _ _ _ _ _ _ _ _ _ _ _ _ _ _ _ _ _ _ _ _ _ _ _ _ _ _ _ _ _ _ _ _ _ _ _ _ _ _ _ _ _ _ _ _ _ _ _ _ _ _ _ _ _ _ _ _ _ _ _ _ _ _ _ _ _ _ _ _ _ _ _ _ _ _ _ _ _ _ _ _ _ _ _ _ _ _ _ _ _ _ _ _ _ _ _ _ _ _ _ _ _ _ _ _ _ _ _ _ _ _ _ _ _ _ _ _ _ _ _ _ _ _ _ _ _ _ _ _ _ _ _ _ _ _ _ _ _ _ _ _ _ _ _ _ _ _ _ _ _ _ _ _ _ _ _ _ _ _ _ _ _ _ _ _ _ _ _ _ _ _ _ _ _ _ _ _ _ _ _ _ _ _ _ _ _ _ _ _ _ _ _ _ _ _ _ _ _ _ _ _ _ _ _ _ _ _ _ _ _ _ _ _ _ _ _ _ _ _ _ _ _ _ _ _ _ _ _ _ _ _ _ _ _ _ _ _ _ _ _ _ _ _ _ _ _ _ _ _ _ _ _ _ _ _ _ _ _ _ _ _ _ _ _ _ N R PR I np pg w hP pc hp0 hpc B pos Q hop C nc v hK _hnc hB1 hC hBl hCl hIC G hG hpush hgo)

set_option maxRecDepth 1000000 in
theorem enter_match_f {a : Act} (N R PR I np : Nat) (pg : Nat → Inst) (w : World) (hP : ProgAt w N R PR I np pg) (pc : Nat) (hp0 : 0 < pc) (hpc : pc < np) (B pos : Nat) (Q : Exit → Act → World → Prop)
  (hop : (pg pc).op = 4) (C MC n : Nat) (bl lc lm : List Value) (tB tC tM : TypeId) (hB : Blk w B bl tB) (hC : Blk w C lc tC) (hM : Blk w MC lm tM) (hb1 : bl[1]? = some (.slice (some ⟨C, 0, none⟩) n n)) (hb2 : bl[2]? = some (.slice (some ⟨MC, 0, none⟩) n n))
  (hlc : lc.length = n) (hlm : lm.length = n) (hn : 2 ≤ n) (hn2 : n < 100) (hm1 : lm[1]? = some (.int .i64 (-1))) (hone : ∀ v ∈ lc, v.oneCell' = true) (hd : B ≠ C ∧ MC ≠ C ∧ C ≠ R) (_hBM : B ≠ MC)
  (hgo : ∀ a w', a.tmps.size = 401 → a.defers = [] → a.tmps.getD 10 undef = .bool true → Blk w' MC (lc.set 1 (.int .i64 pos)) tM → Chg [C, MC] w w' → Q .ret a w')
  (hfr : Frm R B pc pos false a) : btTail.wp Tryz.prog Q a w := by
 have e := frm_lit hfr
 exact Eq.mpr (congrArg (fun x => btTail.wp Tryz.prog Q x w) e) (enter_match _ _ _ _ _ _ _ _ _ _ _ _ _ _ _ _ _ _ _ _ _ _ _ _ _ _ _ _ _ _ _ _ _ _ _ _ _ _ _ _ _ _ _ _ _ _ _ _ _ _ _ _ _ _ _ _ _ _ _ _ _ _ _ _ _ _ _ _ _ _ _ _ _ _ _ _ _ _ _ _ _ _ _ _ _ _ _ _ _ _ _ _ _ _ _ _ _ _ _ _ _ _ _ _ _ _ _ _ _ _ _ _ _ _ _ _ _ _ _ _ _ _ _ _ _ _ _ _ _ _ _ _ _ _ _ _ _ _ _ _ _ _ _ _ _ _ _ _ _ _ _ _ _ _ _ _ _ _ _ _ _ _ _ _ _ _ _ _ _ _ _ _ _ _ _ _ _ _ _ _ _ _ _ _ _ _ _ _ _ _ _ _ _ _ _ _ _ _ _ _ _ _ _ _ _ _ _ _ _ _ _ _ _ _ _ _ _ _ _ _ _ _ _ _ _ _ _ _ _ _ _ _ _ _ _ _ _ _ _ _ _ _ _ _ _ _ _ _ _ _ _ _ _ _ _ _ _ _ _ _ _ _ _ _ _ _ _ _ _ _ _ _ _ _ _ _ _ _ _ _ _ _ _ _ _ _ _ _ _ _ _ _ _ _ _ _ _ _ _ _ _ _ _ _ _ _ _ _ _ _ _ _ _ _ _ _ _ _ _ _ _ _ _ _ _ _ _ _ _ _ _ _ _ _ _ _ _ _ _ _ _ _ _ _ _ _ _ _ _ _ _ _ _ _ _ _ _ _ _ _ _ _ _ _ _ _ _ _ _ _ _ _ _ _ _ _ _ _ _ _ _ _ _ _ _ _ _ _ _ _ _ _ _ _ N R PR I np pg w hP pc hp0 hpc B pos Q hop C MC n bl lc lm tB tC tM hB hC hM hb1 hb2 hlc hlm hn hn2 hm1 hone hd _hBM hgo)

set_option maxRecDepth 1000000 in
theorem head_go_f {a : Act} (R B : Nat) (w : World) (Q : Exit → Act → World → Prop)
  (J n cj : Nat) (hn : n < 1000000000) (h3 : w.cell? ⟨B, 3, none⟩ = some (.slice (some ⟨J, 0, none⟩) (n + 1) cj)) (hgo : ∀ a, Hed R B a → (Code.scope btScope).wp Tryz.prog (Exit.inBlock 1 Q) a w)
  (hfr : Hed R B a) : btLoop.wp Tryz.prog Q a w := by
 have e := hed_lit hfr
 exact Eq.mpr (congrArg (fun x => btLoop.wp Tryz.prog Q x w) e) (head_go _ _ _ _ _ _ _ _ _ _ _ _ _ _ _ _ _ _ _ _ _ _ _ _ _ _ _ _ _ _ _ _ _ _ _ _ _ _ _ _ _ _ _ _ _ _ _ _ _ _ _ _ _ _ _ _ _ _ _ _ _ _ _ _ _ _ _ _ _ _ _ _ _ _ _ _ _ _ _ _ _ _ _ _ _ _ _ _ _ _ _ _ _ _ _ _ _ _ _ _ _ _ _ _ _ _ _ _ _ _ _ _ _ _ _ _ _ _ _ _ _ _ _ _ _ _ _ _ _ _ _ _ _ _ _ _ _ _ _ _ _ _ _ _ _ _ _ _ _ _ _ _ _ _ _ _ _ _ _ _ _ _ _ _ _ _ _ _ _ _ _ _ _ _ _ _ _ _ _ _ _ _ _ _ _ _ _ _ _ _ _ _ _ _ _ _ _ _ _ _ _ _ _ _ _ _ _ _ _ _ _ _ _ _ _ _ _ _ _ _ _ _ _ _ _ _ _ _ _ _ _ _ _ _ _ _ _ _ _ _ _ _ _ _ _ _ _ _ _ _ _ _ _ _ _ _ _ _ _ _ _ _ _ _ _ _ _ _ _ _ _ _ _ _ _ _ _ _ _ _ _ _ _ _ _ _ _ _ _ _ _ _ _ _ _ _ _ _ _ _ _ _ _ _ _ _ _ _ _ _ _ _ _ _ _ _ _ _ _ _ _ _ _ _ _ _ _ _ _ _ _ _ _ _ _ _ _ _ _ _ _ _ _ _ _ _ _ _ _ _ _ _ _ _ _ _ _ _ _ _ _ _ _ _ _ _ _ _ _ _ _ _ _ _ _ _ _ _ _ _ _ _ _ _ _ _ _ _ _ _ _ _ _ _ _ _ _ R B w Q J n cj hn h3 hgo)

set_option maxRecDepth 1000000 in
theorem pop_go_f {a : Act} (R B : Nat) (w : World) (Q : Exit → Act → World → Prop)
  (J n cj : Nat) (hn : n < 1000000000) (h3 : w.cell? ⟨B, 3, none⟩ = some (.slice (some ⟨J, 0, none⟩) (n + 1) cj)) (hf : w.frozen? ⟨B, 3, none⟩ = false) (hcj : n + 1 ≤ cj) (pc : Nat) (arg : Bool) (pos : Int)
  (j0 : w.cell? ⟨J, n * 3, none⟩ = some (.int .u32 pc)) (j1 : w.cell? ⟨J, n * 3 + 1, none⟩ = some (.bool arg)) (j2 : w.cell? ⟨J, n * 3 + 2, none⟩ = some (.int .i64 pos))
  (hgo : ∀ a, Frm R B pc pos arg a → Q (.goto 0) a (w.setCell ⟨B, 3, none⟩ (.slice (some ⟨J, 0, none⟩) n cj)))
  (hfr : Hed R B a) : btScope.wp Tryz.prog Q a w := by
 have e := hed_lit hfr
 exact Eq.mpr (congrArg (fun x => btScope.wp Tryz.prog Q x w) e) (pop_go _ _ _ _ _ _ _ _ _ _ _ _ _ _ _ _ _ _ _ _ _ _ _ _ _ _ _ _ _ _ _ _ _ _ _ _ _ _ _ _ _ _ _ _ _ _ _ _ _ _ _ _ _ _ _ _ _ _ _ _ _ _ _ _ _ _ _ _ _ _ _ _ _ _ _ _ _ _ _ _ _ _ _ _ _ _ _ _ _ _ _ _ _ _ _ _ _ _ _ _ _ _ _ _ _ _ _ _ _ _ _ _ _ _ _ _ _ _ _ _ _ _ _ _ _ _ _ _ _ _ _ _ _ _ _ _ _ _ _ _ _ _ _ _ _ _ _ _ _ _ _ _ _ _ _ _ _ _ _ _ _ _ _ _ _ _ _ _ _ _ _ _ _ _ _ _ _ _ _ _ _ _ _ _ _ _ _ _ _ _ _ _ _ _ _ _ _ _ _ _ _ _ _ _ _ _ _ _ _ _ _ _ _ _ _ _ _ _ _ _ _ _ _ _ _ _ _ _ _ _ _ _ _ _ _ _ _ _ _ _ _ _ _ _ _ _ _ _ _ _ _ _ _ _ _ _ _ _ _ _ _ _ _ _ _ _ _ _ _ _ _ _ _ _ _ _ _ _ _ _ _ _ _ _ _ _ _ _ _ _ _ _ _ _ _ _ _ _ _ _ _ _ _ _ _ _ _ _ _ _ _ _ _ _ _ _ _ _ _ _ _ _ _ _ _ _ _ _ _ _ _ _ _ _ _ _ _ _ _ _ _ _ _ _ _ _ _ _ _ _ _ _ _ _ _ _ _ _ _ _ _ _ _ _ _ _ _ _ _ _ _ _ _ _ _ _ _ _ _ _ _ _ _ _ _ _ _ _ _ _ _ _ _ _ _ _ _ R B w Q J n cj hn h3 hf hcj pc arg pos j0 j1 j2 hgo)

set_option maxRecDepth 1000000 in
theorem visit_no_f {a : Act} (R B : Nat) (w : World) (Q : Exit → Act → World → Prop)
  (pc : Nat) (pos : Int) (G : World → Prop) (hv : Calls Tryz.prog 120 #[.pointer (some ⟨B, 0, none⟩), .int .u32 pc, .int .i64 pos] w fun e w' => e = .returned (.bool false) ∧ G w') (hgo : ∀ a w', G w' → Hed R B a → Q (.exit 1) a w')
  (hfr : Frm R B pc pos false a) : (btRest 1).wp Tryz.prog Q a w := by
 have e := frm_lit hfr
 exact Eq.mpr (congrArg (fun x => (btRest 1).wp Tryz.prog Q x w) e) (visit_no _ _ _ _ _ _ _ _ _ _ _ _ _ _ _ _ _ _ _ _ _ _ _ _ _ _ _ _ _ _ _ _ _ _ _ _ _ _ _ _ _ _ _ _ _ _ _ _ _ _ _ _ _ _ _ _ _ _ _ _ _ _ _ _ _ _ _ _ _ _ _ _ _ _ _ _ _ _ _ _ _ _ _ _ _ _ _ _ _ _ _ _ _ _ _ _ _ _ _ _ _ _ _ _ _ _ _ _ _ _ _ _ _ _ _ _ _ _ _ _ _ _ _ _ _ _ _ _ _ _ _ _ _ _ _ _ _ _ _ _ _ _ _ _ _ _ _ _ _ _ _ _ _ _ _ _ _ _ _ _ _ _ _ _ _ _ _ _ _ _ _ _ _ _ _ _ _ _ _ _ _ _ _ _ _ _ _ _ _ _ _ _ _ _ _ _ _ _ _ _ _ _ _ _ _ _ _ _ _ _ _ _ _ _ _ _ _ _ _ _ _ _ _ _ _ _ _ _ _ _ _ _ _ _ _ _ _ _ _ _ _ _ _ _ _ _ _ _ _ _ _ _ _ _ _ _ _ _ _ _ _ _ _ _ _ _ _ _ _ _ _ _ _ _ _ _ _ _ _ _ _ _ _ _ _ _ _ _ _ _ _ _ _ _ _ _ _ _ _ _ _ _ _ _ _ _ _ _ _ _ _ _ _ _ _ _ _ _ _ _ _ _ _ _ _ _ _ _ _ _ _ _ _ _ _ _ _ _ _ _ _ _ _ _ _ _ _ _ _ _ _ _ _ _ _ _ _ _ _ _ _ _ _ _ _ _ _ _ _ _ _ _ _ _ _ _ _ _ _ _ _ _ _ _ _ _ _ _ _ _ _ _ _ _ R B w Q pc pos G hv hgo)

set_option maxRecDepth 1000000 in
theorem visit_yes_f {a : Act} (R B : Nat) (w : World) (Q : Exit → Act → World → Prop)
  (pc : Nat) (pos : Int) (G : World → Prop) (hv : Calls Tryz.prog 120 #[.pointer (some ⟨B, 0, none⟩), .int .u32 pc, .int .i64 pos] w fun e w' => e = .returned (.bool true) ∧ G w') (hgo : ∀ a w', G w' → Frm R B pc pos false a → btTail.wp Tryz.prog Q a w')
  (hfr : Frm R B pc pos false a) : (btRest 1).wp Tryz.prog Q a w := by
 have e := frm_lit hfr
 exact Eq.mpr (congrArg (fun x => (btRest 1).wp Tryz.prog Q x w) e) (visit_yes _ _ _ _ _ _ _ _ _ _ _ _ _ _ _ _ _ _ _ _ _ _ _ _ _ _ _ _ _ _ _ _ _ _ _ _ _ _ _ _ _ _ _ _ _ _ _ _ _ _ _ _ _ _ _ _ _ _ _ _ _ _ _ _ _ _ _ _ _ _ _ _ _ _ _ _ _ _ _ _ _ _ _ _ _ _ _ _ _ _ _ _ _ _ _ _ _ _ _ _ _ _ _ _ _ _ _ _ _ _ _ _ _ _ _ _ _ _ _ _ _ _ _ _ _ _ _ _ _ _ _ _ _ _ _ _ _ _ _ _ _ _ _ _ _ _ _ _ _ _ _ _ _ _ _ _ _ _ _ _ _ _ _ _ _ _ _ _ _ _ _ _ _ _ _ _ _ _ _ _ _ _ _ _ _ _ _ _ _ _ _ _ _ _ _ _ _ _ _ _ _ _ _ _ _ _ _ _ _ _ _ _ _ _ _ _ _ _ _ _ _ _ _ _ _ _ _ _ _ _ _ _ _ _ _ _ _ _ _ _ _ _ _ _ _ _ _ _ _ _ _ _ _ _ _ _ _ _ _ _ _ _ _ _ _ _ _ _ _ _ _ _ _ _ _ _ _ _ _ _ _ _ _ _ _ _ _ _ _ _ _ _ _ _ _ _ _ _ _ _ _ _ _ _ _ _ _ _ _ _ _ _ _ _ _ _ _ _ _ _ _ _ _ _ _ _ _ _ _ _ _ _ _ _ _ _ _ _ _ _ _ _ _ _ _ _ _ _ _ _ _ _ _ _ _ _ _ _ _ _ _ _ _ _ _ _ _ _ _ _ _ _ _ _ _ _ _ _ _ _ _ _ _ _ _ _ _ _ _ _ _ _ _ _ R B w Q pc pos G hv hgo)

end Go.Proofs.YtkbmigfkclnlaaaGreatDoor
namespace Go.Proofs.YtkbmigfkclnlaaaGreatDoor
open Go.RowKit Go.Rx

structure Wf (L : Lay) : Prop where
 nc : 2 ≤ L.nc ∧ L.nc < 100
 ops : ∀ pc, 0 < pc → pc < L.np → (L.pg pc).op = 0 ∨ (L.pg pc).op = 2 ∨ (L.pg pc).op = 3 ∨ (L.pg pc).op = 4 ∨ (L.pg pc).op = 6 ∨ (L.pg pc).op = 7 ∨ (L.pg pc).op = 8
 out : ∀ pc, 0 < pc → pc < L.np → (L.pg pc).op ≠ 4 → 0 < (L.pg pc).out ∧ (L.pg pc).out < L.np
 alt : ∀ pc, 0 < pc → pc < L.np → (L.pg pc).op = 0 → 0 < (L.pg pc).arg ∧ (L.pg pc).arg < L.np
 cap : ∀ pc, 0 < pc → pc < L.np → (L.pg pc).op = 2 → (L.pg pc).arg < L.nc
 ew : ∀ pc, 0 < pc → pc < L.np → (L.pg pc).op = 3 → (L.pg pc).arg = 4 ∨ (L.pg pc).arg = 8
 cls : ∀ pc, 0 < pc → pc < L.np → (L.pg pc).op = 7 → ClassLen (L.pg pc).rune.length ∧ classTakes (L.pg pc).rune (-1) = false
 one : ∀ pc, 0 < pc → pc < L.np → (L.pg pc).op = 8 → ∃ x, (L.pg pc).rune = [x] ∧ x ≠ -1

def envOf (L : Lay) (rank : Nat → Nat) (top : Nat) : Env where
 prog := L.pg
 n := L.s.size
 st := fun p => (runeAt L.s p, if p < L.s.size then 1 else 0)
 ew := fun a p => if a = 4 then decide (p = 0) else decide (p = L.s.size)
 takes := fun i r => if i.op = 7 then classTakes i.rune r else decide (i.rune = [r])
 rank := rank
 top := top

structure Good (L : Lay) (b : Env.BS) : Prop where
 cap : b.cap.length = L.nc
 mcap : b.mcap.length = L.nc
 mone : b.mcap[1]? = some (-1)
 jobs : ∀ j, j ∈ b.jobs → 0 < j.pc ∧ j.pc < L.np ∧ (((L.pg j.pc).op = 2 ∧ j.arg = true) ∨ (((L.pg j.pc).op = 0 ∨ j.arg = false) ∧ 0 ≤ j.pos ∧ j.pos ≤ L.en))
 len : b.jobs.length ≤ cnt L.np L.en b.vis

def Out (L : Lay) (Q : Exit → Act → World → Prop) : Env.BS × Env.Mode → Prop
 | (b, .pop) => ∀ a w, Hed L.R L.B a → BtMem L b w → Good L b → Q (.exit 1) a w
 | (b, .go pc pos) => 0 < pc → pc < L.np → pos ≤ L.en → ∀ a w, Frm L.R L.B pc pos false a → BtMem L b w → Good L b → Q (.goto 1) a w
 | (b, .fin ok) => ∀ a w, a.tmps.size = 401 → a.defers = [] → a.tmps.getD 10 undef = .bool ok → Below L.N L.w0 w → Blk w L.MC (intCells b.mcap) L.tM → Stands L w → Q .ret a w

structure Ctx (L : Lay) : Prop where
 ap : Apart L
 bd : Bounds L
 wf : Wf L
 en : L.en = L.s.size
 plain : Plain L.s

theorem step_any {L : Lay} (cx : Ctx L) {b : Env.BS} {w : World} (h : BtMem L b w) (pos : Nat) :
  Calls Tryz.prog 174 #[.pointer (some ⟨L.B, 5, none⟩), .int .i64 pos] w fun e w' => e = .returned (.tuple #[.int .i32 (runeAt L.s pos), .int .i64 ((if pos < L.s.size then 1 else 0 : Nat) : Int)]) ∧ w' = w := by
 obtain ⟨J, cj, h1, _⟩ := h.jobs
 have hs : w.cell? ⟨L.B, 5, none⟩ = some (.string L.s) := (h1.cell 5).trans rfl
 have hb := cx.bd.en
 have he := cx.en
 by_cases hp : pos < L.s.size
 ·unfold runeAt
  rw [dif_pos hp, if_pos hp]
  exact step_in L.B pos L.s w hs hp (cx.plain pos hp) (by omega)
 ·unfold runeAt
  rw [dif_neg hp, if_neg hp]
  exact step_end L.B pos L.s w hs hp

theorem context_any {L : Lay} (cx : Ctx L) {b : Env.BS} {w : World} (h : BtMem L b w) (pos : Nat) (hpos : pos ≤ L.en) :
  Calls Tryz.prog 171 #[.pointer (some ⟨L.B, 5, none⟩), .int .i64 pos] w fun e w' => e = .returned (.int .u64 (flagOf (runeAhead L.s pos) (runeAt L.s pos))) ∧ w' = w := by
 obtain ⟨J, cj, h1, _⟩ := h.jobs
 have hs : w.cell? ⟨L.B, 5, none⟩ = some (.string L.s) := (h1.cell 5).trans rfl
 have hb := cx.bd.en
 have he := cx.en
 by_cases hp : pos = 0
 ·subst hp
  exact context_zero L.B L.s w hs cx.plain (by omega)
 ·exact context_pos L.B pos L.s w hs cx.plain (by omega) (by omega) (by omega)

theorem rune_bounds {L : Lay} (cx : Ctx L) (pos : Nat) : -1 ≤ runeAt L.s pos ∧ runeAt L.s pos < 1114112 ∧ (runeAt L.s pos < 0 ↔ ¬ pos < L.s.size) := by
 unfold runeAt
 by_cases h : pos < L.s.size
 ·rw [dif_pos h]
  have := cx.plain pos h
  exact ⟨by omega, by omega, by constructor <;> intro <;> omega⟩
 ·rw [dif_neg h]
  exact ⟨by omega, by omega, by constructor <;> intro <;> omega⟩

theorem begin_iff {L : Lay} (cx : Ctx L) (pos : Nat) (hpos : pos ≤ L.s.size) : decide (wrap32 (flagOf (runeAhead L.s pos) (runeAt L.s pos) / 4294967296) < 0) = decide (pos = 0) := by
 unfold runeAhead
 by_cases h : pos = 0
 ·rw [if_pos h, flag_hi _ _ (by omega) (by omega)]
  simp [h]
 ·rw [if_neg h]
  obtain ⟨a, b, c⟩ := rune_bounds cx (pos - 1)
  rw [flag_hi _ _ a b]
  have : ¬ runeAt L.s (pos - 1) < 0 := by rw [c]; omega
  simp [this, h]

theorem end_iff {L : Lay} (cx : Ctx L) (pos : Nat) (hpos : pos ≤ L.s.size) : decide (wrap32 (flagOf (runeAhead L.s pos) (runeAt L.s pos)) < 0) = decide (pos = L.s.size) := by
 obtain ⟨a, b, c⟩ := rune_bounds cx pos
 rw [flag_lo _ _ a b]
 by_cases h : pos = L.s.size
 ·have : runeAt L.s pos < 0 := by rw [c]; omega
  simp [h]
  rw [← h]; exact this
 ·have : ¬ runeAt L.s pos < 0 := by rw [c]; omega
  simp [h]
  omega

theorem rune_end {L : Lay} {pos : Nat} (h : ¬ pos < L.s.size) : runeAt L.s pos = -1 := by unfold runeAt; rw [dif_neg h]

theorem enter_sim {L : Lay} (cx : Ctx L) (rank : Nat → Nat) (top : Nat) {b : Env.BS} {w : World} {a : Act} (h : BtMem L b w) (g : Good L b) (hl : b.jobs.length + 1 ≤ cnt L.np L.en b.vis) (pc pos : Nat) (hp0 : 0 < pc) (hpc : pc < L.np) (hpos : pos ≤ L.en)
  (hf : Frm L.R L.B pc pos false a) (Q : Exit → Act → World → Prop) (ho : Out L Q (Env.enter (envOf L rank top) b pc pos)) : btTail.wp Tryz.prog Q a w := by
 have wf := cx.wf
 have hen := cx.en
 have hbe := cx.bd.en
 have hs := step_any cx h pos
 have hwd : (if pos < L.s.size then 1 else 0 : Nat) < 10 := by split <;> omega
 have hn : b.jobs.length < 1000000000 := by
  have h1 := cnt_le L.np L.en b.vis
  have h2 : L.np * (L.en + 1) ≤ 500 * 262145 := Nat.mul_le_mul cx.bd.np (by omega)
  omega
 unfold Env.enter at ho
 rcases wf.ops pc hp0 hpc with hop | hop | hop | hop | hop | hop | hop
 ·-- alternatives
  simp only [envOf, hop, if_true] at ho
  obtain ⟨o1, o2⟩ := wf.out pc hp0 hpc (by omega)
  refine enter_alt_f L.N L.R L.PR L.I L.np L.pg w h.prog pc hp0 hpc L.B pos Q (BtMem L { b with jobs := ⟨pc, true, pos⟩ :: b.jobs }) (fun w' h' => h'.prog) (push_mem cx.ap cx.bd h pc hp0 hpc (by omega) hn pos) hop ?_ hf
  intro a' w' hf' h'
  refine ho o1 o2 hpos a' w' hf' h' ⟨g.cap, g.mcap, g.mone, ?_, hl⟩
  intro j hj
  rcases List.mem_cons.1 hj with rfl | hj
  ·exact ⟨hp0, hpc, .inr ⟨.inl hop, by simp, by simpa using hpos⟩⟩
  ·exact g.jobs j hj
 ·-- a capture
  have hK := wf.cap pc hp0 hpc hop
  obtain ⟨o1, o2⟩ := wf.out pc hp0 hpc (by omega)
  have hcl := g.cap
  simp only [envOf, hop] at ho
  simp [hcl, hK] at ho
  have hKl : (L.pg pc).arg < b.cap.length := by omega
  obtain ⟨v, hvd⟩ : ∃ v, v = b.cap[(L.pg pc).arg]'hKl := ⟨_, rfl⟩
  rw [← hvd] at ho
  have hv : b.cap[(L.pg pc).arg]? = some v := by rw [hvd]; exact List.getElem?_eq_getElem _
  clear hvd
  obtain ⟨J, cj, h1, _⟩ := h.jobs
  have hcc : w.cell? ⟨L.C, (L.pg pc).arg, none⟩ = some (.int .i64 v) := by rw [h.cap.cell]; unfold intCells; rw [List.getElem?_map, hv]; rfl
  have hIC : L.I ≠ L.C := by have := h.prog.lt; have := cx.ap.C; omega
  refine enter_cap_f L.N L.R L.PR L.I L.np L.pg w h.prog pc hp0 hpc L.B pos Q hop L.C L.nc v hK wf.nc.2 ((h1.cell 1).trans rfl) hcc h1.lt h.cap.lt hIC (BtMem L { b with jobs := ⟨pc, true, v⟩ :: b.jobs }) ?_ (fun y => push_mem cx.ap cx.bd (h.ext y) pc hp0 hpc (by omega) hn v) ?_ hf
  ·intro w' h'
   obtain ⟨J', cj', q1, _⟩ := h'.jobs
   refine ⟨h'.prog, (q1.cell 1).trans rfl, ⟨.int .i64 v, ?_⟩, h'.cap.free _, q1.lt, h'.cap.lt⟩
   rw [h'.cap.cell]; unfold intCells; rw [List.getElem?_map, hv]; rfl
  ·intro a' w1 y h' hf'
   refine ho o1 o2 hpos a' _ hf' (BtMem.setCap cx.ap (h'.ext y) _ pos) ⟨by simpa using hcl, g.mcap, g.mone, ?_, hl⟩
   intro j hj
   rcases List.mem_cons.1 hj with rfl | hj
   ·exact ⟨hp0, hpc, .inl ⟨hop, rfl⟩⟩
   ·exact g.jobs j hj
 ·-- an empty width
  obtain ⟨o1, o2⟩ := wf.out pc hp0 hpc (by omega)
  have hctx := context_any cx h pos hpos
  simp only [envOf, hop] at ho
  rcases wf.ew pc hp0 hpc hop with har | har
  ·have hm := flag_begin (flagOf (runeAhead L.s pos) (runeAt L.s pos)) w
   rw [begin_iff cx pos (by omega)] at hm
   by_cases hz : pos = 0
   ·simp [har, hz] at ho
    rw [decide_eq_true hz] at hm
    refine enter_empty4_true_f L.N L.R L.PR L.I L.np L.pg w h.prog pc hp0 hpc L.B pos Q hop har _ hctx hm ?_ hf
    intro a' hf'
    rw [hz] at hf'
    exact ho o1 o2 (by omega) a' w hf' h g
   ·simp [har, hz] at ho
    rw [decide_eq_false hz] at hm
    refine enter_empty4_false_f L.N L.R L.PR L.I L.np L.pg w h.prog pc hp0 hpc L.B pos Q hop har _ hctx hm ?_ hf
    intro a' hf'
    exact ho a' w hf' h g
  ·have hm := flag_end (flagOf (runeAhead L.s pos) (runeAt L.s pos)) w
   rw [end_iff cx pos (by omega)] at hm
   by_cases hz : pos = L.s.size
   ·rw [decide_eq_true hz] at hm
    simp [har, hz] at ho
    refine enter_empty8_true_f L.N L.R L.PR L.I L.np L.pg w h.prog pc hp0 hpc L.B pos Q hop har _ hctx hm ?_ hf
    intro a' hf'
    rw [hz] at hf'
    exact ho o1 o2 (by omega) a' w hf' h g
   ·rw [decide_eq_false hz] at hm
    simp [har, hz] at ho
    refine enter_empty8_false_f L.N L.R L.PR L.I L.np L.pg w h.prog pc hp0 hpc L.B pos Q hop har _ hctx hm ?_ hf
    intro a' hf'
    exact ho a' w hf' h g
 ·-- the match
  have hcl := g.cap
  have hnc := wf.nc
  have hg1 : b.mcap.getD 1 0 = -1 := by rw [List.getD_eq_getElem?_getD, g.mone]; rfl
  simp only [envOf, hop] at ho
  simp only [hcl, hg1] at ho
  simp [show ¬ L.nc = 0 by omega, show 1 < L.nc by omega] at ho
  obtain ⟨J, cj, h1, _⟩ := h.jobs
  have hCR : L.C ≠ L.R := by have := h.prog.lt; have := cx.ap.C; omega
  refine enter_match_f L.N L.R L.PR L.I L.np L.pg w h.prog pc hp0 hpc L.B pos Q hop L.C L.MC L.nc _ (intCells b.cap) (intCells b.mcap) L.tB L.tC L.tM h1 h.cap h.mcap rfl rfl (by simpa [intCells] using hcl) (by simpa [intCells] using g.mcap) hnc.1 hnc.2 ?_ ?_ ⟨cx.ap.BC, fun e => cx.ap.CM e.symm, hCR⟩ cx.ap.BM ?_ hf
  ·unfold intCells; rw [List.getElem?_map, g.mone]; rfl
  ·intro v hv
   unfold intCells at hv
   obtain ⟨x, _, rfl⟩ := List.mem_map.1 hv
   rfl
  ·intro a' w' s1 s2 s3 s4 s5
   refine ho a' w' s1 s2 s3 (h.below.trans (s5.below h.prog.le ?_)) ?_ ⟨_, _, _, h1.chg s5 (by simp; exact ⟨cx.ap.BC, cx.ap.BM⟩)⟩
   ·intro x hx
    have := cx.ap.C
    have := cx.ap.MC
    simp at hx
    omega
   ·unfold intCells at s4 ⊢
    rw [List.map_set]
    exact s4
 ·-- no operation
  simp only [envOf, hop] at ho
  obtain ⟨o1, o2⟩ := wf.out pc hp0 hpc (by omega)
  refine enter_nop_f L.N L.R L.PR L.I L.np L.pg w h.prog pc hp0 hpc L.B pos Q hop ?_ hf
  intro a' hf'
  exact ho o1 o2 hpos a' w hf' h g
 ·-- a class
  simp only [envOf, hop] at ho
  obtain ⟨o1, o2⟩ := wf.out pc hp0 hpc (by omega)
  obtain ⟨c1, c2⟩ := wf.cls pc hp0 hpc hop
  cases htk : classTakes (L.pg pc).rune (runeAt L.s pos) with
  | true =>
   simp [htk] at ho
   refine enter_rune_yes_f L.N L.R L.PR L.I L.np L.pg w h.prog pc hp0 hpc L.B pos Q _ _ hs hwd (by omega) hop c1 htk ?_ hf
   intro a' hf'
   have hlt : pos < L.s.size := by
    by_cases hlt : pos < L.s.size
    ·exact hlt
    ·rw [rune_end hlt, c2] at htk; cases htk
   rw [if_pos hlt] at ho hf'
   exact ho o1 o2 (by omega) a' w (by simpa using hf') h g
  | false =>
   simp [htk] at ho
   refine enter_rune_no_f L.N L.R L.PR L.I L.np L.pg w h.prog pc hp0 hpc L.B pos Q _ _ hs hwd (by omega) hop c1 htk ?_ hf
   intro a' hf'
   exact ho a' w hf' h g
 ·-- one rune
  obtain ⟨o1, o2⟩ := wf.out pc hp0 hpc (by omega)
  obtain ⟨x, hx, hx1⟩ := wf.one pc hp0 hpc hop
  simp only [envOf, hop] at ho
  by_cases hr : runeAt L.s pos = x
  ·simp [hx, hr] at ho
   refine enter_rune1_yes_f L.N L.R L.PR L.I L.np L.pg w h.prog pc hp0 hpc L.B pos Q _ _ hs hwd (by omega) hop x hx hr ?_ hf
   intro a' hf'
   have hlt : pos < L.s.size := by
    by_cases hlt : pos < L.s.size
    ·exact hlt
    ·rw [rune_end hlt] at hr; exact absurd hr.symm hx1
   rw [if_pos hlt] at ho hf'
   exact ho o1 o2 (by omega) a' w (by simpa using hf') h g
  ·simp [hx, Ne.symm hr] at ho
   refine enter_rune1_no_f L.N L.R L.PR L.I L.np L.pg w h.prog pc hp0 hpc L.B pos Q _ _ hs hwd (by omega) hop x hx hr ?_ hf
   intro a' hf'
   exact ho a' w hf' h g

end Go.Proofs.YtkbmigfkclnlaaaGreatDoor
namespace Go.Proofs.YtkbmigfkclnlaaaGreatDoor
open Go.RowKit Go.Rx

theorem ex_least {S : Nat → Prop} : ∀ n k, k ≤ n → S k → ∃ m, S m ∧ ∀ j, S j → m ≤ j := by
 intro n
 induction n with
 | zero =>
  intro k hk h
  obtain rfl : k = 0 := by omega
  exact ⟨0, h, fun j _ => Nat.zero_le j⟩
 | succ n ih =>
  intro k hk h
  by_cases hc : ∃ j, j ≤ n ∧ S j
  ·obtain ⟨j, hj, hs⟩ := hc
   exact ih j hj hs
  ·refine ⟨k, h, fun j hj => ?_⟩
   rcases Nat.lt_or_ge n j with hl | hl
   ·omega
   ·exact absurd ⟨j, hl, hj⟩ hc

open Classical in
noncomputable def least (S : Nat → Prop) : Nat := if h : ∃ m, S m ∧ ∀ j, S j → m ≤ j then Classical.choose h else 0

theorem least_is {S : Nat → Prop} {k : Nat} (h : S k) : S (least S) ∧ least S ≤ k := by
 have he := ex_least (S := S) k k (Nat.le_refl _) h
 unfold least
 rw [dif_pos he]
 have := Classical.choose_spec he
 exact ⟨this.1, this.2 k h⟩

section
variable {P : Program} {a : Act} {w : World} {Q : Exit → Act → World → Prop}

theorem wp_scope_nat {c : Code} (S : Nat → Nat → Act → World → Prop) (first : c.wp P (Exit.jumps (fun l a w => ∃ k, S l k a w) Q) a w)
  (pass : ∀ k l a w, S l k a w → ∃ rest, findLabel c l = some rest ∧ rest.wp P (Exit.jumps (fun l' a' w' => ∃ k', k' < k ∧ S l' k' a' w') Q) a w) : (Code.scope c).wp P Q a w := by
 refine wp_scope_labels (fun l a w => ∃ k, S l k a w) (fun l a w => least fun k => S l k a w) first ?_
 rintro l a w ⟨k, hk⟩
 obtain ⟨hs, _⟩ := least_is (S := fun k => S l k a w) hk
 obtain ⟨rest, hf, hw⟩ := pass _ l a w hs
 refine ⟨rest, hf, wp_mono hw ?_⟩
 intro e a' w' h
 cases e with
 | goto l' =>
  obtain ⟨k', hlt, hs'⟩ := h
  exact ⟨⟨k', hs'⟩, Nat.lt_of_le_of_lt (least_is (S := fun k => S l' k a' w') hs').2 hlt⟩
 | normal => exact h
 | exit _ => exact h
 | ret => exact h
 | panic _ => exact h
 | outgrown => exact h

theorem wp_loop_nat {c : Code} (S : Nat → Act → World → Prop) (k : Nat) (h0 : S k a w)
  (round : ∀ k a w, S k a w → c.wp P (Exit.then (fun a' w' => ∃ k', k' < k ∧ S k' a' w') Q) a w) : (Code.loop c).wp P Q a w := by
 refine wp_loop (fun a w => ∃ k, S k a w) (fun a w => least fun k => S k a w) ⟨k, h0⟩ ?_
 rintro a w ⟨k, hk⟩
 obtain ⟨hs, _⟩ := least_is (S := fun k => S k a w) hk
 refine wp_mono (round _ a w hs) ?_
 intro e a' w' h
 cases e with
 | normal =>
  obtain ⟨k', hlt, hs'⟩ := h
  exact ⟨⟨k', hs'⟩, Nat.lt_of_le_of_lt (least_is (S := fun k => S k a' w') hs').2 hlt⟩
 | goto _ => exact h
 | exit _ => exact h
 | ret => exact h
 | panic _ => exact h
 | outgrown => exact h

end
end Go.Proofs.YtkbmigfkclnlaaaGreatDoor
