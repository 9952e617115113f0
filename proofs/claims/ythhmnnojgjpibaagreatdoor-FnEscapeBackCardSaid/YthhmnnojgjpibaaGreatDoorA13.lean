/- text: its loop, between tags. -/
import Derived.Test.YthhmnnojgjpibaaGreatDoorA11
import Derived.Test.YthhmnnojgjpibaaGreatDoorA12

set_option linter.unusedVariables false
set_option linter.unusedSimpArgs false

namespace Go.Proofs.YthhmnnojgjpibaaGreatDoor
open Go Go.RowKit Go.Lib

attribute [local go_sem ↓] Go.wp_at_zero Go.wp_at_succ
set_option maxHeartbeats 4000000 in
set_option maxRecDepth 1000000 in
theorem rdT_end {I : Ids} {Fq : Nat → Prop} {B : Nat → Option Value} {v r : List UInt8} {f : Bool} {wr : World} {u : Nat → Value} {x7 x8 : Int} {N : Act → World → Prop} {Q0 : Exit → Act → World → Prop} (hI : IdOk I) (hB : BOk I B) (hd : DS I Fq B v (60 :: r) f wr) (hX : ∀ a' w', TxtA I (-1) a' → DS I Fq B v (60 :: r) false w' → Stp Fq Fq wr w' → Q0 (.exit 0) a' w') :
    Code.wp Tryz.prog txtBody (Exit.then N Q0) ⟨List.toArray (.pointer (some ⟨I.dd, 0, none⟩) :: .int .i64 (-1) :: .bool false :: u 3 :: u 4 :: u 5 :: u 6 :: .int .u8 x7 :: .int .u8 x8 :: .int .i64 0 :: u 10 :: u 11 :: u 12 :: u 13 :: u 14 :: u 15 :: u 16 :: u 17 :: u 18 :: u 19 :: u 20 :: u 21 :: u 22 :: u 23 :: u 24 :: u 25 :: u 26 :: u 27 :: u 28 :: u 29 :: u 30 :: u 31 :: u 32 :: u 33 :: u 34 :: u 35 :: u 36 :: u 37 :: u 38 :: u 39 :: u 40 :: u 41 :: u 42 :: u 43 :: u 44 :: u 45 :: u 46 :: u 47 :: u 48 :: u 49 :: u 50 :: u 51 :: u 52 :: u 53 :: u 54 :: u 55 :: u 56 :: u 57 :: u 58 :: u 59 :: u 60 :: u 61 :: u 62 :: u 63 :: u 64 :: u 65 :: u 66 :: u 67 :: u 68 :: u 69 :: u 70 :: u 71 :: u 72 :: u 73 :: u 74 :: u 75 :: u 76 :: u 77 :: u 78 :: u 79 :: u 80 :: u 81 :: u 82 :: u 83 :: u 84 :: u 85 :: u 86 :: u 87 :: u 88 :: u 89 :: u 90 :: u 91 :: u 92 :: u 93 :: u 94 :: u 95 :: u 96 :: u 97 :: u 98 :: u 99 :: u 100 :: u 101 :: u 102 :: u 103 :: u 104 :: u 105 :: u 106 :: u 107 :: u 108 :: u 109 :: u 110 :: u 111 :: u 112 :: u 113 :: u 114 :: u 115 :: u 116 :: u 117 :: u 118 :: u 119 :: u 120 :: u 121 :: u 122 :: u 123 :: u 124 :: u 125 :: u 126 :: u 127 :: u 128 :: u 129 :: u 130 :: u 131 :: u 132 :: u 133 :: u 134 :: u 135 :: u 136 :: u 137 :: u 138 :: u 139 :: u 140 :: u 141 :: u 142 :: u 143 :: u 144 :: u 145 :: u 146 :: u 147 :: u 148 :: u 149 :: u 150 :: u 151 :: u 152 :: u 153 :: u 154 :: u 155 :: u 156 :: u 157 :: u 158 :: u 159 :: u 160 :: u 161 :: u 162 :: u 163 :: u 164 :: u 165 :: u 166 :: u 167 :: u 168 :: u 169 :: u 170 :: u 171 :: u 172 :: u 173 :: u 174 :: u 175 :: u 176 :: u 177 :: u 178 :: u 179 :: u 180 :: u 181 :: u 182 :: u 183 :: u 184 :: u 185 :: u 186 :: u 187 :: u 188 :: u 189 :: u 190 :: u 191 :: u 192 :: u 193 :: u 194 :: u 195 :: u 196 :: u 197 :: u 198 :: u 199 :: u 200 :: u 201 :: u 202 :: u 203 :: u 204 :: u 205 :: u 206 :: u 207 :: u 208 :: u 209 :: u 210 :: u 211 :: u 212 :: u 213 :: u 214 :: u 215 :: u 216 :: u 217 :: u 218 :: u 219 :: u 220 :: u 221 :: u 222 :: u 223 :: u 224 :: u 225 :: u 226 :: u 227 :: u 228 :: u 229 :: u 230 :: u 231 :: u 232 :: u 233 :: u 234 :: u 235 :: u 236 :: u 237 :: u 238 :: u 239 :: u 240 :: u 241 :: u 242 :: u 243 :: u 244 :: u 245 :: u 246 :: u 247 :: u 248 :: u 249 :: u 250 :: u 251 :: u 252 :: u 253 :: u 254 :: u 255 :: u 256 :: u 257 :: u 258 :: u 259 :: u 260 :: u 261 :: u 262 :: u 263 :: u 264 :: u 265 :: u 266 :: u 267 :: u 268 :: u 269 :: u 270 :: u 271 :: u 272 :: u 273 :: u 274 :: u 275 :: u 276 :: u 277 :: u 278 :: u 279 :: u 280 :: u 281 :: u 282 :: u 283 :: u 284 :: u 285 :: u 286 :: u 287 :: u 288 :: u 289 :: u 290 :: u 291 :: u 292 :: u 293 :: u 294 :: u 295 :: u 296 :: u 297 :: u 298 :: u 299 :: u 300 :: u 301 :: u 302 :: u 303 :: u 304 :: u 305 :: u 306 :: u 307 :: u 308 :: u 309 :: u 310 :: u 311 :: u 312 :: u 313 :: u 314 :: u 315 :: u 316 :: u 317 :: u 318 :: u 319 :: u 320 :: u 321 :: u 322 :: u 323 :: u 324 :: u 325 :: u 326 :: u 327 :: u 328 :: u 329 :: u 330 :: u 331 :: u 332 :: u 333 :: u 334 :: u 335 :: u 336 :: u 337 :: u 338 :: u 339 :: u 340 :: u 341 :: u 342 :: u 343 :: u 344 :: u 345 :: u 346 :: u 347 :: u 348 :: u 349 :: u 350 :: u 351 :: u 352 :: u 353 :: u 354 :: u 355 :: u 356 :: u 357 :: u 358 :: u 359 :: u 360 :: u 361 :: u 362 :: u 363 :: u 364 :: u 365 :: u 366 :: u 367 :: u 368 :: u 369 :: u 370 :: u 371 :: u 372 :: u 373 :: u 374 :: u 375 :: u 376 :: u 377 :: u 378 :: u 379 :: u 380 :: u 381 :: u 382 :: u 383 :: []), []⟩ wr := by
  have HB := Lib.hid hB
  have HX := Lib.hid hX
  have HS := Lib.hid (Stp.refl Fq wr)
  have HD := Lib.hid hd
  clear hX hB hd
  conv => arg 2; whnf
  go_upto_region 10 with ((go_at_call 36; refine (getc_n hI HB.out HD.out 60 (by decide)).mono ?_; rintro e w1 ⟨rfl, h1, e1⟩; have HC1 := Lib.hid h1; have HT1 := Lib.hid (HS.out.trans (Stp.of e1)); clear h1 e1))
  go_cut [66] from 53 to 66 (fun s66 wx => s66 = .bool false ∧ wx = w1)
  case first =>
    go_wp2
    all_goals (go_meet; exact ⟨rfl, rfl⟩)
  case rest =>
  obtain ⟨rfl, rfl⟩ := hcut
  go_wp2_with (first | (go_at_call 37; refine (ungetc_n 60 60 (by decide) HC1.out).mono ?_; rintro e w2 ⟨rfl, h2, e2⟩; have HC2 := Lib.hid h2; have HT2 := Lib.hid (HT1.out.trans (Stp.of e2)); clear h2 e2) | (go_at_call 36; refine (getc_n hI HB.out HD.out 60 (by decide)).mono ?_; rintro e w1 ⟨rfl, h1, e1⟩; have HC1 := Lib.hid h1; have HT1 := Lib.hid (HS.out.trans (Stp.of e1)); clear h1 e1))
  exact HX.out _ _ ⟨rfl, rfl, rfl, rfl, rfl, ⟨_, rfl⟩, ⟨_, rfl⟩, rfl⟩ HC2.out HT2.out
set_option maxRecDepth 1000000 in
theorem frameT {I : Ids} {a : Act} (h : TxtA I (-1) a) : ∃ (u : Nat → Value) (x7 x8 : Int), a = ⟨List.toArray (.pointer (some ⟨I.dd, 0, none⟩) :: .int .i64 (-1) :: .bool false :: u 3 :: u 4 :: u 5 :: u 6 :: .int .u8 x7 :: .int .u8 x8 :: .int .i64 0 :: u 10 :: u 11 :: u 12 :: u 13 :: u 14 :: u 15 :: u 16 :: u 17 :: u 18 :: u 19 :: u 20 :: u 21 :: u 22 :: u 23 :: u 24 :: u 25 :: u 26 :: u 27 :: u 28 :: u 29 :: u 30 :: u 31 :: u 32 :: u 33 :: u 34 :: u 35 :: u 36 :: u 37 :: u 38 :: u 39 :: u 40 :: u 41 :: u 42 :: u 43 :: u 44 :: u 45 :: u 46 :: u 47 :: u 48 :: u 49 :: u 50 :: u 51 :: u 52 :: u 53 :: u 54 :: u 55 :: u 56 :: u 57 :: u 58 :: u 59 :: u 60 :: u 61 :: u 62 :: u 63 :: u 64 :: u 65 :: u 66 :: u 67 :: u 68 :: u 69 :: u 70 :: u 71 :: u 72 :: u 73 :: u 74 :: u 75 :: u 76 :: u 77 :: u 78 :: u 79 :: u 80 :: u 81 :: u 82 :: u 83 :: u 84 :: u 85 :: u 86 :: u 87 :: u 88 :: u 89 :: u 90 :: u 91 :: u 92 :: u 93 :: u 94 :: u 95 :: u 96 :: u 97 :: u 98 :: u 99 :: u 100 :: u 101 :: u 102 :: u 103 :: u 104 :: u 105 :: u 106 :: u 107 :: u 108 :: u 109 :: u 110 :: u 111 :: u 112 :: u 113 :: u 114 :: u 115 :: u 116 :: u 117 :: u 118 :: u 119 :: u 120 :: u 121 :: u 122 :: u 123 :: u 124 :: u 125 :: u 126 :: u 127 :: u 128 :: u 129 :: u 130 :: u 131 :: u 132 :: u 133 :: u 134 :: u 135 :: u 136 :: u 137 :: u 138 :: u 139 :: u 140 :: u 141 :: u 142 :: u 143 :: u 144 :: u 145 :: u 146 :: u 147 :: u 148 :: u 149 :: u 150 :: u 151 :: u 152 :: u 153 :: u 154 :: u 155 :: u 156 :: u 157 :: u 158 :: u 159 :: u 160 :: u 161 :: u 162 :: u 163 :: u 164 :: u 165 :: u 166 :: u 167 :: u 168 :: u 169 :: u 170 :: u 171 :: u 172 :: u 173 :: u 174 :: u 175 :: u 176 :: u 177 :: u 178 :: u 179 :: u 180 :: u 181 :: u 182 :: u 183 :: u 184 :: u 185 :: u 186 :: u 187 :: u 188 :: u 189 :: u 190 :: u 191 :: u 192 :: u 193 :: u 194 :: u 195 :: u 196 :: u 197 :: u 198 :: u 199 :: u 200 :: u 201 :: u 202 :: u 203 :: u 204 :: u 205 :: u 206 :: u 207 :: u 208 :: u 209 :: u 210 :: u 211 :: u 212 :: u 213 :: u 214 :: u 215 :: u 216 :: u 217 :: u 218 :: u 219 :: u 220 :: u 221 :: u 222 :: u 223 :: u 224 :: u 225 :: u 226 :: u 227 :: u 228 :: u 229 :: u 230 :: u 231 :: u 232 :: u 233 :: u 234 :: u 235 :: u 236 :: u 237 :: u 238 :: u 239 :: u 240 :: u 241 :: u 242 :: u 243 :: u 244 :: u 245 :: u 246 :: u 247 :: u 248 :: u 249 :: u 250 :: u 251 :: u 252 :: u 253 :: u 254 :: u 255 :: u 256 :: u 257 :: u 258 :: u 259 :: u 260 :: u 261 :: u 262 :: u 263 :: u 264 :: u 265 :: u 266 :: u 267 :: u 268 :: u 269 :: u 270 :: u 271 :: u 272 :: u 273 :: u 274 :: u 275 :: u 276 :: u 277 :: u 278 :: u 279 :: u 280 :: u 281 :: u 282 :: u 283 :: u 284 :: u 285 :: u 286 :: u 287 :: u 288 :: u 289 :: u 290 :: u 291 :: u 292 :: u 293 :: u 294 :: u 295 :: u 296 :: u 297 :: u 298 :: u 299 :: u 300 :: u 301 :: u 302 :: u 303 :: u 304 :: u 305 :: u 306 :: u 307 :: u 308 :: u 309 :: u 310 :: u 311 :: u 312 :: u 313 :: u 314 :: u 315 :: u 316 :: u 317 :: u 318 :: u 319 :: u 320 :: u 321 :: u 322 :: u 323 :: u 324 :: u 325 :: u 326 :: u 327 :: u 328 :: u 329 :: u 330 :: u 331 :: u 332 :: u 333 :: u 334 :: u 335 :: u 336 :: u 337 :: u 338 :: u 339 :: u 340 :: u 341 :: u 342 :: u 343 :: u 344 :: u 345 :: u 346 :: u 347 :: u 348 :: u 349 :: u 350 :: u 351 :: u 352 :: u 353 :: u 354 :: u 355 :: u 356 :: u 357 :: u 358 :: u 359 :: u 360 :: u 361 :: u 362 :: u 363 :: u 364 :: u 365 :: u 366 :: u 367 :: u 368 :: u 369 :: u 370 :: u 371 :: u 372 :: u 373 :: u 374 :: u 375 :: u 376 :: u 377 :: u 378 :: u 379 :: u 380 :: u 381 :: u 382 :: u 383 :: []), []⟩ := by
  obtain ⟨t, d⟩ := a
  obtain ⟨hd, hs, h0, h1, h2, ⟨x7, h7⟩, ⟨x8, h8⟩, h9⟩ := h
  simp only at hd hs h0 h1 h2 h7 h8 h9
  subst hd
  have e : t = ((List.range 384).map (fun i => t.getD i undef)).toArray := by
    apply Array.ext
    · simp [hs]
    · intro i hi1 hi2
      simp [Array.getD, hi1]
  obtain ⟨u, hu⟩ : ∃ u : Nat → Value, u = fun i => t.getD i undef := ⟨_, rfl⟩
  have e2 : (List.range 384).map u = u 0 :: u 1 :: u 2 :: u 3 :: u 4 :: u 5 :: u 6 :: u 7 :: u 8 :: u 9 :: u 10 :: u 11 :: u 12 :: u 13 :: u 14 :: u 15 :: u 16 :: u 17 :: u 18 :: u 19 :: u 20 :: u 21 :: u 22 :: u 23 :: u 24 :: u 25 :: u 26 :: u 27 :: u 28 :: u 29 :: u 30 :: u 31 :: u 32 :: u 33 :: u 34 :: u 35 :: u 36 :: u 37 :: u 38 :: u 39 :: u 40 :: u 41 :: u 42 :: u 43 :: u 44 :: u 45 :: u 46 :: u 47 :: u 48 :: u 49 :: u 50 :: u 51 :: u 52 :: u 53 :: u 54 :: u 55 :: u 56 :: u 57 :: u 58 :: u 59 :: u 60 :: u 61 :: u 62 :: u 63 :: u 64 :: u 65 :: u 66 :: u 67 :: u 68 :: u 69 :: u 70 :: u 71 :: u 72 :: u 73 :: u 74 :: u 75 :: u 76 :: u 77 :: u 78 :: u 79 :: u 80 :: u 81 :: u 82 :: u 83 :: u 84 :: u 85 :: u 86 :: u 87 :: u 88 :: u 89 :: u 90 :: u 91 :: u 92 :: u 93 :: u 94 :: u 95 :: u 96 :: u 97 :: u 98 :: u 99 :: u 100 :: u 101 :: u 102 :: u 103 :: u 104 :: u 105 :: u 106 :: u 107 :: u 108 :: u 109 :: u 110 :: u 111 :: u 112 :: u 113 :: u 114 :: u 115 :: u 116 :: u 117 :: u 118 :: u 119 :: u 120 :: u 121 :: u 122 :: u 123 :: u 124 :: u 125 :: u 126 :: u 127 :: u 128 :: u 129 :: u 130 :: u 131 :: u 132 :: u 133 :: u 134 :: u 135 :: u 136 :: u 137 :: u 138 :: u 139 :: u 140 :: u 141 :: u 142 :: u 143 :: u 144 :: u 145 :: u 146 :: u 147 :: u 148 :: u 149 :: u 150 :: u 151 :: u 152 :: u 153 :: u 154 :: u 155 :: u 156 :: u 157 :: u 158 :: u 159 :: u 160 :: u 161 :: u 162 :: u 163 :: u 164 :: u 165 :: u 166 :: u 167 :: u 168 :: u 169 :: u 170 :: u 171 :: u 172 :: u 173 :: u 174 :: u 175 :: u 176 :: u 177 :: u 178 :: u 179 :: u 180 :: u 181 :: u 182 :: u 183 :: u 184 :: u 185 :: u 186 :: u 187 :: u 188 :: u 189 :: u 190 :: u 191 :: u 192 :: u 193 :: u 194 :: u 195 :: u 196 :: u 197 :: u 198 :: u 199 :: u 200 :: u 201 :: u 202 :: u 203 :: u 204 :: u 205 :: u 206 :: u 207 :: u 208 :: u 209 :: u 210 :: u 211 :: u 212 :: u 213 :: u 214 :: u 215 :: u 216 :: u 217 :: u 218 :: u 219 :: u 220 :: u 221 :: u 222 :: u 223 :: u 224 :: u 225 :: u 226 :: u 227 :: u 228 :: u 229 :: u 230 :: u 231 :: u 232 :: u 233 :: u 234 :: u 235 :: u 236 :: u 237 :: u 238 :: u 239 :: u 240 :: u 241 :: u 242 :: u 243 :: u 244 :: u 245 :: u 246 :: u 247 :: u 248 :: u 249 :: u 250 :: u 251 :: u 252 :: u 253 :: u 254 :: u 255 :: u 256 :: u 257 :: u 258 :: u 259 :: u 260 :: u 261 :: u 262 :: u 263 :: u 264 :: u 265 :: u 266 :: u 267 :: u 268 :: u 269 :: u 270 :: u 271 :: u 272 :: u 273 :: u 274 :: u 275 :: u 276 :: u 277 :: u 278 :: u 279 :: u 280 :: u 281 :: u 282 :: u 283 :: u 284 :: u 285 :: u 286 :: u 287 :: u 288 :: u 289 :: u 290 :: u 291 :: u 292 :: u 293 :: u 294 :: u 295 :: u 296 :: u 297 :: u 298 :: u 299 :: u 300 :: u 301 :: u 302 :: u 303 :: u 304 :: u 305 :: u 306 :: u 307 :: u 308 :: u 309 :: u 310 :: u 311 :: u 312 :: u 313 :: u 314 :: u 315 :: u 316 :: u 317 :: u 318 :: u 319 :: u 320 :: u 321 :: u 322 :: u 323 :: u 324 :: u 325 :: u 326 :: u 327 :: u 328 :: u 329 :: u 330 :: u 331 :: u 332 :: u 333 :: u 334 :: u 335 :: u 336 :: u 337 :: u 338 :: u 339 :: u 340 :: u 341 :: u 342 :: u 343 :: u 344 :: u 345 :: u 346 :: u 347 :: u 348 :: u 349 :: u 350 :: u 351 :: u 352 :: u 353 :: u 354 :: u 355 :: u 356 :: u 357 :: u 358 :: u 359 :: u 360 :: u 361 :: u 362 :: u 363 :: u 364 :: u 365 :: u 366 :: u 367 :: u 368 :: u 369 :: u 370 :: u 371 :: u 372 :: u 373 :: u 374 :: u 375 :: u 376 :: u 377 :: u 378 :: u 379 :: u 380 :: u 381 :: u 382 :: u 383 :: [] := by kernel_rfl
  have g0 : u 0 = _ := (congrFun hu 0).trans h0
  have g1 : u 1 = _ := (congrFun hu 1).trans h1
  have g2 : u 2 = _ := (congrFun hu 2).trans h2
  have g7 : u 7 = _ := (congrFun hu 7).trans h7
  have g8 : u 8 = _ := (congrFun hu 8).trans h8
  have g9 : u 9 = _ := (congrFun hu 9).trans h9
  rw [g0, g1, g2, g7, g8, g9] at e2
  rw [← hu, e2] at e
  exact ⟨u, x7, x8, by rw [e]⟩
set_option maxRecDepth 1000000 in
theorem loopT {I : Ids} {Fp : Nat → Prop} {B : Nat → Option Value} {v r : List UInt8} {fr : Bool} {w : World} {Q0 : Exit → Act → World → Prop} (hI : IdOk I) (hB : BOk I B) (hv : v.length ≤ 1000) (h : DS I Fp B [] (esc v ++ 60 :: r) fr w) (a : Act) (ha : TxtA I (-1) a)
    (hX : ∀ a' w' Fp', TxtA I (-1) a' → DS I Fp' B v (60 :: r) false w' → Stp Fp Fp' w w' → Q0 (.exit 0) a' w') : Code.wp Tryz.prog (Code.loop txtBody) Q0 a w := by
  refine wp_loop_ghost (fun gk a wx => TxtA I (-1) a ∧ ∃ (j : Nat) (Fq : Nat → Prop) (f : Bool), j ≤ v.length ∧ gk = v.length - j ∧ DS I Fq B (v.take j) (esc (v.drop j) ++ 60 :: r) f wx ∧ Stp Fp Fq w wx) v.length ⟨ha, 0, Fp, fr, Nat.zero_le _, rfl, h, Stp.refl _ _⟩ ?_
  rintro n a wr ⟨hA, j, Fq, f, hj, rfl, hd, hs⟩
  obtain ⟨u, x7, x8, rfl⟩ := frameT hA
  by_cases hlt : j < v.length
  · obtain ⟨c, hc⟩ : ∃ c, c = v[j] := ⟨_, rfl⟩
    have nx : ∀ a' w' Fp', TxtA I (-1) a' → DS I Fp' B (v.take j ++ [c]) (esc (v.drop (j + 1)) ++ 60 :: r) true w' → Stp Fq Fp' wr w' →
        ∃ n', n' < v.length - j ∧ TxtA I (-1) a' ∧ ∃ (j : Nat) (Fq : Nat → Prop) (f : Bool), j ≤ v.length ∧ n' = v.length - j ∧ DS I Fq B (v.take j) (esc (v.drop j) ++ 60 :: r) f w' ∧ Stp Fp Fq w w' :=
      fun a' w' Fp' hA' hd' hs' => ⟨v.length - (j + 1), by omega, hA', j + 1, Fp', true, hlt, rfl, by rw [List.take_succ_eq_append_getElem hlt, ← hc]; exact hd', hs.trans hs'⟩
    by_cases hp : plainB c = true
    · exact rdT_plain hI hB hv hlt hc hd nx hp
    · have hsp : c = 34 ∨ c = 39 ∨ c = 9 ∨ c = 10 ∨ c = 13 ∨ c = 38 ∨ c = 60 ∨ c = 62 := by
        rcases escB_cases c with ⟨h, _⟩ | ⟨h, _⟩ | ⟨h, _⟩ | ⟨h, _⟩
        · exact absurd h hp
        · rcases h with h | h <;> simp [h]
        · rcases h with h | h | h <;> simp [h]
        · rcases h with h | h | h <;> simp [h]
      rcases hsp with h | h | h | h | h | h | h | h
      · exact rdT_34 hI hB hv hlt hc hd nx h
      · exact rdT_39 hI hB hv hlt hc hd nx h
      · exact rdT_9 hI hB hv hlt hc hd nx h
      · exact rdT_10 hI hB hv hlt hc hd nx h
      · exact rdT_13 hI hB hv hlt hc hd nx h
      · exact rdT_38 hI hB hv hlt hc hd nx h
      · exact rdT_60 hI hB hv hlt hc hd nx h
      · exact rdT_62 hI hB hv hlt hc hd nx h
  · obtain rfl : j = v.length := by omega
    rw [List.drop_length, esc_nil, List.nil_append, List.take_length] at hd
    exact rdT_end hI hB hd fun a' w' hA' hd' hs' => hX a' w' _ hA' hd' (hs.trans hs')
set_option maxHeartbeats 20000000 in
set_option maxRecDepth 1000000 in
theorem textT {I : Ids} {Fp : Nat → Prop} {B : Nat → Option Value} {bs v r : List UInt8} {fr : Bool} {w : World} {B0 : Nat} (hI : IdOk I) (hB : BOk I B) (h : DS I Fp B bs (esc v ++ 60 :: r) fr w) (hv : v.length ≤ 1000) (hg : Good v) (hne : v ≠ []) (hF : ∀ k, Fp k → B0 ≤ k) (hz : B0 ≤ w.heap.size) (hT : U8 B0 w) :
    Calls Tryz.prog 38 #[.pointer (some ⟨I.dd, 0, none⟩), .int .i64 (-1), .bool false] w fun e w' => ∃ g c, e = .returned (.slice (some ⟨g, 0, none⟩) v.length c) ∧ Rds v g c w' ∧ ∃ Fp', DS I Fp' B v (60 :: r) false w' ∧ Stp Fp Fp' w w' := by
  have hl1 : 1 ≤ v.length := List.length_pos_iff.2 hne
  have H := Lib.hid h
  have HB := Lib.hid hB
  have HGD := Lib.hid hg
  have HNV := Lib.hid hne
  have HF := Lib.hid hF
  have HT := Lib.hid hT
  clear h hB hg hne hF hT
  go_enter Tryz.func38, Tryz.ntmps38
  go_wp2
  go_step3
  go_wp2_with (go_at_call 43; refine (reset_ds H.out).mono ?_; rintro e w1 ⟨rfl, Fp1, h1, hS1⟩; have H1 := Lib.hid h1; have HS1 := Lib.hid hS1; clear h1 hS1)
  go_step3
  go_wp2
  refine loopT (r := r) hI HB.out hv H1.out _ ⟨rfl, rfl, rfl, rfl, rfl, ⟨_, rfl⟩, ⟨_, rfl⟩, rfl⟩ ?_
  intro a' w2 Fp2 hA hd2 hs2
  obtain ⟨u, x7, x8, rfl⟩ := frameT hA
  have HD := Lib.hid hd2
  have HS0 := Lib.hid (HS1.out.trans hs2)
  clear hA hd2 hs2 H1 HS1 H
  rename_i K hK
  refine hK _ _ ?_
  go_wp2_with (first | (go_at_call 45; refine (bytes_ds HD.out HNV.out).mono ?_; rintro e w3 ⟨g, cap, rfl, hR, _, n3, q3⟩; have HE := Lib.hid (HD.out.drewN n3); have HSE := Lib.hid (HS0.out.drewN n3); rw [← q3] at HE HSE; have hcap := hR.c64; have hcl := hR.le; have hcm := hR.lim; unfold maxLen at hcm; have hslh := fun x hx W => slice_head g v.length cap x hx hcl hl1 W; have HR := Lib.hid hR; clear q3 hR hcm))
  obtain ⟨WE, hWE⟩ : ∃ W, W = w3 := ⟨_, rfl⟩
  rw [← hWE] at HE HSE HR ⊢
  clear hWE
  have HU := Lib.hid (fun w2 (hb : Below WE.heap.size WE w2) => HT.out w2 ((HSE.out.low HF.out hz).trans (hb.mono (Nat.le_trans hz HSE.out.1.size))))
  refine dec_loop HR.out HU.out HGD.out _ ⟨rfl, rfl, rfl, rfl⟩ ?_
  intro a' w4 s27 hA hb
  have HBL := Lib.hid hb
  clear hb hK
  obtain ⟨u, rfl⟩ := frameDec hA
  clear hA
  rename_i K hK
  refine hK _ _ ?_
  go_wp2
  (try rw [Exit.noGoto_ret])
  go_ret
  exact ⟨g, cap, rfl, HR.out.below HBL.out, _, HE.out.below HBL.out, HSE.out.below HBL.out⟩

end Go.Proofs.YthhmnnojgjpibaaGreatDoor
