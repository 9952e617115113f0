/- text: its loop, the value of an attribute. space, attrval. Blocks of rawToken's own, beside the decoder's. -/
import Derived.Test.YthhmnnojgjpibaaGreatDoorA14
import Derived.Test.YthhmnnojgjpibaaGreatDoorA12
import Derived.Test.YthhmnnojgjpibaaGreatDoorA13
import Derived.Deep.AppendLies

set_option linter.unusedVariables false
set_option linter.unusedSimpArgs false

namespace Go.Proofs.YthhmnnojgjpibaaGreatDoor
open Go Go.RowKit Go.Lib

attribute [local go_sem ↓] Go.wp_at_zero Go.wp_at_succ
set_option maxHeartbeats 4000000 in
set_option maxRecDepth 1000000 in
theorem rdA_end {I : Ids} {Fq : Nat → Prop} {B : Nat → Option Value} {v r : List UInt8} {f : Bool} {wr : World} {u : Nat → Value} {x7 x8 : Int} {N : Act → World → Prop} {Q0 : Exit → Act → World → Prop} {t0 : UInt8} (hI : IdOk I) (hB : BOk I B) (ht0 : t0 = 34 ∨ t0 = 39) (hd : DS I Fq B v (t0 :: r) f wr) (hX : ∀ a' w', TxtA I (t0.toNat : Int) a' → DS I Fq B v r true w' → Stp Fq Fq wr w' → Q0 (.exit 0) a' w') :
    Code.wp Tryz.prog txtBody (Exit.then N Q0) ⟨List.toArray (.pointer (some ⟨I.dd, 0, none⟩) :: .int .i64 (t0.toNat : Int) :: .bool false :: u 3 :: u 4 :: u 5 :: u 6 :: .int .u8 x7 :: .int .u8 x8 :: .int .i64 0 :: u 10 :: u 11 :: u 12 :: u 13 :: u 14 :: u 15 :: u 16 :: u 17 :: u 18 :: u 19 :: u 20 :: u 21 :: u 22 :: u 23 :: u 24 :: u 25 :: u 26 :: u 27 :: u 28 :: u 29 :: u 30 :: u 31 :: u 32 :: u 33 :: u 34 :: u 35 :: u 36 :: u 37 :: u 38 :: u 39 :: u 40 :: u 41 :: u 42 :: u 43 :: u 44 :: u 45 :: u 46 :: u 47 :: u 48 :: u 49 :: u 50 :: u 51 :: u 52 :: u 53 :: u 54 :: u 55 :: u 56 :: u 57 :: u 58 :: u 59 :: u 60 :: u 61 :: u 62 :: u 63 :: u 64 :: u 65 :: u 66 :: u 67 :: u 68 :: u 69 :: u 70 :: u 71 :: u 72 :: u 73 :: u 74 :: u 75 :: u 76 :: u 77 :: u 78 :: u 79 :: u 80 :: u 81 :: u 82 :: u 83 :: u 84 :: u 85 :: u 86 :: u 87 :: u 88 :: u 89 :: u 90 :: u 91 :: u 92 :: u 93 :: u 94 :: u 95 :: u 96 :: u 97 :: u 98 :: u 99 :: u 100 :: u 101 :: u 102 :: u 103 :: u 104 :: u 105 :: u 106 :: u 107 :: u 108 :: u 109 :: u 110 :: u 111 :: u 112 :: u 113 :: u 114 :: u 115 :: u 116 :: u 117 :: u 118 :: u 119 :: u 120 :: u 121 :: u 122 :: u 123 :: u 124 :: u 125 :: u 126 :: u 127 :: u 128 :: u 129 :: u 130 :: u 131 :: u 132 :: u 133 :: u 134 :: u 135 :: u 136 :: u 137 :: u 138 :: u 139 :: u 140 :: u 141 :: u 142 :: u 143 :: u 144 :: u 145 :: u 146 :: u 147 :: u 148 :: u 149 :: u 150 :: u 151 :: u 152 :: u 153 :: u 154 :: u 155 :: u 156 :: u 157 :: u 158 :: u 159 :: u 160 :: u 161 :: u 162 :: u 163 :: u 164 :: u 165 :: u 166 :: u 167 :: u 168 :: u 169 :: u 170 :: u 171 :: u 172 :: u 173 :: u 174 :: u 175 :: u 176 :: u 177 :: u 178 :: u 179 :: u 180 :: u 181 :: u 182 :: u 183 :: u 184 :: u 185 :: u 186 :: u 187 :: u 188 :: u 189 :: u 190 :: u 191 :: u 192 :: u 193 :: u 194 :: u 195 :: u 196 :: u 197 :: u 198 :: u 199 :: u 200 :: u 201 :: u 202 :: u 203 :: u 204 :: u 205 :: u 206 :: u 207 :: u 208 :: u 209 :: u 210 :: u 211 :: u 212 :: u 213 :: u 214 :: u 215 :: u 216 :: u 217 :: u 218 :: u 219 :: u 220 :: u 221 :: u 222 :: u 223 :: u 224 :: u 225 :: u 226 :: u 227 :: u 228 :: u 229 :: u 230 :: u 231 :: u 232 :: u 233 :: u 234 :: u 235 :: u 236 :: u 237 :: u 238 :: u 239 :: u 240 :: u 241 :: u 242 :: u 243 :: u 244 :: u 245 :: u 246 :: u 247 :: u 248 :: u 249 :: u 250 :: u 251 :: u 252 :: u 253 :: u 254 :: u 255 :: u 256 :: u 257 :: u 258 :: u 259 :: u 260 :: u 261 :: u 262 :: u 263 :: u 264 :: u 265 :: u 266 :: u 267 :: u 268 :: u 269 :: u 270 :: u 271 :: u 272 :: u 273 :: u 274 :: u 275 :: u 276 :: u 277 :: u 278 :: u 279 :: u 280 :: u 281 :: u 282 :: u 283 :: u 284 :: u 285 :: u 286 :: u 287 :: u 288 :: u 289 :: u 290 :: u 291 :: u 292 :: u 293 :: u 294 :: u 295 :: u 296 :: u 297 :: u 298 :: u 299 :: u 300 :: u 301 :: u 302 :: u 303 :: u 304 :: u 305 :: u 306 :: u 307 :: u 308 :: u 309 :: u 310 :: u 311 :: u 312 :: u 313 :: u 314 :: u 315 :: u 316 :: u 317 :: u 318 :: u 319 :: u 320 :: u 321 :: u 322 :: u 323 :: u 324 :: u 325 :: u 326 :: u 327 :: u 328 :: u 329 :: u 330 :: u 331 :: u 332 :: u 333 :: u 334 :: u 335 :: u 336 :: u 337 :: u 338 :: u 339 :: u 340 :: u 341 :: u 342 :: u 343 :: u 344 :: u 345 :: u 346 :: u 347 :: u 348 :: u 349 :: u 350 :: u 351 :: u 352 :: u 353 :: u 354 :: u 355 :: u 356 :: u 357 :: u 358 :: u 359 :: u 360 :: u 361 :: u 362 :: u 363 :: u 364 :: u 365 :: u 366 :: u 367 :: u 368 :: u 369 :: u 370 :: u 371 :: u 372 :: u 373 :: u 374 :: u 375 :: u 376 :: u 377 :: u 378 :: u 379 :: u 380 :: u 381 :: u 382 :: u 383 :: []), []⟩ wr := by
  have q0 : (0 : Int) ≤ (t0.toNat : Int) := by omega
  have q1 : ¬ (t0.toNat : Int) < 0 := by omega
  have q2 : (t0.toNat : Int) < 256 := by have := t0.toNat_lt; omega
  have t60 : ((t0.toNat : Int) == 60) = false := by rcases ht0 with rfl | rfl <;> decide
  have t62 : ((t0.toNat : Int) == 62) = false := by rcases ht0 with rfl | rfl <;> decide
  have HB := Lib.hid hB
  have HX := Lib.hid hX
  have HS := Lib.hid (Stp.refl Fq wr)
  have HD := Lib.hid hd
  clear hX hB hd
  conv => arg 2; whnf
  go_wp2_with (first | (go_at_call 36; refine (getc_ds hI HB.out HD.out).mono ?_; rintro e w1 ⟨rfl, h1, e1⟩; have HC1 := Lib.hid h1; have HT1 := Lib.hid (HS.out.trans (Stp.of e1)); clear h1 e1))
  exact HX.out _ _ ⟨rfl, rfl, rfl, rfl, rfl, ⟨_, rfl⟩, ⟨_, rfl⟩, rfl⟩ HC1.out HT1.out
set_option maxRecDepth 1000000 in
theorem frameA {I : Ids} {a : Act} {t0 : UInt8} (h : TxtA I (t0.toNat : Int) a) : ∃ (u : Nat → Value) (x7 x8 : Int), a = ⟨List.toArray (.pointer (some ⟨I.dd, 0, none⟩) :: .int .i64 (t0.toNat : Int) :: .bool false :: u 3 :: u 4 :: u 5 :: u 6 :: .int .u8 x7 :: .int .u8 x8 :: .int .i64 0 :: u 10 :: u 11 :: u 12 :: u 13 :: u 14 :: u 15 :: u 16 :: u 17 :: u 18 :: u 19 :: u 20 :: u 21 :: u 22 :: u 23 :: u 24 :: u 25 :: u 26 :: u 27 :: u 28 :: u 29 :: u 30 :: u 31 :: u 32 :: u 33 :: u 34 :: u 35 :: u 36 :: u 37 :: u 38 :: u 39 :: u 40 :: u 41 :: u 42 :: u 43 :: u 44 :: u 45 :: u 46 :: u 47 :: u 48 :: u 49 :: u 50 :: u 51 :: u 52 :: u 53 :: u 54 :: u 55 :: u 56 :: u 57 :: u 58 :: u 59 :: u 60 :: u 61 :: u 62 :: u 63 :: u 64 :: u 65 :: u 66 :: u 67 :: u 68 :: u 69 :: u 70 :: u 71 :: u 72 :: u 73 :: u 74 :: u 75 :: u 76 :: u 77 :: u 78 :: u 79 :: u 80 :: u 81 :: u 82 :: u 83 :: u 84 :: u 85 :: u 86 :: u 87 :: u 88 :: u 89 :: u 90 :: u 91 :: u 92 :: u 93 :: u 94 :: u 95 :: u 96 :: u 97 :: u 98 :: u 99 :: u 100 :: u 101 :: u 102 :: u 103 :: u 104 :: u 105 :: u 106 :: u 107 :: u 108 :: u 109 :: u 110 :: u 111 :: u 112 :: u 113 :: u 114 :: u 115 :: u 116 :: u 117 :: u 118 :: u 119 :: u 120 :: u 121 :: u 122 :: u 123 :: u 124 :: u 125 :: u 126 :: u 127 :: u 128 :: u 129 :: u 130 :: u 131 :: u 132 :: u 133 :: u 134 :: u 135 :: u 136 :: u 137 :: u 138 :: u 139 :: u 140 :: u 141 :: u 142 :: u 143 :: u 144 :: u 145 :: u 146 :: u 147 :: u 148 :: u 149 :: u 150 :: u 151 :: u 152 :: u 153 :: u 154 :: u 155 :: u 156 :: u 157 :: u 158 :: u 159 :: u 160 :: u 161 :: u 162 :: u 163 :: u 164 :: u 165 :: u 166 :: u 167 :: u 168 :: u 169 :: u 170 :: u 171 :: u 172 :: u 173 :: u 174 :: u 175 :: u 176 :: u 177 :: u 178 :: u 179 :: u 180 :: u 181 :: u 182 :: u 183 :: u 184 :: u 185 :: u 186 :: u 187 :: u 188 :: u 189 :: u 190 :: u 191 :: u 192 :: u 193 :: u 194 :: u 195 :: u 196 :: u 197 :: u 198 :: u 199 :: u 200 :: u 201 :: u 202 :: u 203 :: u 204 :: u 205 :: u 206 :: u 207 :: u 208 :: u 209 :: u 210 :: u 211 :: u 212 :: u 213 :: u 214 :: u 215 :: u 216 :: u 217 :: u 218 :: u 219 :: u 220 :: u 221 :: u 222 :: u 223 :: u 224 :: u 225 :: u 226 :: u 227 :: u 228 :: u 229 :: u 230 :: u 231 :: u 232 :: u 233 :: u 234 :: u 235 :: u 236 :: u 237 :: u 238 :: u 239 :: u 240 :: u 241 :: u 242 :: u 243 :: u 244 :: u 245 :: u 246 :: u 247 :: u 248 :: u 249 :: u 250 :: u 251 :: u 252 :: u 253 :: u 254 :: u 255 :: u 256 :: u 257 :: u 258 :: u 259 :: u 260 :: u 261 :: u 262 :: u 263 :: u 264 :: u 265 :: u 266 :: u 267 :: u 268 :: u 269 :: u 270 :: u 271 :: u 272 :: u 273 :: u 274 :: u 275 :: u 276 :: u 277 :: u 278 :: u 279 :: u 280 :: u 281 :: u 282 :: u 283 :: u 284 :: u 285 :: u 286 :: u 287 :: u 288 :: u 289 :: u 290 :: u 291 :: u 292 :: u 293 :: u 294 :: u 295 :: u 296 :: u 297 :: u 298 :: u 299 :: u 300 :: u 301 :: u 302 :: u 303 :: u 304 :: u 305 :: u 306 :: u 307 :: u 308 :: u 309 :: u 310 :: u 311 :: u 312 :: u 313 :: u 314 :: u 315 :: u 316 :: u 317 :: u 318 :: u 319 :: u 320 :: u 321 :: u 322 :: u 323 :: u 324 :: u 325 :: u 326 :: u 327 :: u 328 :: u 329 :: u 330 :: u 331 :: u 332 :: u 333 :: u 334 :: u 335 :: u 336 :: u 337 :: u 338 :: u 339 :: u 340 :: u 341 :: u 342 :: u 343 :: u 344 :: u 345 :: u 346 :: u 347 :: u 348 :: u 349 :: u 350 :: u 351 :: u 352 :: u 353 :: u 354 :: u 355 :: u 356 :: u 357 :: u 358 :: u 359 :: u 360 :: u 361 :: u 362 :: u 363 :: u 364 :: u 365 :: u 366 :: u 367 :: u 368 :: u 369 :: u 370 :: u 371 :: u 372 :: u 373 :: u 374 :: u 375 :: u 376 :: u 377 :: u 378 :: u 379 :: u 380 :: u 381 :: u 382 :: u 383 :: []), []⟩ := by
  obtain ⟨t, d⟩ := a
  obtain ⟨hd, hs, h0, h1, h2, ⟨x7, h7⟩, ⟨x8, h8⟩, h9⟩ := h
  simp only at hd hs h0 h1 h2 h7 h8 h9
  subst hd
  have e : t = ((List.range 384).map (fun i => t.getD i undef)).toArray := by
    apply Array.ext
    · simp [hs]
    · intro i hi1 hi2
      simp [Array.getD, hi1]
  obtain ⟨u, hu⟩ : ∃ u : Nat → Value, u = fun i => t.getD i undef := ⟨_, rfl⟩
  have e2 : (List.range 384).map u = u 0 :: u 1 :: u 2 :: u 3 :: u 4 :: u 5 :: u 6 :: u 7 :: u 8 :: u 9 :: u 10 :: u 11 :: u 12 :: u 13 :: u 14 :: u 15 :: u 16 :: u 17 :: u 18 :: u 19 :: u 20 :: u 21 :: u 22 :: u 23 :: u 24 :: u 25 :: u 26 :: u 27 :: u 28 :: u 29 :: u 30 :: u 31 :: u 32 :: u 33 :: u 34 :: u 35 :: u 36 :: u 37 :: u 38 :: u 39 :: u 40 :: u 41 :: u 42 :: u 43 :: u 44 :: u 45 :: u 46 :: u 47 :: u 48 :: u 49 :: u 50 :: u 51 :: u 52 :: u 53 :: u 54 :: u 55 :: u 56 :: u 57 :: u 58 :: u 59 :: u 60 :: u 61 :: u 62 :: u 63 :: u 64 :: u 65 :: u 66 :: u 67 :: u 68 :: u 69 :: u 70 :: u 71 :: u 72 :: u 73 :: u 74 :: u 75 :: u 76 :: u 77 :: u 78 :: u 79 :: u 80 :: u 81 :: u 82 :: u 83 :: u 84 :: u 85 :: u 86 :: u 87 :: u 88 :: u 89 :: u 90 :: u 91 :: u 92 :: u 93 :: u 94 :: u 95 :: u 96 :: u 97 :: u 98 :: u 99 :: u 100 :: u 101 :: u 102 :: u 103 :: u 104 :: u 105 :: u 106 :: u 107 :: u 108 :: u 109 :: u 110 :: u 111 :: u 112 :: u 113 :: u 114 :: u 115 :: u 116 :: u 117 :: u 118 :: u 119 :: u 120 :: u 121 :: u 122 :: u 123 :: u 124 :: u 125 :: u 126 :: u 127 :: u 128 :: u 129 :: u 130 :: u 131 :: u 132 :: u 133 :: u 134 :: u 135 :: u 136 :: u 137 :: u 138 :: u 139 :: u 140 :: u 141 :: u 142 :: u 143 :: u 144 :: u 145 :: u 146 :: u 147 :: u 148 :: u 149 :: u 150 :: u 151 :: u 152 :: u 153 :: u 154 :: u 155 :: u 156 :: u 157 :: u 158 :: u 159 :: u 160 :: u 161 :: u 162 :: u 163 :: u 164 :: u 165 :: u 166 :: u 167 :: u 168 :: u 169 :: u 170 :: u 171 :: u 172 :: u 173 :: u 174 :: u 175 :: u 176 :: u 177 :: u 178 :: u 179 :: u 180 :: u 181 :: u 182 :: u 183 :: u 184 :: u 185 :: u 186 :: u 187 :: u 188 :: u 189 :: u 190 :: u 191 :: u 192 :: u 193 :: u 194 :: u 195 :: u 196 :: u 197 :: u 198 :: u 199 :: u 200 :: u 201 :: u 202 :: u 203 :: u 204 :: u 205 :: u 206 :: u 207 :: u 208 :: u 209 :: u 210 :: u 211 :: u 212 :: u 213 :: u 214 :: u 215 :: u 216 :: u 217 :: u 218 :: u 219 :: u 220 :: u 221 :: u 222 :: u 223 :: u 224 :: u 225 :: u 226 :: u 227 :: u 228 :: u 229 :: u 230 :: u 231 :: u 232 :: u 233 :: u 234 :: u 235 :: u 236 :: u 237 :: u 238 :: u 239 :: u 240 :: u 241 :: u 242 :: u 243 :: u 244 :: u 245 :: u 246 :: u 247 :: u 248 :: u 249 :: u 250 :: u 251 :: u 252 :: u 253 :: u 254 :: u 255 :: u 256 :: u 257 :: u 258 :: u 259 :: u 260 :: u 261 :: u 262 :: u 263 :: u 264 :: u 265 :: u 266 :: u 267 :: u 268 :: u 269 :: u 270 :: u 271 :: u 272 :: u 273 :: u 274 :: u 275 :: u 276 :: u 277 :: u 278 :: u 279 :: u 280 :: u 281 :: u 282 :: u 283 :: u 284 :: u 285 :: u 286 :: u 287 :: u 288 :: u 289 :: u 290 :: u 291 :: u 292 :: u 293 :: u 294 :: u 295 :: u 296 :: u 297 :: u 298 :: u 299 :: u 300 :: u 301 :: u 302 :: u 303 :: u 304 :: u 305 :: u 306 :: u 307 :: u 308 :: u 309 :: u 310 :: u 311 :: u 312 :: u 313 :: u 314 :: u 315 :: u 316 :: u 317 :: u 318 :: u 319 :: u 320 :: u 321 :: u 322 :: u 323 :: u 324 :: u 325 :: u 326 :: u 327 :: u 328 :: u 329 :: u 330 :: u 331 :: u 332 :: u 333 :: u 334 :: u 335 :: u 336 :: u 337 :: u 338 :: u 339 :: u 340 :: u 341 :: u 342 :: u 343 :: u 344 :: u 345 :: u 346 :: u 347 :: u 348 :: u 349 :: u 350 :: u 351 :: u 352 :: u 353 :: u 354 :: u 355 :: u 356 :: u 357 :: u 358 :: u 359 :: u 360 :: u 361 :: u 362 :: u 363 :: u 364 :: u 365 :: u 366 :: u 367 :: u 368 :: u 369 :: u 370 :: u 371 :: u 372 :: u 373 :: u 374 :: u 375 :: u 376 :: u 377 :: u 378 :: u 379 :: u 380 :: u 381 :: u 382 :: u 383 :: [] := by kernel_rfl
  have g0 : u 0 = _ := (congrFun hu 0).trans h0
  have g1 : u 1 = _ := (congrFun hu 1).trans h1
  have g2 : u 2 = _ := (congrFun hu 2).trans h2
  have g7 : u 7 = _ := (congrFun hu 7).trans h7
  have g8 : u 8 = _ := (congrFun hu 8).trans h8
  have g9 : u 9 = _ := (congrFun hu 9).trans h9
  rw [g0, g1, g2, g7, g8, g9] at e2
  rw [← hu, e2] at e
  exact ⟨u, x7, x8, by rw [e]⟩
set_option maxRecDepth 1000000 in
theorem loopA {I : Ids} {Fp : Nat → Prop} {B : Nat → Option Value} {v r : List UInt8} {fr : Bool} {w : World} {Q0 : Exit → Act → World → Prop} {t0 : UInt8} (hI : IdOk I) (hB : BOk I B) (ht0 : t0 = 34 ∨ t0 = 39) (hv : v.length ≤ 1000) (h : DS I Fp B [] (esc v ++ t0 :: r) fr w) (a : Act) (ha : TxtA I (t0.toNat : Int) a)
    (hX : ∀ a' w' Fp', TxtA I (t0.toNat : Int) a' → DS I Fp' B v r true w' → Stp Fp Fp' w w' → Q0 (.exit 0) a' w') : Code.wp Tryz.prog (Code.loop txtBody) Q0 a w := by
  refine wp_loop_ghost (fun gk a wx => TxtA I (t0.toNat : Int) a ∧ ∃ (j : Nat) (Fq : Nat → Prop) (f : Bool), j ≤ v.length ∧ gk = v.length - j ∧ DS I Fq B (v.take j) (esc (v.drop j) ++ t0 :: r) f wx ∧ Stp Fp Fq w wx) v.length ⟨ha, 0, Fp, fr, Nat.zero_le _, rfl, h, Stp.refl _ _⟩ ?_
  rintro n a wr ⟨hA, j, Fq, f, hj, rfl, hd, hs⟩
  obtain ⟨u, x7, x8, rfl⟩ := frameA hA
  by_cases hlt : j < v.length
  · obtain ⟨c, hc⟩ : ∃ c, c = v[j] := ⟨_, rfl⟩
    have nx : ∀ a' w' Fp', TxtA I (t0.toNat : Int) a' → DS I Fp' B (v.take j ++ [c]) (esc (v.drop (j + 1)) ++ t0 :: r) true w' → Stp Fq Fp' wr w' →
        ∃ n', n' < v.length - j ∧ TxtA I (t0.toNat : Int) a' ∧ ∃ (j : Nat) (Fq : Nat → Prop) (f : Bool), j ≤ v.length ∧ n' = v.length - j ∧ DS I Fq B (v.take j) (esc (v.drop j) ++ t0 :: r) f w' ∧ Stp Fp Fq w w' :=
      fun a' w' Fp' hA' hd' hs' => ⟨v.length - (j + 1), by omega, hA', j + 1, Fp', true, hlt, rfl, by rw [List.take_succ_eq_append_getElem hlt, ← hc]; exact hd', hs.trans hs'⟩
    by_cases hp : plainB c = true
    · exact rdA_plain hI hB ht0 hv hlt hc hd nx hp
    · have hsp : c = 34 ∨ c = 39 ∨ c = 9 ∨ c = 10 ∨ c = 13 ∨ c = 38 ∨ c = 60 ∨ c = 62 := by
        rcases escB_cases c with ⟨h, _⟩ | ⟨h, _⟩ | ⟨h, _⟩ | ⟨h, _⟩
        · exact absurd h hp
        · rcases h with h | h <;> simp [h]
        · rcases h with h | h | h <;> simp [h]
        · rcases h with h | h | h <;> simp [h]
      rcases hsp with h | h | h | h | h | h | h | h
      · exact rdA_34 hI hB ht0 hv hlt hc hd nx h
      · exact rdA_39 hI hB ht0 hv hlt hc hd nx h
      · exact rdA_9 hI hB ht0 hv hlt hc hd nx h
      · exact rdA_10 hI hB ht0 hv hlt hc hd nx h
      · exact rdA_13 hI hB ht0 hv hlt hc hd nx h
      · exact rdA_38 hI hB ht0 hv hlt hc hd nx h
      · exact rdA_60 hI hB ht0 hv hlt hc hd nx h
      · exact rdA_62 hI hB ht0 hv hlt hc hd nx h
  · obtain rfl : j = v.length := by omega
    rw [List.drop_length, esc_nil, List.nil_append, List.take_length] at hd
    exact rdA_end hI hB ht0 hd fun a' w' hA' hd' hs' => hX a' w' _ hA' hd' (hs.trans hs')
set_option maxHeartbeats 20000000 in
set_option maxRecDepth 1000000 in
theorem textA {I : Ids} {Fp : Nat → Prop} {B : Nat → Option Value} {bs v r : List UInt8} {fr : Bool} {w : World} {B0 : Nat} {t0 : UInt8} (hI : IdOk I) (hB : BOk I B) (ht0 : t0 = 34 ∨ t0 = 39) (h : DS I Fp B bs (esc v ++ t0 :: r) fr w) (hv : v.length ≤ 1000) (hg : Good v) (hne : v ≠ []) (hF : ∀ k, Fp k → B0 ≤ k) (hz : B0 ≤ w.heap.size) (hT : U8 B0 w) :
    Calls Tryz.prog 38 #[.pointer (some ⟨I.dd, 0, none⟩), .int .i64 (t0.toNat : Int), .bool false] w fun e w' => ∃ g c, e = .returned (.slice (some ⟨g, 0, none⟩) v.length c) ∧ Rds v g c w' ∧ ∃ Fp', DS I Fp' B v r true w' ∧ Stp Fp Fp' w w' := by
  have hl1 : 1 ≤ v.length := List.length_pos_iff.2 hne
  have H := Lib.hid h
  have HB := Lib.hid hB
  have HGD := Lib.hid hg
  have HNV := Lib.hid hne
  have HF := Lib.hid hF
  have HT := Lib.hid hT
  clear h hB hg hne hF hT
  go_enter Tryz.func38, Tryz.ntmps38
  go_wp2
  go_step3
  go_wp2_with (go_at_call 43; refine (reset_ds H.out).mono ?_; rintro e w1 ⟨rfl, Fp1, h1, hS1⟩; have H1 := Lib.hid h1; have HS1 := Lib.hid hS1; clear h1 hS1)
  go_step3
  go_wp2
  refine loopA (r := r) hI HB.out ht0 hv H1.out _ ⟨rfl, rfl, rfl, rfl, rfl, ⟨_, rfl⟩, ⟨_, rfl⟩, rfl⟩ ?_
  intro a' w2 Fp2 hA hd2 hs2
  obtain ⟨u, x7, x8, rfl⟩ := frameA hA
  have HD := Lib.hid hd2
  have HS0 := Lib.hid (HS1.out.trans hs2)
  clear hA hd2 hs2 H1 HS1 H
  rename_i K hK
  refine hK _ _ ?_
  go_wp2_with (first | (go_at_call 45; refine (bytes_ds HD.out HNV.out).mono ?_; rintro e w3 ⟨g, cap, rfl, hR, _, n3, q3⟩; have HE := Lib.hid (HD.out.drewN n3); have HSE := Lib.hid (HS0.out.drewN n3); rw [← q3] at HE HSE; have hcap := hR.c64; have hcl := hR.le; have hcm := hR.lim; unfold maxLen at hcm; have hslh := fun x hx W => slice_head g v.length cap x hx hcl hl1 W; have HR := Lib.hid hR; clear q3 hR hcm))
  obtain ⟨WE, hWE⟩ : ∃ W, W = w3 := ⟨_, rfl⟩
  rw [← hWE] at HE HSE HR ⊢
  clear hWE
  have HU := Lib.hid (fun w2 (hb : Below WE.heap.size WE w2) => HT.out w2 ((HSE.out.low HF.out hz).trans (hb.mono (Nat.le_trans hz HSE.out.1.size))))
  refine dec_loop HR.out HU.out HGD.out _ ⟨rfl, rfl, rfl, rfl⟩ ?_
  intro a' w4 s27 hA hb
  have HBL := Lib.hid hb
  clear hb hK
  obtain ⟨u, rfl⟩ := frameDec hA
  clear hA
  rename_i K hK
  refine hK _ _ ?_
  go_wp2
  (try rw [Exit.noGoto_ret])
  go_ret
  exact ⟨g, cap, rfl, HR.out.below HBL.out, _, HE.out.below HBL.out, HSE.out.below HBL.out⟩

end Go.Proofs.YthhmnnojgjpibaaGreatDoor
namespace Go.Proofs.YthhmnnojgjpibaaGreatDoor
open Go Go.RowKit Go.Lib

attribute [local go_sem ↓] Go.wp_at_zero Go.wp_at_succ
/-- Above the blank. -/
def Ink (b : UInt8) : Prop := 32 < b.toNat
set_option maxHeartbeats 4000000 in
set_option maxRecDepth 100000 in
theorem space0 {I : Ids} {Fp : Nat → Prop} {B : Nat → Option Value} {bs r : List UInt8} {b : UInt8} {fr : Bool} {w : World} (hI : IdOk I) (hB : BOk I B) (h : DS I Fp B bs (b :: r) fr w) (hb : Ink b) :
    Calls Tryz.prog 41 #[.pointer (some ⟨I.dd, 0, none⟩)] w fun e w' => e = .returned (.tuple #[]) ∧ DS I Fp B bs (b :: r) false w' ∧ Ext Fp w w' := by
  have e1 : ((b.toNat : Int) == 32) = false := by unfold Ink at hb; simp; omega
  have e2 : ((b.toNat : Int) == 13) = false := by unfold Ink at hb; simp; omega
  have e3 : ((b.toNat : Int) == 10) = false := by unfold Ink at hb; simp; omega
  have e4 : ((b.toNat : Int) == 9) = false := by unfold Ink at hb; simp; omega
  have H := Lib.hid h
  have HB := Lib.hid hB
  clear h hB
  go_enter Tryz.func41, Tryz.ntmps41
  go_wp2
  refine wp_loop_rounds 1 ?_; rw [rounds_succ]
  go_wp2_with (first | (go_at_call 36; refine (getc_ds hI HB.out H.out).mono ?_; rintro e w1 ⟨rfl, h1, hE1⟩; have H1 := Lib.hid h1; have HE1 := Lib.hid hE1; clear h1 hE1) | (go_at_call 37; refine (ungetc_ds b H1.out).mono ?_; rintro e w2 ⟨rfl, h2, hS2⟩; have H3 := Lib.hid h2; have HS3 := Lib.hid (HE1.out.trans hS2); clear h2 hS2))
  refine bodyPost_ret (v := .tuple #[]) (by simp [results, Tryz.results41, go_sem]) rfl ⟨rfl, H3.out, HS3.out⟩
set_option maxHeartbeats 4000000 in
set_option maxRecDepth 100000 in
theorem space1 {I : Ids} {Fp : Nat → Prop} {B : Nat → Option Value} {bs r : List UInt8} {b : UInt8} {fr : Bool} {w : World} (hI : IdOk I) (hB : BOk I B) (h : DS I Fp B bs (32 :: b :: r) fr w) (hb : Ink b) :
    Calls Tryz.prog 41 #[.pointer (some ⟨I.dd, 0, none⟩)] w fun e w' => e = .returned (.tuple #[]) ∧ DS I Fp B bs (b :: r) false w' ∧ Ext Fp w w' := by
  have e1 : ((b.toNat : Int) == 32) = false := by unfold Ink at hb; simp; omega
  have e2 : ((b.toNat : Int) == 13) = false := by unfold Ink at hb; simp; omega
  have e3 : ((b.toNat : Int) == 10) = false := by unfold Ink at hb; simp; omega
  have e4 : ((b.toNat : Int) == 9) = false := by unfold Ink at hb; simp; omega
  have H := Lib.hid h
  have HB := Lib.hid hB
  clear h hB
  go_enter Tryz.func41, Tryz.ntmps41
  go_wp2
  refine wp_loop_rounds 2 ?_; rw [rounds_succ]
  go_wp2_with (go_at_call 36; refine (getc_n hI HB.out H.out 32 (by decide)).mono ?_; rintro e w1 ⟨rfl, h1, hE1⟩; have HA := Lib.hid h1; have HAE := Lib.hid hE1; clear h1 hE1)
  rw [rounds_succ]
  go_wp2_with (first | (go_at_call 36; refine (getc_ds hI HB.out HA.out).mono ?_; rintro e w1 ⟨rfl, h1, hE1⟩; have H1 := Lib.hid h1; have HE1 := Lib.hid (HAE.out.trans hE1); clear h1 hE1) | (go_at_call 37; refine (ungetc_ds b H1.out).mono ?_; rintro e w2 ⟨rfl, h2, hS2⟩; have H3 := Lib.hid h2; have HS3 := Lib.hid (HE1.out.trans hS2); clear h2 hS2))
  refine bodyPost_ret (v := .tuple #[]) (by simp [results, Tryz.results41, go_sem]) rfl ⟨rfl, H3.out, HS3.out⟩
set_option maxHeartbeats 4000000 in
set_option maxRecDepth 100000 in
theorem attrval_ok {I : Ids} {Fp : Nat → Prop} {B : Nat → Option Value} {bs v r : List UInt8} {fr : Bool} {w : World} {B0 : Nat} {t0 : UInt8} (hI : IdOk I) (hB : BOk I B) (ht0 : t0 = 34 ∨ t0 = 39) (h : DS I Fp B bs (t0 :: (esc v ++ t0 :: r)) fr w) (hv : v.length ≤ 1000) (hg : Good v) (hne : v ≠ []) (hF : ∀ k, Fp k → B0 ≤ k) (hz : B0 ≤ w.heap.size) (hT : U8 B0 w) :
    Calls Tryz.prog 51 #[.pointer (some ⟨I.dd, 0, none⟩)] w fun e w' => ∃ g c, e = .returned (.slice (some ⟨g, 0, none⟩) v.length c) ∧ Rds v g c w' ∧ ∃ Fp', DS I Fp' B v r true w' ∧ Stp Fp Fp' w w' := by
  have H := Lib.hid h
  have HB := Lib.hid hB
  have HGD := Lib.hid hg
  have HNV := Lib.hid hne
  have HF := Lib.hid hF
  have HT := Lib.hid hT
  clear h hB hg hne hF hT
  rcases ht0 with rfl | rfl
  all_goals
    go_enter Tryz.func51, Tryz.ntmps51
    go_wp2_with (first | (go_at_call 39; refine (mustgetc_n hI HB.out H.out _ rfl).mono ?_; rintro e w1 ⟨rfl, h1, hE1⟩; have HA := Lib.hid h1; have HAE := Lib.hid (Stp.of hE1); clear h1 hE1) | (go_at_call 38; refine (textA hI HB.out (by decide) HA.out hv HGD.out HNV.out HF.out (Nat.le_trans hz HAE.out.1.size) (fun w2 hb => HT.out w2 ((HAE.out.low HF.out hz).trans (hb.mono (Nat.le_refl _))))).mono ?_; rintro e w2 ⟨g, c, rfl, hR, Fp2, h2, hS2⟩; have HR := Lib.hid hR; have H2 := Lib.hid h2; have HS2 := Lib.hid (HAE.out.trans hS2); clear hR h2 hS2))
    go_ret
    exact ⟨g, c, rfl, HR.out, Fp2, H2.out, HS2.out⟩

end Go.Proofs.YthhmnnojgjpibaaGreatDoor
namespace Go.Proofs.YthhmnnojgjpibaaGreatDoor
open Go Go.RowKit Go.Lib

/-- A block that is none of the decoder's. -/
def Kp (w : World) (Fp : Nat → Prop) (k : Nat) (o : Obj) : Prop := ¬ Fp k ∧ w.heap[k]? = some o
section
variable {Fp Fp' : Nat → Prop} {w w' : World} {k : Nat} {o : Obj}
theorem Kp.lt (h : Kp w Fp k o) : k < w.heap.size := by
  rcases Nat.lt_or_ge k w.heap.size with hlt | hge
  · exact hlt
  · have h2 := h.2
    rw [Array.getElem?_eq_none hge] at h2; cases h2
theorem Stp.out (h : Stp Fp Fp' w w') (hk : k < w.heap.size) (hn : ¬ Fp k) : ¬ Fp' k := fun e => (h.2 k e).elim hn (fun e => by omega)
theorem Kp.step (h : Kp w Fp k o) (hs : Stp Fp Fp' w w') : Kp w' Fp' k o := ⟨hs.out h.lt h.1, (hs.1.block k h.lt h.1).trans h.2⟩
theorem Kp.far (h : Kp w Fp k o) {b i : Nat} (hb : k ≠ b) (v : Value) : Kp (w.setCell ⟨b, i, none⟩ v) Fp k o := ⟨h.1, (Below.heap_setCell w ⟨b, i, none⟩ v k hb).trans h.2⟩
theorem Kp.alloc (h : Kp w Fp k o) (o' : Obj) : Kp (w.alloc o') Fp k o := ⟨h.1, (Below.heap_alloc w o' k h.lt).trans h.2⟩
theorem Kp.new_ (w : World) (hl : ∀ k, Fp k → k < w.heap.size) (o : Obj) : Kp (w.alloc o) Fp w.heap.size o := ⟨fun e => absurd (hl _ e) (Nat.lt_irrefl _), heap_alloc_new w o⟩
theorem Kp.set_ {cs : Array Value} {T : TypeId} (h : Kp w Fp k (.cells cs T (0, 0))) (i : Nat) (v : Value) : Kp (w.setCell ⟨k, i, none⟩ v) Fp k (.cells (cs.setIfInBounds i v) T (0, 0)) := ⟨h.1, heap_setCell_same w k i cs T v h.2⟩
theorem Kp.cell {cs : Array Value} {T : TypeId} {fr : Nat × Nat} (h : Kp w Fp k (.cells cs T fr)) (i : Nat) : w.cell? ⟨k, i, none⟩ = cs[i]? := Lib.cell_of_heap h.2 i
theorem Kp.frozen {cs : Array Value} {T : TypeId} (h : Kp w Fp k (.cells cs T (0, 0))) (i : Nat) : w.frozen? ⟨k, i, none⟩ = false := Lib.frozen_of_heap h.2 i
end
/-- A row of the caller's own that is none of the decoder's blocks. -/
def Row (w : World) (Fp : Nat → Prop) (b : Nat) (e : TypeId) (k : Nat) (v : Value) (n : Nat) (xs : List Value) : Prop := w.ownsRow b e k v n xs ∧ ∀ g, v.ownBlock = some g → ¬ Fp g
theorem ownG_lt {w : World} {base e k n : Nat} {v : Value} {xs : List Value} (h : w.ownsRow base e k v n xs) {g : Nat} (he : v.ownBlock = some g) : base ≤ g ∧ g < w.heap.size := by
  rcases h.2 with ⟨rfl, _⟩ | ⟨g', cap, cur, rfl, hb, hg, _⟩
  · cases he
  · have : g' = g := by simpa [Value.ownBlock] using he
    subst this
    refine ⟨hb, ?_⟩
    rcases Nat.lt_or_ge g' w.heap.size with hlt | hge
    · exact hlt
    · rw [Array.getElem?_eq_none hge] at hg; cases hg
theorem ownG_kept {w w' : World} {base e k n : Nat} {v : Value} {xs : List Value} (h : w.ownsRow base e k v n xs) (hk : ∀ g, v.ownBlock = some g → w'.heap[g]? = w.heap[g]?) : w'.ownsRow base e k v n xs := by
  refine ⟨h.1, ?_⟩
  rcases h.2 with h0 | ⟨g', cap, cur, rfl, hb, hg, r⟩
  · exact Or.inl h0
  · exact Or.inr ⟨g', cap, cur, rfl, hb, (hk g' rfl).trans hg, r⟩
section
variable {Fp Fp' : Nat → Prop} {w w' : World} {e : TypeId} {bs k n : Nat} {v : Value} {xs : List Value}
theorem Row.step (h : Row w Fp bs e k v n xs) (hs : Stp Fp Fp' w w') : Row w' Fp' bs e k v n xs :=
  ⟨ownG_kept h.1 fun g he => hs.1.block g (ownG_lt h.1 he).2 (h.2 g he), fun g he => hs.out (ownG_lt h.1 he).2 (h.2 g he)⟩
theorem Row.alloc (h : Row w Fp bs e k v n xs) (o : Obj) : Row (w.alloc o) Fp bs e k v n xs :=
  ⟨ownG_kept h.1 fun g he => Below.heap_alloc w o g (ownG_lt h.1 he).2, h.2⟩
theorem Row.far (h : Row w Fp bs e k v n xs) {b i : Nat} (hb : ∀ g, v.ownBlock = some g → g ≠ b) (x : Value) : Row (w.setCell ⟨b, i, none⟩ x) Fp bs e k v n xs :=
  ⟨ownG_kept h.1 fun g he => Below.heap_setCell w ⟨b, i, none⟩ x g (hb g he), h.2⟩
/-- A block of another type is none of the row's. -/
theorem Row.other (h : Row w Fp bs e k v n xs) {j : Nat} {cs : Array Value} {T : TypeId} {fr : Nat × Nat} (hj : w.heap[j]? = some (.cells cs T fr)) (hT : T ≠ e) : ∀ g, v.ownBlock = some g → g ≠ j := by
  rintro g hg rfl
  rcases h.1.2 with ⟨rfl, _⟩ | ⟨g', cap, cur, rfl, hb, hg2, _⟩
  · cases hg
  · obtain rfl : g' = g := by simpa [Value.ownBlock] using hg
    rw [hj] at hg2
    simp at hg2
    exact hT hg2.2.1
end
/-- What an append leaves. -/
theorem Stp.grown {Fp Fp' : Nat → Prop} {w W w' : World} {row : Option Nat} (h : Stp Fp Fp' w W) (hg : W.grownBy w' row) (hr : ∀ g, row = some g → w.heap.size ≤ g) : Stp Fp Fp' w w' :=
  ⟨⟨hg.os.trans h.1.os, hg.tape.trans h.1.tape, hg.output.trans h.1.output, Nat.le_trans h.1.size hg.size, fun k hk hn => (hg.block k (Nat.lt_of_lt_of_le hk h.1.size) (fun e => by have := hr k e.symm; omega)).trans (h.1.block k hk hn)⟩, h.2⟩
theorem DS.grown {I : Ids} {Fp : Nat → Prop} {B : Nat → Option Value} {bs rest : List UInt8} {fr : Bool} {W w' : World} {row : Option Nat} (h : DS I Fp B bs rest fr W) (hg : W.grownBy w' row) (hr : ∀ g, row = some g → ¬ Fp g) : DS I Fp B bs rest fr w' :=
  h.keep hg.size fun k hk => hg.block k (h.lt k hk) fun e => hr k e.symm hk
theorem Kp.grown {Fp : Nat → Prop} {W w' : World} {k : Nat} {o : Obj} {row : Option Nat} (h : Kp W Fp k o) (hg : W.grownBy w' row) (hr : ∀ g, row = some g → g ≠ k) : Kp w' Fp k o :=
  ⟨h.1, (hg.block k h.lt fun e => hr k e.symm rfl).trans h.2⟩
theorem info_parts {t : TypeId} {z : Value} {s b : Nat} (h : (Tryz.prog.info? t).map (fun i => (i.zero, i.size, i.bytes)) = some (some z, s, b)) : ∃ i, Tryz.prog.info? t = some i ∧ i.zero = some z ∧ i.size = s ∧ i.bytes = b := by
  cases hi : Tryz.prog.info? t with
  | none => rw [hi] at h; cases h
  | some i =>
    rw [hi] at h
    simp only [Option.map_some, Option.some.injEq, Prod.mk.injEq] at h
    exact ⟨i, rfl, h.1, h.2.1, h.2.2⟩
theorem info98 : (Tryz.prog.info? 98).map (fun i => (i.zero, i.size, i.bytes)) = some (some (.agg #[.string ⟨#[]⟩, .string ⟨#[]⟩, .string ⟨#[]⟩]), 3, 48) := by kernel_rfl

end Go.Proofs.YthhmnnojgjpibaaGreatDoor
