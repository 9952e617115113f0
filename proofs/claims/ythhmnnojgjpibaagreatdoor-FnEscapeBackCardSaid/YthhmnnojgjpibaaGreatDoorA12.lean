/- text: the loop that looks at its runes. -/
import Derived.Test.YthhmnnojgjpibaaGreatDoorA09

set_option linter.unusedVariables false
set_option linter.unusedSimpArgs false

namespace Go.Proofs.YthhmnnojgjpibaaGreatDoor
open Go Go.RowKit Go.Lib

attribute [local go_sem ↓] Go.wp_at_zero Go.wp_at_succ
/-- The body of the last loop of a text. -/
def lastLoop : Code → Option Code
  | .loop c => some c
  | .seq a b => match lastLoop b with
    | some c => some c
    | none => lastLoop a
  | .block _ c => lastLoop c
  | .scope c => lastLoop c
  | .cond _ a b => match lastLoop b with
    | some c => some c
    | none => lastLoop a
  | _ => none
noncomputable def decBody : Code := (Tryz.f38.body.bind lastLoop).getD .skip
/-- The frame at the head of a round. -/
def DecA (s26 s27 : Value) (a : Act) : Prop := a.defers = [] ∧ a.tmps.size = 384 ∧ a.tmps.getD 26 undef = s26 ∧ a.tmps.getD 27 undef = s27
theorem slice_step (g p n cap k : Nat) (hc : n ≤ cap) (hk : k ≤ n) : ∃ A2 : Option Addr, (k < n → A2 = some ⟨g, p + k, none⟩) ∧ ∀ W : World, (Instr.slice 39 (.slice (some ⟨g, p, none⟩) n cap) (some (.int .i64 (k : Int))) none none).run Tryz.prog W = .ok (.slice A2 (n - k) (cap - k)) W := by
  have e1 : Tryz.prog.underlying 39 = some (.slice (Tryz.prog.elem 39)) := by kernel_rfl
  have e2 : ∀ w, (sizeOf (Tryz.prog.elem 39)).run Tryz.prog w = .ok 1 w := fun w => by kernel_rfl
  refine ⟨if cap = k then some ⟨g, p, none⟩ else some ⟨g, p + k, none⟩, fun h => if_neg (by omega), fun W => ?_⟩
  rw [run_slice_l (P := Tryz.prog) W 39 _ n cap e1 .i64 (k : Int) (by omega) (by omega), e2]
  have e : (⟨g, p, none⟩ : Addr).add (k * 1) = ⟨g, p + k, none⟩ := by unfold Addr.add; split <;> simp_all
  simp only [Result.andThen, sliced, Int.toNat_natCast, Option.map_some, e]
theorem slice_head (g n cap : Nat) (x : Int) (hx : x = n) (h1 : n ≤ cap) (h2 : 1 ≤ n) (W : World) : (Instr.slice 39 (.slice (some ⟨g, 0, none⟩) n cap) (some (.int .i64 0)) (some (.int .i64 x)) none).run Tryz.prog W = .ok (.slice (some ⟨g, 0, none⟩) n cap) W := by
  subst hx
  have e1 : Tryz.prog.underlying 39 = some (.slice (Tryz.prog.elem 39)) := by kernel_rfl
  have e2 : ∀ w, (sizeOf (Tryz.prog.elem 39)).run Tryz.prog w = .ok 1 w := fun w => by kernel_rfl
  rw [run_slice_lh (P := Tryz.prog) W 39 _ n cap e1 .i64 .i64 0 (n : Int) (by omega) (by omega) (by omega), e2]
  have e : (⟨g, 0, none⟩ : Addr).add (0 * 1) = ⟨g, 0, none⟩ := by unfold Addr.add; split <;> simp_all
  simp only [Result.andThen, sliced, Int.toNat_natCast, show (0 : Int).toNat = 0 from rfl, Nat.sub_zero, Option.map_some, e, ite_self]
set_option maxRecDepth 1000000 in
theorem frameDec {s26 s27 : Value} {a : Act} (h : DecA s26 s27 a) : ∃ u : Nat → Value, a = ⟨List.toArray (u 0 :: u 1 :: u 2 :: u 3 :: u 4 :: u 5 :: u 6 :: u 7 :: u 8 :: u 9 :: u 10 :: u 11 :: u 12 :: u 13 :: u 14 :: u 15 :: u 16 :: u 17 :: u 18 :: u 19 :: u 20 :: u 21 :: u 22 :: u 23 :: u 24 :: u 25 :: s26 :: s27 :: u 28 :: u 29 :: u 30 :: u 31 :: u 32 :: u 33 :: u 34 :: u 35 :: u 36 :: u 37 :: u 38 :: u 39 :: u 40 :: u 41 :: u 42 :: u 43 :: u 44 :: u 45 :: u 46 :: u 47 :: u 48 :: u 49 :: u 50 :: u 51 :: u 52 :: u 53 :: u 54 :: u 55 :: u 56 :: u 57 :: u 58 :: u 59 :: u 60 :: u 61 :: u 62 :: u 63 :: u 64 :: u 65 :: u 66 :: u 67 :: u 68 :: u 69 :: u 70 :: u 71 :: u 72 :: u 73 :: u 74 :: u 75 :: u 76 :: u 77 :: u 78 :: u 79 :: u 80 :: u 81 :: u 82 :: u 83 :: u 84 :: u 85 :: u 86 :: u 87 :: u 88 :: u 89 :: u 90 :: u 91 :: u 92 :: u 93 :: u 94 :: u 95 :: u 96 :: u 97 :: u 98 :: u 99 :: u 100 :: u 101 :: u 102 :: u 103 :: u 104 :: u 105 :: u 106 :: u 107 :: u 108 :: u 109 :: u 110 :: u 111 :: u 112 :: u 113 :: u 114 :: u 115 :: u 116 :: u 117 :: u 118 :: u 119 :: u 120 :: u 121 :: u 122 :: u 123 :: u 124 :: u 125 :: u 126 :: u 127 :: u 128 :: u 129 :: u 130 :: u 131 :: u 132 :: u 133 :: u 134 :: u 135 :: u 136 :: u 137 :: u 138 :: u 139 :: u 140 :: u 141 :: u 142 :: u 143 :: u 144 :: u 145 :: u 146 :: u 147 :: u 148 :: u 149 :: u 150 :: u 151 :: u 152 :: u 153 :: u 154 :: u 155 :: u 156 :: u 157 :: u 158 :: u 159 :: u 160 :: u 161 :: u 162 :: u 163 :: u 164 :: u 165 :: u 166 :: u 167 :: u 168 :: u 169 :: u 170 :: u 171 :: u 172 :: u 173 :: u 174 :: u 175 :: u 176 :: u 177 :: u 178 :: u 179 :: u 180 :: u 181 :: u 182 :: u 183 :: u 184 :: u 185 :: u 186 :: u 187 :: u 188 :: u 189 :: u 190 :: u 191 :: u 192 :: u 193 :: u 194 :: u 195 :: u 196 :: u 197 :: u 198 :: u 199 :: u 200 :: u 201 :: u 202 :: u 203 :: u 204 :: u 205 :: u 206 :: u 207 :: u 208 :: u 209 :: u 210 :: u 211 :: u 212 :: u 213 :: u 214 :: u 215 :: u 216 :: u 217 :: u 218 :: u 219 :: u 220 :: u 221 :: u 222 :: u 223 :: u 224 :: u 225 :: u 226 :: u 227 :: u 228 :: u 229 :: u 230 :: u 231 :: u 232 :: u 233 :: u 234 :: u 235 :: u 236 :: u 237 :: u 238 :: u 239 :: u 240 :: u 241 :: u 242 :: u 243 :: u 244 :: u 245 :: u 246 :: u 247 :: u 248 :: u 249 :: u 250 :: u 251 :: u 252 :: u 253 :: u 254 :: u 255 :: u 256 :: u 257 :: u 258 :: u 259 :: u 260 :: u 261 :: u 262 :: u 263 :: u 264 :: u 265 :: u 266 :: u 267 :: u 268 :: u 269 :: u 270 :: u 271 :: u 272 :: u 273 :: u 274 :: u 275 :: u 276 :: u 277 :: u 278 :: u 279 :: u 280 :: u 281 :: u 282 :: u 283 :: u 284 :: u 285 :: u 286 :: u 287 :: u 288 :: u 289 :: u 290 :: u 291 :: u 292 :: u 293 :: u 294 :: u 295 :: u 296 :: u 297 :: u 298 :: u 299 :: u 300 :: u 301 :: u 302 :: u 303 :: u 304 :: u 305 :: u 306 :: u 307 :: u 308 :: u 309 :: u 310 :: u 311 :: u 312 :: u 313 :: u 314 :: u 315 :: u 316 :: u 317 :: u 318 :: u 319 :: u 320 :: u 321 :: u 322 :: u 323 :: u 324 :: u 325 :: u 326 :: u 327 :: u 328 :: u 329 :: u 330 :: u 331 :: u 332 :: u 333 :: u 334 :: u 335 :: u 336 :: u 337 :: u 338 :: u 339 :: u 340 :: u 341 :: u 342 :: u 343 :: u 344 :: u 345 :: u 346 :: u 347 :: u 348 :: u 349 :: u 350 :: u 351 :: u 352 :: u 353 :: u 354 :: u 355 :: u 356 :: u 357 :: u 358 :: u 359 :: u 360 :: u 361 :: u 362 :: u 363 :: u 364 :: u 365 :: u 366 :: u 367 :: u 368 :: u 369 :: u 370 :: u 371 :: u 372 :: u 373 :: u 374 :: u 375 :: u 376 :: u 377 :: u 378 :: u 379 :: u 380 :: u 381 :: u 382 :: u 383 :: []), []⟩ := by
  obtain ⟨t, d⟩ := a
  obtain ⟨hd, hs, h26, h27⟩ := h
  simp only at hd hs h26 h27
  subst hd
  have e : t = ((List.range 384).map (fun i => t.getD i undef)).toArray := by
    apply Array.ext
    · simp [hs]
    · intro i hi1 hi2
      simp [Array.getD, hi1]
  obtain ⟨u, hu⟩ : ∃ u : Nat → Value, u = fun i => t.getD i undef := ⟨_, rfl⟩
  have e2 : (List.range 384).map u = u 0 :: u 1 :: u 2 :: u 3 :: u 4 :: u 5 :: u 6 :: u 7 :: u 8 :: u 9 :: u 10 :: u 11 :: u 12 :: u 13 :: u 14 :: u 15 :: u 16 :: u 17 :: u 18 :: u 19 :: u 20 :: u 21 :: u 22 :: u 23 :: u 24 :: u 25 :: u 26 :: u 27 :: u 28 :: u 29 :: u 30 :: u 31 :: u 32 :: u 33 :: u 34 :: u 35 :: u 36 :: u 37 :: u 38 :: u 39 :: u 40 :: u 41 :: u 42 :: u 43 :: u 44 :: u 45 :: u 46 :: u 47 :: u 48 :: u 49 :: u 50 :: u 51 :: u 52 :: u 53 :: u 54 :: u 55 :: u 56 :: u 57 :: u 58 :: u 59 :: u 60 :: u 61 :: u 62 :: u 63 :: u 64 :: u 65 :: u 66 :: u 67 :: u 68 :: u 69 :: u 70 :: u 71 :: u 72 :: u 73 :: u 74 :: u 75 :: u 76 :: u 77 :: u 78 :: u 79 :: u 80 :: u 81 :: u 82 :: u 83 :: u 84 :: u 85 :: u 86 :: u 87 :: u 88 :: u 89 :: u 90 :: u 91 :: u 92 :: u 93 :: u 94 :: u 95 :: u 96 :: u 97 :: u 98 :: u 99 :: u 100 :: u 101 :: u 102 :: u 103 :: u 104 :: u 105 :: u 106 :: u 107 :: u 108 :: u 109 :: u 110 :: u 111 :: u 112 :: u 113 :: u 114 :: u 115 :: u 116 :: u 117 :: u 118 :: u 119 :: u 120 :: u 121 :: u 122 :: u 123 :: u 124 :: u 125 :: u 126 :: u 127 :: u 128 :: u 129 :: u 130 :: u 131 :: u 132 :: u 133 :: u 134 :: u 135 :: u 136 :: u 137 :: u 138 :: u 139 :: u 140 :: u 141 :: u 142 :: u 143 :: u 144 :: u 145 :: u 146 :: u 147 :: u 148 :: u 149 :: u 150 :: u 151 :: u 152 :: u 153 :: u 154 :: u 155 :: u 156 :: u 157 :: u 158 :: u 159 :: u 160 :: u 161 :: u 162 :: u 163 :: u 164 :: u 165 :: u 166 :: u 167 :: u 168 :: u 169 :: u 170 :: u 171 :: u 172 :: u 173 :: u 174 :: u 175 :: u 176 :: u 177 :: u 178 :: u 179 :: u 180 :: u 181 :: u 182 :: u 183 :: u 184 :: u 185 :: u 186 :: u 187 :: u 188 :: u 189 :: u 190 :: u 191 :: u 192 :: u 193 :: u 194 :: u 195 :: u 196 :: u 197 :: u 198 :: u 199 :: u 200 :: u 201 :: u 202 :: u 203 :: u 204 :: u 205 :: u 206 :: u 207 :: u 208 :: u 209 :: u 210 :: u 211 :: u 212 :: u 213 :: u 214 :: u 215 :: u 216 :: u 217 :: u 218 :: u 219 :: u 220 :: u 221 :: u 222 :: u 223 :: u 224 :: u 225 :: u 226 :: u 227 :: u 228 :: u 229 :: u 230 :: u 231 :: u 232 :: u 233 :: u 234 :: u 235 :: u 236 :: u 237 :: u 238 :: u 239 :: u 240 :: u 241 :: u 242 :: u 243 :: u 244 :: u 245 :: u 246 :: u 247 :: u 248 :: u 249 :: u 250 :: u 251 :: u 252 :: u 253 :: u 254 :: u 255 :: u 256 :: u 257 :: u 258 :: u 259 :: u 260 :: u 261 :: u 262 :: u 263 :: u 264 :: u 265 :: u 266 :: u 267 :: u 268 :: u 269 :: u 270 :: u 271 :: u 272 :: u 273 :: u 274 :: u 275 :: u 276 :: u 277 :: u 278 :: u 279 :: u 280 :: u 281 :: u 282 :: u 283 :: u 284 :: u 285 :: u 286 :: u 287 :: u 288 :: u 289 :: u 290 :: u 291 :: u 292 :: u 293 :: u 294 :: u 295 :: u 296 :: u 297 :: u 298 :: u 299 :: u 300 :: u 301 :: u 302 :: u 303 :: u 304 :: u 305 :: u 306 :: u 307 :: u 308 :: u 309 :: u 310 :: u 311 :: u 312 :: u 313 :: u 314 :: u 315 :: u 316 :: u 317 :: u 318 :: u 319 :: u 320 :: u 321 :: u 322 :: u 323 :: u 324 :: u 325 :: u 326 :: u 327 :: u 328 :: u 329 :: u 330 :: u 331 :: u 332 :: u 333 :: u 334 :: u 335 :: u 336 :: u 337 :: u 338 :: u 339 :: u 340 :: u 341 :: u 342 :: u 343 :: u 344 :: u 345 :: u 346 :: u 347 :: u 348 :: u 349 :: u 350 :: u 351 :: u 352 :: u 353 :: u 354 :: u 355 :: u 356 :: u 357 :: u 358 :: u 359 :: u 360 :: u 361 :: u 362 :: u 363 :: u 364 :: u 365 :: u 366 :: u 367 :: u 368 :: u 369 :: u 370 :: u 371 :: u 372 :: u 373 :: u 374 :: u 375 :: u 376 :: u 377 :: u 378 :: u 379 :: u 380 :: u 381 :: u 382 :: u 383 :: [] := by kernel_rfl
  have g26 : u 26 = _ := (congrFun hu 26).trans h26
  have g27 : u 27 = _ := (congrFun hu 27).trans h27
  rw [g26, g27] at e2
  rw [← hu, e2] at e
  exact ⟨u, by rw [e]⟩
set_option maxHeartbeats 4000000 in
set_option maxRecDepth 1000000 in
/-- A round: one rune. -/
theorem dec_step {v : List UInt8} {g cap p : Nat} {W0 wr : World} {u : Nat → Value} {J : Act → World → Prop} {Q0 : Exit → Act → World → Prop}
    (hR : Rds v g cap W0) (hU : ∀ w2, Below W0.heap.size W0 w2 → Lib.Utf8Tabs 1 2 w2) (hp : p < v.length) (hgd : Good (v.drop p)) (hb : Below W0.heap.size W0 wr)
    (hX : ∀ (k : Nat) (A : Option Addr) a' w', 1 ≤ k → p + k ≤ v.length → (p + k < v.length → A = some ⟨g, p + k, none⟩) → Good (v.drop (p + k)) → DecA (.slice (some ⟨g, 0, none⟩) v.length cap) (.slice A (v.length - (p + k)) (cap - (p + k))) a' → Below W0.heap.size W0 w' → J a' w') :
    Code.wp Tryz.prog decBody (Exit.then J Q0) ⟨List.toArray (u 0 :: u 1 :: u 2 :: u 3 :: u 4 :: u 5 :: u 6 :: u 7 :: u 8 :: u 9 :: u 10 :: u 11 :: u 12 :: u 13 :: u 14 :: u 15 :: u 16 :: u 17 :: u 18 :: u 19 :: u 20 :: u 21 :: u 22 :: u 23 :: u 24 :: u 25 :: (.slice (some ⟨g, 0, none⟩) v.length cap) :: (.slice (some ⟨g, p, none⟩) (v.length - p) (cap - p)) :: u 28 :: u 29 :: u 30 :: u 31 :: u 32 :: u 33 :: u 34 :: u 35 :: u 36 :: u 37 :: u 38 :: u 39 :: u 40 :: u 41 :: u 42 :: u 43 :: u 44 :: u 45 :: u 46 :: u 47 :: u 48 :: u 49 :: u 50 :: u 51 :: u 52 :: u 53 :: u 54 :: u 55 :: u 56 :: u 57 :: u 58 :: u 59 :: u 60 :: u 61 :: u 62 :: u 63 :: u 64 :: u 65 :: u 66 :: u 67 :: u 68 :: u 69 :: u 70 :: u 71 :: u 72 :: u 73 :: u 74 :: u 75 :: u 76 :: u 77 :: u 78 :: u 79 :: u 80 :: u 81 :: u 82 :: u 83 :: u 84 :: u 85 :: u 86 :: u 87 :: u 88 :: u 89 :: u 90 :: u 91 :: u 92 :: u 93 :: u 94 :: u 95 :: u 96 :: u 97 :: u 98 :: u 99 :: u 100 :: u 101 :: u 102 :: u 103 :: u 104 :: u 105 :: u 106 :: u 107 :: u 108 :: u 109 :: u 110 :: u 111 :: u 112 :: u 113 :: u 114 :: u 115 :: u 116 :: u 117 :: u 118 :: u 119 :: u 120 :: u 121 :: u 122 :: u 123 :: u 124 :: u 125 :: u 126 :: u 127 :: u 128 :: u 129 :: u 130 :: u 131 :: u 132 :: u 133 :: u 134 :: u 135 :: u 136 :: u 137 :: u 138 :: u 139 :: u 140 :: u 141 :: u 142 :: u 143 :: u 144 :: u 145 :: u 146 :: u 147 :: u 148 :: u 149 :: u 150 :: u 151 :: u 152 :: u 153 :: u 154 :: u 155 :: u 156 :: u 157 :: u 158 :: u 159 :: u 160 :: u 161 :: u 162 :: u 163 :: u 164 :: u 165 :: u 166 :: u 167 :: u 168 :: u 169 :: u 170 :: u 171 :: u 172 :: u 173 :: u 174 :: u 175 :: u 176 :: u 177 :: u 178 :: u 179 :: u 180 :: u 181 :: u 182 :: u 183 :: u 184 :: u 185 :: u 186 :: u 187 :: u 188 :: u 189 :: u 190 :: u 191 :: u 192 :: u 193 :: u 194 :: u 195 :: u 196 :: u 197 :: u 198 :: u 199 :: u 200 :: u 201 :: u 202 :: u 203 :: u 204 :: u 205 :: u 206 :: u 207 :: u 208 :: u 209 :: u 210 :: u 211 :: u 212 :: u 213 :: u 214 :: u 215 :: u 216 :: u 217 :: u 218 :: u 219 :: u 220 :: u 221 :: u 222 :: u 223 :: u 224 :: u 225 :: u 226 :: u 227 :: u 228 :: u 229 :: u 230 :: u 231 :: u 232 :: u 233 :: u 234 :: u 235 :: u 236 :: u 237 :: u 238 :: u 239 :: u 240 :: u 241 :: u 242 :: u 243 :: u 244 :: u 245 :: u 246 :: u 247 :: u 248 :: u 249 :: u 250 :: u 251 :: u 252 :: u 253 :: u 254 :: u 255 :: u 256 :: u 257 :: u 258 :: u 259 :: u 260 :: u 261 :: u 262 :: u 263 :: u 264 :: u 265 :: u 266 :: u 267 :: u 268 :: u 269 :: u 270 :: u 271 :: u 272 :: u 273 :: u 274 :: u 275 :: u 276 :: u 277 :: u 278 :: u 279 :: u 280 :: u 281 :: u 282 :: u 283 :: u 284 :: u 285 :: u 286 :: u 287 :: u 288 :: u 289 :: u 290 :: u 291 :: u 292 :: u 293 :: u 294 :: u 295 :: u 296 :: u 297 :: u 298 :: u 299 :: u 300 :: u 301 :: u 302 :: u 303 :: u 304 :: u 305 :: u 306 :: u 307 :: u 308 :: u 309 :: u 310 :: u 311 :: u 312 :: u 313 :: u 314 :: u 315 :: u 316 :: u 317 :: u 318 :: u 319 :: u 320 :: u 321 :: u 322 :: u 323 :: u 324 :: u 325 :: u 326 :: u 327 :: u 328 :: u 329 :: u 330 :: u 331 :: u 332 :: u 333 :: u 334 :: u 335 :: u 336 :: u 337 :: u 338 :: u 339 :: u 340 :: u 341 :: u 342 :: u 343 :: u 344 :: u 345 :: u 346 :: u 347 :: u 348 :: u 349 :: u 350 :: u 351 :: u 352 :: u 353 :: u 354 :: u 355 :: u 356 :: u 357 :: u 358 :: u 359 :: u 360 :: u 361 :: u 362 :: u 363 :: u 364 :: u 365 :: u 366 :: u 367 :: u 368 :: u 369 :: u 370 :: u 371 :: u 372 :: u 373 :: u 374 :: u 375 :: u 376 :: u 377 :: u 378 :: u 379 :: u 380 :: u 381 :: u 382 :: u 383 :: []), []⟩ wr := by
  have hne : v.drop p ≠ [] := by
    intro e
    have := congrArg List.length e
    rw [List.length_drop, List.length_nil] at this
    omega
  obtain ⟨y, t', hyt⟩ : ∃ y t', v.drop p = y :: t' := by
    cases hv' : v.drop p with
    | nil => exact absurd hv' hne
    | cons y t' => exact ⟨y, t', rfl⟩
  rw [hyt] at hgd
  obtain ⟨r0, k0, hdec, hk1, hk2, hr1, hr2, hg2, _⟩ := hgd.head
  rw [← hyt] at hdec hk2 hg2
  rw [List.length_drop] at hk2
  rw [List.drop_drop] at hg2
  have hdg : Lib.decodeGo ⟨(v.drop p).toArray⟩ = (r0, k0) := by rw [decodeGo_L hne]; exact hdec
  have hsz : (⟨(v.drop p).toArray⟩ : ByteArray).size = v.length - p := by show (v.drop p).toArray.size = _; simp
  have hdr : Calls Tryz.prog 22 #[.slice (some ⟨g, p, none⟩) (v.length - p) (cap - p)] wr fun e w' => e = .returned (.tuple #[.int .i32 (r0 : Int), .int .i64 (k0 : Int)]) ∧ Below wr.heap.size wr w' := by
    have := Tryz.utf8_DecodeRune ⟨(v.drop p).toArray⟩ g p (cap - p) wr (hU wr hb) (fun j hj => by
      rw [hsz] at hj
      have e1 : v[p + j]? = some v[p + j] := List.getElem?_eq_getElem (by omega)
      have e2 : (⟨(v.drop p).toArray⟩ : ByteArray).get! j = v[p + j] := by
        show (v.drop p).toArray[j]! = _
        rw [getElem!_pos _ _ (by simp; omega)]
        simp
      rw [e2]
      exact (World.cell?_of_block (hb.block g (lt_of_cell (hR.cells _ _ e1)))).trans (hR.cells _ _ e1))
    rw [hsz, hdg] at this
    exact this
  have hcl := hR.le
  have hcm := hR.lim
  unfold maxLen at hcm
  have hpos : ((0 : Int) < ((v.length - p : Nat) : Int)) := by omega
  have n65 : ((r0 : Int) == 65533) = false := by simp; omega
  obtain ⟨A2, hA2, hsl⟩ := slice_step g p (v.length - p) (cap - p) k0 (by omega) hk2
  have HX := Lib.hid (hX k0 A2)
  have HA2 := Lib.hid hA2
  have HG2 := Lib.hid hg2
  have HDR := Lib.hid hdr
  have HBB := Lib.hid hb
  have HK := Lib.hid (⟨hk1, hk2⟩ : _ ∧ _)
  clear hA2 hg2 hdr hb hdec hdg hsz hne hgd hyt hk1 hk2 hX hU hR hcl hcm hp
  conv => arg 2; whnf
  go_wp2_with (first | (go_at_call 22; refine HDR.out.mono ?_; rintro e w30 ⟨rfl, q30⟩; have HB30 := Lib.hid (HBB.out.trans (q30.mono HBB.out.size)); clear q30) | (go_at_call 23; refine (range_yes r0 hr1 _).mono ?_; rintro e w0 ⟨rfl, rfl⟩))
  have e1 := Nat.sub_sub v.length p k0
  have e2 := Nat.sub_sub cap p k0
  rw [e1, e2]
  have h2 := HK.out
  exact HX.out _ _ h2.1 (by omega) (fun h => HA2.out (by omega)) HG2.out ⟨rfl, rfl, rfl, rfl⟩ HB30.out
set_option maxHeartbeats 4000000 in
set_option maxRecDepth 1000000 in
/-- The last round. -/
theorem dec_end {v : List UInt8} {g cap k : Nat} {A : Option Addr} {wr : World} {u : Nat → Value} {N : Act → World → Prop} {Q0 : Exit → Act → World → Prop}
    (hX : ∀ a', DecA (.slice (some ⟨g, 0, none⟩) v.length cap) (.slice A 0 k) a' → Q0 (.exit 4) a' wr) :
    Code.wp Tryz.prog decBody (Exit.then N Q0) ⟨List.toArray (u 0 :: u 1 :: u 2 :: u 3 :: u 4 :: u 5 :: u 6 :: u 7 :: u 8 :: u 9 :: u 10 :: u 11 :: u 12 :: u 13 :: u 14 :: u 15 :: u 16 :: u 17 :: u 18 :: u 19 :: u 20 :: u 21 :: u 22 :: u 23 :: u 24 :: u 25 :: (.slice (some ⟨g, 0, none⟩) v.length cap) :: (.slice A 0 k) :: u 28 :: u 29 :: u 30 :: u 31 :: u 32 :: u 33 :: u 34 :: u 35 :: u 36 :: u 37 :: u 38 :: u 39 :: u 40 :: u 41 :: u 42 :: u 43 :: u 44 :: u 45 :: u 46 :: u 47 :: u 48 :: u 49 :: u 50 :: u 51 :: u 52 :: u 53 :: u 54 :: u 55 :: u 56 :: u 57 :: u 58 :: u 59 :: u 60 :: u 61 :: u 62 :: u 63 :: u 64 :: u 65 :: u 66 :: u 67 :: u 68 :: u 69 :: u 70 :: u 71 :: u 72 :: u 73 :: u 74 :: u 75 :: u 76 :: u 77 :: u 78 :: u 79 :: u 80 :: u 81 :: u 82 :: u 83 :: u 84 :: u 85 :: u 86 :: u 87 :: u 88 :: u 89 :: u 90 :: u 91 :: u 92 :: u 93 :: u 94 :: u 95 :: u 96 :: u 97 :: u 98 :: u 99 :: u 100 :: u 101 :: u 102 :: u 103 :: u 104 :: u 105 :: u 106 :: u 107 :: u 108 :: u 109 :: u 110 :: u 111 :: u 112 :: u 113 :: u 114 :: u 115 :: u 116 :: u 117 :: u 118 :: u 119 :: u 120 :: u 121 :: u 122 :: u 123 :: u 124 :: u 125 :: u 126 :: u 127 :: u 128 :: u 129 :: u 130 :: u 131 :: u 132 :: u 133 :: u 134 :: u 135 :: u 136 :: u 137 :: u 138 :: u 139 :: u 140 :: u 141 :: u 142 :: u 143 :: u 144 :: u 145 :: u 146 :: u 147 :: u 148 :: u 149 :: u 150 :: u 151 :: u 152 :: u 153 :: u 154 :: u 155 :: u 156 :: u 157 :: u 158 :: u 159 :: u 160 :: u 161 :: u 162 :: u 163 :: u 164 :: u 165 :: u 166 :: u 167 :: u 168 :: u 169 :: u 170 :: u 171 :: u 172 :: u 173 :: u 174 :: u 175 :: u 176 :: u 177 :: u 178 :: u 179 :: u 180 :: u 181 :: u 182 :: u 183 :: u 184 :: u 185 :: u 186 :: u 187 :: u 188 :: u 189 :: u 190 :: u 191 :: u 192 :: u 193 :: u 194 :: u 195 :: u 196 :: u 197 :: u 198 :: u 199 :: u 200 :: u 201 :: u 202 :: u 203 :: u 204 :: u 205 :: u 206 :: u 207 :: u 208 :: u 209 :: u 210 :: u 211 :: u 212 :: u 213 :: u 214 :: u 215 :: u 216 :: u 217 :: u 218 :: u 219 :: u 220 :: u 221 :: u 222 :: u 223 :: u 224 :: u 225 :: u 226 :: u 227 :: u 228 :: u 229 :: u 230 :: u 231 :: u 232 :: u 233 :: u 234 :: u 235 :: u 236 :: u 237 :: u 238 :: u 239 :: u 240 :: u 241 :: u 242 :: u 243 :: u 244 :: u 245 :: u 246 :: u 247 :: u 248 :: u 249 :: u 250 :: u 251 :: u 252 :: u 253 :: u 254 :: u 255 :: u 256 :: u 257 :: u 258 :: u 259 :: u 260 :: u 261 :: u 262 :: u 263 :: u 264 :: u 265 :: u 266 :: u 267 :: u 268 :: u 269 :: u 270 :: u 271 :: u 272 :: u 273 :: u 274 :: u 275 :: u 276 :: u 277 :: u 278 :: u 279 :: u 280 :: u 281 :: u 282 :: u 283 :: u 284 :: u 285 :: u 286 :: u 287 :: u 288 :: u 289 :: u 290 :: u 291 :: u 292 :: u 293 :: u 294 :: u 295 :: u 296 :: u 297 :: u 298 :: u 299 :: u 300 :: u 301 :: u 302 :: u 303 :: u 304 :: u 305 :: u 306 :: u 307 :: u 308 :: u 309 :: u 310 :: u 311 :: u 312 :: u 313 :: u 314 :: u 315 :: u 316 :: u 317 :: u 318 :: u 319 :: u 320 :: u 321 :: u 322 :: u 323 :: u 324 :: u 325 :: u 326 :: u 327 :: u 328 :: u 329 :: u 330 :: u 331 :: u 332 :: u 333 :: u 334 :: u 335 :: u 336 :: u 337 :: u 338 :: u 339 :: u 340 :: u 341 :: u 342 :: u 343 :: u 344 :: u 345 :: u 346 :: u 347 :: u 348 :: u 349 :: u 350 :: u 351 :: u 352 :: u 353 :: u 354 :: u 355 :: u 356 :: u 357 :: u 358 :: u 359 :: u 360 :: u 361 :: u 362 :: u 363 :: u 364 :: u 365 :: u 366 :: u 367 :: u 368 :: u 369 :: u 370 :: u 371 :: u 372 :: u 373 :: u 374 :: u 375 :: u 376 :: u 377 :: u 378 :: u 379 :: u 380 :: u 381 :: u 382 :: u 383 :: []), []⟩ wr := by
  have HX := Lib.hid hX
  clear hX
  conv => arg 2; whnf
  go_wp2
  exact HX.out _ ⟨rfl, rfl, rfl, rfl⟩
/-- The loop. -/
theorem dec_loop {v : List UInt8} {g cap : Nat} {W0 : World} {Q0 : Exit → Act → World → Prop} (hR : Rds v g cap W0) (hU : ∀ w2, Below W0.heap.size W0 w2 → Lib.Utf8Tabs 1 2 w2) (hgd : Good v) (a : Act)
    (ha : DecA (.slice (some ⟨g, 0, none⟩) v.length cap) (.slice (some ⟨g, 0, none⟩) v.length cap) a) (hX : ∀ a' w' s27, DecA (.slice (some ⟨g, 0, none⟩) v.length cap) s27 a' → Below W0.heap.size W0 w' → Q0 (.exit 4) a' w') : Code.wp Tryz.prog (Code.loop decBody) Q0 a W0 := by
  refine wp_loop_ghost (fun gk a wx => ∃ (p : Nat) (A : Option Addr), p ≤ v.length ∧ gk = v.length - p ∧ DecA (.slice (some ⟨g, 0, none⟩) v.length cap) (.slice A (v.length - p) (cap - p)) a ∧ (p < v.length → A = some ⟨g, p, none⟩) ∧ Good (v.drop p) ∧ Below W0.heap.size W0 wx) v.length ⟨0, _, Nat.zero_le _, rfl, ha, fun _ => rfl, hgd, Below.refl _ _⟩ ?_
  rintro n a wr ⟨p, A, hp, rfl, hA, hs, hg, hb⟩
  obtain ⟨u, rfl⟩ := frameDec hA
  by_cases hlt : p < v.length
  · obtain rfl := hs hlt
    exact dec_step hR hU hlt hg hb fun k A a' w' h1 h2 h3 h4 h5 h6 => ⟨v.length - (p + k), by omega, p + k, A, h2, rfl, h5, h3, h4, h6⟩
  · obtain rfl : p = v.length := by omega
    rw [Nat.sub_self]
    exact dec_end fun a' hA' => hX a' wr _ hA' hb

end Go.Proofs.YthhmnnojgjpibaaGreatDoor
