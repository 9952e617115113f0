/- text: the rounds of its loop, the value of an attribute. -/
import Derived.Test.YthhmnnojgjpibaaGreatDoorA09

set_option linter.unusedVariables false
set_option linter.unusedSimpArgs false

namespace Go.Proofs.YthhmnnojgjpibaaGreatDoor
open Go Go.RowKit Go.Lib

attribute [local go_sem ↓] Go.wp_at_zero Go.wp_at_succ
set_option maxHeartbeats 4000000 in
set_option maxRecDepth 1000000 in
theorem rdA_plain {I : Ids} {Fq : Nat → Prop} {B : Nat → Option Value} {v tm : List UInt8} {f : Bool} {wr : World} {j : Nat} {u : Nat → Value} {x7 x8 : Int} {c : UInt8} {N : Act → World → Prop} {Q0 : Exit → Act → World → Prop} {t0 : UInt8} (hI : IdOk I) (hB : BOk I B) (ht0 : t0 = 34 ∨ t0 = 39) (hv : v.length ≤ 1000) (hlt : j < v.length) (hc : c = v[j]) (hd : DS I Fq B (v.take j) (esc (v.drop j) ++ tm) f wr)
    (hN : ∀ a' w' Fp', TxtA I (t0.toNat : Int) a' → DS I Fp' B (v.take j ++ [c]) (esc (v.drop (j + 1)) ++ tm) true w' → Stp Fq Fp' wr w' → N a' w') (hp : plainB c = true) :
    Code.wp Tryz.prog txtBody (Exit.then N Q0) ⟨List.toArray (.pointer (some ⟨I.dd, 0, none⟩) :: .int .i64 (t0.toNat : Int) :: .bool false :: u 3 :: u 4 :: u 5 :: u 6 :: .int .u8 x7 :: .int .u8 x8 :: .int .i64 0 :: u 10 :: u 11 :: u 12 :: u 13 :: u 14 :: u 15 :: u 16 :: u 17 :: u 18 :: u 19 :: u 20 :: u 21 :: u 22 :: u 23 :: u 24 :: u 25 :: u 26 :: u 27 :: u 28 :: u 29 :: u 30 :: u 31 :: u 32 :: u 33 :: u 34 :: u 35 :: u 36 :: u 37 :: u 38 :: u 39 :: u 40 :: u 41 :: u 42 :: u 43 :: u 44 :: u 45 :: u 46 :: u 47 :: u 48 :: u 49 :: u 50 :: u 51 :: u 52 :: u 53 :: u 54 :: u 55 :: u 56 :: u 57 :: u 58 :: u 59 :: u 60 :: u 61 :: u 62 :: u 63 :: u 64 :: u 65 :: u 66 :: u 67 :: u 68 :: u 69 :: u 70 :: u 71 :: u 72 :: u 73 :: u 74 :: u 75 :: u 76 :: u 77 :: u 78 :: u 79 :: u 80 :: u 81 :: u 82 :: u 83 :: u 84 :: u 85 :: u 86 :: u 87 :: u 88 :: u 89 :: u 90 :: u 91 :: u 92 :: u 93 :: u 94 :: u 95 :: u 96 :: u 97 :: u 98 :: u 99 :: u 100 :: u 101 :: u 102 :: u 103 :: u 104 :: u 105 :: u 106 :: u 107 :: u 108 :: u 109 :: u 110 :: u 111 :: u 112 :: u 113 :: u 114 :: u 115 :: u 116 :: u 117 :: u 118 :: u 119 :: u 120 :: u 121 :: u 122 :: u 123 :: u 124 :: u 125 :: u 126 :: u 127 :: u 128 :: u 129 :: u 130 :: u 131 :: u 132 :: u 133 :: u 134 :: u 135 :: u 136 :: u 137 :: u 138 :: u 139 :: u 140 :: u 141 :: u 142 :: u 143 :: u 144 :: u 145 :: u 146 :: u 147 :: u 148 :: u 149 :: u 150 :: u 151 :: u 152 :: u 153 :: u 154 :: u 155 :: u 156 :: u 157 :: u 158 :: u 159 :: u 160 :: u 161 :: u 162 :: u 163 :: u 164 :: u 165 :: u 166 :: u 167 :: u 168 :: u 169 :: u 170 :: u 171 :: u 172 :: u 173 :: u 174 :: u 175 :: u 176 :: u 177 :: u 178 :: u 179 :: u 180 :: u 181 :: u 182 :: u 183 :: u 184 :: u 185 :: u 186 :: u 187 :: u 188 :: u 189 :: u 190 :: u 191 :: u 192 :: u 193 :: u 194 :: u 195 :: u 196 :: u 197 :: u 198 :: u 199 :: u 200 :: u 201 :: u 202 :: u 203 :: u 204 :: u 205 :: u 206 :: u 207 :: u 208 :: u 209 :: u 210 :: u 211 :: u 212 :: u 213 :: u 214 :: u 215 :: u 216 :: u 217 :: u 218 :: u 219 :: u 220 :: u 221 :: u 222 :: u 223 :: u 224 :: u 225 :: u 226 :: u 227 :: u 228 :: u 229 :: u 230 :: u 231 :: u 232 :: u 233 :: u 234 :: u 235 :: u 236 :: u 237 :: u 238 :: u 239 :: u 240 :: u 241 :: u 242 :: u 243 :: u 244 :: u 245 :: u 246 :: u 247 :: u 248 :: u 249 :: u 250 :: u 251 :: u 252 :: u 253 :: u 254 :: u 255 :: u 256 :: u 257 :: u 258 :: u 259 :: u 260 :: u 261 :: u 262 :: u 263 :: u 264 :: u 265 :: u 266 :: u 267 :: u 268 :: u 269 :: u 270 :: u 271 :: u 272 :: u 273 :: u 274 :: u 275 :: u 276 :: u 277 :: u 278 :: u 279 :: u 280 :: u 281 :: u 282 :: u 283 :: u 284 :: u 285 :: u 286 :: u 287 :: u 288 :: u 289 :: u 290 :: u 291 :: u 292 :: u 293 :: u 294 :: u 295 :: u 296 :: u 297 :: u 298 :: u 299 :: u 300 :: u 301 :: u 302 :: u 303 :: u 304 :: u 305 :: u 306 :: u 307 :: u 308 :: u 309 :: u 310 :: u 311 :: u 312 :: u 313 :: u 314 :: u 315 :: u 316 :: u 317 :: u 318 :: u 319 :: u 320 :: u 321 :: u 322 :: u 323 :: u 324 :: u 325 :: u 326 :: u 327 :: u 328 :: u 329 :: u 330 :: u 331 :: u 332 :: u 333 :: u 334 :: u 335 :: u 336 :: u 337 :: u 338 :: u 339 :: u 340 :: u 341 :: u 342 :: u 343 :: u 344 :: u 345 :: u 346 :: u 347 :: u 348 :: u 349 :: u 350 :: u 351 :: u 352 :: u 353 :: u 354 :: u 355 :: u 356 :: u 357 :: u 358 :: u 359 :: u 360 :: u 361 :: u 362 :: u 363 :: u 364 :: u 365 :: u 366 :: u 367 :: u 368 :: u 369 :: u 370 :: u 371 :: u 372 :: u 373 :: u 374 :: u 375 :: u 376 :: u 377 :: u 378 :: u 379 :: u 380 :: u 381 :: u 382 :: u 383 :: []), []⟩ wr := by
  have q0 : (0 : Int) ≤ (t0.toNat : Int) := by omega
  have q1 : ¬ (t0.toNat : Int) < 0 := by omega
  have q2 : (t0.toNat : Int) < 256 := by have := t0.toNat_lt; omega
  have t60 : ((t0.toNat : Int) == 60) = false := by rcases ht0 with rfl | rfl <;> decide
  have t62 : ((t0.toNat : Int) == 62) = false := by rcases ht0 with rfl | rfl <;> decide
  have HB := Lib.hid hB
  have HNN := Lib.hid hN
  have HS := Lib.hid (Stp.refl Fq wr)
  have hjl : (v.take j).length ≤ 1000 := by rw [List.length_take]; omega
  have hlen : (v.take j).length + 1 ≤ 1000000 := by omega
  clear hN hB
  have hap : esc (v.drop j) ++ tm = c :: (esc (v.drop (j + 1)) ++ tm) := by rw [List.drop_eq_getElem_cons hlt, esc_cons, ← hc, escB_plain hp]; rfl
  rw [hap] at hd
  simp only [plainB, Bool.and_eq_true, bne_iff_ne, ne_eq] at hp
  have hne : ∀ n : UInt8, c ≠ n → ((c.toNat : Int) == (n.toNat : Int)) = false := fun n e => by
    simp only [beq_eq_false_iff_ne, ne_eq]
    intro e2
    exact e (UInt8.toNat_inj.1 (by omega))
  have n60 : ((c.toNat : Int) == 60) = false := hne 60 hp.1.1.1.1.2
  have n38 : ((c.toNat : Int) == 38) = false := hne 38 hp.1.1.1.1.1.2
  have n13 : ((c.toNat : Int) == 13) = false := hne 13 hp.2
  have n10 : ((c.toNat : Int) == 10) = false := hne 10 hp.1.2
  have n62 : ((c.toNat : Int) == 62) = false := hne 62 hp.1.1.1.2
  have nq : ((c.toNat : Int) == (t0.toNat : Int)) = false := by
    rcases ht0 with rfl | rfl
    · exact hne 34 hp.1.1.1.1.1.1.1
    · exact hne 39 hp.1.1.1.1.1.1.2
  have HD := Lib.hid hd
  have HCC := Lib.hid hc
  clear hd hap hp hne hc
  conv => arg 2; whnf
  go_wp2_with (first | (go_at_call 44; refine (wb_ds HC1.out c hlen).mono ?_; rintro e w2 ⟨rfl, Fp2, h2, e2⟩; have HC2 := Lib.hid h2; have HT2 := Lib.hid (HT1.out.trans e2); clear h2 e2) | (go_at_call 36; refine (getc_ds hI HB.out HD.out).mono ?_; rintro e w1 ⟨rfl, h1, e1⟩; have HC1 := Lib.hid h1; have HT1 := Lib.hid (HS.out.trans (Stp.of e1)); clear h1 e1))
  all_goals exact HNN.out _ _ _ ⟨rfl, rfl, rfl, rfl, rfl, ⟨_, rfl⟩, ⟨_, rfl⟩, rfl⟩ HC2.out HT2.out
set_option maxHeartbeats 4000000 in
set_option maxRecDepth 1000000 in
theorem rdA_34 {I : Ids} {Fq : Nat → Prop} {B : Nat → Option Value} {v tm : List UInt8} {f : Bool} {wr : World} {j : Nat} {u : Nat → Value} {x7 x8 : Int} {c : UInt8} {N : Act → World → Prop} {Q0 : Exit → Act → World → Prop} {t0 : UInt8} (hI : IdOk I) (hB : BOk I B) (ht0 : t0 = 34 ∨ t0 = 39) (hv : v.length ≤ 1000) (hlt : j < v.length) (hc : c = v[j]) (hd : DS I Fq B (v.take j) (esc (v.drop j) ++ tm) f wr)
    (hN : ∀ a' w' Fp', TxtA I (t0.toNat : Int) a' → DS I Fp' B (v.take j ++ [c]) (esc (v.drop (j + 1)) ++ tm) true w' → Stp Fq Fp' wr w' → N a' w') (hcc : c = 34) :
    Code.wp Tryz.prog txtBody (Exit.then N Q0) ⟨List.toArray (.pointer (some ⟨I.dd, 0, none⟩) :: .int .i64 (t0.toNat : Int) :: .bool false :: u 3 :: u 4 :: u 5 :: u 6 :: .int .u8 x7 :: .int .u8 x8 :: .int .i64 0 :: u 10 :: u 11 :: u 12 :: u 13 :: u 14 :: u 15 :: u 16 :: u 17 :: u 18 :: u 19 :: u 20 :: u 21 :: u 22 :: u 23 :: u 24 :: u 25 :: u 26 :: u 27 :: u 28 :: u 29 :: u 30 :: u 31 :: u 32 :: u 33 :: u 34 :: u 35 :: u 36 :: u 37 :: u 38 :: u 39 :: u 40 :: u 41 :: u 42 :: u 43 :: u 44 :: u 45 :: u 46 :: u 47 :: u 48 :: u 49 :: u 50 :: u 51 :: u 52 :: u 53 :: u 54 :: u 55 :: u 56 :: u 57 :: u 58 :: u 59 :: u 60 :: u 61 :: u 62 :: u 63 :: u 64 :: u 65 :: u 66 :: u 67 :: u 68 :: u 69 :: u 70 :: u 71 :: u 72 :: u 73 :: u 74 :: u 75 :: u 76 :: u 77 :: u 78 :: u 79 :: u 80 :: u 81 :: u 82 :: u 83 :: u 84 :: u 85 :: u 86 :: u 87 :: u 88 :: u 89 :: u 90 :: u 91 :: u 92 :: u 93 :: u 94 :: u 95 :: u 96 :: u 97 :: u 98 :: u 99 :: u 100 :: u 101 :: u 102 :: u 103 :: u 104 :: u 105 :: u 106 :: u 107 :: u 108 :: u 109 :: u 110 :: u 111 :: u 112 :: u 113 :: u 114 :: u 115 :: u 116 :: u 117 :: u 118 :: u 119 :: u 120 :: u 121 :: u 122 :: u 123 :: u 124 :: u 125 :: u 126 :: u 127 :: u 128 :: u 129 :: u 130 :: u 131 :: u 132 :: u 133 :: u 134 :: u 135 :: u 136 :: u 137 :: u 138 :: u 139 :: u 140 :: u 141 :: u 142 :: u 143 :: u 144 :: u 145 :: u 146 :: u 147 :: u 148 :: u 149 :: u 150 :: u 151 :: u 152 :: u 153 :: u 154 :: u 155 :: u 156 :: u 157 :: u 158 :: u 159 :: u 160 :: u 161 :: u 162 :: u 163 :: u 164 :: u 165 :: u 166 :: u 167 :: u 168 :: u 169 :: u 170 :: u 171 :: u 172 :: u 173 :: u 174 :: u 175 :: u 176 :: u 177 :: u 178 :: u 179 :: u 180 :: u 181 :: u 182 :: u 183 :: u 184 :: u 185 :: u 186 :: u 187 :: u 188 :: u 189 :: u 190 :: u 191 :: u 192 :: u 193 :: u 194 :: u 195 :: u 196 :: u 197 :: u 198 :: u 199 :: u 200 :: u 201 :: u 202 :: u 203 :: u 204 :: u 205 :: u 206 :: u 207 :: u 208 :: u 209 :: u 210 :: u 211 :: u 212 :: u 213 :: u 214 :: u 215 :: u 216 :: u 217 :: u 218 :: u 219 :: u 220 :: u 221 :: u 222 :: u 223 :: u 224 :: u 225 :: u 226 :: u 227 :: u 228 :: u 229 :: u 230 :: u 231 :: u 232 :: u 233 :: u 234 :: u 235 :: u 236 :: u 237 :: u 238 :: u 239 :: u 240 :: u 241 :: u 242 :: u 243 :: u 244 :: u 245 :: u 246 :: u 247 :: u 248 :: u 249 :: u 250 :: u 251 :: u 252 :: u 253 :: u 254 :: u 255 :: u 256 :: u 257 :: u 258 :: u 259 :: u 260 :: u 261 :: u 262 :: u 263 :: u 264 :: u 265 :: u 266 :: u 267 :: u 268 :: u 269 :: u 270 :: u 271 :: u 272 :: u 273 :: u 274 :: u 275 :: u 276 :: u 277 :: u 278 :: u 279 :: u 280 :: u 281 :: u 282 :: u 283 :: u 284 :: u 285 :: u 286 :: u 287 :: u 288 :: u 289 :: u 290 :: u 291 :: u 292 :: u 293 :: u 294 :: u 295 :: u 296 :: u 297 :: u 298 :: u 299 :: u 300 :: u 301 :: u 302 :: u 303 :: u 304 :: u 305 :: u 306 :: u 307 :: u 308 :: u 309 :: u 310 :: u 311 :: u 312 :: u 313 :: u 314 :: u 315 :: u 316 :: u 317 :: u 318 :: u 319 :: u 320 :: u 321 :: u 322 :: u 323 :: u 324 :: u 325 :: u 326 :: u 327 :: u 328 :: u 329 :: u 330 :: u 331 :: u 332 :: u 333 :: u 334 :: u 335 :: u 336 :: u 337 :: u 338 :: u 339 :: u 340 :: u 341 :: u 342 :: u 343 :: u 344 :: u 345 :: u 346 :: u 347 :: u 348 :: u 349 :: u 350 :: u 351 :: u 352 :: u 353 :: u 354 :: u 355 :: u 356 :: u 357 :: u 358 :: u 359 :: u 360 :: u 361 :: u 362 :: u 363 :: u 364 :: u 365 :: u 366 :: u 367 :: u 368 :: u 369 :: u 370 :: u 371 :: u 372 :: u 373 :: u 374 :: u 375 :: u 376 :: u 377 :: u 378 :: u 379 :: u 380 :: u 381 :: u 382 :: u 383 :: []), []⟩ wr := by
  have q0 : (0 : Int) ≤ (t0.toNat : Int) := by omega
  have q1 : ¬ (t0.toNat : Int) < 0 := by omega
  have q2 : (t0.toNat : Int) < 256 := by have := t0.toNat_lt; omega
  have t60 : ((t0.toNat : Int) == 60) = false := by rcases ht0 with rfl | rfl <;> decide
  have t62 : ((t0.toNat : Int) == 62) = false := by rcases ht0 with rfl | rfl <;> decide
  have HB := Lib.hid hB
  have HNN := Lib.hid hN
  have HS := Lib.hid (Stp.refl Fq wr)
  have hjl : (v.take j).length ≤ 1000 := by rw [List.length_take]; omega
  have hlen : (v.take j).length + 1 ≤ 1000000 := by omega
  clear hN hB
  have hap : esc (v.drop j) ++ tm = 38 :: 35 :: 51 :: 52 :: 59 :: (esc (v.drop (j + 1)) ++ tm) := by rw [List.drop_eq_getElem_cons hlt, esc_cons, ← hc, hcc]; rfl
  rw [hap] at hd
  have nq : ((38 : Int) == (t0.toNat : Int)) = false := by rcases ht0 with rfl | rfl <;> decide
  obtain ⟨L, hL⟩ : ∃ L, L = v.take j := ⟨_, rfl⟩
  rw [← hL] at hd hlen hjl
  obtain ⟨L1, hL1⟩ : ∃ x, x = L ++ [38] := ⟨_, rfl⟩
  obtain ⟨L2, hL2⟩ : ∃ x, x = L1 ++ [35] := ⟨_, rfl⟩
  obtain ⟨L3, hL3⟩ : ∃ x, x = L2 ++ [51] := ⟨_, rfl⟩
  obtain ⟨L4, hL4⟩ : ∃ x, x = L3 ++ [52] := ⟨_, rfl⟩
  obtain ⟨L5, hL5⟩ : ∃ x, x = L4 ++ [59] := ⟨_, rfl⟩
  have hn1 : L1.length = L.length + 1 := by rw [hL1]; simp
  have hn2 : L2.length = L.length + 2 := by rw [hL2]; simp [hn1]
  have hn3 : L3.length = L.length + 3 := by rw [hL3]; simp [hn2]
  have hn4 : L4.length = L.length + 4 := by rw [hL4]; simp [hn3]
  have hn5 : L5.length = L.length + 5 := by rw [hL5]; simp [hn4]
  have hfull : L4 = L2 ++ [51, 52] := by rw [hL4, hL3]; simp
  have htake : L5.take L.length = L := by rw [hL5, hL4, hL3, hL2, hL1]; simp
  have hne : L4 ≠ [] := by rw [hfull]; simp
  have HM0 : Hid (L.length + 1 ≤ 1000000) := Lib.hid hlen
  have HM1 : Hid (L1.length + 1 ≤ 1000000) := Lib.hid (by omega)
  have HM2 : Hid (L2.length + 1 ≤ 1000000) := Lib.hid (by omega)
  have HM3 : Hid (L3.length + 1 ≤ 1000000) := Lib.hid (by omega)
  have HM4 : Hid (L4.length + 1 ≤ 1000000) := Lib.hid (by omega)
  have HM5 : Hid (L5.length + 1 ≤ 1000000) := Lib.hid (by omega)
  have HTR : Hid (L.length ≤ L5.length) := Lib.hid (by omega)
  have HSZ : Hid (L4.length = L2.length + 2) := Lib.hid (by omega)
  have HWS : Hid (L.length + 1 ≤ 1000000) := Lib.hid hlen
  have HL1 := Lib.hid hL1
  have HN1 := Lib.hid hn1
  have HL2 := Lib.hid hL2
  have HN2 := Lib.hid hn2
  have HL3 := Lib.hid hL3
  have HN3 := Lib.hid hn3
  have HL4 := Lib.hid hL4
  have HN4 := Lib.hid hn4
  have HL5 := Lib.hid hL5
  have HN5 := Lib.hid hn5
  have HL := Lib.hid hL
  have HFU := Lib.hid hfull
  have HTK := Lib.hid htake
  have HNE := Lib.hid hne
  have HD := Lib.hid hd
  have HCQ := Lib.hid hcc
  have hrs := fun W => rune_str 34 34 (by decide) W
  clear hd hap hc hcc hL hfull htake hne hL1 hn1 hL2 hn2 hL3 hn3 hL4 hn4 hL5 hn5
  conv => arg 2; whnf
  go_wp2_with (first | (go_at_call 50; refine (len_ds HC6.out).mono ?_; rintro e w7 ⟨rfl, n7, q7⟩; have HC7 := Lib.hid (HC6.out.drewN n7); have HT7 := Lib.hid (HT6.out.drewN n7); rw [← q7] at HC7 HT7; clear q7) | (go_at_call 39; refine (mustgetc_n hI HB.out HC5.out 51 (by decide)).mono ?_; rintro e w6 ⟨rfl, h6, e6⟩; have HC6 := Lib.hid h6; have HT6 := Lib.hid (HT5.out.trans (Stp.of e6)); clear h6 e6) | (go_at_call 44; refine (wb_n HC4.out 35 35 (by decide) HL2.out HM1.out).mono ?_; rintro e w5 ⟨rfl, Fp5, h5, e5⟩; have HC5 := Lib.hid h5; have HT5 := Lib.hid (HT4.out.trans e5); clear h5 e5) | (go_at_call 39; refine (mustgetc_n hI HB.out HC3.out 35 (by decide)).mono ?_; rintro e w4 ⟨rfl, h4, e4⟩; have HC4 := Lib.hid h4; have HT4 := Lib.hid (HT3.out.trans (Stp.of e4)); clear h4 e4) | (go_at_call 44; refine (wb_n HC2.out 38 38 (by decide) HL1.out HM0.out).mono ?_; rintro e w3 ⟨rfl, Fp3, h3, e3⟩; have HC3 := Lib.hid h3; have HT3 := Lib.hid (HT2.out.trans e3); clear h3 e3) | (go_at_call 50; refine (len_ds HC1.out).mono ?_; rintro e w2 ⟨rfl, n2, q2⟩; have HC2 := Lib.hid (HC1.out.drewN n2); have HT2 := Lib.hid (HT1.out.drewN n2); rw [← q2] at HC2 HT2; clear q2) | (go_at_call 36; refine (getc_n hI HB.out HD.out 38 (by decide)).mono ?_; rintro e w1 ⟨rfl, h1, e1⟩; have HC1 := Lib.hid h1; have HT1 := Lib.hid (HS.out.trans (Stp.of e1)); clear h1 e1))
  refine wp_loop_rounds 3 ?_; rw [rounds_succ]
  go_wp2_with (first | (go_at_call 39; refine (mustgetc_n hI HB.out HC8.out 52 (by decide)).mono ?_; rintro e w9 ⟨rfl, h9, e9⟩; have HC9 := Lib.hid h9; have HT9 := Lib.hid (HT8.out.trans (Stp.of e9)); clear h9 e9) | (go_at_call 44; refine (wb_n HC7.out 51 51 (by decide) HL3.out HM2.out).mono ?_; rintro e w8 ⟨rfl, Fp8, h8, e8⟩; have HC8 := Lib.hid h8; have HT8 := Lib.hid (HT7.out.trans e8); clear h8 e8))
  rw [rounds_succ]
  go_wp2_with (first | (go_at_call 39; refine (mustgetc_n hI HB.out HC10.out 59 (by decide)).mono ?_; rintro e w11 ⟨rfl, h11, e11⟩; have HC11 := Lib.hid h11; have HT11 := Lib.hid (HT10.out.trans (Stp.of e11)); clear h11 e11) | (go_at_call 44; refine (wb_n HC9.out 52 52 (by decide) HL4.out HM3.out).mono ?_; rintro e w10 ⟨rfl, Fp10, h10, e10⟩; have HC10 := Lib.hid h10; have HT10 := Lib.hid (HT9.out.trans e10); clear h10 e10))
  rw [rounds_succ]
  go_wp2_with (first | (go_at_call 61; refine (ws_ds HC15.out ⟨#[34]⟩ (by decide) (by decide) HWS.out).mono ?_; rintro e w16 ⟨rfl, Fp16, h16, e16⟩; have HC16 := Lib.hid h16; have HT16 := Lib.hid (HT15.out.trans e16); clear h16 e16) | (go_at_call 49; refine (trunc_ds HC14.out L.length HTR.out).mono ?_; rintro e w15 ⟨rfl, Fp15, h15, e15⟩; have HC15 : Hid (DS I Fp15 B L _ _ w15) := Lib.hid (HTK.out ▸ h15); have HT15 := Lib.hid (HT14.out.trans e15); clear h15 e15) | (go_at_call 57; refine (pu_34 _).mono ?_; rintro e w14 ⟨rfl, q14⟩; have HC14 := Lib.hid (HC13.out.below q14); have HT14 := Lib.hid (HT13.out.below q14); clear q14) | (go_at_call 44; refine (wb_n HC12.out 59 59 (by decide) HL5.out HM4.out).mono ?_; rintro e w13 ⟨rfl, Fp13, h13, e13⟩; have HC13 := Lib.hid h13; have HT13 := Lib.hid (HT12.out.trans e13); clear h13 e13) | (go_at_call 45; refine (bytes_ds HC11.out (by exact HNE.out)).mono ?_; rintro e w12 ⟨g, cap, rfl, hR, hg, n12, q12⟩; have HC12 := Lib.hid (HC11.out.drewN n12); have HT12 := Lib.hid (HT11.out.drewN n12); rw [← q12] at HC12 HT12; have hsl := fun W => slice_from g L4.length L2.length 2 cap _ rfl HSZ.out (by decide) hR.le W; have hcv := conv_at [51, 52] g L2.length 2 (cap - L2.length) _ rfl (fun j x hj => hR.cells _ x (by rw [HFU.out]; exact app_at hj)); have HR := Lib.hid hR; have HG := Lib.hid hg; clear q12 hR hg))
  exact HNN.out _ _ _ ⟨rfl, rfl, rfl, rfl, rfl, ⟨_, rfl⟩, ⟨_, rfl⟩, rfl⟩ (by rw [← HL.out, HCQ.out]; exact HC16.out) HT16.out
set_option maxHeartbeats 4000000 in
set_option maxRecDepth 1000000 in
theorem rdA_39 {I : Ids} {Fq : Nat → Prop} {B : Nat → Option Value} {v tm : List UInt8} {f : Bool} {wr : World} {j : Nat} {u : Nat → Value} {x7 x8 : Int} {c : UInt8} {N : Act → World → Prop} {Q0 : Exit → Act → World → Prop} {t0 : UInt8} (hI : IdOk I) (hB : BOk I B) (ht0 : t0 = 34 ∨ t0 = 39) (hv : v.length ≤ 1000) (hlt : j < v.length) (hc : c = v[j]) (hd : DS I Fq B (v.take j) (esc (v.drop j) ++ tm) f wr)
    (hN : ∀ a' w' Fp', TxtA I (t0.toNat : Int) a' → DS I Fp' B (v.take j ++ [c]) (esc (v.drop (j + 1)) ++ tm) true w' → Stp Fq Fp' wr w' → N a' w') (hcc : c = 39) :
    Code.wp Tryz.prog txtBody (Exit.then N Q0) ⟨List.toArray (.pointer (some ⟨I.dd, 0, none⟩) :: .int .i64 (t0.toNat : Int) :: .bool false :: u 3 :: u 4 :: u 5 :: u 6 :: .int .u8 x7 :: .int .u8 x8 :: .int .i64 0 :: u 10 :: u 11 :: u 12 :: u 13 :: u 14 :: u 15 :: u 16 :: u 17 :: u 18 :: u 19 :: u 20 :: u 21 :: u 22 :: u 23 :: u 24 :: u 25 :: u 26 :: u 27 :: u 28 :: u 29 :: u 30 :: u 31 :: u 32 :: u 33 :: u 34 :: u 35 :: u 36 :: u 37 :: u 38 :: u 39 :: u 40 :: u 41 :: u 42 :: u 43 :: u 44 :: u 45 :: u 46 :: u 47 :: u 48 :: u 49 :: u 50 :: u 51 :: u 52 :: u 53 :: u 54 :: u 55 :: u 56 :: u 57 :: u 58 :: u 59 :: u 60 :: u 61 :: u 62 :: u 63 :: u 64 :: u 65 :: u 66 :: u 67 :: u 68 :: u 69 :: u 70 :: u 71 :: u 72 :: u 73 :: u 74 :: u 75 :: u 76 :: u 77 :: u 78 :: u 79 :: u 80 :: u 81 :: u 82 :: u 83 :: u 84 :: u 85 :: u 86 :: u 87 :: u 88 :: u 89 :: u 90 :: u 91 :: u 92 :: u 93 :: u 94 :: u 95 :: u 96 :: u 97 :: u 98 :: u 99 :: u 100 :: u 101 :: u 102 :: u 103 :: u 104 :: u 105 :: u 106 :: u 107 :: u 108 :: u 109 :: u 110 :: u 111 :: u 112 :: u 113 :: u 114 :: u 115 :: u 116 :: u 117 :: u 118 :: u 119 :: u 120 :: u 121 :: u 122 :: u 123 :: u 124 :: u 125 :: u 126 :: u 127 :: u 128 :: u 129 :: u 130 :: u 131 :: u 132 :: u 133 :: u 134 :: u 135 :: u 136 :: u 137 :: u 138 :: u 139 :: u 140 :: u 141 :: u 142 :: u 143 :: u 144 :: u 145 :: u 146 :: u 147 :: u 148 :: u 149 :: u 150 :: u 151 :: u 152 :: u 153 :: u 154 :: u 155 :: u 156 :: u 157 :: u 158 :: u 159 :: u 160 :: u 161 :: u 162 :: u 163 :: u 164 :: u 165 :: u 166 :: u 167 :: u 168 :: u 169 :: u 170 :: u 171 :: u 172 :: u 173 :: u 174 :: u 175 :: u 176 :: u 177 :: u 178 :: u 179 :: u 180 :: u 181 :: u 182 :: u 183 :: u 184 :: u 185 :: u 186 :: u 187 :: u 188 :: u 189 :: u 190 :: u 191 :: u 192 :: u 193 :: u 194 :: u 195 :: u 196 :: u 197 :: u 198 :: u 199 :: u 200 :: u 201 :: u 202 :: u 203 :: u 204 :: u 205 :: u 206 :: u 207 :: u 208 :: u 209 :: u 210 :: u 211 :: u 212 :: u 213 :: u 214 :: u 215 :: u 216 :: u 217 :: u 218 :: u 219 :: u 220 :: u 221 :: u 222 :: u 223 :: u 224 :: u 225 :: u 226 :: u 227 :: u 228 :: u 229 :: u 230 :: u 231 :: u 232 :: u 233 :: u 234 :: u 235 :: u 236 :: u 237 :: u 238 :: u 239 :: u 240 :: u 241 :: u 242 :: u 243 :: u 244 :: u 245 :: u 246 :: u 247 :: u 248 :: u 249 :: u 250 :: u 251 :: u 252 :: u 253 :: u 254 :: u 255 :: u 256 :: u 257 :: u 258 :: u 259 :: u 260 :: u 261 :: u 262 :: u 263 :: u 264 :: u 265 :: u 266 :: u 267 :: u 268 :: u 269 :: u 270 :: u 271 :: u 272 :: u 273 :: u 274 :: u 275 :: u 276 :: u 277 :: u 278 :: u 279 :: u 280 :: u 281 :: u 282 :: u 283 :: u 284 :: u 285 :: u 286 :: u 287 :: u 288 :: u 289 :: u 290 :: u 291 :: u 292 :: u 293 :: u 294 :: u 295 :: u 296 :: u 297 :: u 298 :: u 299 :: u 300 :: u 301 :: u 302 :: u 303 :: u 304 :: u 305 :: u 306 :: u 307 :: u 308 :: u 309 :: u 310 :: u 311 :: u 312 :: u 313 :: u 314 :: u 315 :: u 316 :: u 317 :: u 318 :: u 319 :: u 320 :: u 321 :: u 322 :: u 323 :: u 324 :: u 325 :: u 326 :: u 327 :: u 328 :: u 329 :: u 330 :: u 331 :: u 332 :: u 333 :: u 334 :: u 335 :: u 336 :: u 337 :: u 338 :: u 339 :: u 340 :: u 341 :: u 342 :: u 343 :: u 344 :: u 345 :: u 346 :: u 347 :: u 348 :: u 349 :: u 350 :: u 351 :: u 352 :: u 353 :: u 354 :: u 355 :: u 356 :: u 357 :: u 358 :: u 359 :: u 360 :: u 361 :: u 362 :: u 363 :: u 364 :: u 365 :: u 366 :: u 367 :: u 368 :: u 369 :: u 370 :: u 371 :: u 372 :: u 373 :: u 374 :: u 375 :: u 376 :: u 377 :: u 378 :: u 379 :: u 380 :: u 381 :: u 382 :: u 383 :: []), []⟩ wr := by
  have q0 : (0 : Int) ≤ (t0.toNat : Int) := by omega
  have q1 : ¬ (t0.toNat : Int) < 0 := by omega
  have q2 : (t0.toNat : Int) < 256 := by have := t0.toNat_lt; omega
  have t60 : ((t0.toNat : Int) == 60) = false := by rcases ht0 with rfl | rfl <;> decide
  have t62 : ((t0.toNat : Int) == 62) = false := by rcases ht0 with rfl | rfl <;> decide
  have HB := Lib.hid hB
  have HNN := Lib.hid hN
  have HS := Lib.hid (Stp.refl Fq wr)
  have hjl : (v.take j).length ≤ 1000 := by rw [List.length_take]; omega
  have hlen : (v.take j).length + 1 ≤ 1000000 := by omega
  clear hN hB
  have hap : esc (v.drop j) ++ tm = 38 :: 35 :: 51 :: 57 :: 59 :: (esc (v.drop (j + 1)) ++ tm) := by rw [List.drop_eq_getElem_cons hlt, esc_cons, ← hc, hcc]; rfl
  rw [hap] at hd
  have nq : ((38 : Int) == (t0.toNat : Int)) = false := by rcases ht0 with rfl | rfl <;> decide
  obtain ⟨L, hL⟩ : ∃ L, L = v.take j := ⟨_, rfl⟩
  rw [← hL] at hd hlen hjl
  obtain ⟨L1, hL1⟩ : ∃ x, x = L ++ [38] := ⟨_, rfl⟩
  obtain ⟨L2, hL2⟩ : ∃ x, x = L1 ++ [35] := ⟨_, rfl⟩
  obtain ⟨L3, hL3⟩ : ∃ x, x = L2 ++ [51] := ⟨_, rfl⟩
  obtain ⟨L4, hL4⟩ : ∃ x, x = L3 ++ [57] := ⟨_, rfl⟩
  obtain ⟨L5, hL5⟩ : ∃ x, x = L4 ++ [59] := ⟨_, rfl⟩
  have hn1 : L1.length = L.length + 1 := by rw [hL1]; simp
  have hn2 : L2.length = L.length + 2 := by rw [hL2]; simp [hn1]
  have hn3 : L3.length = L.length + 3 := by rw [hL3]; simp [hn2]
  have hn4 : L4.length = L.length + 4 := by rw [hL4]; simp [hn3]
  have hn5 : L5.length = L.length + 5 := by rw [hL5]; simp [hn4]
  have hfull : L4 = L2 ++ [51, 57] := by rw [hL4, hL3]; simp
  have htake : L5.take L.length = L := by rw [hL5, hL4, hL3, hL2, hL1]; simp
  have hne : L4 ≠ [] := by rw [hfull]; simp
  have HM0 : Hid (L.length + 1 ≤ 1000000) := Lib.hid hlen
  have HM1 : Hid (L1.length + 1 ≤ 1000000) := Lib.hid (by omega)
  have HM2 : Hid (L2.length + 1 ≤ 1000000) := Lib.hid (by omega)
  have HM3 : Hid (L3.length + 1 ≤ 1000000) := Lib.hid (by omega)
  have HM4 : Hid (L4.length + 1 ≤ 1000000) := Lib.hid (by omega)
  have HM5 : Hid (L5.length + 1 ≤ 1000000) := Lib.hid (by omega)
  have HTR : Hid (L.length ≤ L5.length) := Lib.hid (by omega)
  have HSZ : Hid (L4.length = L2.length + 2) := Lib.hid (by omega)
  have HWS : Hid (L.length + 1 ≤ 1000000) := Lib.hid hlen
  have HL1 := Lib.hid hL1
  have HN1 := Lib.hid hn1
  have HL2 := Lib.hid hL2
  have HN2 := Lib.hid hn2
  have HL3 := Lib.hid hL3
  have HN3 := Lib.hid hn3
  have HL4 := Lib.hid hL4
  have HN4 := Lib.hid hn4
  have HL5 := Lib.hid hL5
  have HN5 := Lib.hid hn5
  have HL := Lib.hid hL
  have HFU := Lib.hid hfull
  have HTK := Lib.hid htake
  have HNE := Lib.hid hne
  have HD := Lib.hid hd
  have HCQ := Lib.hid hcc
  have hrs := fun W => rune_str 39 39 (by decide) W
  clear hd hap hc hcc hL hfull htake hne hL1 hn1 hL2 hn2 hL3 hn3 hL4 hn4 hL5 hn5
  conv => arg 2; whnf
  go_wp2_with (first | (go_at_call 50; refine (len_ds HC6.out).mono ?_; rintro e w7 ⟨rfl, n7, q7⟩; have HC7 := Lib.hid (HC6.out.drewN n7); have HT7 := Lib.hid (HT6.out.drewN n7); rw [← q7] at HC7 HT7; clear q7) | (go_at_call 39; refine (mustgetc_n hI HB.out HC5.out 51 (by decide)).mono ?_; rintro e w6 ⟨rfl, h6, e6⟩; have HC6 := Lib.hid h6; have HT6 := Lib.hid (HT5.out.trans (Stp.of e6)); clear h6 e6) | (go_at_call 44; refine (wb_n HC4.out 35 35 (by decide) HL2.out HM1.out).mono ?_; rintro e w5 ⟨rfl, Fp5, h5, e5⟩; have HC5 := Lib.hid h5; have HT5 := Lib.hid (HT4.out.trans e5); clear h5 e5) | (go_at_call 39; refine (mustgetc_n hI HB.out HC3.out 35 (by decide)).mono ?_; rintro e w4 ⟨rfl, h4, e4⟩; have HC4 := Lib.hid h4; have HT4 := Lib.hid (HT3.out.trans (Stp.of e4)); clear h4 e4) | (go_at_call 44; refine (wb_n HC2.out 38 38 (by decide) HL1.out HM0.out).mono ?_; rintro e w3 ⟨rfl, Fp3, h3, e3⟩; have HC3 := Lib.hid h3; have HT3 := Lib.hid (HT2.out.trans e3); clear h3 e3) | (go_at_call 50; refine (len_ds HC1.out).mono ?_; rintro e w2 ⟨rfl, n2, q2⟩; have HC2 := Lib.hid (HC1.out.drewN n2); have HT2 := Lib.hid (HT1.out.drewN n2); rw [← q2] at HC2 HT2; clear q2) | (go_at_call 36; refine (getc_n hI HB.out HD.out 38 (by decide)).mono ?_; rintro e w1 ⟨rfl, h1, e1⟩; have HC1 := Lib.hid h1; have HT1 := Lib.hid (HS.out.trans (Stp.of e1)); clear h1 e1))
  refine wp_loop_rounds 3 ?_; rw [rounds_succ]
  go_wp2_with (first | (go_at_call 39; refine (mustgetc_n hI HB.out HC8.out 57 (by decide)).mono ?_; rintro e w9 ⟨rfl, h9, e9⟩; have HC9 := Lib.hid h9; have HT9 := Lib.hid (HT8.out.trans (Stp.of e9)); clear h9 e9) | (go_at_call 44; refine (wb_n HC7.out 51 51 (by decide) HL3.out HM2.out).mono ?_; rintro e w8 ⟨rfl, Fp8, h8, e8⟩; have HC8 := Lib.hid h8; have HT8 := Lib.hid (HT7.out.trans e8); clear h8 e8))
  rw [rounds_succ]
  go_wp2_with (first | (go_at_call 39; refine (mustgetc_n hI HB.out HC10.out 59 (by decide)).mono ?_; rintro e w11 ⟨rfl, h11, e11⟩; have HC11 := Lib.hid h11; have HT11 := Lib.hid (HT10.out.trans (Stp.of e11)); clear h11 e11) | (go_at_call 44; refine (wb_n HC9.out 57 57 (by decide) HL4.out HM3.out).mono ?_; rintro e w10 ⟨rfl, Fp10, h10, e10⟩; have HC10 := Lib.hid h10; have HT10 := Lib.hid (HT9.out.trans e10); clear h10 e10))
  rw [rounds_succ]
  go_wp2_with (first | (go_at_call 61; refine (ws_ds HC15.out ⟨#[39]⟩ (by decide) (by decide) HWS.out).mono ?_; rintro e w16 ⟨rfl, Fp16, h16, e16⟩; have HC16 := Lib.hid h16; have HT16 := Lib.hid (HT15.out.trans e16); clear h16 e16) | (go_at_call 49; refine (trunc_ds HC14.out L.length HTR.out).mono ?_; rintro e w15 ⟨rfl, Fp15, h15, e15⟩; have HC15 : Hid (DS I Fp15 B L _ _ w15) := Lib.hid (HTK.out ▸ h15); have HT15 := Lib.hid (HT14.out.trans e15); clear h15 e15) | (go_at_call 57; refine (pu_39 _).mono ?_; rintro e w14 ⟨rfl, q14⟩; have HC14 := Lib.hid (HC13.out.below q14); have HT14 := Lib.hid (HT13.out.below q14); clear q14) | (go_at_call 44; refine (wb_n HC12.out 59 59 (by decide) HL5.out HM4.out).mono ?_; rintro e w13 ⟨rfl, Fp13, h13, e13⟩; have HC13 := Lib.hid h13; have HT13 := Lib.hid (HT12.out.trans e13); clear h13 e13) | (go_at_call 45; refine (bytes_ds HC11.out (by exact HNE.out)).mono ?_; rintro e w12 ⟨g, cap, rfl, hR, hg, n12, q12⟩; have HC12 := Lib.hid (HC11.out.drewN n12); have HT12 := Lib.hid (HT11.out.drewN n12); rw [← q12] at HC12 HT12; have hsl := fun W => slice_from g L4.length L2.length 2 cap _ rfl HSZ.out (by decide) hR.le W; have hcv := conv_at [51, 57] g L2.length 2 (cap - L2.length) _ rfl (fun j x hj => hR.cells _ x (by rw [HFU.out]; exact app_at hj)); have HR := Lib.hid hR; have HG := Lib.hid hg; clear q12 hR hg))
  exact HNN.out _ _ _ ⟨rfl, rfl, rfl, rfl, rfl, ⟨_, rfl⟩, ⟨_, rfl⟩, rfl⟩ (by rw [← HL.out, HCQ.out]; exact HC16.out) HT16.out
set_option maxHeartbeats 4000000 in
set_option maxRecDepth 1000000 in
theorem rdA_9 {I : Ids} {Fq : Nat → Prop} {B : Nat → Option Value} {v tm : List UInt8} {f : Bool} {wr : World} {j : Nat} {u : Nat → Value} {x7 x8 : Int} {c : UInt8} {N : Act → World → Prop} {Q0 : Exit → Act → World → Prop} {t0 : UInt8} (hI : IdOk I) (hB : BOk I B) (ht0 : t0 = 34 ∨ t0 = 39) (hv : v.length ≤ 1000) (hlt : j < v.length) (hc : c = v[j]) (hd : DS I Fq B (v.take j) (esc (v.drop j) ++ tm) f wr)
    (hN : ∀ a' w' Fp', TxtA I (t0.toNat : Int) a' → DS I Fp' B (v.take j ++ [c]) (esc (v.drop (j + 1)) ++ tm) true w' → Stp Fq Fp' wr w' → N a' w') (hcc : c = 9) :
    Code.wp Tryz.prog txtBody (Exit.then N Q0) ⟨List.toArray (.pointer (some ⟨I.dd, 0, none⟩) :: .int .i64 (t0.toNat : Int) :: .bool false :: u 3 :: u 4 :: u 5 :: u 6 :: .int .u8 x7 :: .int .u8 x8 :: .int .i64 0 :: u 10 :: u 11 :: u 12 :: u 13 :: u 14 :: u 15 :: u 16 :: u 17 :: u 18 :: u 19 :: u 20 :: u 21 :: u 22 :: u 23 :: u 24 :: u 25 :: u 26 :: u 27 :: u 28 :: u 29 :: u 30 :: u 31 :: u 32 :: u 33 :: u 34 :: u 35 :: u 36 :: u 37 :: u 38 :: u 39 :: u 40 :: u 41 :: u 42 :: u 43 :: u 44 :: u 45 :: u 46 :: u 47 :: u 48 :: u 49 :: u 50 :: u 51 :: u 52 :: u 53 :: u 54 :: u 55 :: u 56 :: u 57 :: u 58 :: u 59 :: u 60 :: u 61 :: u 62 :: u 63 :: u 64 :: u 65 :: u 66 :: u 67 :: u 68 :: u 69 :: u 70 :: u 71 :: u 72 :: u 73 :: u 74 :: u 75 :: u 76 :: u 77 :: u 78 :: u 79 :: u 80 :: u 81 :: u 82 :: u 83 :: u 84 :: u 85 :: u 86 :: u 87 :: u 88 :: u 89 :: u 90 :: u 91 :: u 92 :: u 93 :: u 94 :: u 95 :: u 96 :: u 97 :: u 98 :: u 99 :: u 100 :: u 101 :: u 102 :: u 103 :: u 104 :: u 105 :: u 106 :: u 107 :: u 108 :: u 109 :: u 110 :: u 111 :: u 112 :: u 113 :: u 114 :: u 115 :: u 116 :: u 117 :: u 118 :: u 119 :: u 120 :: u 121 :: u 122 :: u 123 :: u 124 :: u 125 :: u 126 :: u 127 :: u 128 :: u 129 :: u 130 :: u 131 :: u 132 :: u 133 :: u 134 :: u 135 :: u 136 :: u 137 :: u 138 :: u 139 :: u 140 :: u 141 :: u 142 :: u 143 :: u 144 :: u 145 :: u 146 :: u 147 :: u 148 :: u 149 :: u 150 :: u 151 :: u 152 :: u 153 :: u 154 :: u 155 :: u 156 :: u 157 :: u 158 :: u 159 :: u 160 :: u 161 :: u 162 :: u 163 :: u 164 :: u 165 :: u 166 :: u 167 :: u 168 :: u 169 :: u 170 :: u 171 :: u 172 :: u 173 :: u 174 :: u 175 :: u 176 :: u 177 :: u 178 :: u 179 :: u 180 :: u 181 :: u 182 :: u 183 :: u 184 :: u 185 :: u 186 :: u 187 :: u 188 :: u 189 :: u 190 :: u 191 :: u 192 :: u 193 :: u 194 :: u 195 :: u 196 :: u 197 :: u 198 :: u 199 :: u 200 :: u 201 :: u 202 :: u 203 :: u 204 :: u 205 :: u 206 :: u 207 :: u 208 :: u 209 :: u 210 :: u 211 :: u 212 :: u 213 :: u 214 :: u 215 :: u 216 :: u 217 :: u 218 :: u 219 :: u 220 :: u 221 :: u 222 :: u 223 :: u 224 :: u 225 :: u 226 :: u 227 :: u 228 :: u 229 :: u 230 :: u 231 :: u 232 :: u 233 :: u 234 :: u 235 :: u 236 :: u 237 :: u 238 :: u 239 :: u 240 :: u 241 :: u 242 :: u 243 :: u 244 :: u 245 :: u 246 :: u 247 :: u 248 :: u 249 :: u 250 :: u 251 :: u 252 :: u 253 :: u 254 :: u 255 :: u 256 :: u 257 :: u 258 :: u 259 :: u 260 :: u 261 :: u 262 :: u 263 :: u 264 :: u 265 :: u 266 :: u 267 :: u 268 :: u 269 :: u 270 :: u 271 :: u 272 :: u 273 :: u 274 :: u 275 :: u 276 :: u 277 :: u 278 :: u 279 :: u 280 :: u 281 :: u 282 :: u 283 :: u 284 :: u 285 :: u 286 :: u 287 :: u 288 :: u 289 :: u 290 :: u 291 :: u 292 :: u 293 :: u 294 :: u 295 :: u 296 :: u 297 :: u 298 :: u 299 :: u 300 :: u 301 :: u 302 :: u 303 :: u 304 :: u 305 :: u 306 :: u 307 :: u 308 :: u 309 :: u 310 :: u 311 :: u 312 :: u 313 :: u 314 :: u 315 :: u 316 :: u 317 :: u 318 :: u 319 :: u 320 :: u 321 :: u 322 :: u 323 :: u 324 :: u 325 :: u 326 :: u 327 :: u 328 :: u 329 :: u 330 :: u 331 :: u 332 :: u 333 :: u 334 :: u 335 :: u 336 :: u 337 :: u 338 :: u 339 :: u 340 :: u 341 :: u 342 :: u 343 :: u 344 :: u 345 :: u 346 :: u 347 :: u 348 :: u 349 :: u 350 :: u 351 :: u 352 :: u 353 :: u 354 :: u 355 :: u 356 :: u 357 :: u 358 :: u 359 :: u 360 :: u 361 :: u 362 :: u 363 :: u 364 :: u 365 :: u 366 :: u 367 :: u 368 :: u 369 :: u 370 :: u 371 :: u 372 :: u 373 :: u 374 :: u 375 :: u 376 :: u 377 :: u 378 :: u 379 :: u 380 :: u 381 :: u 382 :: u 383 :: []), []⟩ wr := by
  have q0 : (0 : Int) ≤ (t0.toNat : Int) := by omega
  have q1 : ¬ (t0.toNat : Int) < 0 := by omega
  have q2 : (t0.toNat : Int) < 256 := by have := t0.toNat_lt; omega
  have t60 : ((t0.toNat : Int) == 60) = false := by rcases ht0 with rfl | rfl <;> decide
  have t62 : ((t0.toNat : Int) == 62) = false := by rcases ht0 with rfl | rfl <;> decide
  have HB := Lib.hid hB
  have HNN := Lib.hid hN
  have HS := Lib.hid (Stp.refl Fq wr)
  have hjl : (v.take j).length ≤ 1000 := by rw [List.length_take]; omega
  have hlen : (v.take j).length + 1 ≤ 1000000 := by omega
  clear hN hB
  have hap : esc (v.drop j) ++ tm = 38 :: 35 :: 120 :: 57 :: 59 :: (esc (v.drop (j + 1)) ++ tm) := by rw [List.drop_eq_getElem_cons hlt, esc_cons, ← hc, hcc]; rfl
  rw [hap] at hd
  have nq : ((38 : Int) == (t0.toNat : Int)) = false := by rcases ht0 with rfl | rfl <;> decide
  obtain ⟨L, hL⟩ : ∃ L, L = v.take j := ⟨_, rfl⟩
  rw [← hL] at hd hlen hjl
  obtain ⟨L1, hL1⟩ : ∃ x, x = L ++ [38] := ⟨_, rfl⟩
  obtain ⟨L2, hL2⟩ : ∃ x, x = L1 ++ [35] := ⟨_, rfl⟩
  obtain ⟨L3, hL3⟩ : ∃ x, x = L2 ++ [120] := ⟨_, rfl⟩
  obtain ⟨L4, hL4⟩ : ∃ x, x = L3 ++ [57] := ⟨_, rfl⟩
  obtain ⟨L5, hL5⟩ : ∃ x, x = L4 ++ [59] := ⟨_, rfl⟩
  have hn1 : L1.length = L.length + 1 := by rw [hL1]; simp
  have hn2 : L2.length = L.length + 2 := by rw [hL2]; simp [hn1]
  have hn3 : L3.length = L.length + 3 := by rw [hL3]; simp [hn2]
  have hn4 : L4.length = L.length + 4 := by rw [hL4]; simp [hn3]
  have hn5 : L5.length = L.length + 5 := by rw [hL5]; simp [hn4]
  have hfull : L4 = L3 ++ [57] := by rw [hL4]
  have htake : L5.take L.length = L := by rw [hL5, hL4, hL3, hL2, hL1]; simp
  have hne : L4 ≠ [] := by rw [hfull]; simp
  have HM0 : Hid (L.length + 1 ≤ 1000000) := Lib.hid hlen
  have HM1 : Hid (L1.length + 1 ≤ 1000000) := Lib.hid (by omega)
  have HM2 : Hid (L2.length + 1 ≤ 1000000) := Lib.hid (by omega)
  have HM3 : Hid (L3.length + 1 ≤ 1000000) := Lib.hid (by omega)
  have HM4 : Hid (L4.length + 1 ≤ 1000000) := Lib.hid (by omega)
  have HM5 : Hid (L5.length + 1 ≤ 1000000) := Lib.hid (by omega)
  have HTR : Hid (L.length ≤ L5.length) := Lib.hid (by omega)
  have HSZ : Hid (L4.length = L3.length + 1) := Lib.hid (by omega)
  have HWS : Hid (L.length + 1 ≤ 1000000) := Lib.hid hlen
  have HL1 := Lib.hid hL1
  have HN1 := Lib.hid hn1
  have HL2 := Lib.hid hL2
  have HN2 := Lib.hid hn2
  have HL3 := Lib.hid hL3
  have HN3 := Lib.hid hn3
  have HL4 := Lib.hid hL4
  have HN4 := Lib.hid hn4
  have HL5 := Lib.hid hL5
  have HN5 := Lib.hid hn5
  have HL := Lib.hid hL
  have HFU := Lib.hid hfull
  have HTK := Lib.hid htake
  have HNE := Lib.hid hne
  have HD := Lib.hid hd
  have HCQ := Lib.hid hcc
  have hrs := fun W => rune_str 9 9 (by decide) W
  clear hd hap hc hcc hL hfull htake hne hL1 hn1 hL2 hn2 hL3 hn3 hL4 hn4 hL5 hn5
  conv => arg 2; whnf
  go_wp2_with (first | (go_at_call 50; refine (len_ds HC8.out).mono ?_; rintro e w9 ⟨rfl, n9, q9⟩; have HC9 := Lib.hid (HC8.out.drewN n9); have HT9 := Lib.hid (HT8.out.drewN n9); rw [← q9] at HC9 HT9; clear q9) | (go_at_call 39; refine (mustgetc_n hI HB.out HC7.out 57 (by decide)).mono ?_; rintro e w8 ⟨rfl, h8, e8⟩; have HC8 := Lib.hid h8; have HT8 := Lib.hid (HT7.out.trans (Stp.of e8)); clear h8 e8) | (go_at_call 44; refine (wb_n HC6.out 120 120 (by decide) HL3.out HM2.out).mono ?_; rintro e w7 ⟨rfl, Fp7, h7, e7⟩; have HC7 := Lib.hid h7; have HT7 := Lib.hid (HT6.out.trans e7); clear h7 e7) | (go_at_call 39; refine (mustgetc_n hI HB.out HC5.out 120 (by decide)).mono ?_; rintro e w6 ⟨rfl, h6, e6⟩; have HC6 := Lib.hid h6; have HT6 := Lib.hid (HT5.out.trans (Stp.of e6)); clear h6 e6) | (go_at_call 44; refine (wb_n HC4.out 35 35 (by decide) HL2.out HM1.out).mono ?_; rintro e w5 ⟨rfl, Fp5, h5, e5⟩; have HC5 := Lib.hid h5; have HT5 := Lib.hid (HT4.out.trans e5); clear h5 e5) | (go_at_call 39; refine (mustgetc_n hI HB.out HC3.out 35 (by decide)).mono ?_; rintro e w4 ⟨rfl, h4, e4⟩; have HC4 := Lib.hid h4; have HT4 := Lib.hid (HT3.out.trans (Stp.of e4)); clear h4 e4) | (go_at_call 44; refine (wb_n HC2.out 38 38 (by decide) HL1.out HM0.out).mono ?_; rintro e w3 ⟨rfl, Fp3, h3, e3⟩; have HC3 := Lib.hid h3; have HT3 := Lib.hid (HT2.out.trans e3); clear h3 e3) | (go_at_call 50; refine (len_ds HC1.out).mono ?_; rintro e w2 ⟨rfl, n2, q2⟩; have HC2 := Lib.hid (HC1.out.drewN n2); have HT2 := Lib.hid (HT1.out.drewN n2); rw [← q2] at HC2 HT2; clear q2) | (go_at_call 36; refine (getc_n hI HB.out HD.out 38 (by decide)).mono ?_; rintro e w1 ⟨rfl, h1, e1⟩; have HC1 := Lib.hid h1; have HT1 := Lib.hid (HS.out.trans (Stp.of e1)); clear h1 e1))
  refine wp_loop_rounds 2 ?_; rw [rounds_succ]
  go_wp2_with (first | (go_at_call 39; refine (mustgetc_n hI HB.out HC10.out 59 (by decide)).mono ?_; rintro e w11 ⟨rfl, h11, e11⟩; have HC11 := Lib.hid h11; have HT11 := Lib.hid (HT10.out.trans (Stp.of e11)); clear h11 e11) | (go_at_call 44; refine (wb_n HC9.out 57 57 (by decide) HL4.out HM3.out).mono ?_; rintro e w10 ⟨rfl, Fp10, h10, e10⟩; have HC10 := Lib.hid h10; have HT10 := Lib.hid (HT9.out.trans e10); clear h10 e10))
  rw [rounds_succ]
  go_wp2_with (first | (go_at_call 61; refine (ws_ds HC15.out ⟨#[9]⟩ (by decide) (by decide) HWS.out).mono ?_; rintro e w16 ⟨rfl, Fp16, h16, e16⟩; have HC16 := Lib.hid h16; have HT16 := Lib.hid (HT15.out.trans e16); clear h16 e16) | (go_at_call 49; refine (trunc_ds HC14.out L.length HTR.out).mono ?_; rintro e w15 ⟨rfl, Fp15, h15, e15⟩; have HC15 : Hid (DS I Fp15 B L _ _ w15) := Lib.hid (HTK.out ▸ h15); have HT15 := Lib.hid (HT14.out.trans e15); clear h15 e15) | (go_at_call 57; refine (pu_9 _).mono ?_; rintro e w14 ⟨rfl, q14⟩; have HC14 := Lib.hid (HC13.out.below q14); have HT14 := Lib.hid (HT13.out.below q14); clear q14) | (go_at_call 44; refine (wb_n HC12.out 59 59 (by decide) HL5.out HM4.out).mono ?_; rintro e w13 ⟨rfl, Fp13, h13, e13⟩; have HC13 := Lib.hid h13; have HT13 := Lib.hid (HT12.out.trans e13); clear h13 e13) | (go_at_call 45; refine (bytes_ds HC11.out (by exact HNE.out)).mono ?_; rintro e w12 ⟨g, cap, rfl, hR, hg, n12, q12⟩; have HC12 := Lib.hid (HC11.out.drewN n12); have HT12 := Lib.hid (HT11.out.drewN n12); rw [← q12] at HC12 HT12; have hsl := fun W => slice_from g L4.length L3.length 1 cap _ rfl HSZ.out (by decide) hR.le W; have hcv := conv_at [57] g L3.length 1 (cap - L3.length) _ rfl (fun j x hj => hR.cells _ x (by rw [HFU.out]; exact app_at hj)); have HR := Lib.hid hR; have HG := Lib.hid hg; clear q12 hR hg))
  exact HNN.out _ _ _ ⟨rfl, rfl, rfl, rfl, rfl, ⟨_, rfl⟩, ⟨_, rfl⟩, rfl⟩ (by rw [← HL.out, HCQ.out]; exact HC16.out) HT16.out
set_option maxHeartbeats 4000000 in
set_option maxRecDepth 1000000 in
theorem rdA_10 {I : Ids} {Fq : Nat → Prop} {B : Nat → Option Value} {v tm : List UInt8} {f : Bool} {wr : World} {j : Nat} {u : Nat → Value} {x7 x8 : Int} {c : UInt8} {N : Act → World → Prop} {Q0 : Exit → Act → World → Prop} {t0 : UInt8} (hI : IdOk I) (hB : BOk I B) (ht0 : t0 = 34 ∨ t0 = 39) (hv : v.length ≤ 1000) (hlt : j < v.length) (hc : c = v[j]) (hd : DS I Fq B (v.take j) (esc (v.drop j) ++ tm) f wr)
    (hN : ∀ a' w' Fp', TxtA I (t0.toNat : Int) a' → DS I Fp' B (v.take j ++ [c]) (esc (v.drop (j + 1)) ++ tm) true w' → Stp Fq Fp' wr w' → N a' w') (hcc : c = 10) :
    Code.wp Tryz.prog txtBody (Exit.then N Q0) ⟨List.toArray (.pointer (some ⟨I.dd, 0, none⟩) :: .int .i64 (t0.toNat : Int) :: .bool false :: u 3 :: u 4 :: u 5 :: u 6 :: .int .u8 x7 :: .int .u8 x8 :: .int .i64 0 :: u 10 :: u 11 :: u 12 :: u 13 :: u 14 :: u 15 :: u 16 :: u 17 :: u 18 :: u 19 :: u 20 :: u 21 :: u 22 :: u 23 :: u 24 :: u 25 :: u 26 :: u 27 :: u 28 :: u 29 :: u 30 :: u 31 :: u 32 :: u 33 :: u 34 :: u 35 :: u 36 :: u 37 :: u 38 :: u 39 :: u 40 :: u 41 :: u 42 :: u 43 :: u 44 :: u 45 :: u 46 :: u 47 :: u 48 :: u 49 :: u 50 :: u 51 :: u 52 :: u 53 :: u 54 :: u 55 :: u 56 :: u 57 :: u 58 :: u 59 :: u 60 :: u 61 :: u 62 :: u 63 :: u 64 :: u 65 :: u 66 :: u 67 :: u 68 :: u 69 :: u 70 :: u 71 :: u 72 :: u 73 :: u 74 :: u 75 :: u 76 :: u 77 :: u 78 :: u 79 :: u 80 :: u 81 :: u 82 :: u 83 :: u 84 :: u 85 :: u 86 :: u 87 :: u 88 :: u 89 :: u 90 :: u 91 :: u 92 :: u 93 :: u 94 :: u 95 :: u 96 :: u 97 :: u 98 :: u 99 :: u 100 :: u 101 :: u 102 :: u 103 :: u 104 :: u 105 :: u 106 :: u 107 :: u 108 :: u 109 :: u 110 :: u 111 :: u 112 :: u 113 :: u 114 :: u 115 :: u 116 :: u 117 :: u 118 :: u 119 :: u 120 :: u 121 :: u 122 :: u 123 :: u 124 :: u 125 :: u 126 :: u 127 :: u 128 :: u 129 :: u 130 :: u 131 :: u 132 :: u 133 :: u 134 :: u 135 :: u 136 :: u 137 :: u 138 :: u 139 :: u 140 :: u 141 :: u 142 :: u 143 :: u 144 :: u 145 :: u 146 :: u 147 :: u 148 :: u 149 :: u 150 :: u 151 :: u 152 :: u 153 :: u 154 :: u 155 :: u 156 :: u 157 :: u 158 :: u 159 :: u 160 :: u 161 :: u 162 :: u 163 :: u 164 :: u 165 :: u 166 :: u 167 :: u 168 :: u 169 :: u 170 :: u 171 :: u 172 :: u 173 :: u 174 :: u 175 :: u 176 :: u 177 :: u 178 :: u 179 :: u 180 :: u 181 :: u 182 :: u 183 :: u 184 :: u 185 :: u 186 :: u 187 :: u 188 :: u 189 :: u 190 :: u 191 :: u 192 :: u 193 :: u 194 :: u 195 :: u 196 :: u 197 :: u 198 :: u 199 :: u 200 :: u 201 :: u 202 :: u 203 :: u 204 :: u 205 :: u 206 :: u 207 :: u 208 :: u 209 :: u 210 :: u 211 :: u 212 :: u 213 :: u 214 :: u 215 :: u 216 :: u 217 :: u 218 :: u 219 :: u 220 :: u 221 :: u 222 :: u 223 :: u 224 :: u 225 :: u 226 :: u 227 :: u 228 :: u 229 :: u 230 :: u 231 :: u 232 :: u 233 :: u 234 :: u 235 :: u 236 :: u 237 :: u 238 :: u 239 :: u 240 :: u 241 :: u 242 :: u 243 :: u 244 :: u 245 :: u 246 :: u 247 :: u 248 :: u 249 :: u 250 :: u 251 :: u 252 :: u 253 :: u 254 :: u 255 :: u 256 :: u 257 :: u 258 :: u 259 :: u 260 :: u 261 :: u 262 :: u 263 :: u 264 :: u 265 :: u 266 :: u 267 :: u 268 :: u 269 :: u 270 :: u 271 :: u 272 :: u 273 :: u 274 :: u 275 :: u 276 :: u 277 :: u 278 :: u 279 :: u 280 :: u 281 :: u 282 :: u 283 :: u 284 :: u 285 :: u 286 :: u 287 :: u 288 :: u 289 :: u 290 :: u 291 :: u 292 :: u 293 :: u 294 :: u 295 :: u 296 :: u 297 :: u 298 :: u 299 :: u 300 :: u 301 :: u 302 :: u 303 :: u 304 :: u 305 :: u 306 :: u 307 :: u 308 :: u 309 :: u 310 :: u 311 :: u 312 :: u 313 :: u 314 :: u 315 :: u 316 :: u 317 :: u 318 :: u 319 :: u 320 :: u 321 :: u 322 :: u 323 :: u 324 :: u 325 :: u 326 :: u 327 :: u 328 :: u 329 :: u 330 :: u 331 :: u 332 :: u 333 :: u 334 :: u 335 :: u 336 :: u 337 :: u 338 :: u 339 :: u 340 :: u 341 :: u 342 :: u 343 :: u 344 :: u 345 :: u 346 :: u 347 :: u 348 :: u 349 :: u 350 :: u 351 :: u 352 :: u 353 :: u 354 :: u 355 :: u 356 :: u 357 :: u 358 :: u 359 :: u 360 :: u 361 :: u 362 :: u 363 :: u 364 :: u 365 :: u 366 :: u 367 :: u 368 :: u 369 :: u 370 :: u 371 :: u 372 :: u 373 :: u 374 :: u 375 :: u 376 :: u 377 :: u 378 :: u 379 :: u 380 :: u 381 :: u 382 :: u 383 :: []), []⟩ wr := by
  have q0 : (0 : Int) ≤ (t0.toNat : Int) := by omega
  have q1 : ¬ (t0.toNat : Int) < 0 := by omega
  have q2 : (t0.toNat : Int) < 256 := by have := t0.toNat_lt; omega
  have t60 : ((t0.toNat : Int) == 60) = false := by rcases ht0 with rfl | rfl <;> decide
  have t62 : ((t0.toNat : Int) == 62) = false := by rcases ht0 with rfl | rfl <;> decide
  have HB := Lib.hid hB
  have HNN := Lib.hid hN
  have HS := Lib.hid (Stp.refl Fq wr)
  have hjl : (v.take j).length ≤ 1000 := by rw [List.length_take]; omega
  have hlen : (v.take j).length + 1 ≤ 1000000 := by omega
  clear hN hB
  have hap : esc (v.drop j) ++ tm = 38 :: 35 :: 120 :: 65 :: 59 :: (esc (v.drop (j + 1)) ++ tm) := by rw [List.drop_eq_getElem_cons hlt, esc_cons, ← hc, hcc]; rfl
  rw [hap] at hd
  have nq : ((38 : Int) == (t0.toNat : Int)) = false := by rcases ht0 with rfl | rfl <;> decide
  obtain ⟨L, hL⟩ : ∃ L, L = v.take j := ⟨_, rfl⟩
  rw [← hL] at hd hlen hjl
  obtain ⟨L1, hL1⟩ : ∃ x, x = L ++ [38] := ⟨_, rfl⟩
  obtain ⟨L2, hL2⟩ : ∃ x, x = L1 ++ [35] := ⟨_, rfl⟩
  obtain ⟨L3, hL3⟩ : ∃ x, x = L2 ++ [120] := ⟨_, rfl⟩
  obtain ⟨L4, hL4⟩ : ∃ x, x = L3 ++ [65] := ⟨_, rfl⟩
  obtain ⟨L5, hL5⟩ : ∃ x, x = L4 ++ [59] := ⟨_, rfl⟩
  have hn1 : L1.length = L.length + 1 := by rw [hL1]; simp
  have hn2 : L2.length = L.length + 2 := by rw [hL2]; simp [hn1]
  have hn3 : L3.length = L.length + 3 := by rw [hL3]; simp [hn2]
  have hn4 : L4.length = L.length + 4 := by rw [hL4]; simp [hn3]
  have hn5 : L5.length = L.length + 5 := by rw [hL5]; simp [hn4]
  have hfull : L4 = L3 ++ [65] := by rw [hL4]
  have htake : L5.take L.length = L := by rw [hL5, hL4, hL3, hL2, hL1]; simp
  have hne : L4 ≠ [] := by rw [hfull]; simp
  have HM0 : Hid (L.length + 1 ≤ 1000000) := Lib.hid hlen
  have HM1 : Hid (L1.length + 1 ≤ 1000000) := Lib.hid (by omega)
  have HM2 : Hid (L2.length + 1 ≤ 1000000) := Lib.hid (by omega)
  have HM3 : Hid (L3.length + 1 ≤ 1000000) := Lib.hid (by omega)
  have HM4 : Hid (L4.length + 1 ≤ 1000000) := Lib.hid (by omega)
  have HM5 : Hid (L5.length + 1 ≤ 1000000) := Lib.hid (by omega)
  have HTR : Hid (L.length ≤ L5.length) := Lib.hid (by omega)
  have HSZ : Hid (L4.length = L3.length + 1) := Lib.hid (by omega)
  have HWS : Hid (L.length + 1 ≤ 1000000) := Lib.hid hlen
  have HL1 := Lib.hid hL1
  have HN1 := Lib.hid hn1
  have HL2 := Lib.hid hL2
  have HN2 := Lib.hid hn2
  have HL3 := Lib.hid hL3
  have HN3 := Lib.hid hn3
  have HL4 := Lib.hid hL4
  have HN4 := Lib.hid hn4
  have HL5 := Lib.hid hL5
  have HN5 := Lib.hid hn5
  have HL := Lib.hid hL
  have HFU := Lib.hid hfull
  have HTK := Lib.hid htake
  have HNE := Lib.hid hne
  have HD := Lib.hid hd
  have HCQ := Lib.hid hcc
  have hrs := fun W => rune_str 10 10 (by decide) W
  clear hd hap hc hcc hL hfull htake hne hL1 hn1 hL2 hn2 hL3 hn3 hL4 hn4 hL5 hn5
  conv => arg 2; whnf
  go_wp2_with (first | (go_at_call 50; refine (len_ds HC8.out).mono ?_; rintro e w9 ⟨rfl, n9, q9⟩; have HC9 := Lib.hid (HC8.out.drewN n9); have HT9 := Lib.hid (HT8.out.drewN n9); rw [← q9] at HC9 HT9; clear q9) | (go_at_call 39; refine (mustgetc_n hI HB.out HC7.out 65 (by decide)).mono ?_; rintro e w8 ⟨rfl, h8, e8⟩; have HC8 := Lib.hid h8; have HT8 := Lib.hid (HT7.out.trans (Stp.of e8)); clear h8 e8) | (go_at_call 44; refine (wb_n HC6.out 120 120 (by decide) HL3.out HM2.out).mono ?_; rintro e w7 ⟨rfl, Fp7, h7, e7⟩; have HC7 := Lib.hid h7; have HT7 := Lib.hid (HT6.out.trans e7); clear h7 e7) | (go_at_call 39; refine (mustgetc_n hI HB.out HC5.out 120 (by decide)).mono ?_; rintro e w6 ⟨rfl, h6, e6⟩; have HC6 := Lib.hid h6; have HT6 := Lib.hid (HT5.out.trans (Stp.of e6)); clear h6 e6) | (go_at_call 44; refine (wb_n HC4.out 35 35 (by decide) HL2.out HM1.out).mono ?_; rintro e w5 ⟨rfl, Fp5, h5, e5⟩; have HC5 := Lib.hid h5; have HT5 := Lib.hid (HT4.out.trans e5); clear h5 e5) | (go_at_call 39; refine (mustgetc_n hI HB.out HC3.out 35 (by decide)).mono ?_; rintro e w4 ⟨rfl, h4, e4⟩; have HC4 := Lib.hid h4; have HT4 := Lib.hid (HT3.out.trans (Stp.of e4)); clear h4 e4) | (go_at_call 44; refine (wb_n HC2.out 38 38 (by decide) HL1.out HM0.out).mono ?_; rintro e w3 ⟨rfl, Fp3, h3, e3⟩; have HC3 := Lib.hid h3; have HT3 := Lib.hid (HT2.out.trans e3); clear h3 e3) | (go_at_call 50; refine (len_ds HC1.out).mono ?_; rintro e w2 ⟨rfl, n2, q2⟩; have HC2 := Lib.hid (HC1.out.drewN n2); have HT2 := Lib.hid (HT1.out.drewN n2); rw [← q2] at HC2 HT2; clear q2) | (go_at_call 36; refine (getc_n hI HB.out HD.out 38 (by decide)).mono ?_; rintro e w1 ⟨rfl, h1, e1⟩; have HC1 := Lib.hid h1; have HT1 := Lib.hid (HS.out.trans (Stp.of e1)); clear h1 e1))
  refine wp_loop_rounds 2 ?_; rw [rounds_succ]
  go_wp2_with (first | (go_at_call 39; refine (mustgetc_n hI HB.out HC10.out 59 (by decide)).mono ?_; rintro e w11 ⟨rfl, h11, e11⟩; have HC11 := Lib.hid h11; have HT11 := Lib.hid (HT10.out.trans (Stp.of e11)); clear h11 e11) | (go_at_call 44; refine (wb_n HC9.out 65 65 (by decide) HL4.out HM3.out).mono ?_; rintro e w10 ⟨rfl, Fp10, h10, e10⟩; have HC10 := Lib.hid h10; have HT10 := Lib.hid (HT9.out.trans e10); clear h10 e10))
  rw [rounds_succ]
  go_wp2_with (first | (go_at_call 61; refine (ws_ds HC15.out ⟨#[10]⟩ (by decide) (by decide) HWS.out).mono ?_; rintro e w16 ⟨rfl, Fp16, h16, e16⟩; have HC16 := Lib.hid h16; have HT16 := Lib.hid (HT15.out.trans e16); clear h16 e16) | (go_at_call 49; refine (trunc_ds HC14.out L.length HTR.out).mono ?_; rintro e w15 ⟨rfl, Fp15, h15, e15⟩; have HC15 : Hid (DS I Fp15 B L _ _ w15) := Lib.hid (HTK.out ▸ h15); have HT15 := Lib.hid (HT14.out.trans e15); clear h15 e15) | (go_at_call 57; refine (pu_A _).mono ?_; rintro e w14 ⟨rfl, q14⟩; have HC14 := Lib.hid (HC13.out.below q14); have HT14 := Lib.hid (HT13.out.below q14); clear q14) | (go_at_call 44; refine (wb_n HC12.out 59 59 (by decide) HL5.out HM4.out).mono ?_; rintro e w13 ⟨rfl, Fp13, h13, e13⟩; have HC13 := Lib.hid h13; have HT13 := Lib.hid (HT12.out.trans e13); clear h13 e13) | (go_at_call 45; refine (bytes_ds HC11.out (by exact HNE.out)).mono ?_; rintro e w12 ⟨g, cap, rfl, hR, hg, n12, q12⟩; have HC12 := Lib.hid (HC11.out.drewN n12); have HT12 := Lib.hid (HT11.out.drewN n12); rw [← q12] at HC12 HT12; have hsl := fun W => slice_from g L4.length L3.length 1 cap _ rfl HSZ.out (by decide) hR.le W; have hcv := conv_at [65] g L3.length 1 (cap - L3.length) _ rfl (fun j x hj => hR.cells _ x (by rw [HFU.out]; exact app_at hj)); have HR := Lib.hid hR; have HG := Lib.hid hg; clear q12 hR hg))
  exact HNN.out _ _ _ ⟨rfl, rfl, rfl, rfl, rfl, ⟨_, rfl⟩, ⟨_, rfl⟩, rfl⟩ (by rw [← HL.out, HCQ.out]; exact HC16.out) HT16.out
set_option maxHeartbeats 4000000 in
set_option maxRecDepth 1000000 in
theorem rdA_13 {I : Ids} {Fq : Nat → Prop} {B : Nat → Option Value} {v tm : List UInt8} {f : Bool} {wr : World} {j : Nat} {u : Nat → Value} {x7 x8 : Int} {c : UInt8} {N : Act → World → Prop} {Q0 : Exit → Act → World → Prop} {t0 : UInt8} (hI : IdOk I) (hB : BOk I B) (ht0 : t0 = 34 ∨ t0 = 39) (hv : v.length ≤ 1000) (hlt : j < v.length) (hc : c = v[j]) (hd : DS I Fq B (v.take j) (esc (v.drop j) ++ tm) f wr)
    (hN : ∀ a' w' Fp', TxtA I (t0.toNat : Int) a' → DS I Fp' B (v.take j ++ [c]) (esc (v.drop (j + 1)) ++ tm) true w' → Stp Fq Fp' wr w' → N a' w') (hcc : c = 13) :
    Code.wp Tryz.prog txtBody (Exit.then N Q0) ⟨List.toArray (.pointer (some ⟨I.dd, 0, none⟩) :: .int .i64 (t0.toNat : Int) :: .bool false :: u 3 :: u 4 :: u 5 :: u 6 :: .int .u8 x7 :: .int .u8 x8 :: .int .i64 0 :: u 10 :: u 11 :: u 12 :: u 13 :: u 14 :: u 15 :: u 16 :: u 17 :: u 18 :: u 19 :: u 20 :: u 21 :: u 22 :: u 23 :: u 24 :: u 25 :: u 26 :: u 27 :: u 28 :: u 29 :: u 30 :: u 31 :: u 32 :: u 33 :: u 34 :: u 35 :: u 36 :: u 37 :: u 38 :: u 39 :: u 40 :: u 41 :: u 42 :: u 43 :: u 44 :: u 45 :: u 46 :: u 47 :: u 48 :: u 49 :: u 50 :: u 51 :: u 52 :: u 53 :: u 54 :: u 55 :: u 56 :: u 57 :: u 58 :: u 59 :: u 60 :: u 61 :: u 62 :: u 63 :: u 64 :: u 65 :: u 66 :: u 67 :: u 68 :: u 69 :: u 70 :: u 71 :: u 72 :: u 73 :: u 74 :: u 75 :: u 76 :: u 77 :: u 78 :: u 79 :: u 80 :: u 81 :: u 82 :: u 83 :: u 84 :: u 85 :: u 86 :: u 87 :: u 88 :: u 89 :: u 90 :: u 91 :: u 92 :: u 93 :: u 94 :: u 95 :: u 96 :: u 97 :: u 98 :: u 99 :: u 100 :: u 101 :: u 102 :: u 103 :: u 104 :: u 105 :: u 106 :: u 107 :: u 108 :: u 109 :: u 110 :: u 111 :: u 112 :: u 113 :: u 114 :: u 115 :: u 116 :: u 117 :: u 118 :: u 119 :: u 120 :: u 121 :: u 122 :: u 123 :: u 124 :: u 125 :: u 126 :: u 127 :: u 128 :: u 129 :: u 130 :: u 131 :: u 132 :: u 133 :: u 134 :: u 135 :: u 136 :: u 137 :: u 138 :: u 139 :: u 140 :: u 141 :: u 142 :: u 143 :: u 144 :: u 145 :: u 146 :: u 147 :: u 148 :: u 149 :: u 150 :: u 151 :: u 152 :: u 153 :: u 154 :: u 155 :: u 156 :: u 157 :: u 158 :: u 159 :: u 160 :: u 161 :: u 162 :: u 163 :: u 164 :: u 165 :: u 166 :: u 167 :: u 168 :: u 169 :: u 170 :: u 171 :: u 172 :: u 173 :: u 174 :: u 175 :: u 176 :: u 177 :: u 178 :: u 179 :: u 180 :: u 181 :: u 182 :: u 183 :: u 184 :: u 185 :: u 186 :: u 187 :: u 188 :: u 189 :: u 190 :: u 191 :: u 192 :: u 193 :: u 194 :: u 195 :: u 196 :: u 197 :: u 198 :: u 199 :: u 200 :: u 201 :: u 202 :: u 203 :: u 204 :: u 205 :: u 206 :: u 207 :: u 208 :: u 209 :: u 210 :: u 211 :: u 212 :: u 213 :: u 214 :: u 215 :: u 216 :: u 217 :: u 218 :: u 219 :: u 220 :: u 221 :: u 222 :: u 223 :: u 224 :: u 225 :: u 226 :: u 227 :: u 228 :: u 229 :: u 230 :: u 231 :: u 232 :: u 233 :: u 234 :: u 235 :: u 236 :: u 237 :: u 238 :: u 239 :: u 240 :: u 241 :: u 242 :: u 243 :: u 244 :: u 245 :: u 246 :: u 247 :: u 248 :: u 249 :: u 250 :: u 251 :: u 252 :: u 253 :: u 254 :: u 255 :: u 256 :: u 257 :: u 258 :: u 259 :: u 260 :: u 261 :: u 262 :: u 263 :: u 264 :: u 265 :: u 266 :: u 267 :: u 268 :: u 269 :: u 270 :: u 271 :: u 272 :: u 273 :: u 274 :: u 275 :: u 276 :: u 277 :: u 278 :: u 279 :: u 280 :: u 281 :: u 282 :: u 283 :: u 284 :: u 285 :: u 286 :: u 287 :: u 288 :: u 289 :: u 290 :: u 291 :: u 292 :: u 293 :: u 294 :: u 295 :: u 296 :: u 297 :: u 298 :: u 299 :: u 300 :: u 301 :: u 302 :: u 303 :: u 304 :: u 305 :: u 306 :: u 307 :: u 308 :: u 309 :: u 310 :: u 311 :: u 312 :: u 313 :: u 314 :: u 315 :: u 316 :: u 317 :: u 318 :: u 319 :: u 320 :: u 321 :: u 322 :: u 323 :: u 324 :: u 325 :: u 326 :: u 327 :: u 328 :: u 329 :: u 330 :: u 331 :: u 332 :: u 333 :: u 334 :: u 335 :: u 336 :: u 337 :: u 338 :: u 339 :: u 340 :: u 341 :: u 342 :: u 343 :: u 344 :: u 345 :: u 346 :: u 347 :: u 348 :: u 349 :: u 350 :: u 351 :: u 352 :: u 353 :: u 354 :: u 355 :: u 356 :: u 357 :: u 358 :: u 359 :: u 360 :: u 361 :: u 362 :: u 363 :: u 364 :: u 365 :: u 366 :: u 367 :: u 368 :: u 369 :: u 370 :: u 371 :: u 372 :: u 373 :: u 374 :: u 375 :: u 376 :: u 377 :: u 378 :: u 379 :: u 380 :: u 381 :: u 382 :: u 383 :: []), []⟩ wr := by
  have q0 : (0 : Int) ≤ (t0.toNat : Int) := by omega
  have q1 : ¬ (t0.toNat : Int) < 0 := by omega
  have q2 : (t0.toNat : Int) < 256 := by have := t0.toNat_lt; omega
  have t60 : ((t0.toNat : Int) == 60) = false := by rcases ht0 with rfl | rfl <;> decide
  have t62 : ((t0.toNat : Int) == 62) = false := by rcases ht0 with rfl | rfl <;> decide
  have HB := Lib.hid hB
  have HNN := Lib.hid hN
  have HS := Lib.hid (Stp.refl Fq wr)
  have hjl : (v.take j).length ≤ 1000 := by rw [List.length_take]; omega
  have hlen : (v.take j).length + 1 ≤ 1000000 := by omega
  clear hN hB
  have hap : esc (v.drop j) ++ tm = 38 :: 35 :: 120 :: 68 :: 59 :: (esc (v.drop (j + 1)) ++ tm) := by rw [List.drop_eq_getElem_cons hlt, esc_cons, ← hc, hcc]; rfl
  rw [hap] at hd
  have nq : ((38 : Int) == (t0.toNat : Int)) = false := by rcases ht0 with rfl | rfl <;> decide
  obtain ⟨L, hL⟩ : ∃ L, L = v.take j := ⟨_, rfl⟩
  rw [← hL] at hd hlen hjl
  obtain ⟨L1, hL1⟩ : ∃ x, x = L ++ [38] := ⟨_, rfl⟩
  obtain ⟨L2, hL2⟩ : ∃ x, x = L1 ++ [35] := ⟨_, rfl⟩
  obtain ⟨L3, hL3⟩ : ∃ x, x = L2 ++ [120] := ⟨_, rfl⟩
  obtain ⟨L4, hL4⟩ : ∃ x, x = L3 ++ [68] := ⟨_, rfl⟩
  obtain ⟨L5, hL5⟩ : ∃ x, x = L4 ++ [59] := ⟨_, rfl⟩
  have hn1 : L1.length = L.length + 1 := by rw [hL1]; simp
  have hn2 : L2.length = L.length + 2 := by rw [hL2]; simp [hn1]
  have hn3 : L3.length = L.length + 3 := by rw [hL3]; simp [hn2]
  have hn4 : L4.length = L.length + 4 := by rw [hL4]; simp [hn3]
  have hn5 : L5.length = L.length + 5 := by rw [hL5]; simp [hn4]
  have hfull : L4 = L3 ++ [68] := by rw [hL4]
  have htake : L5.take L.length = L := by rw [hL5, hL4, hL3, hL2, hL1]; simp
  have hne : L4 ≠ [] := by rw [hfull]; simp
  have HM0 : Hid (L.length + 1 ≤ 1000000) := Lib.hid hlen
  have HM1 : Hid (L1.length + 1 ≤ 1000000) := Lib.hid (by omega)
  have HM2 : Hid (L2.length + 1 ≤ 1000000) := Lib.hid (by omega)
  have HM3 : Hid (L3.length + 1 ≤ 1000000) := Lib.hid (by omega)
  have HM4 : Hid (L4.length + 1 ≤ 1000000) := Lib.hid (by omega)
  have HM5 : Hid (L5.length + 1 ≤ 1000000) := Lib.hid (by omega)
  have HTR : Hid (L.length ≤ L5.length) := Lib.hid (by omega)
  have HSZ : Hid (L4.length = L3.length + 1) := Lib.hid (by omega)
  have HWS : Hid (L.length + 1 ≤ 1000000) := Lib.hid hlen
  have HL1 := Lib.hid hL1
  have HN1 := Lib.hid hn1
  have HL2 := Lib.hid hL2
  have HN2 := Lib.hid hn2
  have HL3 := Lib.hid hL3
  have HN3 := Lib.hid hn3
  have HL4 := Lib.hid hL4
  have HN4 := Lib.hid hn4
  have HL5 := Lib.hid hL5
  have HN5 := Lib.hid hn5
  have HL := Lib.hid hL
  have HFU := Lib.hid hfull
  have HTK := Lib.hid htake
  have HNE := Lib.hid hne
  have HD := Lib.hid hd
  have HCQ := Lib.hid hcc
  have hrs := fun W => rune_str 13 13 (by decide) W
  clear hd hap hc hcc hL hfull htake hne hL1 hn1 hL2 hn2 hL3 hn3 hL4 hn4 hL5 hn5
  conv => arg 2; whnf
  go_wp2_with (first | (go_at_call 50; refine (len_ds HC8.out).mono ?_; rintro e w9 ⟨rfl, n9, q9⟩; have HC9 := Lib.hid (HC8.out.drewN n9); have HT9 := Lib.hid (HT8.out.drewN n9); rw [← q9] at HC9 HT9; clear q9) | (go_at_call 39; refine (mustgetc_n hI HB.out HC7.out 68 (by decide)).mono ?_; rintro e w8 ⟨rfl, h8, e8⟩; have HC8 := Lib.hid h8; have HT8 := Lib.hid (HT7.out.trans (Stp.of e8)); clear h8 e8) | (go_at_call 44; refine (wb_n HC6.out 120 120 (by decide) HL3.out HM2.out).mono ?_; rintro e w7 ⟨rfl, Fp7, h7, e7⟩; have HC7 := Lib.hid h7; have HT7 := Lib.hid (HT6.out.trans e7); clear h7 e7) | (go_at_call 39; refine (mustgetc_n hI HB.out HC5.out 120 (by decide)).mono ?_; rintro e w6 ⟨rfl, h6, e6⟩; have HC6 := Lib.hid h6; have HT6 := Lib.hid (HT5.out.trans (Stp.of e6)); clear h6 e6) | (go_at_call 44; refine (wb_n HC4.out 35 35 (by decide) HL2.out HM1.out).mono ?_; rintro e w5 ⟨rfl, Fp5, h5, e5⟩; have HC5 := Lib.hid h5; have HT5 := Lib.hid (HT4.out.trans e5); clear h5 e5) | (go_at_call 39; refine (mustgetc_n hI HB.out HC3.out 35 (by decide)).mono ?_; rintro e w4 ⟨rfl, h4, e4⟩; have HC4 := Lib.hid h4; have HT4 := Lib.hid (HT3.out.trans (Stp.of e4)); clear h4 e4) | (go_at_call 44; refine (wb_n HC2.out 38 38 (by decide) HL1.out HM0.out).mono ?_; rintro e w3 ⟨rfl, Fp3, h3, e3⟩; have HC3 := Lib.hid h3; have HT3 := Lib.hid (HT2.out.trans e3); clear h3 e3) | (go_at_call 50; refine (len_ds HC1.out).mono ?_; rintro e w2 ⟨rfl, n2, q2⟩; have HC2 := Lib.hid (HC1.out.drewN n2); have HT2 := Lib.hid (HT1.out.drewN n2); rw [← q2] at HC2 HT2; clear q2) | (go_at_call 36; refine (getc_n hI HB.out HD.out 38 (by decide)).mono ?_; rintro e w1 ⟨rfl, h1, e1⟩; have HC1 := Lib.hid h1; have HT1 := Lib.hid (HS.out.trans (Stp.of e1)); clear h1 e1))
  refine wp_loop_rounds 2 ?_; rw [rounds_succ]
  go_wp2_with (first | (go_at_call 39; refine (mustgetc_n hI HB.out HC10.out 59 (by decide)).mono ?_; rintro e w11 ⟨rfl, h11, e11⟩; have HC11 := Lib.hid h11; have HT11 := Lib.hid (HT10.out.trans (Stp.of e11)); clear h11 e11) | (go_at_call 44; refine (wb_n HC9.out 68 68 (by decide) HL4.out HM3.out).mono ?_; rintro e w10 ⟨rfl, Fp10, h10, e10⟩; have HC10 := Lib.hid h10; have HT10 := Lib.hid (HT9.out.trans e10); clear h10 e10))
  rw [rounds_succ]
  go_wp2_with (first | (go_at_call 61; refine (ws_ds HC15.out ⟨#[13]⟩ (by decide) (by decide) HWS.out).mono ?_; rintro e w16 ⟨rfl, Fp16, h16, e16⟩; have HC16 := Lib.hid h16; have HT16 := Lib.hid (HT15.out.trans e16); clear h16 e16) | (go_at_call 49; refine (trunc_ds HC14.out L.length HTR.out).mono ?_; rintro e w15 ⟨rfl, Fp15, h15, e15⟩; have HC15 : Hid (DS I Fp15 B L _ _ w15) := Lib.hid (HTK.out ▸ h15); have HT15 := Lib.hid (HT14.out.trans e15); clear h15 e15) | (go_at_call 57; refine (pu_D _).mono ?_; rintro e w14 ⟨rfl, q14⟩; have HC14 := Lib.hid (HC13.out.below q14); have HT14 := Lib.hid (HT13.out.below q14); clear q14) | (go_at_call 44; refine (wb_n HC12.out 59 59 (by decide) HL5.out HM4.out).mono ?_; rintro e w13 ⟨rfl, Fp13, h13, e13⟩; have HC13 := Lib.hid h13; have HT13 := Lib.hid (HT12.out.trans e13); clear h13 e13) | (go_at_call 45; refine (bytes_ds HC11.out (by exact HNE.out)).mono ?_; rintro e w12 ⟨g, cap, rfl, hR, hg, n12, q12⟩; have HC12 := Lib.hid (HC11.out.drewN n12); have HT12 := Lib.hid (HT11.out.drewN n12); rw [← q12] at HC12 HT12; have hsl := fun W => slice_from g L4.length L3.length 1 cap _ rfl HSZ.out (by decide) hR.le W; have hcv := conv_at [68] g L3.length 1 (cap - L3.length) _ rfl (fun j x hj => hR.cells _ x (by rw [HFU.out]; exact app_at hj)); have HR := Lib.hid hR; have HG := Lib.hid hg; clear q12 hR hg))
  exact HNN.out _ _ _ ⟨rfl, rfl, rfl, rfl, rfl, ⟨_, rfl⟩, ⟨_, rfl⟩, rfl⟩ (by rw [← HL.out, HCQ.out]; exact HC16.out) HT16.out
set_option maxHeartbeats 4000000 in
set_option maxRecDepth 1000000 in
theorem rdA_38 {I : Ids} {Fq : Nat → Prop} {B : Nat → Option Value} {v tm : List UInt8} {f : Bool} {wr : World} {j : Nat} {u : Nat → Value} {x7 x8 : Int} {c : UInt8} {N : Act → World → Prop} {Q0 : Exit → Act → World → Prop} {t0 : UInt8} (hI : IdOk I) (hB : BOk I B) (ht0 : t0 = 34 ∨ t0 = 39) (hv : v.length ≤ 1000) (hlt : j < v.length) (hc : c = v[j]) (hd : DS I Fq B (v.take j) (esc (v.drop j) ++ tm) f wr)
    (hN : ∀ a' w' Fp', TxtA I (t0.toNat : Int) a' → DS I Fp' B (v.take j ++ [c]) (esc (v.drop (j + 1)) ++ tm) true w' → Stp Fq Fp' wr w' → N a' w') (hcc : c = 38) :
    Code.wp Tryz.prog txtBody (Exit.then N Q0) ⟨List.toArray (.pointer (some ⟨I.dd, 0, none⟩) :: .int .i64 (t0.toNat : Int) :: .bool false :: u 3 :: u 4 :: u 5 :: u 6 :: .int .u8 x7 :: .int .u8 x8 :: .int .i64 0 :: u 10 :: u 11 :: u 12 :: u 13 :: u 14 :: u 15 :: u 16 :: u 17 :: u 18 :: u 19 :: u 20 :: u 21 :: u 22 :: u 23 :: u 24 :: u 25 :: u 26 :: u 27 :: u 28 :: u 29 :: u 30 :: u 31 :: u 32 :: u 33 :: u 34 :: u 35 :: u 36 :: u 37 :: u 38 :: u 39 :: u 40 :: u 41 :: u 42 :: u 43 :: u 44 :: u 45 :: u 46 :: u 47 :: u 48 :: u 49 :: u 50 :: u 51 :: u 52 :: u 53 :: u 54 :: u 55 :: u 56 :: u 57 :: u 58 :: u 59 :: u 60 :: u 61 :: u 62 :: u 63 :: u 64 :: u 65 :: u 66 :: u 67 :: u 68 :: u 69 :: u 70 :: u 71 :: u 72 :: u 73 :: u 74 :: u 75 :: u 76 :: u 77 :: u 78 :: u 79 :: u 80 :: u 81 :: u 82 :: u 83 :: u 84 :: u 85 :: u 86 :: u 87 :: u 88 :: u 89 :: u 90 :: u 91 :: u 92 :: u 93 :: u 94 :: u 95 :: u 96 :: u 97 :: u 98 :: u 99 :: u 100 :: u 101 :: u 102 :: u 103 :: u 104 :: u 105 :: u 106 :: u 107 :: u 108 :: u 109 :: u 110 :: u 111 :: u 112 :: u 113 :: u 114 :: u 115 :: u 116 :: u 117 :: u 118 :: u 119 :: u 120 :: u 121 :: u 122 :: u 123 :: u 124 :: u 125 :: u 126 :: u 127 :: u 128 :: u 129 :: u 130 :: u 131 :: u 132 :: u 133 :: u 134 :: u 135 :: u 136 :: u 137 :: u 138 :: u 139 :: u 140 :: u 141 :: u 142 :: u 143 :: u 144 :: u 145 :: u 146 :: u 147 :: u 148 :: u 149 :: u 150 :: u 151 :: u 152 :: u 153 :: u 154 :: u 155 :: u 156 :: u 157 :: u 158 :: u 159 :: u 160 :: u 161 :: u 162 :: u 163 :: u 164 :: u 165 :: u 166 :: u 167 :: u 168 :: u 169 :: u 170 :: u 171 :: u 172 :: u 173 :: u 174 :: u 175 :: u 176 :: u 177 :: u 178 :: u 179 :: u 180 :: u 181 :: u 182 :: u 183 :: u 184 :: u 185 :: u 186 :: u 187 :: u 188 :: u 189 :: u 190 :: u 191 :: u 192 :: u 193 :: u 194 :: u 195 :: u 196 :: u 197 :: u 198 :: u 199 :: u 200 :: u 201 :: u 202 :: u 203 :: u 204 :: u 205 :: u 206 :: u 207 :: u 208 :: u 209 :: u 210 :: u 211 :: u 212 :: u 213 :: u 214 :: u 215 :: u 216 :: u 217 :: u 218 :: u 219 :: u 220 :: u 221 :: u 222 :: u 223 :: u 224 :: u 225 :: u 226 :: u 227 :: u 228 :: u 229 :: u 230 :: u 231 :: u 232 :: u 233 :: u 234 :: u 235 :: u 236 :: u 237 :: u 238 :: u 239 :: u 240 :: u 241 :: u 242 :: u 243 :: u 244 :: u 245 :: u 246 :: u 247 :: u 248 :: u 249 :: u 250 :: u 251 :: u 252 :: u 253 :: u 254 :: u 255 :: u 256 :: u 257 :: u 258 :: u 259 :: u 260 :: u 261 :: u 262 :: u 263 :: u 264 :: u 265 :: u 266 :: u 267 :: u 268 :: u 269 :: u 270 :: u 271 :: u 272 :: u 273 :: u 274 :: u 275 :: u 276 :: u 277 :: u 278 :: u 279 :: u 280 :: u 281 :: u 282 :: u 283 :: u 284 :: u 285 :: u 286 :: u 287 :: u 288 :: u 289 :: u 290 :: u 291 :: u 292 :: u 293 :: u 294 :: u 295 :: u 296 :: u 297 :: u 298 :: u 299 :: u 300 :: u 301 :: u 302 :: u 303 :: u 304 :: u 305 :: u 306 :: u 307 :: u 308 :: u 309 :: u 310 :: u 311 :: u 312 :: u 313 :: u 314 :: u 315 :: u 316 :: u 317 :: u 318 :: u 319 :: u 320 :: u 321 :: u 322 :: u 323 :: u 324 :: u 325 :: u 326 :: u 327 :: u 328 :: u 329 :: u 330 :: u 331 :: u 332 :: u 333 :: u 334 :: u 335 :: u 336 :: u 337 :: u 338 :: u 339 :: u 340 :: u 341 :: u 342 :: u 343 :: u 344 :: u 345 :: u 346 :: u 347 :: u 348 :: u 349 :: u 350 :: u 351 :: u 352 :: u 353 :: u 354 :: u 355 :: u 356 :: u 357 :: u 358 :: u 359 :: u 360 :: u 361 :: u 362 :: u 363 :: u 364 :: u 365 :: u 366 :: u 367 :: u 368 :: u 369 :: u 370 :: u 371 :: u 372 :: u 373 :: u 374 :: u 375 :: u 376 :: u 377 :: u 378 :: u 379 :: u 380 :: u 381 :: u 382 :: u 383 :: []), []⟩ wr := by
  have q0 : (0 : Int) ≤ (t0.toNat : Int) := by omega
  have q1 : ¬ (t0.toNat : Int) < 0 := by omega
  have q2 : (t0.toNat : Int) < 256 := by have := t0.toNat_lt; omega
  have t60 : ((t0.toNat : Int) == 60) = false := by rcases ht0 with rfl | rfl <;> decide
  have t62 : ((t0.toNat : Int) == 62) = false := by rcases ht0 with rfl | rfl <;> decide
  have HB := Lib.hid hB
  have HNN := Lib.hid hN
  have HS := Lib.hid (Stp.refl Fq wr)
  have hjl : (v.take j).length ≤ 1000 := by rw [List.length_take]; omega
  have hlen : (v.take j).length + 1 ≤ 1000000 := by omega
  clear hN hB
  have hap : esc (v.drop j) ++ tm = 38 :: 97 :: 109 :: 112 :: 59 :: (esc (v.drop (j + 1)) ++ tm) := by rw [List.drop_eq_getElem_cons hlt, esc_cons, ← hc, hcc]; rfl
  rw [hap] at hd
  have nq : ((38 : Int) == (t0.toNat : Int)) = false := by rcases ht0 with rfl | rfl <;> decide
  obtain ⟨L, hL⟩ : ∃ L, L = v.take j := ⟨_, rfl⟩
  rw [← hL] at hd hlen hjl
  obtain ⟨L1, hL1⟩ : ∃ x, x = L ++ [38] := ⟨_, rfl⟩
  obtain ⟨L2, hL2⟩ : ∃ x, x = L1 ++ [97, 109, 112] := ⟨_, rfl⟩
  obtain ⟨L3, hL3⟩ : ∃ x, x = L2 ++ [59] := ⟨_, rfl⟩
  have hn1 : L1.length = L.length + 1 := by rw [hL1]; simp
  have hn2 : L2.length = L.length + 4 := by rw [hL2]; simp [hn1]
  have hn3 : L3.length = L.length + 5 := by rw [hL3]; simp [hn2]
  have hfull : L2 = L1 ++ [97, 109, 112] := by rw [hL2]
  have htake : L3.take L.length = L := by rw [hL3, hL2, hL1]; simp
  have hne : L2 ≠ [] := by rw [hfull]; simp
  have HM0 : Hid (L.length + 1 ≤ 1000000) := Lib.hid hlen
  have HM1 : Hid (L1.length + 1 ≤ 1000000) := Lib.hid (by omega)
  have HM2 : Hid (L2.length + 1 ≤ 1000000) := Lib.hid (by omega)
  have HM3 : Hid (L3.length + 1 ≤ 1000000) := Lib.hid (by omega)
  have HTR : Hid (L.length ≤ L3.length) := Lib.hid (by omega)
  have HSZ : Hid (L2.length = L1.length + 3) := Lib.hid (by omega)
  have HWS : Hid (L.length + 1 ≤ 1000000) := Lib.hid hlen
  have HL1 := Lib.hid hL1
  have HN1 := Lib.hid hn1
  have HL2 := Lib.hid hL2
  have HN2 := Lib.hid hn2
  have HL3 := Lib.hid hL3
  have HN3 := Lib.hid hn3
  have HL := Lib.hid hL
  have HFU := Lib.hid hfull
  have HTK := Lib.hid htake
  have HNE := Lib.hid hne
  have HD := Lib.hid hd
  have HCQ := Lib.hid hcc
  have HLX : Hid (Let 97) := Lib.hid ⟨by decide, by decide⟩
  have HLR : Hid (∀ y ∈ ([109, 112] : List UInt8), Let y) := Lib.hid (by intro y hy; simp at hy; rcases hy with rfl | rfl <;> exact ⟨by decide, by decide⟩)
  have HRL : Hid (L1.length + ([109, 112] : List UInt8).length ≤ 100000) := Lib.hid (by simp; omega)
  have HX1 : Hid (((L.length : Int) + 1) = (L1.length : Int)) := Lib.hid (by omega)
  have hrs := fun W => rune_str 38 38 (by decide) W
  clear hd hap hc hcc hL hfull htake hne hL1 hn1 hL2 hn2 hL3 hn3
  conv => arg 2; whnf
  go_wp2_with (first | (go_at_call 61; refine (ws_ds HC11.out ⟨#[38]⟩ (by decide) (by decide) HWS.out).mono ?_; rintro e w12 ⟨rfl, Fp12, h12, e12⟩; have HC12 := Lib.hid h12; have HT12 := Lib.hid (HT11.out.trans e12); clear h12 e12) | (go_at_call 49; refine (trunc_ds HC10.out L.length HTR.out).mono ?_; rintro e w11 ⟨rfl, Fp11, h11, e11⟩; have HC11 : Hid (DS I Fp11 B L _ _ w11) := Lib.hid (HTK.out ▸ h11); have HT11 := Lib.hid (HT10.out.trans e11); clear h11 e11) | (go_at_call 60; refine (ent_amp _).mono ?_; rintro e w0 ⟨rfl, rfl⟩) | (go_at_call 59; refine (isName_at [97, 109, 112] (by simp) (by decide) g L1.length (cap - L1.length) hlc _ HO.out).mono ?_; rintro e w10 ⟨rfl, q10⟩; have HC10 := Lib.hid (HC9.out.below q10); have HT10 := Lib.hid (HT9.out.below q10); have hcv := conv_at [97, 109, 112] g L1.length 3 (cap - L1.length) _ rfl (fun j x hj => (World.cell?_of_block (q10.block g (lt_of_cell (HO.out j x hj)))).trans (HO.out j x hj)); clear q10) | (go_at_call 44; refine (wbo_n HC8.out 59 59 (by decide) HL3.out HM2.out HG.out).mono ?_; rintro e w9 ⟨rfl, ⟨Fp9, h9, e9⟩, ho⟩; have HC9 := Lib.hid h9; have HT9 := Lib.hid (HT8.out.trans e9); have HO := Lib.hid (fun (j : Nat) (x : UInt8) (hj : ([97, 109, 112] : List UInt8)[j]? = some x) => ho (L1.length + j) x (by rw [HFU.out]; exact app_at hj)); clear h9 e9 ho) | (go_at_call 45; refine (bytes_ds HC7.out (by exact HNE.out)).mono ?_; rintro e w8 ⟨g, cap, rfl, hR, hg, n8, q8⟩; have HC8 := Lib.hid (HC7.out.drewN n8); have HT8 := Lib.hid (HT7.out.drewN n8); rw [← q8] at HC8 HT8; have hsl := fun W => slice_from g L2.length L1.length 3 cap ((L.length : Int) + 1) HX1.out HSZ.out (by decide) hR.le W; have hlc : 3 ≤ cap - L1.length := le_cut HSZ.out hR.le; have HR := Lib.hid hR; have HG := Lib.hid hg; clear q8 hR hg) | (go_at_call 39; refine (mustgetc_n hI HB.out HC6.out 59 (by decide)).mono ?_; rintro e w7 ⟨rfl, h7, e7⟩; have HC7 := Lib.hid h7; have HT7 := Lib.hid (HT6.out.trans (Stp.of e7)); clear h7 e7) | (go_at_call 58; refine (readName_ok (x := 97) (l := [109, 112]) (t := 59) hI HB.out (by exact HC5.out) HLX.out HLR.out (.inr (.inr (.inr rfl))) HRL.out).mono ?_; rintro e w6 ⟨rfl, Fp6, h6, e6⟩; have HC6 : Hid (DS I Fp6 B L2 _ _ w6) := Lib.hid (by rw [HL2.out]; exact h6); have HT6 := Lib.hid (HT5.out.trans e6); clear h6 e6) | (go_at_call 37; refine (ungetc_n 97 97 (by decide) HC4.out).mono ?_; rintro e w5 ⟨rfl, h5, e5⟩; have HC5 := Lib.hid h5; have HT5 := Lib.hid (HT4.out.trans (Stp.of e5)); clear h5 e5) | (go_at_call 39; refine (mustgetc_n hI HB.out HC3.out 97 (by decide)).mono ?_; rintro e w4 ⟨rfl, h4, e4⟩; have HC4 := Lib.hid h4; have HT4 := Lib.hid (HT3.out.trans (Stp.of e4)); clear h4 e4) | (go_at_call 44; refine (wb_n HC2.out 38 38 (by decide) HL1.out HM0.out).mono ?_; rintro e w3 ⟨rfl, Fp3, h3, e3⟩; have HC3 := Lib.hid h3; have HT3 := Lib.hid (HT2.out.trans e3); clear h3 e3) | (go_at_call 50; refine (len_ds HC1.out).mono ?_; rintro e w2 ⟨rfl, n2, q2⟩; have HC2 := Lib.hid (HC1.out.drewN n2); have HT2 := Lib.hid (HT1.out.drewN n2); rw [← q2] at HC2 HT2; clear q2) | (go_at_call 36; refine (getc_n hI HB.out HD.out 38 (by decide)).mono ?_; rintro e w1 ⟨rfl, h1, e1⟩; have HC1 := Lib.hid h1; have HT1 := Lib.hid (HS.out.trans (Stp.of e1)); clear h1 e1))
  exact HNN.out _ _ _ ⟨rfl, rfl, rfl, rfl, rfl, ⟨_, rfl⟩, ⟨_, rfl⟩, rfl⟩ (by rw [← HL.out, HCQ.out]; exact HC12.out) HT12.out
set_option maxHeartbeats 4000000 in
set_option maxRecDepth 1000000 in
theorem rdA_60 {I : Ids} {Fq : Nat → Prop} {B : Nat → Option Value} {v tm : List UInt8} {f : Bool} {wr : World} {j : Nat} {u : Nat → Value} {x7 x8 : Int} {c : UInt8} {N : Act → World → Prop} {Q0 : Exit → Act → World → Prop} {t0 : UInt8} (hI : IdOk I) (hB : BOk I B) (ht0 : t0 = 34 ∨ t0 = 39) (hv : v.length ≤ 1000) (hlt : j < v.length) (hc : c = v[j]) (hd : DS I Fq B (v.take j) (esc (v.drop j) ++ tm) f wr)
    (hN : ∀ a' w' Fp', TxtA I (t0.toNat : Int) a' → DS I Fp' B (v.take j ++ [c]) (esc (v.drop (j + 1)) ++ tm) true w' → Stp Fq Fp' wr w' → N a' w') (hcc : c = 60) :
    Code.wp Tryz.prog txtBody (Exit.then N Q0) ⟨List.toArray (.pointer (some ⟨I.dd, 0, none⟩) :: .int .i64 (t0.toNat : Int) :: .bool false :: u 3 :: u 4 :: u 5 :: u 6 :: .int .u8 x7 :: .int .u8 x8 :: .int .i64 0 :: u 10 :: u 11 :: u 12 :: u 13 :: u 14 :: u 15 :: u 16 :: u 17 :: u 18 :: u 19 :: u 20 :: u 21 :: u 22 :: u 23 :: u 24 :: u 25 :: u 26 :: u 27 :: u 28 :: u 29 :: u 30 :: u 31 :: u 32 :: u 33 :: u 34 :: u 35 :: u 36 :: u 37 :: u 38 :: u 39 :: u 40 :: u 41 :: u 42 :: u 43 :: u 44 :: u 45 :: u 46 :: u 47 :: u 48 :: u 49 :: u 50 :: u 51 :: u 52 :: u 53 :: u 54 :: u 55 :: u 56 :: u 57 :: u 58 :: u 59 :: u 60 :: u 61 :: u 62 :: u 63 :: u 64 :: u 65 :: u 66 :: u 67 :: u 68 :: u 69 :: u 70 :: u 71 :: u 72 :: u 73 :: u 74 :: u 75 :: u 76 :: u 77 :: u 78 :: u 79 :: u 80 :: u 81 :: u 82 :: u 83 :: u 84 :: u 85 :: u 86 :: u 87 :: u 88 :: u 89 :: u 90 :: u 91 :: u 92 :: u 93 :: u 94 :: u 95 :: u 96 :: u 97 :: u 98 :: u 99 :: u 100 :: u 101 :: u 102 :: u 103 :: u 104 :: u 105 :: u 106 :: u 107 :: u 108 :: u 109 :: u 110 :: u 111 :: u 112 :: u 113 :: u 114 :: u 115 :: u 116 :: u 117 :: u 118 :: u 119 :: u 120 :: u 121 :: u 122 :: u 123 :: u 124 :: u 125 :: u 126 :: u 127 :: u 128 :: u 129 :: u 130 :: u 131 :: u 132 :: u 133 :: u 134 :: u 135 :: u 136 :: u 137 :: u 138 :: u 139 :: u 140 :: u 141 :: u 142 :: u 143 :: u 144 :: u 145 :: u 146 :: u 147 :: u 148 :: u 149 :: u 150 :: u 151 :: u 152 :: u 153 :: u 154 :: u 155 :: u 156 :: u 157 :: u 158 :: u 159 :: u 160 :: u 161 :: u 162 :: u 163 :: u 164 :: u 165 :: u 166 :: u 167 :: u 168 :: u 169 :: u 170 :: u 171 :: u 172 :: u 173 :: u 174 :: u 175 :: u 176 :: u 177 :: u 178 :: u 179 :: u 180 :: u 181 :: u 182 :: u 183 :: u 184 :: u 185 :: u 186 :: u 187 :: u 188 :: u 189 :: u 190 :: u 191 :: u 192 :: u 193 :: u 194 :: u 195 :: u 196 :: u 197 :: u 198 :: u 199 :: u 200 :: u 201 :: u 202 :: u 203 :: u 204 :: u 205 :: u 206 :: u 207 :: u 208 :: u 209 :: u 210 :: u 211 :: u 212 :: u 213 :: u 214 :: u 215 :: u 216 :: u 217 :: u 218 :: u 219 :: u 220 :: u 221 :: u 222 :: u 223 :: u 224 :: u 225 :: u 226 :: u 227 :: u 228 :: u 229 :: u 230 :: u 231 :: u 232 :: u 233 :: u 234 :: u 235 :: u 236 :: u 237 :: u 238 :: u 239 :: u 240 :: u 241 :: u 242 :: u 243 :: u 244 :: u 245 :: u 246 :: u 247 :: u 248 :: u 249 :: u 250 :: u 251 :: u 252 :: u 253 :: u 254 :: u 255 :: u 256 :: u 257 :: u 258 :: u 259 :: u 260 :: u 261 :: u 262 :: u 263 :: u 264 :: u 265 :: u 266 :: u 267 :: u 268 :: u 269 :: u 270 :: u 271 :: u 272 :: u 273 :: u 274 :: u 275 :: u 276 :: u 277 :: u 278 :: u 279 :: u 280 :: u 281 :: u 282 :: u 283 :: u 284 :: u 285 :: u 286 :: u 287 :: u 288 :: u 289 :: u 290 :: u 291 :: u 292 :: u 293 :: u 294 :: u 295 :: u 296 :: u 297 :: u 298 :: u 299 :: u 300 :: u 301 :: u 302 :: u 303 :: u 304 :: u 305 :: u 306 :: u 307 :: u 308 :: u 309 :: u 310 :: u 311 :: u 312 :: u 313 :: u 314 :: u 315 :: u 316 :: u 317 :: u 318 :: u 319 :: u 320 :: u 321 :: u 322 :: u 323 :: u 324 :: u 325 :: u 326 :: u 327 :: u 328 :: u 329 :: u 330 :: u 331 :: u 332 :: u 333 :: u 334 :: u 335 :: u 336 :: u 337 :: u 338 :: u 339 :: u 340 :: u 341 :: u 342 :: u 343 :: u 344 :: u 345 :: u 346 :: u 347 :: u 348 :: u 349 :: u 350 :: u 351 :: u 352 :: u 353 :: u 354 :: u 355 :: u 356 :: u 357 :: u 358 :: u 359 :: u 360 :: u 361 :: u 362 :: u 363 :: u 364 :: u 365 :: u 366 :: u 367 :: u 368 :: u 369 :: u 370 :: u 371 :: u 372 :: u 373 :: u 374 :: u 375 :: u 376 :: u 377 :: u 378 :: u 379 :: u 380 :: u 381 :: u 382 :: u 383 :: []), []⟩ wr := by
  have q0 : (0 : Int) ≤ (t0.toNat : Int) := by omega
  have q1 : ¬ (t0.toNat : Int) < 0 := by omega
  have q2 : (t0.toNat : Int) < 256 := by have := t0.toNat_lt; omega
  have t60 : ((t0.toNat : Int) == 60) = false := by rcases ht0 with rfl | rfl <;> decide
  have t62 : ((t0.toNat : Int) == 62) = false := by rcases ht0 with rfl | rfl <;> decide
  have HB := Lib.hid hB
  have HNN := Lib.hid hN
  have HS := Lib.hid (Stp.refl Fq wr)
  have hjl : (v.take j).length ≤ 1000 := by rw [List.length_take]; omega
  have hlen : (v.take j).length + 1 ≤ 1000000 := by omega
  clear hN hB
  have hap : esc (v.drop j) ++ tm = 38 :: 108 :: 116 :: 59 :: (esc (v.drop (j + 1)) ++ tm) := by rw [List.drop_eq_getElem_cons hlt, esc_cons, ← hc, hcc]; rfl
  rw [hap] at hd
  have nq : ((38 : Int) == (t0.toNat : Int)) = false := by rcases ht0 with rfl | rfl <;> decide
  obtain ⟨L, hL⟩ : ∃ L, L = v.take j := ⟨_, rfl⟩
  rw [← hL] at hd hlen hjl
  obtain ⟨L1, hL1⟩ : ∃ x, x = L ++ [38] := ⟨_, rfl⟩
  obtain ⟨L2, hL2⟩ : ∃ x, x = L1 ++ [108, 116] := ⟨_, rfl⟩
  obtain ⟨L3, hL3⟩ : ∃ x, x = L2 ++ [59] := ⟨_, rfl⟩
  have hn1 : L1.length = L.length + 1 := by rw [hL1]; simp
  have hn2 : L2.length = L.length + 3 := by rw [hL2]; simp [hn1]
  have hn3 : L3.length = L.length + 4 := by rw [hL3]; simp [hn2]
  have hfull : L2 = L1 ++ [108, 116] := by rw [hL2]
  have htake : L3.take L.length = L := by rw [hL3, hL2, hL1]; simp
  have hne : L2 ≠ [] := by rw [hfull]; simp
  have HM0 : Hid (L.length + 1 ≤ 1000000) := Lib.hid hlen
  have HM1 : Hid (L1.length + 1 ≤ 1000000) := Lib.hid (by omega)
  have HM2 : Hid (L2.length + 1 ≤ 1000000) := Lib.hid (by omega)
  have HM3 : Hid (L3.length + 1 ≤ 1000000) := Lib.hid (by omega)
  have HTR : Hid (L.length ≤ L3.length) := Lib.hid (by omega)
  have HSZ : Hid (L2.length = L1.length + 2) := Lib.hid (by omega)
  have HWS : Hid (L.length + 1 ≤ 1000000) := Lib.hid hlen
  have HL1 := Lib.hid hL1
  have HN1 := Lib.hid hn1
  have HL2 := Lib.hid hL2
  have HN2 := Lib.hid hn2
  have HL3 := Lib.hid hL3
  have HN3 := Lib.hid hn3
  have HL := Lib.hid hL
  have HFU := Lib.hid hfull
  have HTK := Lib.hid htake
  have HNE := Lib.hid hne
  have HD := Lib.hid hd
  have HCQ := Lib.hid hcc
  have HLX : Hid (Let 108) := Lib.hid ⟨by decide, by decide⟩
  have HLR : Hid (∀ y ∈ ([116] : List UInt8), Let y) := Lib.hid (by intro y hy; simp at hy; rcases hy with rfl <;> exact ⟨by decide, by decide⟩)
  have HRL : Hid (L1.length + ([116] : List UInt8).length ≤ 100000) := Lib.hid (by simp; omega)
  have HX1 : Hid (((L.length : Int) + 1) = (L1.length : Int)) := Lib.hid (by omega)
  have hrs := fun W => rune_str 60 60 (by decide) W
  clear hd hap hc hcc hL hfull htake hne hL1 hn1 hL2 hn2 hL3 hn3
  conv => arg 2; whnf
  go_wp2_with (first | (go_at_call 61; refine (ws_ds HC11.out ⟨#[60]⟩ (by decide) (by decide) HWS.out).mono ?_; rintro e w12 ⟨rfl, Fp12, h12, e12⟩; have HC12 := Lib.hid h12; have HT12 := Lib.hid (HT11.out.trans e12); clear h12 e12) | (go_at_call 49; refine (trunc_ds HC10.out L.length HTR.out).mono ?_; rintro e w11 ⟨rfl, Fp11, h11, e11⟩; have HC11 : Hid (DS I Fp11 B L _ _ w11) := Lib.hid (HTK.out ▸ h11); have HT11 := Lib.hid (HT10.out.trans e11); clear h11 e11) | (go_at_call 60; refine (ent_lt _).mono ?_; rintro e w0 ⟨rfl, rfl⟩) | (go_at_call 59; refine (isName_at [108, 116] (by simp) (by decide) g L1.length (cap - L1.length) hlc _ HO.out).mono ?_; rintro e w10 ⟨rfl, q10⟩; have HC10 := Lib.hid (HC9.out.below q10); have HT10 := Lib.hid (HT9.out.below q10); have hcv := conv_at [108, 116] g L1.length 2 (cap - L1.length) _ rfl (fun j x hj => (World.cell?_of_block (q10.block g (lt_of_cell (HO.out j x hj)))).trans (HO.out j x hj)); clear q10) | (go_at_call 44; refine (wbo_n HC8.out 59 59 (by decide) HL3.out HM2.out HG.out).mono ?_; rintro e w9 ⟨rfl, ⟨Fp9, h9, e9⟩, ho⟩; have HC9 := Lib.hid h9; have HT9 := Lib.hid (HT8.out.trans e9); have HO := Lib.hid (fun (j : Nat) (x : UInt8) (hj : ([108, 116] : List UInt8)[j]? = some x) => ho (L1.length + j) x (by rw [HFU.out]; exact app_at hj)); clear h9 e9 ho) | (go_at_call 45; refine (bytes_ds HC7.out (by exact HNE.out)).mono ?_; rintro e w8 ⟨g, cap, rfl, hR, hg, n8, q8⟩; have HC8 := Lib.hid (HC7.out.drewN n8); have HT8 := Lib.hid (HT7.out.drewN n8); rw [← q8] at HC8 HT8; have hsl := fun W => slice_from g L2.length L1.length 2 cap ((L.length : Int) + 1) HX1.out HSZ.out (by decide) hR.le W; have hlc : 2 ≤ cap - L1.length := le_cut HSZ.out hR.le; have HR := Lib.hid hR; have HG := Lib.hid hg; clear q8 hR hg) | (go_at_call 39; refine (mustgetc_n hI HB.out HC6.out 59 (by decide)).mono ?_; rintro e w7 ⟨rfl, h7, e7⟩; have HC7 := Lib.hid h7; have HT7 := Lib.hid (HT6.out.trans (Stp.of e7)); clear h7 e7) | (go_at_call 58; refine (readName_ok (x := 108) (l := [116]) (t := 59) hI HB.out (by exact HC5.out) HLX.out HLR.out (.inr (.inr (.inr rfl))) HRL.out).mono ?_; rintro e w6 ⟨rfl, Fp6, h6, e6⟩; have HC6 : Hid (DS I Fp6 B L2 _ _ w6) := Lib.hid (by rw [HL2.out]; exact h6); have HT6 := Lib.hid (HT5.out.trans e6); clear h6 e6) | (go_at_call 37; refine (ungetc_n 108 108 (by decide) HC4.out).mono ?_; rintro e w5 ⟨rfl, h5, e5⟩; have HC5 := Lib.hid h5; have HT5 := Lib.hid (HT4.out.trans (Stp.of e5)); clear h5 e5) | (go_at_call 39; refine (mustgetc_n hI HB.out HC3.out 108 (by decide)).mono ?_; rintro e w4 ⟨rfl, h4, e4⟩; have HC4 := Lib.hid h4; have HT4 := Lib.hid (HT3.out.trans (Stp.of e4)); clear h4 e4) | (go_at_call 44; refine (wb_n HC2.out 38 38 (by decide) HL1.out HM0.out).mono ?_; rintro e w3 ⟨rfl, Fp3, h3, e3⟩; have HC3 := Lib.hid h3; have HT3 := Lib.hid (HT2.out.trans e3); clear h3 e3) | (go_at_call 50; refine (len_ds HC1.out).mono ?_; rintro e w2 ⟨rfl, n2, q2⟩; have HC2 := Lib.hid (HC1.out.drewN n2); have HT2 := Lib.hid (HT1.out.drewN n2); rw [← q2] at HC2 HT2; clear q2) | (go_at_call 36; refine (getc_n hI HB.out HD.out 38 (by decide)).mono ?_; rintro e w1 ⟨rfl, h1, e1⟩; have HC1 := Lib.hid h1; have HT1 := Lib.hid (HS.out.trans (Stp.of e1)); clear h1 e1))
  exact HNN.out _ _ _ ⟨rfl, rfl, rfl, rfl, rfl, ⟨_, rfl⟩, ⟨_, rfl⟩, rfl⟩ (by rw [← HL.out, HCQ.out]; exact HC12.out) HT12.out
set_option maxHeartbeats 4000000 in
set_option maxRecDepth 1000000 in
theorem rdA_62 {I : Ids} {Fq : Nat → Prop} {B : Nat → Option Value} {v tm : List UInt8} {f : Bool} {wr : World} {j : Nat} {u : Nat → Value} {x7 x8 : Int} {c : UInt8} {N : Act → World → Prop} {Q0 : Exit → Act → World → Prop} {t0 : UInt8} (hI : IdOk I) (hB : BOk I B) (ht0 : t0 = 34 ∨ t0 = 39) (hv : v.length ≤ 1000) (hlt : j < v.length) (hc : c = v[j]) (hd : DS I Fq B (v.take j) (esc (v.drop j) ++ tm) f wr)
    (hN : ∀ a' w' Fp', TxtA I (t0.toNat : Int) a' → DS I Fp' B (v.take j ++ [c]) (esc (v.drop (j + 1)) ++ tm) true w' → Stp Fq Fp' wr w' → N a' w') (hcc : c = 62) :
    Code.wp Tryz.prog txtBody (Exit.then N Q0) ⟨List.toArray (.pointer (some ⟨I.dd, 0, none⟩) :: .int .i64 (t0.toNat : Int) :: .bool false :: u 3 :: u 4 :: u 5 :: u 6 :: .int .u8 x7 :: .int .u8 x8 :: .int .i64 0 :: u 10 :: u 11 :: u 12 :: u 13 :: u 14 :: u 15 :: u 16 :: u 17 :: u 18 :: u 19 :: u 20 :: u 21 :: u 22 :: u 23 :: u 24 :: u 25 :: u 26 :: u 27 :: u 28 :: u 29 :: u 30 :: u 31 :: u 32 :: u 33 :: u 34 :: u 35 :: u 36 :: u 37 :: u 38 :: u 39 :: u 40 :: u 41 :: u 42 :: u 43 :: u 44 :: u 45 :: u 46 :: u 47 :: u 48 :: u 49 :: u 50 :: u 51 :: u 52 :: u 53 :: u 54 :: u 55 :: u 56 :: u 57 :: u 58 :: u 59 :: u 60 :: u 61 :: u 62 :: u 63 :: u 64 :: u 65 :: u 66 :: u 67 :: u 68 :: u 69 :: u 70 :: u 71 :: u 72 :: u 73 :: u 74 :: u 75 :: u 76 :: u 77 :: u 78 :: u 79 :: u 80 :: u 81 :: u 82 :: u 83 :: u 84 :: u 85 :: u 86 :: u 87 :: u 88 :: u 89 :: u 90 :: u 91 :: u 92 :: u 93 :: u 94 :: u 95 :: u 96 :: u 97 :: u 98 :: u 99 :: u 100 :: u 101 :: u 102 :: u 103 :: u 104 :: u 105 :: u 106 :: u 107 :: u 108 :: u 109 :: u 110 :: u 111 :: u 112 :: u 113 :: u 114 :: u 115 :: u 116 :: u 117 :: u 118 :: u 119 :: u 120 :: u 121 :: u 122 :: u 123 :: u 124 :: u 125 :: u 126 :: u 127 :: u 128 :: u 129 :: u 130 :: u 131 :: u 132 :: u 133 :: u 134 :: u 135 :: u 136 :: u 137 :: u 138 :: u 139 :: u 140 :: u 141 :: u 142 :: u 143 :: u 144 :: u 145 :: u 146 :: u 147 :: u 148 :: u 149 :: u 150 :: u 151 :: u 152 :: u 153 :: u 154 :: u 155 :: u 156 :: u 157 :: u 158 :: u 159 :: u 160 :: u 161 :: u 162 :: u 163 :: u 164 :: u 165 :: u 166 :: u 167 :: u 168 :: u 169 :: u 170 :: u 171 :: u 172 :: u 173 :: u 174 :: u 175 :: u 176 :: u 177 :: u 178 :: u 179 :: u 180 :: u 181 :: u 182 :: u 183 :: u 184 :: u 185 :: u 186 :: u 187 :: u 188 :: u 189 :: u 190 :: u 191 :: u 192 :: u 193 :: u 194 :: u 195 :: u 196 :: u 197 :: u 198 :: u 199 :: u 200 :: u 201 :: u 202 :: u 203 :: u 204 :: u 205 :: u 206 :: u 207 :: u 208 :: u 209 :: u 210 :: u 211 :: u 212 :: u 213 :: u 214 :: u 215 :: u 216 :: u 217 :: u 218 :: u 219 :: u 220 :: u 221 :: u 222 :: u 223 :: u 224 :: u 225 :: u 226 :: u 227 :: u 228 :: u 229 :: u 230 :: u 231 :: u 232 :: u 233 :: u 234 :: u 235 :: u 236 :: u 237 :: u 238 :: u 239 :: u 240 :: u 241 :: u 242 :: u 243 :: u 244 :: u 245 :: u 246 :: u 247 :: u 248 :: u 249 :: u 250 :: u 251 :: u 252 :: u 253 :: u 254 :: u 255 :: u 256 :: u 257 :: u 258 :: u 259 :: u 260 :: u 261 :: u 262 :: u 263 :: u 264 :: u 265 :: u 266 :: u 267 :: u 268 :: u 269 :: u 270 :: u 271 :: u 272 :: u 273 :: u 274 :: u 275 :: u 276 :: u 277 :: u 278 :: u 279 :: u 280 :: u 281 :: u 282 :: u 283 :: u 284 :: u 285 :: u 286 :: u 287 :: u 288 :: u 289 :: u 290 :: u 291 :: u 292 :: u 293 :: u 294 :: u 295 :: u 296 :: u 297 :: u 298 :: u 299 :: u 300 :: u 301 :: u 302 :: u 303 :: u 304 :: u 305 :: u 306 :: u 307 :: u 308 :: u 309 :: u 310 :: u 311 :: u 312 :: u 313 :: u 314 :: u 315 :: u 316 :: u 317 :: u 318 :: u 319 :: u 320 :: u 321 :: u 322 :: u 323 :: u 324 :: u 325 :: u 326 :: u 327 :: u 328 :: u 329 :: u 330 :: u 331 :: u 332 :: u 333 :: u 334 :: u 335 :: u 336 :: u 337 :: u 338 :: u 339 :: u 340 :: u 341 :: u 342 :: u 343 :: u 344 :: u 345 :: u 346 :: u 347 :: u 348 :: u 349 :: u 350 :: u 351 :: u 352 :: u 353 :: u 354 :: u 355 :: u 356 :: u 357 :: u 358 :: u 359 :: u 360 :: u 361 :: u 362 :: u 363 :: u 364 :: u 365 :: u 366 :: u 367 :: u 368 :: u 369 :: u 370 :: u 371 :: u 372 :: u 373 :: u 374 :: u 375 :: u 376 :: u 377 :: u 378 :: u 379 :: u 380 :: u 381 :: u 382 :: u 383 :: []), []⟩ wr := by
  have q0 : (0 : Int) ≤ (t0.toNat : Int) := by omega
  have q1 : ¬ (t0.toNat : Int) < 0 := by omega
  have q2 : (t0.toNat : Int) < 256 := by have := t0.toNat_lt; omega
  have t60 : ((t0.toNat : Int) == 60) = false := by rcases ht0 with rfl | rfl <;> decide
  have t62 : ((t0.toNat : Int) == 62) = false := by rcases ht0 with rfl | rfl <;> decide
  have HB := Lib.hid hB
  have HNN := Lib.hid hN
  have HS := Lib.hid (Stp.refl Fq wr)
  have hjl : (v.take j).length ≤ 1000 := by rw [List.length_take]; omega
  have hlen : (v.take j).length + 1 ≤ 1000000 := by omega
  clear hN hB
  have hap : esc (v.drop j) ++ tm = 38 :: 103 :: 116 :: 59 :: (esc (v.drop (j + 1)) ++ tm) := by rw [List.drop_eq_getElem_cons hlt, esc_cons, ← hc, hcc]; rfl
  rw [hap] at hd
  have nq : ((38 : Int) == (t0.toNat : Int)) = false := by rcases ht0 with rfl | rfl <;> decide
  obtain ⟨L, hL⟩ : ∃ L, L = v.take j := ⟨_, rfl⟩
  rw [← hL] at hd hlen hjl
  obtain ⟨L1, hL1⟩ : ∃ x, x = L ++ [38] := ⟨_, rfl⟩
  obtain ⟨L2, hL2⟩ : ∃ x, x = L1 ++ [103, 116] := ⟨_, rfl⟩
  obtain ⟨L3, hL3⟩ : ∃ x, x = L2 ++ [59] := ⟨_, rfl⟩
  have hn1 : L1.length = L.length + 1 := by rw [hL1]; simp
  have hn2 : L2.length = L.length + 3 := by rw [hL2]; simp [hn1]
  have hn3 : L3.length = L.length + 4 := by rw [hL3]; simp [hn2]
  have hfull : L2 = L1 ++ [103, 116] := by rw [hL2]
  have htake : L3.take L.length = L := by rw [hL3, hL2, hL1]; simp
  have hne : L2 ≠ [] := by rw [hfull]; simp
  have HM0 : Hid (L.length + 1 ≤ 1000000) := Lib.hid hlen
  have HM1 : Hid (L1.length + 1 ≤ 1000000) := Lib.hid (by omega)
  have HM2 : Hid (L2.length + 1 ≤ 1000000) := Lib.hid (by omega)
  have HM3 : Hid (L3.length + 1 ≤ 1000000) := Lib.hid (by omega)
  have HTR : Hid (L.length ≤ L3.length) := Lib.hid (by omega)
  have HSZ : Hid (L2.length = L1.length + 2) := Lib.hid (by omega)
  have HWS : Hid (L.length + 1 ≤ 1000000) := Lib.hid hlen
  have HL1 := Lib.hid hL1
  have HN1 := Lib.hid hn1
  have HL2 := Lib.hid hL2
  have HN2 := Lib.hid hn2
  have HL3 := Lib.hid hL3
  have HN3 := Lib.hid hn3
  have HL := Lib.hid hL
  have HFU := Lib.hid hfull
  have HTK := Lib.hid htake
  have HNE := Lib.hid hne
  have HD := Lib.hid hd
  have HCQ := Lib.hid hcc
  have HLX : Hid (Let 103) := Lib.hid ⟨by decide, by decide⟩
  have HLR : Hid (∀ y ∈ ([116] : List UInt8), Let y) := Lib.hid (by intro y hy; simp at hy; rcases hy with rfl <;> exact ⟨by decide, by decide⟩)
  have HRL : Hid (L1.length + ([116] : List UInt8).length ≤ 100000) := Lib.hid (by simp; omega)
  have HX1 : Hid (((L.length : Int) + 1) = (L1.length : Int)) := Lib.hid (by omega)
  have hrs := fun W => rune_str 62 62 (by decide) W
  clear hd hap hc hcc hL hfull htake hne hL1 hn1 hL2 hn2 hL3 hn3
  conv => arg 2; whnf
  go_wp2_with (first | (go_at_call 61; refine (ws_ds HC11.out ⟨#[62]⟩ (by decide) (by decide) HWS.out).mono ?_; rintro e w12 ⟨rfl, Fp12, h12, e12⟩; have HC12 := Lib.hid h12; have HT12 := Lib.hid (HT11.out.trans e12); clear h12 e12) | (go_at_call 49; refine (trunc_ds HC10.out L.length HTR.out).mono ?_; rintro e w11 ⟨rfl, Fp11, h11, e11⟩; have HC11 : Hid (DS I Fp11 B L _ _ w11) := Lib.hid (HTK.out ▸ h11); have HT11 := Lib.hid (HT10.out.trans e11); clear h11 e11) | (go_at_call 60; refine (ent_gt _).mono ?_; rintro e w0 ⟨rfl, rfl⟩) | (go_at_call 59; refine (isName_at [103, 116] (by simp) (by decide) g L1.length (cap - L1.length) hlc _ HO.out).mono ?_; rintro e w10 ⟨rfl, q10⟩; have HC10 := Lib.hid (HC9.out.below q10); have HT10 := Lib.hid (HT9.out.below q10); have hcv := conv_at [103, 116] g L1.length 2 (cap - L1.length) _ rfl (fun j x hj => (World.cell?_of_block (q10.block g (lt_of_cell (HO.out j x hj)))).trans (HO.out j x hj)); clear q10) | (go_at_call 44; refine (wbo_n HC8.out 59 59 (by decide) HL3.out HM2.out HG.out).mono ?_; rintro e w9 ⟨rfl, ⟨Fp9, h9, e9⟩, ho⟩; have HC9 := Lib.hid h9; have HT9 := Lib.hid (HT8.out.trans e9); have HO := Lib.hid (fun (j : Nat) (x : UInt8) (hj : ([103, 116] : List UInt8)[j]? = some x) => ho (L1.length + j) x (by rw [HFU.out]; exact app_at hj)); clear h9 e9 ho) | (go_at_call 45; refine (bytes_ds HC7.out (by exact HNE.out)).mono ?_; rintro e w8 ⟨g, cap, rfl, hR, hg, n8, q8⟩; have HC8 := Lib.hid (HC7.out.drewN n8); have HT8 := Lib.hid (HT7.out.drewN n8); rw [← q8] at HC8 HT8; have hsl := fun W => slice_from g L2.length L1.length 2 cap ((L.length : Int) + 1) HX1.out HSZ.out (by decide) hR.le W; have hlc : 2 ≤ cap - L1.length := le_cut HSZ.out hR.le; have HR := Lib.hid hR; have HG := Lib.hid hg; clear q8 hR hg) | (go_at_call 39; refine (mustgetc_n hI HB.out HC6.out 59 (by decide)).mono ?_; rintro e w7 ⟨rfl, h7, e7⟩; have HC7 := Lib.hid h7; have HT7 := Lib.hid (HT6.out.trans (Stp.of e7)); clear h7 e7) | (go_at_call 58; refine (readName_ok (x := 103) (l := [116]) (t := 59) hI HB.out (by exact HC5.out) HLX.out HLR.out (.inr (.inr (.inr rfl))) HRL.out).mono ?_; rintro e w6 ⟨rfl, Fp6, h6, e6⟩; have HC6 : Hid (DS I Fp6 B L2 _ _ w6) := Lib.hid (by rw [HL2.out]; exact h6); have HT6 := Lib.hid (HT5.out.trans e6); clear h6 e6) | (go_at_call 37; refine (ungetc_n 103 103 (by decide) HC4.out).mono ?_; rintro e w5 ⟨rfl, h5, e5⟩; have HC5 := Lib.hid h5; have HT5 := Lib.hid (HT4.out.trans (Stp.of e5)); clear h5 e5) | (go_at_call 39; refine (mustgetc_n hI HB.out HC3.out 103 (by decide)).mono ?_; rintro e w4 ⟨rfl, h4, e4⟩; have HC4 := Lib.hid h4; have HT4 := Lib.hid (HT3.out.trans (Stp.of e4)); clear h4 e4) | (go_at_call 44; refine (wb_n HC2.out 38 38 (by decide) HL1.out HM0.out).mono ?_; rintro e w3 ⟨rfl, Fp3, h3, e3⟩; have HC3 := Lib.hid h3; have HT3 := Lib.hid (HT2.out.trans e3); clear h3 e3) | (go_at_call 50; refine (len_ds HC1.out).mono ?_; rintro e w2 ⟨rfl, n2, q2⟩; have HC2 := Lib.hid (HC1.out.drewN n2); have HT2 := Lib.hid (HT1.out.drewN n2); rw [← q2] at HC2 HT2; clear q2) | (go_at_call 36; refine (getc_n hI HB.out HD.out 38 (by decide)).mono ?_; rintro e w1 ⟨rfl, h1, e1⟩; have HC1 := Lib.hid h1; have HT1 := Lib.hid (HS.out.trans (Stp.of e1)); clear h1 e1))
  exact HNN.out _ _ _ ⟨rfl, rfl, rfl, rfl, rfl, ⟨_, rfl⟩, ⟨_, rfl⟩, rfl⟩ (by rw [← HL.out, HCQ.out]; exact HC12.out) HT12.out

end Go.Proofs.YthhmnnojgjpibaaGreatDoor
