/- WALKS: decode, one round at a literal. -/
import Derived.Test.YtbhcdkbcbcmomaaDoorEd
import Derived.Deep.CutBlock
import Derived.BigQuiet
import Derived.StillTailTactics
namespace Go.Proofs.YtbhcdkbcbcmomaaDoor
open Go.RowKit

set_option maxRecDepth 1000000 in
set_option maxHeartbeats 4000000 in
theorem rl_short (w0 : World) (g db so m mc N : Nat) (cb : List UInt8) (w : World) (K0 K1 : Act → World → Prop) (R : Ending → World → Prop) (hN2 : N ≤ 40000) (hm : Hid (cb.length = m)) (hm2 : m ≤ 50000) (hmc : m ≤ mc) (hmc2 : mc ≤ 1000000)
    (hs : Hid (Src w0 db so cb)) (hdb : db < g) (u : Nat → Value) (out : List UInt8) (d a : Nat) (hod : Hid (out.length = d)) (hst : Hid (DSt w0 g N out w)) (f k : Nat) (ha : a < m) (hf : f < 256) (hfe : Hid (f = (cb.getD a 0).toNat)) (hmod : Hid (f % 4 = 0)) (h1 : f / 4 + 1 ≤ 60) (hk : Hid (k = f / 4 + 1)) (hk1 : 1 ≤ k) (hk2 : a + 1 + k ≤ m) (hdk : d + k ≤ N) (hK : Hid (Hands w0 g N db so m mc K0 (out ++ (cb.drop (a + 1)).take k) (a + 1 + k))) :
    Code.wp Tryd.prog DBody (Exit.then K0 (Exit.inBlock 0 (Exit.then K1 (bodyPost Tryd.prog Tryd.f22 R)))) { tmps := List.toArray (.slice (some ⟨g, 0, none⟩) N N :: .slice (some ⟨db, so, none⟩) m mc :: u 2 :: u 3 :: u 4 :: .int .i64 (d : Int) :: .int .i64 (a : Int) :: u 7 :: u 8 :: u 9 :: u 10 :: u 11 :: u 12 :: u 13 :: u 14 :: u 15 :: u 16 :: u 17 :: u 18 :: u 19 :: u 20 :: u 21 :: u 22 :: u 23 :: u 24 :: u 25 :: u 26 :: u 27 :: u 28 :: u 29 :: u 30 :: u 31 :: u 32 :: u 33 :: u 34 :: u 35 :: u 36 :: u 37 :: u 38 :: u 39 :: u 40 :: u 41 :: u 42 :: u 43 :: u 44 :: u 45 :: u 46 :: u 47 :: u 48 :: u 49 :: u 50 :: u 51 :: u 52 :: u 53 :: u 54 :: u 55 :: u 56 :: u 57 :: u 58 :: u 59 :: u 60 :: u 61 :: u 62 :: u 63 :: u 64 :: u 65 :: u 66 :: u 67 :: u 68 :: u 69 :: u 70 :: u 71 :: u 72 :: u 73 :: u 74 :: u 75 :: u 76 :: u 77 :: u 78 :: u 79 :: u 80 :: u 81 :: u 82 :: u 83 :: u 84 :: u 85 :: u 86 :: u 87 :: u 88 :: u 89 :: u 90 :: u 91 :: u 92 :: u 93 :: u 94 :: u 95 :: u 96 :: u 97 :: u 98 :: u 99 :: u 100 :: u 101 :: u 102 :: u 103 :: u 104 :: u 105 :: u 106 :: u 107 :: u 108 :: u 109 :: u 110 :: u 111 :: u 112 :: u 113 :: u 114 :: u 115 :: u 116 :: u 117 :: u 118 :: u 119 :: u 120 :: u 121 :: u 122 :: u 123 :: u 124 :: u 125 :: u 126 :: u 127 :: u 128 :: u 129 :: u 130 :: u 131 :: u 132 :: u 133 :: u 134 :: u 135 :: u 136 :: u 137 :: u 138 :: u 139 :: u 140 :: u 141 :: u 142 :: u 143 :: u 144 :: u 145 :: u 146 :: u 147 :: u 148 :: u 149 :: u 150 :: u 151 :: u 152 :: u 153 :: u 154 :: u 155 :: u 156 :: u 157 :: u 158 :: u 159 :: u 160 :: u 161 :: u 162 :: u 163 :: u 164 :: u 165 :: u 166 :: u 167 :: u 168 :: u 169 :: u 170 :: u 171 :: u 172 :: u 173 :: u 174 :: u 175 :: u 176 :: u 177 :: u 178 :: u 179 :: u 180 :: u 181 :: u 182 :: u 183 :: u 184 :: u 185 :: u 186 :: u 187 :: u 188 :: u 189 :: u 190 :: u 191 :: u 192 :: u 193 :: u 194 :: u 195 :: u 196 :: u 197 :: u 198 :: u 199 :: u 200 :: u 201 :: u 202 :: u 203 :: u 204 :: u 205 :: u 206 :: u 207 :: u 208 :: u 209 :: u 210 :: u 211 :: u 212 :: u 213 :: u 214 :: u 215 :: u 216 :: u 217 :: u 218 :: u 219 :: u 220 :: u 221 :: u 222 :: u 223 :: u 224 :: u 225 :: u 226 :: u 227 :: u 228 :: u 229 :: u 230 :: u 231 :: u 232 :: u 233 :: u 234 :: u 235 :: u 236 :: u 237 :: u 238 :: u 239 :: u 240 :: u 241 :: u 242 :: u 243 :: u 244 :: u 245 :: u 246 :: u 247 :: u 248 :: u 249 :: u 250 :: u 251 :: u 252 :: u 253 :: u 254 :: u 255 :: u 256 :: u 257 :: u 258 :: u 259 :: u 260 :: u 261 :: u 262 :: u 263 :: u 264 :: u 265 :: u 266 :: u 267 :: u 268 :: u 269 :: u 270 :: u 271 :: u 272 :: u 273 :: u 274 :: u 275 :: u 276 :: u 277 :: u 278 :: u 279 :: u 280 :: u 281 :: u 282 :: u 283 :: u 284 :: u 285 :: u 286 :: u 287 :: u 288 :: u 289 :: u 290 :: u 291 :: u 292 :: u 293 :: u 294 :: u 295 :: u 296 :: u 297 :: u 298 :: u 299 :: u 300 :: u 301 :: u 302 :: u 303 :: u 304 :: u 305 :: u 306 :: u 307 :: u 308 :: u 309 :: u 310 :: u 311 :: u 312 :: u 313 :: u 314 :: u 315 :: u 316 :: u 317 :: u 318 :: u 319 :: u 320 :: u 321 :: u 322 :: u 323 :: u 324 :: u 325 :: u 326 :: u 327 :: u 328 :: u 329 :: u 330 :: u 331 :: u 332 :: u 333 :: u 334 :: u 335 :: u 336 :: u 337 :: u 338 :: u 339 :: u 340 :: u 341 :: u 342 :: u 343 :: u 344 :: u 345 :: u 346 :: u 347 :: u 348 :: u 349 :: u 350 :: u 351 :: u 352 :: u 353 :: u 354 :: u 355 :: u 356 :: u 357 :: u 358 :: u 359 :: u 360 :: u 361 :: u 362 :: u 363 :: u 364 :: u 365 :: u 366 :: u 367 :: u 368 :: u 369 :: u 370 :: []), defers := [] } w := by
  conv => arg 2; whnf
  have HS := Lib.hid (hst.out.src hs.out hdb)
  have cf := HS.out a (by rw [hm.out]; exact ha)
  rw [← hfe.out] at cf
  have t0 : (bits .and .u8 (f : Int) 3 == 0) = true := by rw [u8_and3 f hf, hmod.out]; rfl
  have b1 : d + (f / 4 + 1) ≤ N := by have := hk.out; omega
  have b2 : a + 1 + (f / 4 + 1) ≤ m := by have := hk.out; omega
  go_upto_region 33 with fail
  rw [show ((f : Int) / 4 + 1) = (k : Int) from by have := hk.out; omega]
  obtain ⟨p2, hp2⟩ : ∃ p2, p2 = a + 1 := ⟨_, rfl⟩
  rw [show ((a : Int) + 1) = (p2 : Int) from by omega]
  rw [← hp2] at hk2 hK
  clear t0 cf hp2
  clear b1 b2
  have a1 : (d : Int) ≤ (N : Int) := by omega
  have a2 : (p2 : Int) ≤ (m : Int) := by omega
  have a3 : IntKind.i64.wrap ((p2 : Int) + (k : Int)) = (p2 : Int) + (k : Int) := IntWalk.i64_in _ (by omega)
  have a4 : (p2 : Int) + (k : Int) ≤ (mc : Int) := by omega
  have a5 : (0 : Int) ≤ (p2 : Int) + (k : Int) := by omega
  have a6 : ((p2 : Int) + (k : Int)).toNat = p2 + k := by omega
  have HD := Lib.hid hst.out.drew
  have hX : ((cb.drop p2).take k).length = k := by rw [List.length_take, List.length_drop, hm.out]; omega
  have HM : Hid (Blk w.drew g 5 (bv out ++ List.replicate (N - out.length) (Value.int .u8 0)) ∧ (bv ((cb.drop p2).take k)).length = Nat.min k (N - d) ∧ (∀ j v, (bv ((cb.drop p2).take k))[j]? = some v → w.drew.cell? ⟨db, so + p2 + j, none⟩ = some v) ∧ d + (bv ((cb.drop p2).take k)).length ≤ (bv out ++ List.replicate (N - out.length) (Value.int .u8 0)).length ∧ (∀ v ∈ bv ((cb.drop p2).take k), v.oneCell' = true)) := by
    refine ⟨HD.out.2.1, ?_, ?_, ?_, bv_one _⟩
    · rw [bv_length, hX]
      exact (Nat.min_eq_left (by omega)).symm
    · intro j v hv
      have := news_of_src (src_take (src_drop (HD.out.src hs.out hdb) p2) k) j v hv
      rw [addr_add] at this
      exact this
    · rw [HD.out.len, bv_length, hX]
      omega
  have HE : Hid (DSt w0 g N (out ++ (cb.drop p2).take k) (w.drew.setRow g (splice (bv out ++ List.replicate (N - out.length) (Value.int .u8 0)) d (bv ((cb.drop p2).take k))).toArray)) :=
    HD.out.put hod.out.symm (by rw [hX, hod.out]; omega)
  have HO : Hid ((out ++ (cb.drop p2).take k).length = d + k) := by
    unfold Hid
    rw [List.length_append, hX, hod.out]
  clear hX
  have a7 : ¬ N = d := by omega
  have a8 : ¬ mc = p2 := by omega
  go_still_tail 9, (by kernel_rfl)
  change wpList _ _ _ _ _ w.drew
  generalize w.drew = w2 at HM HE ⊢
  refine wpList_copy_room rfl (.tmp 172) (.tmp 178) 22 22 rfl 5 Tryd.underlying22 u8_cells g d (N - d) (N - d) db (so + p2) k (mc - p2) ?a1 ?a2 5 _ _ HM ?_
  case a1 => rfl
  case a2 => rfl
  generalize w2.setRow g (splice (bv out ++ List.replicate (N - out.length) (Value.int .u8 0)) d (bv ((cb.drop p2).take k))).toArray = w3 at HE ⊢
  clear HM HD
  go_wp2_with fail
  exact hK.out _ _ _ _ (by rw [HO.out]; go_num) (by go_num) FR_mk HE.out
set_option maxRecDepth 1000000 in
set_option maxHeartbeats 4000000 in
theorem rl_mid (w0 : World) (g db so m mc N : Nat) (cb : List UInt8) (w : World) (K0 K1 : Act → World → Prop) (R : Ending → World → Prop) (hN2 : N ≤ 40000) (hm : Hid (cb.length = m)) (hm2 : m ≤ 50000) (hmc : m ≤ mc) (hmc2 : mc ≤ 1000000)
    (hs : Hid (Src w0 db so cb)) (hdb : db < g) (u : Nat → Value) (out : List UInt8) (d a : Nat) (hod : Hid (out.length = d)) (hst : Hid (DSt w0 g N out w)) (x k : Nat) (ha : a + 1 < m) (hfe : Hid (240 = (cb.getD a 0).toNat)) (hx : Hid (x = (cb.getD (a + 1) 0).toNat)) (hx2 : x < 256) (hk : Hid (k = x + 1)) (hk1 : 1 ≤ k) (hk2 : a + 2 + k ≤ m) (hdk : d + k ≤ N) (hK : Hid (Hands w0 g N db so m mc K0 (out ++ (cb.drop (a + 2)).take k) (a + 2 + k))) :
    Code.wp Tryd.prog DBody (Exit.then K0 (Exit.inBlock 0 (Exit.then K1 (bodyPost Tryd.prog Tryd.f22 R)))) { tmps := List.toArray (.slice (some ⟨g, 0, none⟩) N N :: .slice (some ⟨db, so, none⟩) m mc :: u 2 :: u 3 :: u 4 :: .int .i64 (d : Int) :: .int .i64 (a : Int) :: u 7 :: u 8 :: u 9 :: u 10 :: u 11 :: u 12 :: u 13 :: u 14 :: u 15 :: u 16 :: u 17 :: u 18 :: u 19 :: u 20 :: u 21 :: u 22 :: u 23 :: u 24 :: u 25 :: u 26 :: u 27 :: u 28 :: u 29 :: u 30 :: u 31 :: u 32 :: u 33 :: u 34 :: u 35 :: u 36 :: u 37 :: u 38 :: u 39 :: u 40 :: u 41 :: u 42 :: u 43 :: u 44 :: u 45 :: u 46 :: u 47 :: u 48 :: u 49 :: u 50 :: u 51 :: u 52 :: u 53 :: u 54 :: u 55 :: u 56 :: u 57 :: u 58 :: u 59 :: u 60 :: u 61 :: u 62 :: u 63 :: u 64 :: u 65 :: u 66 :: u 67 :: u 68 :: u 69 :: u 70 :: u 71 :: u 72 :: u 73 :: u 74 :: u 75 :: u 76 :: u 77 :: u 78 :: u 79 :: u 80 :: u 81 :: u 82 :: u 83 :: u 84 :: u 85 :: u 86 :: u 87 :: u 88 :: u 89 :: u 90 :: u 91 :: u 92 :: u 93 :: u 94 :: u 95 :: u 96 :: u 97 :: u 98 :: u 99 :: u 100 :: u 101 :: u 102 :: u 103 :: u 104 :: u 105 :: u 106 :: u 107 :: u 108 :: u 109 :: u 110 :: u 111 :: u 112 :: u 113 :: u 114 :: u 115 :: u 116 :: u 117 :: u 118 :: u 119 :: u 120 :: u 121 :: u 122 :: u 123 :: u 124 :: u 125 :: u 126 :: u 127 :: u 128 :: u 129 :: u 130 :: u 131 :: u 132 :: u 133 :: u 134 :: u 135 :: u 136 :: u 137 :: u 138 :: u 139 :: u 140 :: u 141 :: u 142 :: u 143 :: u 144 :: u 145 :: u 146 :: u 147 :: u 148 :: u 149 :: u 150 :: u 151 :: u 152 :: u 153 :: u 154 :: u 155 :: u 156 :: u 157 :: u 158 :: u 159 :: u 160 :: u 161 :: u 162 :: u 163 :: u 164 :: u 165 :: u 166 :: u 167 :: u 168 :: u 169 :: u 170 :: u 171 :: u 172 :: u 173 :: u 174 :: u 175 :: u 176 :: u 177 :: u 178 :: u 179 :: u 180 :: u 181 :: u 182 :: u 183 :: u 184 :: u 185 :: u 186 :: u 187 :: u 188 :: u 189 :: u 190 :: u 191 :: u 192 :: u 193 :: u 194 :: u 195 :: u 196 :: u 197 :: u 198 :: u 199 :: u 200 :: u 201 :: u 202 :: u 203 :: u 204 :: u 205 :: u 206 :: u 207 :: u 208 :: u 209 :: u 210 :: u 211 :: u 212 :: u 213 :: u 214 :: u 215 :: u 216 :: u 217 :: u 218 :: u 219 :: u 220 :: u 221 :: u 222 :: u 223 :: u 224 :: u 225 :: u 226 :: u 227 :: u 228 :: u 229 :: u 230 :: u 231 :: u 232 :: u 233 :: u 234 :: u 235 :: u 236 :: u 237 :: u 238 :: u 239 :: u 240 :: u 241 :: u 242 :: u 243 :: u 244 :: u 245 :: u 246 :: u 247 :: u 248 :: u 249 :: u 250 :: u 251 :: u 252 :: u 253 :: u 254 :: u 255 :: u 256 :: u 257 :: u 258 :: u 259 :: u 260 :: u 261 :: u 262 :: u 263 :: u 264 :: u 265 :: u 266 :: u 267 :: u 268 :: u 269 :: u 270 :: u 271 :: u 272 :: u 273 :: u 274 :: u 275 :: u 276 :: u 277 :: u 278 :: u 279 :: u 280 :: u 281 :: u 282 :: u 283 :: u 284 :: u 285 :: u 286 :: u 287 :: u 288 :: u 289 :: u 290 :: u 291 :: u 292 :: u 293 :: u 294 :: u 295 :: u 296 :: u 297 :: u 298 :: u 299 :: u 300 :: u 301 :: u 302 :: u 303 :: u 304 :: u 305 :: u 306 :: u 307 :: u 308 :: u 309 :: u 310 :: u 311 :: u 312 :: u 313 :: u 314 :: u 315 :: u 316 :: u 317 :: u 318 :: u 319 :: u 320 :: u 321 :: u 322 :: u 323 :: u 324 :: u 325 :: u 326 :: u 327 :: u 328 :: u 329 :: u 330 :: u 331 :: u 332 :: u 333 :: u 334 :: u 335 :: u 336 :: u 337 :: u 338 :: u 339 :: u 340 :: u 341 :: u 342 :: u 343 :: u 344 :: u 345 :: u 346 :: u 347 :: u 348 :: u 349 :: u 350 :: u 351 :: u 352 :: u 353 :: u 354 :: u 355 :: u 356 :: u 357 :: u 358 :: u 359 :: u 360 :: u 361 :: u 362 :: u 363 :: u 364 :: u 365 :: u 366 :: u 367 :: u 368 :: u 369 :: u 370 :: []), defers := [] } w := by
  conv => arg 2; whnf
  have HS := Lib.hid (hst.out.src hs.out hdb)
  have cf := HS.out a (by rw [hm.out]; omega)
  have cx := HS.out (a + 1) (by rw [hm.out]; exact ha)
  rw [← hfe.out] at cf
  rw [← hx.out] at cx
  have t0 : (bits .and .u8 240 3 == 0) = true := by decide +kernel
  have b1 : d + (x + 1) ≤ N := by have := hk.out; omega
  have b2 : a + 2 + (x + 1) ≤ m := by have := hk.out; omega
  go_upto_region 33 with fail
  rw [show ((x : Int) + 1) = (k : Int) from by have := hk.out; omega]
  obtain ⟨p2, hp2⟩ : ∃ p2, p2 = a + 2 := ⟨_, rfl⟩
  rw [show ((a : Int) + 2) = (p2 : Int) from by omega]
  rw [← hp2] at hk2 hK
  clear t0 cf cx hp2
  clear b1 b2
  have a1 : (d : Int) ≤ (N : Int) := by omega
  have a2 : (p2 : Int) ≤ (m : Int) := by omega
  have a3 : IntKind.i64.wrap ((p2 : Int) + (k : Int)) = (p2 : Int) + (k : Int) := IntWalk.i64_in _ (by omega)
  have a4 : (p2 : Int) + (k : Int) ≤ (mc : Int) := by omega
  have a5 : (0 : Int) ≤ (p2 : Int) + (k : Int) := by omega
  have a6 : ((p2 : Int) + (k : Int)).toNat = p2 + k := by omega
  have HD := Lib.hid hst.out.drew
  have hX : ((cb.drop p2).take k).length = k := by rw [List.length_take, List.length_drop, hm.out]; omega
  have HM : Hid (Blk w.drew g 5 (bv out ++ List.replicate (N - out.length) (Value.int .u8 0)) ∧ (bv ((cb.drop p2).take k)).length = Nat.min k (N - d) ∧ (∀ j v, (bv ((cb.drop p2).take k))[j]? = some v → w.drew.cell? ⟨db, so + p2 + j, none⟩ = some v) ∧ d + (bv ((cb.drop p2).take k)).length ≤ (bv out ++ List.replicate (N - out.length) (Value.int .u8 0)).length ∧ (∀ v ∈ bv ((cb.drop p2).take k), v.oneCell' = true)) := by
    refine ⟨HD.out.2.1, ?_, ?_, ?_, bv_one _⟩
    · rw [bv_length, hX]
      exact (Nat.min_eq_left (by omega)).symm
    · intro j v hv
      have := news_of_src (src_take (src_drop (HD.out.src hs.out hdb) p2) k) j v hv
      rw [addr_add] at this
      exact this
    · rw [HD.out.len, bv_length, hX]
      omega
  have HE : Hid (DSt w0 g N (out ++ (cb.drop p2).take k) (w.drew.setRow g (splice (bv out ++ List.replicate (N - out.length) (Value.int .u8 0)) d (bv ((cb.drop p2).take k))).toArray)) :=
    HD.out.put hod.out.symm (by rw [hX, hod.out]; omega)
  have HO : Hid ((out ++ (cb.drop p2).take k).length = d + k) := by
    unfold Hid
    rw [List.length_append, hX, hod.out]
  clear hX
  have a7 : ¬ N = d := by omega
  have a8 : ¬ mc = p2 := by omega
  go_still_tail 9, (by kernel_rfl)
  change wpList _ _ _ _ _ w.drew
  generalize w.drew = w2 at HM HE ⊢
  refine wpList_copy_room rfl (.tmp 172) (.tmp 178) 22 22 rfl 5 Tryd.underlying22 u8_cells g d (N - d) (N - d) db (so + p2) k (mc - p2) ?a1 ?a2 5 _ _ HM ?_
  case a1 => rfl
  case a2 => rfl
  generalize w2.setRow g (splice (bv out ++ List.replicate (N - out.length) (Value.int .u8 0)) d (bv ((cb.drop p2).take k))).toArray = w3 at HE ⊢
  clear HM HD
  go_wp2_with fail
  exact hK.out _ _ _ _ (by rw [HO.out]; go_num) (by go_num) FR_mk HE.out
set_option maxRecDepth 1000000 in
set_option maxHeartbeats 4000000 in
theorem rl_big (w0 : World) (g db so m mc N : Nat) (cb : List UInt8) (w : World) (K0 K1 : Act → World → Prop) (R : Ending → World → Prop) (hN2 : N ≤ 40000) (hm : Hid (cb.length = m)) (hm2 : m ≤ 50000) (hmc : m ≤ mc) (hmc2 : mc ≤ 1000000)
    (hs : Hid (Src w0 db so cb)) (hdb : db < g) (u : Nat → Value) (out : List UInt8) (d a : Nat) (hod : Hid (out.length = d)) (hst : Hid (DSt w0 g N out w)) (x y k : Nat) (ha : a + 2 < m) (hfe : Hid (244 = (cb.getD a 0).toNat)) (hx : Hid (x = (cb.getD (a + 1) 0).toNat)) (hx2 : x < 256) (hy : Hid (y = (cb.getD (a + 1 + 1) 0).toNat)) (hy2 : y < 256) (hk : Hid (k = x + y * 256 + 1)) (hk1 : 1 ≤ k) (hk2 : a + 3 + k ≤ m) (hdk : d + k ≤ N) (hK : Hid (Hands w0 g N db so m mc K0 (out ++ (cb.drop (a + 3)).take k) (a + 3 + k))) :
    Code.wp Tryd.prog DBody (Exit.then K0 (Exit.inBlock 0 (Exit.then K1 (bodyPost Tryd.prog Tryd.f22 R)))) { tmps := List.toArray (.slice (some ⟨g, 0, none⟩) N N :: .slice (some ⟨db, so, none⟩) m mc :: u 2 :: u 3 :: u 4 :: .int .i64 (d : Int) :: .int .i64 (a : Int) :: u 7 :: u 8 :: u 9 :: u 10 :: u 11 :: u 12 :: u 13 :: u 14 :: u 15 :: u 16 :: u 17 :: u 18 :: u 19 :: u 20 :: u 21 :: u 22 :: u 23 :: u 24 :: u 25 :: u 26 :: u 27 :: u 28 :: u 29 :: u 30 :: u 31 :: u 32 :: u 33 :: u 34 :: u 35 :: u 36 :: u 37 :: u 38 :: u 39 :: u 40 :: u 41 :: u 42 :: u 43 :: u 44 :: u 45 :: u 46 :: u 47 :: u 48 :: u 49 :: u 50 :: u 51 :: u 52 :: u 53 :: u 54 :: u 55 :: u 56 :: u 57 :: u 58 :: u 59 :: u 60 :: u 61 :: u 62 :: u 63 :: u 64 :: u 65 :: u 66 :: u 67 :: u 68 :: u 69 :: u 70 :: u 71 :: u 72 :: u 73 :: u 74 :: u 75 :: u 76 :: u 77 :: u 78 :: u 79 :: u 80 :: u 81 :: u 82 :: u 83 :: u 84 :: u 85 :: u 86 :: u 87 :: u 88 :: u 89 :: u 90 :: u 91 :: u 92 :: u 93 :: u 94 :: u 95 :: u 96 :: u 97 :: u 98 :: u 99 :: u 100 :: u 101 :: u 102 :: u 103 :: u 104 :: u 105 :: u 106 :: u 107 :: u 108 :: u 109 :: u 110 :: u 111 :: u 112 :: u 113 :: u 114 :: u 115 :: u 116 :: u 117 :: u 118 :: u 119 :: u 120 :: u 121 :: u 122 :: u 123 :: u 124 :: u 125 :: u 126 :: u 127 :: u 128 :: u 129 :: u 130 :: u 131 :: u 132 :: u 133 :: u 134 :: u 135 :: u 136 :: u 137 :: u 138 :: u 139 :: u 140 :: u 141 :: u 142 :: u 143 :: u 144 :: u 145 :: u 146 :: u 147 :: u 148 :: u 149 :: u 150 :: u 151 :: u 152 :: u 153 :: u 154 :: u 155 :: u 156 :: u 157 :: u 158 :: u 159 :: u 160 :: u 161 :: u 162 :: u 163 :: u 164 :: u 165 :: u 166 :: u 167 :: u 168 :: u 169 :: u 170 :: u 171 :: u 172 :: u 173 :: u 174 :: u 175 :: u 176 :: u 177 :: u 178 :: u 179 :: u 180 :: u 181 :: u 182 :: u 183 :: u 184 :: u 185 :: u 186 :: u 187 :: u 188 :: u 189 :: u 190 :: u 191 :: u 192 :: u 193 :: u 194 :: u 195 :: u 196 :: u 197 :: u 198 :: u 199 :: u 200 :: u 201 :: u 202 :: u 203 :: u 204 :: u 205 :: u 206 :: u 207 :: u 208 :: u 209 :: u 210 :: u 211 :: u 212 :: u 213 :: u 214 :: u 215 :: u 216 :: u 217 :: u 218 :: u 219 :: u 220 :: u 221 :: u 222 :: u 223 :: u 224 :: u 225 :: u 226 :: u 227 :: u 228 :: u 229 :: u 230 :: u 231 :: u 232 :: u 233 :: u 234 :: u 235 :: u 236 :: u 237 :: u 238 :: u 239 :: u 240 :: u 241 :: u 242 :: u 243 :: u 244 :: u 245 :: u 246 :: u 247 :: u 248 :: u 249 :: u 250 :: u 251 :: u 252 :: u 253 :: u 254 :: u 255 :: u 256 :: u 257 :: u 258 :: u 259 :: u 260 :: u 261 :: u 262 :: u 263 :: u 264 :: u 265 :: u 266 :: u 267 :: u 268 :: u 269 :: u 270 :: u 271 :: u 272 :: u 273 :: u 274 :: u 275 :: u 276 :: u 277 :: u 278 :: u 279 :: u 280 :: u 281 :: u 282 :: u 283 :: u 284 :: u 285 :: u 286 :: u 287 :: u 288 :: u 289 :: u 290 :: u 291 :: u 292 :: u 293 :: u 294 :: u 295 :: u 296 :: u 297 :: u 298 :: u 299 :: u 300 :: u 301 :: u 302 :: u 303 :: u 304 :: u 305 :: u 306 :: u 307 :: u 308 :: u 309 :: u 310 :: u 311 :: u 312 :: u 313 :: u 314 :: u 315 :: u 316 :: u 317 :: u 318 :: u 319 :: u 320 :: u 321 :: u 322 :: u 323 :: u 324 :: u 325 :: u 326 :: u 327 :: u 328 :: u 329 :: u 330 :: u 331 :: u 332 :: u 333 :: u 334 :: u 335 :: u 336 :: u 337 :: u 338 :: u 339 :: u 340 :: u 341 :: u 342 :: u 343 :: u 344 :: u 345 :: u 346 :: u 347 :: u 348 :: u 349 :: u 350 :: u 351 :: u 352 :: u 353 :: u 354 :: u 355 :: u 356 :: u 357 :: u 358 :: u 359 :: u 360 :: u 361 :: u 362 :: u 363 :: u 364 :: u 365 :: u 366 :: u 367 :: u 368 :: u 369 :: u 370 :: []), defers := [] } w := by
  conv => arg 2; whnf
  have HS := Lib.hid (hst.out.src hs.out hdb)
  have cf := HS.out a (by rw [hm.out]; omega)
  have cx := HS.out (a + 1) (by rw [hm.out]; omega)
  have cy := HS.out (a + 2) (by rw [hm.out]; omega)
  rw [← hfe.out] at cf
  rw [← hx.out] at cx
  rw [show a + 2 = a + 1 + 1 from rfl, ← hy.out, show a + 1 + 1 = a + 2 from rfl] at cy
  have t0 : (bits .and .u8 244 3 == 0) = true := by decide +kernel
  have e1 : bits .or .u32 (x : Int) ((y : Int) * 256) = (x : Int) + (y : Int) * 256 := u32_or8 _ _ (by omega) (by omega) (by omega) (by omega) (by omega)
  have b0 : 0 ≤ bits .or .u32 (x : Int) ((y : Int) * 256) ∧ bits .or .u32 (x : Int) ((y : Int) * 256) < 65536 := by rw [e1]; omega
  have b1 : (d : Int) + (bits .or .u32 (x : Int) ((y : Int) * 256) + 1) ≤ N := by rw [e1]; have := hk.out; omega
  have b2 : (a : Int) + 3 + (bits .or .u32 (x : Int) ((y : Int) * 256) + 1) ≤ m := by rw [e1]; have := hk.out; omega
  have E1 := Lib.hid e1
  clear e1
  go_upto_region 17 with fail
  go_quiet (fail)
  have HQ := Lib.hid (hst.out.drewN nq)
  generalize w.drewN nq = wq at HQ ⊢
  clear hst
  have hst := HQ
  clear HQ cf cx cy HS
  go_upto_region 33 with fail
  rw [show (bits .or .u32 (x : Int) ((y : Int) * 256) + 1) = (k : Int) from by rw [E1.out]; have := hk.out; omega]
  obtain ⟨p2, hp2⟩ : ∃ p2, p2 = a + 3 := ⟨_, rfl⟩
  rw [show ((a : Int) + 3) = (p2 : Int) from by omega]
  rw [← hp2] at hk2 hK
  clear t0 hp2 b0
  clear b1 b2
  have a1 : (d : Int) ≤ (N : Int) := by omega
  have a2 : (p2 : Int) ≤ (m : Int) := by omega
  have a3 : IntKind.i64.wrap ((p2 : Int) + (k : Int)) = (p2 : Int) + (k : Int) := IntWalk.i64_in _ (by omega)
  have a4 : (p2 : Int) + (k : Int) ≤ (mc : Int) := by omega
  have a5 : (0 : Int) ≤ (p2 : Int) + (k : Int) := by omega
  have a6 : ((p2 : Int) + (k : Int)).toNat = p2 + k := by omega
  have HD := Lib.hid hst.out.drew
  have hX : ((cb.drop p2).take k).length = k := by rw [List.length_take, List.length_drop, hm.out]; omega
  have HM : Hid (Blk wq.drew g 5 (bv out ++ List.replicate (N - out.length) (Value.int .u8 0)) ∧ (bv ((cb.drop p2).take k)).length = Nat.min k (N - d) ∧ (∀ j v, (bv ((cb.drop p2).take k))[j]? = some v → wq.drew.cell? ⟨db, so + p2 + j, none⟩ = some v) ∧ d + (bv ((cb.drop p2).take k)).length ≤ (bv out ++ List.replicate (N - out.length) (Value.int .u8 0)).length ∧ (∀ v ∈ bv ((cb.drop p2).take k), v.oneCell' = true)) := by
    refine ⟨HD.out.2.1, ?_, ?_, ?_, bv_one _⟩
    · rw [bv_length, hX]
      exact (Nat.min_eq_left (by omega)).symm
    · intro j v hv
      have := news_of_src (src_take (src_drop (HD.out.src hs.out hdb) p2) k) j v hv
      rw [addr_add] at this
      exact this
    · rw [HD.out.len, bv_length, hX]
      omega
  have HE : Hid (DSt w0 g N (out ++ (cb.drop p2).take k) (wq.drew.setRow g (splice (bv out ++ List.replicate (N - out.length) (Value.int .u8 0)) d (bv ((cb.drop p2).take k))).toArray)) :=
    HD.out.put hod.out.symm (by rw [hX, hod.out]; omega)
  have HO : Hid ((out ++ (cb.drop p2).take k).length = d + k) := by
    unfold Hid
    rw [List.length_append, hX, hod.out]
  clear hX
  have a7 : ¬ N = d := by omega
  have a8 : ¬ mc = p2 := by omega
  go_still_tail 9, (by kernel_rfl)
  change wpList _ _ _ _ _ wq.drew
  generalize wq.drew = w2 at HM HE ⊢
  refine wpList_copy_room rfl (.tmp 172) (.tmp 178) 22 22 rfl 5 Tryd.underlying22 u8_cells g d (N - d) (N - d) db (so + p2) k (mc - p2) ?a1 ?a2 5 _ _ HM ?_
  case a1 => rfl
  case a2 => rfl
  generalize w2.setRow g (splice (bv out ++ List.replicate (N - out.length) (Value.int .u8 0)) d (bv ((cb.drop p2).take k))).toArray = w3 at HE ⊢
  clear HM HD
  go_wp2_with fail
  exact hK.out _ _ _ _ (by rw [HO.out]; go_num) (by go_num) FR_mk HE.out

end Go.Proofs.YtbhcdkbcbcmomaaDoor
