/- WALKS: decode whole over a row of elements. -/
import Derived.Test.YtbhcdkbcbcmomaaDoorEe
import Derived.Test.YtbhcdkbcbcmomaaDoorEf
namespace Go.Proofs.YtbhcdkbcbcmomaaDoor
open Go.RowKit

set_option maxRecDepth 1000000 in
set_option maxHeartbeats 4000000 in
theorem rl_end (w0 : World) (g db so m mc N : Nat) (cb : List UInt8) (w : World) (K0 K1 : Act → World → Prop) (R : Ending → World → Prop) (hN2 : N ≤ 40000) (hm : Hid (cb.length = m)) (hm2 : m ≤ 50000) (hmc : m ≤ mc) (hmc2 : mc ≤ 1000000)
    (hs : Hid (Src w0 db so cb)) (hdb : db < g) (u : Nat → Value) (out : List UInt8) (d a : Nat) (hod : Hid (out.length = d)) (hst : Hid (DSt w0 g N out w)) (ha : a = m) (hK : Hid (∀ (a' : Act) (w' : World), (∃ u, a' = FR g N db so m mc (.int .i64 (d : Int)) (.int .i64 (a : Int)) u) → DSt w0 g N out w' → K1 a' w')) :
    Code.wp Tryd.prog DBody (Exit.then K0 (Exit.inBlock 0 (Exit.then K1 (bodyPost Tryd.prog Tryd.f22 R)))) { tmps := List.toArray (.slice (some ⟨g, 0, none⟩) N N :: .slice (some ⟨db, so, none⟩) m mc :: u 2 :: u 3 :: u 4 :: .int .i64 (d : Int) :: .int .i64 (a : Int) :: u 7 :: u 8 :: u 9 :: u 10 :: u 11 :: u 12 :: u 13 :: u 14 :: u 15 :: u 16 :: u 17 :: u 18 :: u 19 :: u 20 :: u 21 :: u 22 :: u 23 :: u 24 :: u 25 :: u 26 :: u 27 :: u 28 :: u 29 :: u 30 :: u 31 :: u 32 :: u 33 :: u 34 :: u 35 :: u 36 :: u 37 :: u 38 :: u 39 :: u 40 :: u 41 :: u 42 :: u 43 :: u 44 :: u 45 :: u 46 :: u 47 :: u 48 :: u 49 :: u 50 :: u 51 :: u 52 :: u 53 :: u 54 :: u 55 :: u 56 :: u 57 :: u 58 :: u 59 :: u 60 :: u 61 :: u 62 :: u 63 :: u 64 :: u 65 :: u 66 :: u 67 :: u 68 :: u 69 :: u 70 :: u 71 :: u 72 :: u 73 :: u 74 :: u 75 :: u 76 :: u 77 :: u 78 :: u 79 :: u 80 :: u 81 :: u 82 :: u 83 :: u 84 :: u 85 :: u 86 :: u 87 :: u 88 :: u 89 :: u 90 :: u 91 :: u 92 :: u 93 :: u 94 :: u 95 :: u 96 :: u 97 :: u 98 :: u 99 :: u 100 :: u 101 :: u 102 :: u 103 :: u 104 :: u 105 :: u 106 :: u 107 :: u 108 :: u 109 :: u 110 :: u 111 :: u 112 :: u 113 :: u 114 :: u 115 :: u 116 :: u 117 :: u 118 :: u 119 :: u 120 :: u 121 :: u 122 :: u 123 :: u 124 :: u 125 :: u 126 :: u 127 :: u 128 :: u 129 :: u 130 :: u 131 :: u 132 :: u 133 :: u 134 :: u 135 :: u 136 :: u 137 :: u 138 :: u 139 :: u 140 :: u 141 :: u 142 :: u 143 :: u 144 :: u 145 :: u 146 :: u 147 :: u 148 :: u 149 :: u 150 :: u 151 :: u 152 :: u 153 :: u 154 :: u 155 :: u 156 :: u 157 :: u 158 :: u 159 :: u 160 :: u 161 :: u 162 :: u 163 :: u 164 :: u 165 :: u 166 :: u 167 :: u 168 :: u 169 :: u 170 :: u 171 :: u 172 :: u 173 :: u 174 :: u 175 :: u 176 :: u 177 :: u 178 :: u 179 :: u 180 :: u 181 :: u 182 :: u 183 :: u 184 :: u 185 :: u 186 :: u 187 :: u 188 :: u 189 :: u 190 :: u 191 :: u 192 :: u 193 :: u 194 :: u 195 :: u 196 :: u 197 :: u 198 :: u 199 :: u 200 :: u 201 :: u 202 :: u 203 :: u 204 :: u 205 :: u 206 :: u 207 :: u 208 :: u 209 :: u 210 :: u 211 :: u 212 :: u 213 :: u 214 :: u 215 :: u 216 :: u 217 :: u 218 :: u 219 :: u 220 :: u 221 :: u 222 :: u 223 :: u 224 :: u 225 :: u 226 :: u 227 :: u 228 :: u 229 :: u 230 :: u 231 :: u 232 :: u 233 :: u 234 :: u 235 :: u 236 :: u 237 :: u 238 :: u 239 :: u 240 :: u 241 :: u 242 :: u 243 :: u 244 :: u 245 :: u 246 :: u 247 :: u 248 :: u 249 :: u 250 :: u 251 :: u 252 :: u 253 :: u 254 :: u 255 :: u 256 :: u 257 :: u 258 :: u 259 :: u 260 :: u 261 :: u 262 :: u 263 :: u 264 :: u 265 :: u 266 :: u 267 :: u 268 :: u 269 :: u 270 :: u 271 :: u 272 :: u 273 :: u 274 :: u 275 :: u 276 :: u 277 :: u 278 :: u 279 :: u 280 :: u 281 :: u 282 :: u 283 :: u 284 :: u 285 :: u 286 :: u 287 :: u 288 :: u 289 :: u 290 :: u 291 :: u 292 :: u 293 :: u 294 :: u 295 :: u 296 :: u 297 :: u 298 :: u 299 :: u 300 :: u 301 :: u 302 :: u 303 :: u 304 :: u 305 :: u 306 :: u 307 :: u 308 :: u 309 :: u 310 :: u 311 :: u 312 :: u 313 :: u 314 :: u 315 :: u 316 :: u 317 :: u 318 :: u 319 :: u 320 :: u 321 :: u 322 :: u 323 :: u 324 :: u 325 :: u 326 :: u 327 :: u 328 :: u 329 :: u 330 :: u 331 :: u 332 :: u 333 :: u 334 :: u 335 :: u 336 :: u 337 :: u 338 :: u 339 :: u 340 :: u 341 :: u 342 :: u 343 :: u 344 :: u 345 :: u 346 :: u 347 :: u 348 :: u 349 :: u 350 :: u 351 :: u 352 :: u 353 :: u 354 :: u 355 :: u 356 :: u 357 :: u 358 :: u 359 :: u 360 :: u 361 :: u 362 :: u 363 :: u 364 :: u 365 :: u 366 :: u 367 :: u 368 :: u 369 :: u 370 :: []), defers := [] } w := by
  conv => arg 2; whnf
  have t0 : ¬ a < m := by omega
  go_wp2_with fail
  exact hK.out _ _ FR_mk hst.out
/-- One round, whatever stands at the head. -/
theorem round_any (w0 : World) (g db so m mc N : Nat) (cb src : List UInt8) (w : World) (K0 K1 : Act → World → Prop) (R : Ending → World → Prop) (hN2 : N ≤ 40000) (hm : Hid (cb.length = m)) (hm2 : m ≤ 50000) (hmc : m ≤ mc) (hmc2 : mc ≤ 1000000)
    (hs : Hid (Src w0 db so cb)) (hdb : db < g) (u : Nat → Value) (out : List UInt8) (d a : Nat) (hod : Hid (out.length = d)) (hst : Hid (DSt w0 g N out w)) (ha : a < m) (hN : src.length = N) (hsteps : Sn.Steps (cb.drop a) out src)
    (hK : ∀ o1 q, a < q → q ≤ m → o1.length ≤ N → Sn.Steps (cb.drop q) o1 src → Hands w0 g N db so m mc K0 o1 q) :
    Code.wp Tryd.prog DBody (Exit.then K0 (Exit.inBlock 0 (Exit.then K1 (bodyPost Tryd.prog Tryd.f22 R)))) (FR g N db so m mc (.int .i64 (d : Int)) (.int .i64 (a : Int)) u) w := by
  obtain ⟨f, q, o1, hf, hf256, haq, hqm, hst2, hcase⟩ := step_of cb a out src (by rw [hm.out]; exact ha) hsteps
  have hol : o1.length ≤ N := by rw [← hN]; exact hst2.le
  rw [hm.out] at hqm
  have HH := hK o1 q haq hqm hol hst2
  have hod' := hod.out
  rcases hcase with ⟨hmod, k, p2, hd, hk1, hqq, ho⟩ | ⟨hmod, hqq, off, k, g1, g2, g3, g4, g5, hfe, hx, ho⟩ | ⟨hmod, hqq, off, k, g1, g2, g3, g4, g5, hfe, hx, hy, ho⟩
  · have hdk : d + k ≤ N := by
      have hX : ((cb.drop p2).take k).length = k := by rw [List.length_take, List.length_drop, hm.out]; omega
      rw [ho, List.length_append, hX] at hol
      omega
    subst ho
    subst hqq
    rcases hd with ⟨c1, c2, c3⟩ | ⟨c1, c2, c3⟩ | ⟨c1, c2, c3⟩
    · subst c3
      exact rl_short w0 g db so m mc N cb w K0 K1 R hN2 hm hm2 hmc hmc2 hs hdb u out d a hod hst f k ha hf256 hf hmod c1 c2 hk1 hqm hdk HH
    · subst c2
      exact rl_mid w0 g db so m mc N cb w K0 K1 R hN2 hm hm2 hmc hmc2 hs hdb u out d a hod hst (cb.getD (a + 1) 0).toNat k (by omega) (by rw [← c1]; exact hf) rfl (UInt8.toNat_lt _) c3 hk1 hqm hdk HH
    · subst c2
      exact rl_big w0 g db so m mc N cb w K0 K1 R hN2 hm hm2 hmc hmc2 hs hdb u out d a hod hst (cb.getD (a + 1) 0).toNat (cb.getD (a + 1 + 1) 0).toNat k (by omega) (by rw [← c1]; exact hf) rfl (UInt8.toNat_lt _) rfl (UInt8.toNat_lt _) c3 hk1 hqm hdk HH
  · have hdk : d + k ≤ N := by
      rw [ho, Sn.copyOut_length] at hol
      omega
    subst ho
    subst hqq
    exact rc_one w0 g db so m mc N cb w K0 K1 R hN2 hm hm2 hmc hmc2 hs hdb u out d a hod hst f (cb.getD (a + 1) 0).toNat off k (by omega) hf256 hf rfl (UInt8.toNat_lt _) hmod (show k = f / 4 % 8 + 4 by omega) (show off = f / 32 * 256 + _ by rw [hx]; omega) (by omega) g3 (by omega) hdk HH
  · have hdk : d + k ≤ N := by
      rw [ho, Sn.copyOut_length] at hol
      omega
    subst ho
    subst hqq
    exact rc_two w0 g db so m mc N cb w K0 K1 R hN2 hm hm2 hmc hmc2 hs hdb u out d a hod hst f (cb.getD (a + 1) 0).toNat (cb.getD (a + 1 + 1) 0).toNat off k (by omega) hf256 hf rfl (UInt8.toNat_lt _) rfl (UInt8.toNat_lt _) hmod (show k = f / 4 + 1 by omega) (show off = _ by rw [hx, hy]; omega) g1 g3 (by omega) hdk HH

/-- The loop. -/
theorem dec_loop (w0 : World) (g db so m mc N : Nat) (cb src : List UInt8) (w : World) (K1 : Act → World → Prop) (R : Ending → World → Prop) (hN2 : N ≤ 40000) (hm : Hid (cb.length = m)) (hm2 : m ≤ 50000) (hmc : m ≤ mc) (hmc2 : mc ≤ 1000000)
    (hs : Hid (Src w0 db so cb)) (hdb : db < g) (hN : Hid (src.length = N)) (hsteps : Hid (Sn.Steps cb [] src)) (hst : Hid (DSt w0 g N [] w)) (A : Act) (hA : ∃ u, A = FR g N db so m mc (.int .i64 0) (.int .i64 0) u)
    (hK : Hid (∀ (a' : Act) (w' : World), (∃ u, a' = FR g N db so m mc (.int .i64 (N : Int)) (.int .i64 (m : Int)) u) → DSt w0 g N src w' → K1 a' w')) :
    Code.wp Tryd.prog (Code.loop DBody) (Exit.inBlock 0 (Exit.then K1 (bodyPost Tryd.prog Tryd.f22 R))) A w := by
  refine wp_loop_ghost (fun n a' w' => ∃ (u : Nat → Value) (out : List UInt8) (d a : Nat), n = m - a ∧ a ≤ m ∧ a' = FR g N db so m mc (.int .i64 (d : Int)) (.int .i64 (a : Int)) u ∧ out.length = d ∧ out.length ≤ N ∧ Sn.Steps (cb.drop a) out src ∧ DSt w0 g N out w') m ?_ ?_
  · obtain ⟨u, rfl⟩ := hA
    exact ⟨u, [], 0, 0, by omega, by omega, rfl, rfl, by simp, hsteps.out, hst.out⟩
  · rintro n _ w1 ⟨u, out, d, a, hn, ham, rfl, hod, hoN, hs1, hd1⟩
    by_cases ha : a < m
    · refine round_any w0 g db so m mc N cb src w1 _ K1 R hN2 hm hm2 hmc hmc2 hs hdb u out d a hod hd1 ha hN.out hs1 ?_
      intro o1 q haq hqm hol hs2 v5 v6 a' w' e5 e6 hu hd2
      obtain ⟨u', rfl⟩ := hu
      subst e5
      subst e6
      exact ⟨m - q, by omega, u', o1, o1.length, q, rfl, hqm, rfl, rfl, hol, hs2, hd2⟩
    · obtain rfl : a = m := by omega
      have e : out = src := by
        rw [show cb.drop a = [] from List.drop_eq_nil_of_le (by rw [hm.out]; omega)] at hs1
        exact steps_nil hs1
      have hd3 : d = N := by rw [← hod, e]; exact hN.out
      subst hd3
      refine rl_end w0 g db so a mc d cb w1 _ K1 R hN2 hm hm2 hmc hmc2 hs hdb u out d a hod hd1 rfl ?_
      intro a' w' hu hd2
      rw [e] at hd2
      exact hK.out a' w' hu hd2

/-- decode's end -/
def DecZero (w0 : World) (g N : Nat) (src : List UInt8) (e : Ending) (w : World) : Prop := e = .returned (.int .i64 0) ∧ DSt w0 g N src w

set_option maxRecDepth 1000000 in
set_option maxHeartbeats 4000000 in
theorem dec_any (g db so m mc N : Nat) (cb src : List UInt8) (w : World) (hN : Hid (src.length = N)) (hN2 : N ≤ 40000) (hm : Hid (cb.length = m)) (hm2 : m ≤ 50000) (hmc : m ≤ mc) (hmc2 : mc ≤ 1000000)
    (hsteps : Hid (Sn.Steps cb [] src)) (hs : Hid (Src w db so cb)) (hdb : db < g) (hg : Hid (DSt w g N [] w)) :
    Calls Tryd.prog 22 #[.slice (some ⟨g, 0, none⟩) N N, .slice (some ⟨db, so, none⟩) m mc] w (DecZero w g N src) := by
  go_enter Tryd.func22, Tryd.ntmps22
  go_upto_block 0 with fail
  (with_reducible refine wp_block ?_)
  refine dec_loop w g db so m mc N cb src w _ _ hN2 hm hm2 hmc hmc2 hs hdb hN hsteps hg _ FR_mk ?_
  unfold Hid
  rintro _ w' ⟨u, rfl⟩ hd
  have HD := Lib.hid hd
  clear hd
  unfold FR
  go_wp2_with fail
  go_ret
  exact ⟨rfl, HD.out⟩

end Go.Proofs.YtbhcdkbcbcmomaaDoor
