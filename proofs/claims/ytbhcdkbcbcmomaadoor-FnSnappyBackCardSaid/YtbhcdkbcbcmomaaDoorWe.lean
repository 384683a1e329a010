/- WALKS, the fourth text: encodeBlock's main loop. -/
import Derived.Test.YtbhcdkbcbcmomaaDoorWd
namespace Go.Proofs.YtbhcdkbcbcmomaaDoor
open Go.RowKit

/-- the code inside block n -/
def blkIn (n : Nat) : Code → Option Code
  | .block m c => if m = n then some c else blkIn n c
  | .seq a b => match blkIn n a with
    | some c => some c
    | none => blkIn n b
  | .loop c => blkIn n c
  | .scope c => blkIn n c
  | .cond _ a b => match blkIn n a with
    | some c => some c
    | none => blkIn n b
  | _ => none
noncomputable def B2 : Code := ((Tryd.f19.body.bind (blkIn 2)).getD .skip)

set_option maxRecDepth 1000000 in
set_option maxHeartbeats 2000000 in
theorem main_loop (w0 : World) (g off m c bs os sc n tb sh : Nat) (l : List UInt8) (cur : List Value) (K0 : Act → World → Prop)
    (hl : Hid (l.length = n)) (h17 : 17 ≤ n) (hn : n ≤ 40000) (hsc : n ≤ sc) (hsc2 : sc ≤ 140737488351232) (hm : n + n / 6 + 29 ≤ m) (hmc : m ≤ c) (hc : c ≤ 1000000) (hsh : sh ≤ 24)
    (hfit : off + m ≤ cur.length) (hsrc : Hid (Src w0 bs os l)) (hne : bs ≠ g) (htb : w0.heap.size ≤ tb) (hgt : g ≠ tb)
    (cb : List UInt8) (d ne s h : Nat) (hs1 : ne < s) (hs2 : s ≤ n) (hh : h < 4294967296) (w : World) (hst : Hid (EncSt w0 g off tb cur l cb d ne s 0 w))
    (u2 u3 u6 u12 u13 u14 u15 u16 u17 u18 u19 u20 u21 u22 u23 u24 u25 u26 u27 u28 u29 u30 u31 u32 u33 u34 u35 u36 u37 u38 u39 u40 u41 u42 u43 u44 u45 u46 u47 u48 u49 u50 u51 u52 u53 u54 u55 u56 u57 u58 u59 u60 u61 u62 u63 u64 u65 u66 u67 u68 u69 u70 u71 u72 u73 u74 u75 u76 u77 u78 u79 u80 u81 u82 u83 u84 u85 u86 u87 u88 u89 u90 u91 u92 u93 u94 u95 u96 u97 u98 u99 u100 u101 u102 u103 u104 u105 u106 u107 u108 u109 u110 u111 u112 u113 u114 u115 u116 u117 u118 u119 u120 u121 u122 u123 u124 u125 u126 u127 u128 u129 u130 u131 u132 u133 u134 u135 u136 u137 u138 u139 u140 u141 u142 u143 u144 u145 u146 u147 u148 u149 u150 u151 u152 u153 u154 u155 u156 u157 u158 u159 u160 u161 u162 u163 u164 u165 u166 u167 u168 u169 u170 u171 u172 u173 u174 u175 u176 u177 u178 u179 u180 u181 u182 u183 : Value) :
    Code.wp Tryd.prog B2 (Exit.inBlock 2 (Exit.then K0 (Exit.jump 0 (JAt w0 g off tb m c bs os n sc cur l) (bodyPost Tryd.prog Tryd.f19 (BlockEnd w0 g off cur l))))) { tmps := List.toArray (.slice (some ⟨g, off, none⟩) m c :: .slice (some ⟨bs, os, none⟩) n sc :: u2 :: u3 :: .int .i64 (d : Int) :: .int .u32 (sh : Int) :: u6 :: .pointer (some ⟨tb, 0, none⟩) :: .int .i64 ((n : Int) - 15) :: .int .i64 (ne : Int) :: .int .i64 (s : Int) :: .int .u32 (h : Int) :: u12 :: u13 :: u14 :: u15 :: u16 :: u17 :: u18 :: u19 :: u20 :: u21 :: u22 :: u23 :: u24 :: u25 :: u26 :: u27 :: u28 :: u29 :: u30 :: u31 :: u32 :: u33 :: u34 :: u35 :: u36 :: u37 :: u38 :: u39 :: u40 :: u41 :: u42 :: u43 :: u44 :: u45 :: u46 :: u47 :: u48 :: u49 :: u50 :: u51 :: u52 :: u53 :: u54 :: u55 :: u56 :: u57 :: u58 :: u59 :: u60 :: u61 :: u62 :: u63 :: u64 :: u65 :: u66 :: u67 :: u68 :: u69 :: u70 :: u71 :: u72 :: u73 :: u74 :: u75 :: u76 :: u77 :: u78 :: u79 :: u80 :: u81 :: u82 :: u83 :: u84 :: u85 :: u86 :: u87 :: u88 :: u89 :: u90 :: u91 :: u92 :: u93 :: u94 :: u95 :: u96 :: u97 :: u98 :: u99 :: u100 :: u101 :: u102 :: u103 :: u104 :: u105 :: u106 :: u107 :: u108 :: u109 :: u110 :: u111 :: u112 :: u113 :: u114 :: u115 :: u116 :: u117 :: u118 :: u119 :: u120 :: u121 :: u122 :: u123 :: u124 :: u125 :: u126 :: u127 :: u128 :: u129 :: u130 :: u131 :: u132 :: u133 :: u134 :: u135 :: u136 :: u137 :: u138 :: u139 :: u140 :: u141 :: u142 :: u143 :: u144 :: u145 :: u146 :: u147 :: u148 :: u149 :: u150 :: u151 :: u152 :: u153 :: u154 :: u155 :: u156 :: u157 :: u158 :: u159 :: u160 :: u161 :: u162 :: u163 :: u164 :: u165 :: u166 :: u167 :: u168 :: u169 :: u170 :: u171 :: u172 :: u173 :: u174 :: u175 :: u176 :: u177 :: u178 :: u179 :: u180 :: u181 :: u182 :: u183 :: []), defers := [] } w := by
  conv => arg 2; whnf
  go_loopg [4, 9, 10, 11] n (fun q vd vne vs vh wr => ∃ (cb : List UInt8) (d ne s h : Nat), n ≤ q + s ∧ vd = .int .i64 (d : Int) ∧ vne = .int .i64 (ne : Int) ∧ vs = .int .i64 (s : Int) ∧ vh = .int .u32 (h : Int) ∧ ne < s ∧ s ≤ n ∧ h < 4294967296 ∧ Hid (EncSt w0 g off tb cur l cb d ne s 0 wr))
  case atStart => exact ⟨cb, d, ne, s, h, by omega, rfl, rfl, rfl, rfl, hs1, hs2, hh, hst⟩
  case round =>
    clear hst hs1 hs2 hh
    obtain ⟨cb, d, ne, s, h, hq, rfl, rfl, rfl, rfl, hs1, hs2, hh, hst⟩ := hrel
    go_upto_block 4 with fail
    go_cut [10, 11, 14] from 41 to 169 (fun vs vh vc wx => ∃ (s' cd h : Nat), vs = .int .i64 (s' : Int) ∧ vh = .int .u32 (h : Int) ∧ vc = .int .i64 (cd : Int) ∧ s ≤ s' ∧ s' + 16 ≤ n ∧ cd < s' ∧ Hid (Sn.le32 l s' = Sn.le32 l cd) ∧ Hid (EncSt w0 g off tb cur l cb d ne (s' + 1) 0 wx))
    case first =>
      go_wp2_with fail
      go_loopg [11, 12, 13] n (fun q vh vk vn wr => ∃ (t k h : Nat), n ≤ q + t ∧ vk = .int .i64 (k : Int) ∧ vn = .int .i64 (t : Int) ∧ vh = .int .u32 (h : Int) ∧ s ≤ t ∧ 32 ≤ k ∧ k ≤ 32 + t ∧ t ≤ n ∧ h < 4294967296 ∧ Hid (EncSt w0 g off tb cur l cb d ne t 0 wr))
      case atStart => exact ⟨s, 32, h, by omega, rfl, rfl, rfl, by omega, by omega, by omega, hs2, hh, hst⟩
      case round =>
        clear hst hh
        obtain ⟨t, k, h, hq2, rfl, rfl, rfl, hst1, hk1, hk2, htn, hh, hst⟩ := hrel
        by_cases hlim : t + k / 32 + 15 ≤ n
        · have hidx := mask_lt h hh
          obtain ⟨v, hv, hcell⟩ := hst.out.entry (bits .and .u32 (h : Int) 16383).toNat (by omega)
          have hfz := hst.out.frz (bits .and .u32 (h : Int) 16383).toNat
          have HE := Lib.hid (hst.out.note htb hgt (bits .and .u32 (h : Int) 16383).toNat (v := t) (b' := t + 1) rfl (by omega) (by omega))
          have HS := Lib.hid (HE.out.src hsrc.out hne)
          have hb1 := Sn.le32_lt l (t + k / 32)
          by_cases heq : Sn.le32 l t = Sn.le32 l v
          · have HQ := Lib.hid heq
            have hb : ((Sn.le32 l t : Int) == (Sn.le32 l v : Int)) = true := by rw [heq]; simp
            clear heq hst
            go_wp2_with (first | (go_at_call 24; refine (load32_at bs os n sc _ (t + k / 32) l _ (by omega) hl.out HS.out (by omega) (by omega) (by omega)).mono ?_; rintro e w' ⟨rfl, nq, rfl⟩) | (go_at_call 24; refine (load32_at bs os n sc _ t l _ (by omega) hl.out (src_drewN HS.out _) (by omega) (by omega) (by omega)).mono ?_; rintro e w' ⟨rfl, nq2, rfl⟩) | (go_at_call 24; refine (load32_at bs os n sc _ v l _ (by omega) hl.out (src_drewN HS.out _) (by omega) (by omega) (by omega)).mono ?_; rintro e w' ⟨rfl, nq3, rfl⟩) | (go_at_call 23; refine (hash_at _ _ _ (by omega) (by omega)).mono ?_; rintro e w' ⟨⟨h', hh', rfl⟩, rfl⟩))
            go_meet
            case rel => exact ⟨t, v, h', rfl, rfl, rfl, hst1, by omega, hv, HQ, HE.out.drewN _⟩
          · have hb : ((Sn.le32 l t : Int) == (Sn.le32 l v : Int)) = false := by rw [beq_eq_false_iff_ne]; omega
            clear heq hst
            go_wp2_with (first | (go_at_call 24; refine (load32_at bs os n sc _ (t + k / 32) l _ (by omega) hl.out HS.out (by omega) (by omega) (by omega)).mono ?_; rintro e w' ⟨rfl, nq, rfl⟩) | (go_at_call 24; refine (load32_at bs os n sc _ t l _ (by omega) hl.out (src_drewN HS.out _) (by omega) (by omega) (by omega)).mono ?_; rintro e w' ⟨rfl, nq2, rfl⟩) | (go_at_call 24; refine (load32_at bs os n sc _ v l _ (by omega) hl.out (src_drewN HS.out _) (by omega) (by omega) (by omega)).mono ?_; rintro e w' ⟨rfl, nq3, rfl⟩) | (go_at_call 23; refine (hash_at _ _ _ (by omega) (by omega)).mono ?_; rintro e w' ⟨⟨h', hh', rfl⟩, rfl⟩))
            go_roundg (n - (t + k / 32))
            case measure => omega
            case rel => exact ⟨t + k / 32, k + k / 32, h', by omega, by go_num, by go_num, rfl, by omega, by omega, by omega, by omega, hh', (HE.out.up (by omega)).drewN _⟩
        · go_wp2_with fail
          go_step3
          exact (show 0 = 0 ∧ JAt w0 g off tb m c bs os n sc cur l _ _ from ⟨rfl, cb, d, ne, t, _, _, by omega, rfl, rfl, JFrame_mk, hst⟩)
    case rest =>
      obtain ⟨s', cd, h', rfl, rfl, rfl, hss, hsn, hcd, HQ, hst'⟩ := hcut
      clear hst hh
      have hcost := hst'.out.cost
      have hlen := hl.out
      have hsl := hst'.out.len (by omega)
      have hL : ((l.drop ne).take (s' - ne)).length = s' - ne := by rw [List.length_take, List.length_drop]; omega
      have hle := Sn.litB_le ((l.drop ne).take (s' - ne))
      rw [hL] at hle
      have HC := Lib.hid (lit_at g (off + d) (m - d) (c - d) bs (os + ne) (sc - ne) (s' - ne) ((l.drop ne).take (s' - ne)) (splice cur off (bv cb)) wc.drew hL (by omega) (by omega) (by omega) (by omega)
        hst'.out.drew.blk (by rw [hsl]; omega) (src_take (src_drop (hst'.out.drew.src hsrc.out hne) ne) (s' - ne)) hne)
      have HF : Hid (∀ w2, Put wc.drew g (off + d) (splice cur off (bv cb)) (bv (Sn.litB ((l.drop ne).take (s' - ne)))) w2 → EncSt w0 g off tb cur l (cb ++ Sn.litB ((l.drop ne).take (s' - ne))) (d + (Sn.litB ((l.drop ne).take (s' - ne))).length) s' (s' + 1) 6 w2) :=
        fun w2 hp => hst'.out.drew.lit (by omega) (by omega) (by omega) hp (by omega) hgt
      obtain ⟨X, hX⟩ : ∃ X, X = Sn.litB ((l.drop ne).take (s' - ne)) := ⟨_, rfl⟩
      rw [← hX] at HC HF hle
      clear hX hL hsl hlen
      have a1 : ne < s' := by omega
      have a2 : s' ≤ sc := by omega
      have a3 : d < c := by omega
      have a4 : ne < sc := by omega
      have a5 : d ≤ m := by omega
      have a6 : ne ≤ s' := by omega
      have hw : IntKind.i64.wrap ((d : Int) + (X.length : Int)) = ((d + X.length : Nat) : Int) := by rw [IntWalk.i64_in _ (by omega)]; omega
      have HW := Lib.hid hw
      clear hw
      go_upto_region 23 with fail
      go_cut [4] from 41 to 169 (fun vd wx => ∃ (cb : List UInt8) (d : Nat), vd = .int .i64 (d : Int) ∧ Hid (EncSt w0 g off tb cur l cb d s' (s' + 1) 6 wx))
      case first =>
        go_region_with (go_at_call 18; (with_reducible refine HC.out.mono ?_); rintro e w2 ⟨rfl, hp⟩)
        go_wp2_with fail
        go_meet
        case rel => exact ⟨cb ++ X, d + X.length, by show Value.int .i64 _ = _; rw [HW.out], HF.out _ hp⟩
      case rest =>
        clear HC HF HW hst' hle hcost a1 a2 a3 a4 a5 a6
        obtain ⟨cb, d, rfl, hst⟩ := hcut
        go_wp2_with fail
        go_loopg [4, 10, 14] n (fun q vd vs vc wr => ∃ (cb : List UInt8) (d t cd : Nat), n ≤ q + t ∧ vd = .int .i64 (d : Int) ∧ vs = .int .i64 (t : Int) ∧ vc = .int .i64 (cd : Int) ∧ s ≤ t ∧ t + 16 ≤ n ∧ cd < t ∧ Hid (Sn.le32 l t = Sn.le32 l cd) ∧ Hid (EncSt w0 g off tb cur l cb d t (t + 1) 6 wr))
        case atStart => exact ⟨cb, d, s', cd, by omega, rfl, rfl, rfl, hss, hsn, hcd, HQ, hst⟩
        case round =>
          clear hst HQ hcd hss hsn
          obtain ⟨cb, d, t, cd, hq2, rfl, rfl, rfl, hst1, htn, hcd, HQ, hst⟩ := hrel
          go_upto_block 8 with fail
          go_cut [10] from 86 to 169 (fun ve wx => ∃ e : Nat, ve = .int .i64 (e : Int) ∧ t + 4 ≤ e ∧ e ≤ n ∧ Hid (∀ j, j < e - t → l.getD (cd + j) 0 = l.getD (t + j) 0) ∧ Hid (EncSt w0 g off tb cur l cb d t (t + 1) 6 wx))
          case first =>
            go_wp2_with fail
            go_loopg [10, 17] n (fun q ve vi wx => ∃ e i : Nat, n ≤ q + e ∧ ve = .int .i64 (e : Int) ∧ vi = .int .i64 (i : Int) ∧ i + t ≤ cd + e ∧ cd + e ≤ i + t ∧ t + 4 ≤ e ∧ e ≤ n ∧ Hid (∀ j, j < e - t → l.getD (cd + j) 0 = l.getD (t + j) 0) ∧ Hid (EncSt w0 g off tb cur l cb d t (t + 1) 6 wx))
            case atStart => exact ⟨t + 4, cd + 4, by omega, by go_num, by go_num, by omega, by omega, by omega, by omega, fun j hj => (Sn.le32_inj HQ.out j (by omega)).symm, hst⟩
            case round =>
              clear hst
              obtain ⟨e, i, hq3, rfl, rfl, hi1, hi2, he1, he2, HM, hst⟩ := hrel
              by_cases he : e < n
              · have hlen := hl.out
                have hi : i < n := by omega
                have HS := hst.out.src hsrc.out hne
                have ce := HS e (by omega)
                have ci := HS i (by omega)
                clear HS hlen
                by_cases heq : l.getD i 0 = l.getD e 0
                · have HN : Hid (∀ j, j < e + 1 - t → l.getD (cd + j) 0 = l.getD (t + j) 0) := fun j hj => by
                    by_cases hj2 : j < e - t
                    · exact HM.out j hj2
                    · rw [show cd + j = i from by omega, show t + j = e from by omega]
                      exact heq
                  obtain ⟨x, hx⟩ : ∃ x, x = (l.getD e 0).toNat := ⟨_, rfl⟩
                  rw [← hx] at ce
                  rw [heq, ← hx] at ci
                  clear heq hx
                  go_wp2_with fail
                  go_quiet (fail)
                  go_wp2_with fail
                  go_roundg (n - (e + 1))
                  case measure => omega
                  case rel => exact ⟨e + 1, i + 1, by omega, by go_num, by go_num, by omega, by omega, by omega, by omega, HN, hst.out.drewN nq⟩
                · obtain ⟨x, hx⟩ : ∃ x, x = (l.getD e 0).toNat := ⟨_, rfl⟩
                  obtain ⟨y, hy⟩ : ∃ y, y = (l.getD i 0).toNat := ⟨_, rfl⟩
                  have hxy : ((y : Int) == (x : Int)) = false := by
                    rw [beq_eq_false_iff_ne, hx, hy]
                    intro h
                    exact heq (UInt8.toNat_inj.1 (by omega))
                  rw [← hx] at ce
                  rw [← hy] at ci
                  clear heq hx hy
                  go_wp2_with fail
                  go_quiet (fail)
                  go_wp2_with fail
                  go_meet
                  case rel => exact ⟨e, rfl, he1, he2, HM, hst.out.drewN nq⟩
              · have hd1 : decide (e < n) = false := by simpa using he
                have hd2 : decide ((e : Int) < (n : Int)) = false := by simpa using he
                go_wp2_with fail
                go_quiet (fail)
                go_wp2_with fail
                go_meet
                case rel => exact ⟨e, rfl, he1, he2, HM, hst.out.drewN nq⟩
          case rest =>
            clear hst HQ
            obtain ⟨e, rfl, he1, he2, HM, hst⟩ := hcut
            have hcost := hst.out.cost
            have hlen := hl.out
            have hsl := hst.out.len (by omega)
            have hle := Sn.copB_cost (t - cd) (e - t) (by omega)
            have HC := Lib.hid (copy_at g (off + d) (m - d) (c - d) ((t : Int) - (cd : Int)) ((e : Int) - (t : Int)) (t - cd) (e - t) (splice cur off (bv cb)) wc (by omega) (by omega) (by omega) (by omega) (by omega) (by omega) (by omega) (by omega)
              hst.out.blk (by rw [hsl]; omega))
            have HF : Hid (∀ w2, Put wc g (off + d) (splice cur off (bv cb)) (bv (Sn.copB (t - cd) (e - t))) w2 → EncSt w0 g off tb cur l (cb ++ Sn.copB (t - cd) (e - t)) (d + (Sn.copB (t - cd) (e - t)).length) e (t + 1) 0 w2) :=
              fun w2 hp => hst.out.cop hcd he1 (by omega) (by omega) HM.out hp (by omega) hgt
            obtain ⟨X, hX⟩ : ∃ X, X = Sn.copB (t - cd) (e - t) := ⟨_, rfl⟩
            rw [← hX] at HC HF hle
            clear hX hsl hlen hst HM
            have a3 : d < c := by omega
            have a5 : d ≤ m := by omega
            by_cases hge : n ≤ e + 15
            · go_wp2_with (go_at_call 25; (with_reducible refine HC.out.mono ?_); rintro e' w2 ⟨rfl, hp⟩)
              go_step3
              exact (show 0 = 0 ∧ JAt w0 g off tb m c bs os n sc cur l _ _ from ⟨rfl, cb ++ X, d + X.length, e, t + 1, _, _, he2, by go_num, rfl, JFrame_mk, HF.out _ hp⟩)
            · go_wp2_with (go_at_call 25; (with_reducible refine HC.out.mono ?_); rintro e' w2 ⟨rfl, hp⟩)
              have HE := Lib.hid (HF.out _ hp)
              clear HC HF hp
              have HS := Lib.hid (HE.out.src hsrc.out hne)
              have hx64 : Hid (Sn.le64 l (e - 1) / 256 % 4294967296 = Sn.le32 l e) := by
                have := le64_parts l (e - 1)
                rw [show e - 1 + 1 = e from by omega] at this
                exact this
              have hx64b := Sn.le64_lt l (e - 1)
              (with_reducible refine (load64_at bs os n sc _ (e - 1) l _ ?_ hl.out HS.out ?_ ?_ ?_).mono ?_)
              · omega
              · omega
              · omega
              · omega
              rintro _ _ ⟨rfl, nq, rfl⟩
              have HE := Lib.hid (HE.out.drewN nq)
              generalize w2.drewN nq = w3 at HE ⊢
              obtain ⟨x64, hx⟩ : ∃ x, x = Sn.le64 l (e - 1) := ⟨_, rfl⟩
              rw [← hx] at hx64 hx64b
              rw [← hx]
              clear hx
              go_wp2_with fail
              (with_reducible refine (hash_at _ _ _ ?_ ?_).mono ?_)
              · omega
              · omega
              rintro _ _ ⟨⟨h1, hh1, rfl⟩, rfl⟩
              have hidx1 := mask_lt h1 hh1
              obtain ⟨v1, hv1, hc1⟩ := HE.out.entry (bits .and .u32 (h1 : Int) 16383).toNat (by omega)
              have hf1 := HE.out.frz (bits .and .u32 (h1 : Int) 16383).toNat
              have HE3 := Lib.hid (HE.out.note htb hgt (bits .and .u32 (h1 : Int) 16383).toNat (x := (e : Int) - 1) (v := e - 1) (b' := e) (by omega) (by omega) (by omega))
              go_wp2_with fail
              (with_reducible refine (hash_at _ _ _ ?_ ?_).mono ?_)
              · omega
              · omega
              rintro _ _ ⟨⟨h2, hh2, rfl⟩, rfl⟩
              generalize w3.setCell ⟨tb, (bits .and .u32 (h1 : Int) 16383).toNat, none⟩ (.int .u16 ((e : Int) - 1)) = w5 at HE3 ⊢
              have hidx2 := mask_lt h2 hh2
              obtain ⟨v2, hv2, hc2⟩ := HE3.out.entry (bits .and .u32 (h2 : Int) 16383).toNat (by omega)
              have hf2 := HE3.out.frz (bits .and .u32 (h2 : Int) 16383).toNat
              have HE4 := Lib.hid (HE3.out.note htb hgt (bits .and .u32 (h2 : Int) 16383).toNat (x := (e : Int)) (v := e) (b' := e + 1) rfl (by omega) (by omega))
              have HS4 := Lib.hid (HE4.out.src hsrc.out hne)
              clear hc1 hf1 HE HE3
              go_wp2_with fail
              (with_reducible refine (load32_at bs os n sc _ v2 l _ ?_ hl.out HS4.out ?_ ?_ ?_).mono ?_)
              · omega
              · omega
              · omega
              · omega
              rintro _ _ ⟨rfl, nq2, rfl⟩
              by_cases heq : Sn.le32 l e = Sn.le32 l v2
              · have HQ := Lib.hid heq
                have hb : ((x64 : Int) / 256 % 4294967296 != (Sn.le32 l v2 : Int)) = false := by
                  have := hx64.out
                  rw [bne_eq_false_iff_eq]
                  omega
                clear heq
                go_wp2_with fail
                go_roundg (n - e)
                case measure => omega
                case rel => exact ⟨cb ++ X, d + X.length, e, v2, by omega, by go_num, rfl, rfl, by omega, by omega, hv2, HQ, (HE4.out.slack (by omega)).drewN nq2⟩
              · have hb : ((x64 : Int) / 256 % 4294967296 != (Sn.le32 l v2 : Int)) = true := by
                  have := hx64.out
                  rw [bne_iff_ne]
                  omega
                clear heq
                go_wp2_with fail
                (with_reducible refine (hash_at _ _ _ ?_ ?_).mono ?_)
                · omega
                · omega
                rintro _ _ ⟨⟨h3, hh3, rfl⟩, rfl⟩
                go_wp2_with fail
                go_roundg (n - (e + 1))
                case measure => omega
                case rel => exact ⟨cb ++ X, d + X.length, e, e + 1, h3, by omega, by go_num, rfl, by go_num, rfl, by omega, by omega, hh3, HE4.out.drewN nq2⟩

end Go.Proofs.YtbhcdkbcbcmomaaDoor
