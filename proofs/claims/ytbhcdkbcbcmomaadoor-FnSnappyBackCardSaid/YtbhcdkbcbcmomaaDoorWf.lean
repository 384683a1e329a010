/- WALKS, the fourth text: encodeBlock whole. -/
import Derived.Test.YtbhcdkbcbcmomaaDoorWe
namespace Go.Proofs.YtbhcdkbcbcmomaaDoor
open Go.RowKit

set_option maxRecDepth 1000000 in
set_option maxHeartbeats 1000000 in
theorem block_any (g off m c bs os sc n : Nat) (l : List UInt8) (cur : List Value) (w : World) (hl : Hid (l.length = n)) (h17 : 17 ≤ n) (hn : n ≤ 40000) (hsc : n ≤ sc) (hsc2 : sc ≤ 140737488351232) (hm : n + n / 6 + 29 ≤ m) (hmc : m ≤ c) (hc : c ≤ 1000000)
    (hg : Hid (Blk w g 5 cur)) (hfit : off + m ≤ cur.length) (hsrc : Hid (Src w bs os l)) (hne : bs ≠ g) (hgw : g < w.heap.size) :
    Calls Tryd.prog 19 #[.slice (some ⟨g, off, none⟩) m c, .slice (some ⟨bs, os, none⟩) n sc] w (BlockEnd w g off cur l) := by
  have hz := run_zero55
  go_enter Tryd.func19, Tryd.ntmps19
  go_wp2
  refine wp_scope_jumps 0 (JAt w g off w.heap.size m c bs os n sc cur l) (fun _ _ => 0) rfl ?_ ?_
  · go_upto_block 0 with fail
    go_cut [5, 6] from 21 to 32 (fun sh _ wx => w = wx ∧ ∃ s : Nat, s ≤ 24 ∧ sh = .int .u32 (s : Int))
    case first =>
      go_wp2_with fail
      go_loop [5, 6] (fun sh ts => ∃ k : Nat, k ≤ 6 ∧ sh = .int .u32 (24 - k : Int) ∧ ts = .int .i64 (tz k : Int)) (fun _ ts => 16384 - (intOf ts).toNat)
      case atStart => exact ⟨0, by omega, rfl, rfl⟩
      case round =>
        obtain ⟨k, hk, rfl, rfl⟩ := hrel
        have h1 := tz_le k hk
        have h2 := tz_lt k hk
        by_cases hlt : tz k < 16384
        · by_cases hlt2 : tz k < n
          · have hk5 := h2 hlt
            clear h2
            go_wp2
            go_round
            case rel => exact ⟨k + 1, by omega, by go_num, by rw [tz_succ]; go_num⟩
            case measure => simp [intOf]; omega
          · clear h2
            go_wp2
            go_meet
            exact ⟨rfl, 24 - k, by omega, by go_num⟩
        · clear h2
          go_wp2
          go_meet
          exact ⟨rfl, 24 - k, by omega, by go_num⟩
    case rest =>
      obtain ⟨rfl, s, hs, rfl⟩ := hcut
      go_upto_region 7 with fail
      clear hz
      obtain ⟨wt, HWt⟩ : ∃ wt, Hid (wt = w.alloc (.cells Za 55)) := ⟨_, rfl⟩
      rw [← HWt.out]
      have HE := Lib.hid (EncSt.start (off := off) (l := l) hg.out HWt.out)
      have HS := Lib.hid (HE.out.src hsrc.out hne)
      have hb1 := Sn.le32_lt l 1
      go_upto_block 2 with (first | (go_at_call 24; refine (load32_at bs os n sc _ 1 l _ (by omega) hl.out HS.out (by omega) (by omega) (by omega)).mono ?_; rintro e w' ⟨rfl, nq, rfl⟩) | (go_at_call 23; refine (hash_at _ _ _ (by omega) (by omega)).mono ?_; rintro e w' ⟨⟨h, hh, rfl⟩, rfl⟩))
      (with_reducible refine wp_block ?_)
      refine main_loop w g off m c bs os sc n w.heap.size s l cur _ hl h17 hn hsc hsc2 hm hmc hc hs hfit hsrc hne (Nat.le_refl _) (by omega) [] 0 0 1 h (by omega) (by omega) hh (wt.drewN nq) (HE.out.drewN nq) _ _ _ _ _ _ _ _ _ _ _ _ _ _ _ _ _ _ _ _ _ _ _ _ _ _ _ _ _ _ _ _ _ _ _ _ _ _ _ _ _ _ _ _ _ _ _ _ _ _ _ _ _ _ _ _ _ _ _ _ _ _ _ _ _ _ _ _ _ _ _ _ _ _ _ _ _ _ _ _ _ _ _ _ _ _ _ _ _ _ _ _ _ _ _ _ _ _ _ _ _ _ _ _ _ _ _ _ _ _ _ _ _ _ _ _ _ _ _ _ _ _ _ _ _ _ _ _ _ _ _ _ _ _ _ _ _ _ _ _ _ _ _ _ _ _ _ _ _ _ _ _ _ _ _ _ _ _ _ _ _ _ _ _ _ _ _ _ _ _ _ _ _ _ _
  · rintro a' w' ⟨cb, d, ne, b, v4, v9, hnen, rfl, rfl, hfr, hst⟩
    unfold JFrame at hfr
    iterate 180 obtain ⟨_, hfr⟩ := hfr
    subst hfr
    by_cases hlt : ne < n
    · have hcost := hst.out.cost
      have hlen := hl.out
      have hsl := hst.out.len (by omega)
      have hC := lit_at g (off + d) (m - d) (c - d) bs (os + ne) (sc - ne) (n - ne) (l.drop ne) (splice cur off (bv cb)) w'.drew (by rw [List.length_drop, hlen]) (by omega) (by omega) (by omega) (by omega)
        hst.out.drew.blk (by rw [hsl]; omega) (src_drop (hst.out.drew.src hsrc.out hne) ne) hne
      have HC := Lib.hid hC
      have hle := Sn.litB_le (l.drop ne)
      rw [List.length_drop, hlen] at hle
      have HF : Hid (∀ w2, Put w'.drew g (off + d) (splice cur off (bv cb)) (bv (Sn.litB (l.drop ne))) w2 → BlockEnd w g off cur l (.returned (.int .i64 ((d + (Sn.litB (l.drop ne)).length : Nat) : Int))) w2) :=
        fun w2 hp => hst.out.drew.last (by omega) (by omega) hp (by omega)
      obtain ⟨k, hk⟩ : ∃ k, k = (Sn.litB (l.drop ne)).length := ⟨_, rfl⟩
      rw [← hk] at HC HF hle
      clear hC hsl hk hlen
      go_wp2_with fail
      go_region_with (go_at_call 18; (with_reducible refine HC.out.mono ?_); rintro e w2 ⟨rfl, hp⟩)
      go_wp2
      simp only [Exit.jump]
      go_ret
      have E := HF.out w2 hp
      have e : Value.int .i64 ((d : Int) + (k : Int)) = Value.int .i64 ((d + k : Nat) : Int) := by go_num
      exact (show BlockEnd w g off cur l (.returned (.int .i64 ((d : Int) + (k : Int)))) w2 from by rw [e]; exact E)
    · go_wp2
      simp only [Exit.jump]
      go_ret
      have E := hst.out
      rw [show ne = l.length from by have := hl.out; omega] at E
      exact E.fin

end Go.Proofs.YtbhcdkbcbcmomaaDoor
