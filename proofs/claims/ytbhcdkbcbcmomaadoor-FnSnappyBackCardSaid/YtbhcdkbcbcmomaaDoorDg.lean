/- WALKS: Alike, fits9, SnappyEncode, SnappyMost. -/
import Derived.Test.YtbhcdkbcbcmomaaDoorWh
import Derived.Test.YtbhcdkbcbcmomaaDoorDa
namespace Go.Proofs.YtbhcdkbcbcmomaaDoor
open Go.RowKit

def TrueEnd (w : World) (e : Ending) (w' : World) : Prop := e = .returned (.bool true) ∧ ∃ nq, w' = w.drewN nq

set_option maxRecDepth 100000 in
set_option maxHeartbeats 800000 in
theorem alike_some (g1 o1 c1 g2 o2 c2 n : Nat) (l : List UInt8) (w : World) (hl : Hid (l.length = n)) (hn : n ≤ 100000) (h1 : Hid (Src w g1 o1 l)) (h2 : Hid (Src w g2 o2 l)) :
    Calls Tryd.prog 8 #[.slice (some ⟨g1, o1, none⟩) n c1, .slice (some ⟨g2, o2, none⟩) n c2] w (TrueEnd w) := by
  have t1 : ((n : Int) != (n : Int)) = false := by simp
  go_enter Tryd.func8, Tryd.ntmps8
  go_wp2_with fail
  go_loopg [13] n (fun q v wr => ∃ k : Nat, n ≤ q + k ∧ v = .int .i64 (k : Int) ∧ k ≤ n ∧ ∃ nq, Hid (wr = w.drewN nq))
  case atStart => exact ⟨0, by omega, rfl, by omega, 0, rfl⟩
  case round =>
    obtain ⟨k, hq, rfl, hk, nq0, hw⟩ := hrel
    by_cases hlt : k < n
    · have d1 : wr.cell? ⟨g1, o1 + k, none⟩ = some (.int .u8 ((l.getD k 0).toNat : Int)) := by rw [hw.out]; exact h1.out k (by rw [hl.out]; exact hlt)
      have d2 : wr.cell? ⟨g2, o2 + k, none⟩ = some (.int .u8 ((l.getD k 0).toNat : Int)) := by rw [hw.out]; exact h2.out k (by rw [hl.out]; exact hlt)
      generalize (l.getD k 0).toNat = x at d1 d2
      have t2 : ((x : Int) != (x : Int)) = false := by simp
      go_wp2_with fail
      go_quiet (fail)
      go_wp2_with fail
      go_roundg (n - (k + 1))
      case measure => omega
      case rel => exact ⟨k + 1, by omega, by go_num, by omega, nq0 + nq, by rw [hw.out]; exact World.drewN_drewN ..⟩
    · go_wp2_with fail
      go_ret
      exact ⟨rfl, nq0, hw.out⟩

set_option maxRecDepth 100000 in
theorem alike_none (A B : Option Addr) (c1 c2 : Nat) (w : World) : Calls Tryd.prog 8 #[.slice A 0 c1, .slice B 0 c2] w (TrueEnd w) := by
  go_enter Tryd.func8, Tryd.ntmps8
  go_wp2_with fail
  refine wp_loop_rounds 1 ?_
  rw [rounds_succ]
  go_wp2_with fail
  go_ret
  exact ⟨rfl, 0, rfl⟩

def BoolEnd (b : Bool) (w : World) (e : Ending) (w' : World) : Prop := e = .returned (.bool b) ∧ w = w'

set_option maxRecDepth 100000 in
theorem fits_any (nb : Nat) (A : Option Addr) (n c : Nat) (w : World) (hn : n ≤ 9223372036854775807) (c0 : w.cell? ⟨nb, 0, none⟩ = some (.slice A n c)) :
    Calls Tryd.prog 5 #[.slice (some ⟨nb, 0, none⟩) 1 1] w (BoolEnd (decide (n ≤ 40000)) w) := by
  go_enter Tryd.func5, Tryd.ntmps5
  go_wp2_with fail
  refine wp_loop_rounds 2 ?_
  rw [rounds_succ]
  go_wp2_with fail
  rw [rounds_succ]
  go_wp2_with fail
  go_ret
  exact ⟨by simp; omega, rfl⟩

set_option maxRecDepth 100000 in
theorem senc_some (bs os sc n : Nat) (l : List UInt8) (w : World) (hl : Hid (l.length = n)) (h1 : 1 ≤ n) (hn : n ≤ 40000) (hsc : n ≤ sc) (hsc2 : sc ≤ 140737488351232) (hsrc : Hid (Src w bs os l)) (hbs : bs < w.heap.size) :
    Calls Tryd.prog 6 #[.slice (some ⟨bs, os, none⟩) n sc] w (EncOut w l) := by
  have HC := Lib.hid (enc_some bs os sc n l w hl h1 hn hsc hsc2 hsrc hbs)
  go_enter Tryd.func6, Tryd.ntmps6
  go_wp2_with fail
  (with_reducible refine HC.out.mono ?_)
  rintro _ w2 ⟨g, K, cb, rfl, h1, h2, h3, h4, h5, h6, h7⟩
  have H := Lib.hid (And.intro h1 (And.intro h2 (And.intro h3 (And.intro h4 (And.intro h5 (And.intro h6 h7))))))
  obtain ⟨L, hL⟩ : ∃ L, L = (Sn.uv l.length ++ cb).length := ⟨_, rfl⟩
  rw [← hL]
  have HL := Lib.hid hL
  clear h1 h2 h3 h4 h5 h6 h7 hL
  go_wp2_with fail
  go_ret
  exact ⟨g, K, cb, by rw [← HL.out]; rfl, H.out⟩

set_option maxRecDepth 100000 in
theorem senc_none (A : Option Addr) (sc : Nat) (w : World) : Calls Tryd.prog 6 #[.slice A 0 sc] w (EncOut w []) := by
  have HC := Lib.hid (enc_none A sc w)
  go_enter Tryd.func6, Tryd.ntmps6
  go_wp2_with fail
  (with_reducible refine HC.out.mono ?_)
  rintro _ w2 ⟨g, K, cb, rfl, h1, h2, h3, h4, h5, h6, h7⟩
  have H := Lib.hid (And.intro h1 (And.intro h2 (And.intro h3 (And.intro h4 (And.intro h5 (And.intro h6 h7))))))
  obtain ⟨L, hL⟩ : ∃ L, L = (Sn.uv ([] : List UInt8).length ++ cb).length := ⟨_, rfl⟩
  rw [← hL]
  have HL := Lib.hid hL
  clear h1 h2 h3 h4 h5 h6 h7 hL
  go_wp2_with fail
  go_ret
  exact ⟨g, K, cb, by rw [← HL.out]; rfl, H.out⟩

set_option maxRecDepth 100000 in
theorem smost_at (x : Int) (n : Nat) (w : World) (hx : x = (n : Int)) (hn : n ≤ 100000) :
    Calls Tryd.prog 9 #[.int .i64 x] w fun e w' => e = .returned (.int .i64 ((32 + n + n / 6 : Nat) : Int)) ∧ w = w' := by
  subst hx
  have HC := Lib.hid (most_any n w hn)
  obtain ⟨K, hK⟩ : ∃ K, K = 32 + n + n / 6 := ⟨_, rfl⟩
  rw [← hK] at HC ⊢
  clear hK
  go_enter Tryd.func9, Tryd.ntmps9
  go_wp2_with fail
  (with_reducible refine HC.out.mono ?_)
  rintro _ _ ⟨rfl, rfl⟩
  go_wp2_with fail
  go_ret
  exact ⟨rfl, rfl⟩

end Go.Proofs.YtbhcdkbcbcmomaaDoor
