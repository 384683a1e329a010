/- THE LAW FnSnappyEncode, WALKED: for every slice of bytes it answers true, and nothing that was there has turned. -/
import Derived.Test.YtbhcdkbcbcmomaaDoorDf
import Derived.Test.YtbhcdkbcbcmomaaDoorDg
namespace Go.Proofs.YtbhcdkbcbcmomaaDoor
open Go.RowKit

/-- The law's end: true; below the call's own blocks nothing has turned. -/
def LawEnd (w : World) (e : Ending) (w' : World) : Prop := e = .returned (.bool true) ∧ Below w.heap.size w w'

theorem below_grown {w w' : World} (h : w.grownBy w' none) : Below w.heap.size w w' := (Below.refl _ _).grown h (Nat.le_refl _) (fun _ h => by cases h)

set_option maxRecDepth 100000 in
set_option maxHeartbeats 800000 in
theorem law1_far (A : Option Addr) (n c : Nat) (w : World) (hn : 2147483647 < n) (hn2 : n ≤ 140737488351232) : Calls Tryd.prog 3 #[.slice A n c] w (LawEnd w) := by
  go_enter Tryd.func3, Tryd.ntmps3
  go_upto_if 8 with fail
  rw [show decide ((2147483647 : Int) < (n : Int)) = true from decide_eq_true (by omega)]
  go_wp2_with fail
  go_ret
  exact ⟨rfl, Below.refl _ _⟩

set_option maxRecDepth 100000 in
set_option maxHeartbeats 800000 in
theorem law1_big (A : Option Addr) (n c : Nat) (w : World) (hn : n ≤ 2147483647) (hn2 : 40000 < n) : Calls Tryd.prog 3 #[.slice A n c] w (LawEnd w) := by
  go_enter Tryd.func3, Tryd.ntmps3
  go_upto_if 8 with fail
  rw [show decide ((2147483647 : Int) < (n : Int)) = false from decide_eq_false (by omega)]
  go_wp2_with fail
  have HC := Lib.hid (fits_any w.heap.size A n c (w.alloc (Obj.cells #[Value.slice A n c] 22)) (by omega) ((Blk.new w 22 [Value.slice A n c]).cell 0))
  rw [show decide (n ≤ 40000) = false from decide_eq_false (by omega)] at HC
  (with_reducible refine HC.out.mono ?_)
  rintro _ _ ⟨rfl, rfl⟩
  clear HC
  go_wp2_with fail
  go_ret
  exact ⟨rfl, (Below.refl _ _).alloc (Nat.le_refl _) _⟩

theorem src_of_own {w : World} {base g cap n : Nat} {src : List UInt8} (h : w.ownsRow base 5 1 (.slice (some ⟨g, 0, none⟩) n cap) n (bv src)) (hn : src.length = n) : Src w g 0 src := by
  intro j hj
  rw [Nat.zero_add, h.cellAt j (by omega)]
  exact bv_get src j hj

set_option maxRecDepth 100000 in
set_option maxHeartbeats 1600000 in
theorem law1_some (bs os sc n : Nat) (l : List UInt8) (w : World) (hl : Hid (l.length = n)) (h1 : 1 ≤ n) (hn : n ≤ 40000) (hsc : n ≤ sc) (hsc2 : sc ≤ 140737488351232) (hsrc : Hid (Src w bs os l)) (hbs : bs < w.heap.size) :
    Calls Tryd.prog 3 #[.slice (some ⟨bs, os, none⟩) n sc] w (LawEnd w) := by
  go_enter Tryd.func3, Tryd.ntmps3
  go_upto_if 8 with fail
  rw [show decide ((2147483647 : Int) < (n : Int)) = false from decide_eq_false (by omega)]
  go_wp2_with fail
  have HC := Lib.hid (fits_any w.heap.size (some ⟨bs, os, none⟩) n sc (w.alloc (Obj.cells #[Value.slice (some ⟨bs, os, none⟩) n sc] 22)) (by omega) ((Blk.new w 22 [Value.slice (some ⟨bs, os, none⟩) n sc]).cell 0))
  rw [show decide (n ≤ 40000) = true from decide_eq_true (by omega)] at HC
  (with_reducible refine HC.out.mono ?_)
  rintro _ _ ⟨rfl, rfl⟩
  clear HC
  have HB1 : Hid (Below w.heap.size w (w.alloc (Obj.cells #[Value.slice (some ⟨bs, os, none⟩) n sc] 22))) := (Below.refl _ _).alloc (Nat.le_refl _) _
  have HZ1 : w.heap.size ≤ (w.alloc (Obj.cells #[Value.slice (some ⟨bs, os, none⟩) n sc] 22)).heap.size := HB1.out.size
  generalize w.alloc (Obj.cells #[Value.slice (some ⟨bs, os, none⟩) n sc] 22) = w1 at HB1 HZ1 ⊢
  have HS1 := Lib.hid (src_below hsrc.out HB1.out hbs)
  go_wp2_with fail
  (with_reducible refine (senc_some bs os sc n l w1 hl h1 hn hsc hsc2 HS1 ?_).mono ?_)
  · omega
  rintro _ w2 ⟨g, K, cb, rfl, e1, e2, e3, e4, e5, e6, e7⟩
  rw [hl.out] at e2 e3 e6 ⊢
  obtain ⟨P, hP⟩ : ∃ P, P = Sn.uv n ++ cb := ⟨_, rfl⟩
  have HP : Hid (P = Sn.uv l.length ++ cb) := by rw [hl.out]; exact hP
  rw [← hP] at e2 e6 ⊢
  obtain ⟨pn, hpn⟩ : ∃ pn, P.length = pn := ⟨_, rfl⟩
  have HPN := Lib.hid hpn
  rw [hpn] at e2 ⊢
  have hK : K ≤ 32 + n + n / 6 := by omega
  have E1 := Lib.hid e1
  have E6 := Lib.hid e6
  have HB2 := Lib.hid (HB1.out.trans ((below_grown e7).mono HZ1))
  have HZ2 : w.heap.size ≤ w2.heap.size := HB2.out.size
  clear hP hpn e1 e3 e6 e7
  have HD := Lib.hid (decode_any g 0 pn K P cb l w2 HP HPN E1 (by have := hl.out; omega) (by omega) e2 (by omega) E6 e5)
  go_wp2_with fail
  (with_reducible refine HD.out.mono ?_)
  rintro _ w3 ⟨v, rfl, hown, hbel⟩
  clear HD
  obtain ⟨g3, cap3, rfl, hg3, _⟩ := hown.form (by have := hl.out; omega)
  rw [hl.out] at hown ⊢
  have HS3 := Lib.hid (src_of_own hown hl.out)
  have HB3 := Lib.hid (HB2.out.trans (hbel.mono HZ2))
  have HS4 := Lib.hid (src_below hsrc.out HB3.out hbs)
  clear hown hbel
  go_wp2_with fail
  (with_reducible refine (alike_some g3 0 cap3 bs os sc n l w3 hl ?_ HS3 HS4).mono ?_)
  · omega
  rintro _ _ ⟨rfl, nq, rfl⟩
  go_wp2_with fail
  (with_reducible refine (smost_at _ n _ ?_ ?_).mono ?_)
  · omega
  · omega
  rintro _ _ ⟨rfl, rfl⟩
  go_wp2_with fail
  go_ret
  have hle : pn ≤ 32 + n + n / 6 := by omega
  refine ⟨?_, ?_⟩
  · simp
    omega
  · exact ⟨HB3.out.os, HB3.out.tape, HB3.out.output, HB3.out.size, HB3.out.block⟩

set_option maxRecDepth 100000 in
set_option maxHeartbeats 1600000 in
theorem law1_none (A : Option Addr) (sc : Nat) (w : World) : Calls Tryd.prog 3 #[.slice A 0 sc] w (LawEnd w) := by
  go_enter Tryd.func3, Tryd.ntmps3
  go_wp2_with fail
  have HC := Lib.hid (fits_any w.heap.size A 0 sc (w.alloc (Obj.cells #[Value.slice A 0 sc] 22)) (by omega) ((Blk.new w 22 [Value.slice A 0 sc]).cell 0))
  rw [show decide (0 ≤ 40000) = true from rfl] at HC
  (with_reducible refine HC.out.mono ?_)
  rintro _ _ ⟨rfl, rfl⟩
  clear HC
  have HB1 : Hid (Below w.heap.size w (w.alloc (Obj.cells #[Value.slice A 0 sc] 22))) := (Below.refl _ _).alloc (Nat.le_refl _) _
  have HZ1 : w.heap.size ≤ (w.alloc (Obj.cells #[Value.slice A 0 sc] 22)).heap.size := HB1.out.size
  generalize w.alloc (Obj.cells #[Value.slice A 0 sc] 22) = w1 at HB1 HZ1 ⊢
  go_wp2_with fail
  (with_reducible refine (senc_none A sc w1).mono ?_)
  rintro _ w2 ⟨g, K, cb, rfl, e1, e2, e3, e4, e5, e6, e7⟩
  obtain ⟨P, hP⟩ : ∃ P, P = Sn.uv ([] : List UInt8).length ++ cb := ⟨_, rfl⟩
  have HP := Lib.hid hP
  rw [← hP] at e2 e6 ⊢
  obtain ⟨pn, hpn⟩ : ∃ pn, P.length = pn := ⟨_, rfl⟩
  have HPN := Lib.hid hpn
  rw [hpn] at e2 ⊢
  have hK : K ≤ 32 := by
    have : ([] : List UInt8).length = 0 := rfl
    omega
  have E1 := Lib.hid e1
  have E6 := Lib.hid e6
  have HB2 := Lib.hid (HB1.out.trans ((below_grown e7).mono HZ1))
  have HZ2 : w.heap.size ≤ w2.heap.size := HB2.out.size
  clear hP hpn e1 e3 e6 e7
  have HD := Lib.hid (decode_any g 0 pn K P cb [] w2 HP HPN E1 (by simp) (by omega) e2 (by omega) E6 e5)
  go_wp2_with fail
  (with_reducible refine HD.out.mono ?_)
  rintro _ w3 ⟨v, rfl, hown, hbel⟩
  clear HD
  obtain ⟨B, cap3, rfl⟩ := own_form hown (by rfl)
  have HB3 := Lib.hid (HB2.out.trans (hbel.mono HZ2))
  clear hown hbel
  go_wp2_with fail
  (with_reducible refine (alike_none B A cap3 sc w3).mono ?_)
  rintro _ _ ⟨rfl, nq, rfl⟩
  go_wp2_with fail
  (with_reducible refine (smost_at _ 0 _ ?_ ?_).mono ?_)
  · omega
  · omega
  rintro _ _ ⟨rfl, rfl⟩
  go_wp2_with fail
  go_ret
  refine ⟨?_, ?_⟩
  · simp
    omega
  · exact ⟨HB3.out.os, HB3.out.tape, HB3.out.output, HB3.out.size, HB3.out.block⟩

end Go.Proofs.YtbhcdkbcbcmomaaDoor
