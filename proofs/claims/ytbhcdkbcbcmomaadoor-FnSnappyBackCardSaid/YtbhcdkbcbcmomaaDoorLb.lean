/- THE LAW FnSnappyBack, WALKED: for every slice of bytes it answers true, and nothing that was there has turned. -/
import Derived.Test.YtbhcdkbcbcmomaaDoorEh
import Derived.Test.YtbhcdkbcbcmomaaDoorLa
namespace Go.Proofs.YtbhcdkbcbcmomaaDoor
open Go.RowKit

set_option maxRecDepth 100000 in
set_option maxHeartbeats 800000 in
theorem law2_far (A : Option Addr) (n c : Nat) (w : World) (hn : 2147483647 < n) (hn2 : n ≤ 140737488351232) : Calls Tryd.prog 4 #[.slice A n c] w (LawEnd w) := by
  go_enter Tryd.func4, Tryd.ntmps4
  go_upto_if 7 with fail
  rw [show decide ((2147483647 : Int) < (n : Int)) = true from decide_eq_true (by omega)]
  go_wp2_with fail
  go_ret
  exact ⟨rfl, Below.refl _ _⟩

set_option maxRecDepth 100000 in
set_option maxHeartbeats 800000 in
theorem law2_big (A : Option Addr) (n c : Nat) (w : World) (hn : n ≤ 2147483647) (hn2 : 40000 < n) : Calls Tryd.prog 4 #[.slice A n c] w (LawEnd w) := by
  go_enter Tryd.func4, Tryd.ntmps4
  go_upto_if 7 with fail
  rw [show decide ((2147483647 : Int) < (n : Int)) = false from decide_eq_false (by omega)]
  go_wp2_with fail
  have HC := Lib.hid (fits_any w.heap.size A n c (w.alloc (Obj.cells #[Value.slice A n c] 22)) (by omega) ((Blk.new w 22 [Value.slice A n c]).cell 0))
  rw [show decide (n ≤ 40000) = false from decide_eq_false (by omega)] at HC
  (with_reducible refine HC.out.mono ?_)
  rintro _ _ ⟨rfl, rfl⟩
  clear HC
  go_wp2_with fail
  go_ret
  exact ⟨rfl, (Below.refl _ _).alloc (Nat.le_refl _) _⟩

set_option maxRecDepth 100000 in
set_option maxHeartbeats 1600000 in
theorem law2_some (bs os sc n : Nat) (l : List UInt8) (w : World) (hl : Hid (l.length = n)) (h1 : 1 ≤ n) (hn : n ≤ 40000) (hsc : n ≤ sc) (hsc2 : sc ≤ 140737488351232) (hsrc : Hid (Src w bs os l)) (hbs : bs < w.heap.size) :
    Calls Tryd.prog 4 #[.slice (some ⟨bs, os, none⟩) n sc] w (LawEnd w) := by
  go_enter Tryd.func4, Tryd.ntmps4
  go_upto_if 7 with fail
  rw [show decide ((2147483647 : Int) < (n : Int)) = false from decide_eq_false (by omega)]
  go_wp2_with fail
  have HC := Lib.hid (fits_any w.heap.size (some ⟨bs, os, none⟩) n sc (w.alloc (Obj.cells #[Value.slice (some ⟨bs, os, none⟩) n sc] 22)) (by omega) ((Blk.new w 22 [Value.slice (some ⟨bs, os, none⟩) n sc]).cell 0))
  rw [show decide (n ≤ 40000) = true from decide_eq_true (by omega)] at HC
  (with_reducible refine HC.out.mono ?_)
  rintro _ _ ⟨rfl, rfl⟩
  clear HC
  have HB1 : Hid (Below w.heap.size w (w.alloc (Obj.cells #[Value.slice (some ⟨bs, os, none⟩) n sc] 22))) := (Below.refl _ _).alloc (Nat.le_refl _) _
  have HZ1 : w.heap.size ≤ (w.alloc (Obj.cells #[Value.slice (some ⟨bs, os, none⟩) n sc] 22)).heap.size := HB1.out.size
  generalize w.alloc (Obj.cells #[Value.slice (some ⟨bs, os, none⟩) n sc] 22) = w1 at HB1 HZ1 ⊢
  have HS1 := Lib.hid (src_below hsrc.out HB1.out hbs)
  go_wp2_with fail
  (with_reducible refine (senc_some bs os sc n l w1 hl h1 hn hsc hsc2 HS1 ?_).mono ?_)
  · omega
  rintro _ w2 ⟨g, K, cb, rfl, e1, e2, e3, e4, e5, e6, e7⟩
  rw [hl.out] at e2 e3 e6 ⊢
  obtain ⟨P, hP⟩ : ∃ P, P = Sn.uv n ++ cb := ⟨_, rfl⟩
  have HP := Lib.hid hP
  rw [← hP] at e2 e6 ⊢
  obtain ⟨pn, hpn⟩ : ∃ pn, P.length = pn := ⟨_, rfl⟩
  have HPN := Lib.hid hpn
  rw [hpn] at e2 ⊢
  have hK : K ≤ 32 + n + n / 6 := by omega
  have E1 := Lib.hid e1
  have E6 := Lib.hid e6
  have HB2 := Lib.hid (HB1.out.trans ((below_grown e7).mono HZ1))
  have HZ2 : w.heap.size ≤ w2.heap.size := HB2.out.size
  clear hP hpn e1 e3 e6 e7
  have HD := Lib.hid (sdec_of (some ⟨g, 0, none⟩) pn K n l w2 (decode_some g pn K n P cb l w2 HP HPN E1 hl h1 hn e2 (by omega) E6 e5))
  go_wp2_with fail
  (with_reducible refine HD.out.mono ?_)
  rintro _ w3 ⟨B, cap3, rfl, hB, hbel⟩
  clear HD
  obtain ⟨g3, rfl, hs3⟩ : ∃ g, B = some ⟨g, 0, none⟩ ∧ Src w3 g 0 l := hB.resolve_left (by omega)
  have HS3 := Lib.hid hs3
  have HB3 := Lib.hid (HB2.out.trans (hbel.mono HZ2))
  have HS4 := Lib.hid (src_below hsrc.out HB3.out hbs)
  clear hs3 hbel hB
  go_wp2_with fail
  (with_reducible refine (alike_some g3 0 cap3 bs os sc n l w3 hl ?_ HS3 HS4).mono ?_)
  · omega
  rintro _ _ ⟨rfl, nq, rfl⟩
  go_wp2_with fail
  go_ret
  exact ⟨rfl, HB3.out.os, HB3.out.tape, HB3.out.output, HB3.out.size, HB3.out.block⟩

set_option maxRecDepth 100000 in
set_option maxHeartbeats 1600000 in
theorem law2_none (A : Option Addr) (sc : Nat) (w : World) : Calls Tryd.prog 4 #[.slice A 0 sc] w (LawEnd w) := by
  go_enter Tryd.func4, Tryd.ntmps4
  go_wp2_with fail
  have HC := Lib.hid (fits_any w.heap.size A 0 sc (w.alloc (Obj.cells #[Value.slice A 0 sc] 22)) (by omega) ((Blk.new w 22 [Value.slice A 0 sc]).cell 0))
  rw [show decide (0 ≤ 40000) = true from rfl] at HC
  (with_reducible refine HC.out.mono ?_)
  rintro _ _ ⟨rfl, rfl⟩
  clear HC
  have HB1 : Hid (Below w.heap.size w (w.alloc (Obj.cells #[Value.slice A 0 sc] 22))) := (Below.refl _ _).alloc (Nat.le_refl _) _
  have HZ1 : w.heap.size ≤ (w.alloc (Obj.cells #[Value.slice A 0 sc] 22)).heap.size := HB1.out.size
  generalize w.alloc (Obj.cells #[Value.slice A 0 sc] 22) = w1 at HB1 HZ1 ⊢
  go_wp2_with fail
  (with_reducible refine (senc_none A sc w1).mono ?_)
  rintro _ w2 ⟨g, K, cb, rfl, e1, e2, e3, e4, e5, e6, e7⟩
  obtain ⟨P, hP⟩ : ∃ P, P = Sn.uv ([] : List UInt8).length ++ cb := ⟨_, rfl⟩
  have HP := Lib.hid hP
  rw [← hP] at e2 e6 ⊢
  obtain ⟨pn, hpn⟩ : ∃ pn, P.length = pn := ⟨_, rfl⟩
  have HPN := Lib.hid hpn
  rw [hpn] at e2 ⊢
  have hK : K ≤ 32 ∧ 32 ≤ K := by
    have : ([] : List UInt8).length = 0 := rfl
    omega
  have E1 := Lib.hid e1
  have E6 := Lib.hid e6
  have HB2 := Lib.hid (HB1.out.trans ((below_grown e7).mono HZ1))
  have HZ2 : w.heap.size ≤ w2.heap.size := HB2.out.size
  clear hP hpn e1 e3 e6 e7
  have HD := Lib.hid (sdec_of (some ⟨g, 0, none⟩) pn K 0 [] w2 (decode_none g pn K P cb w2 HP HPN E1 e2 (by omega) (by omega) E6))
  go_wp2_with fail
  (with_reducible refine HD.out.mono ?_)
  rintro _ w3 ⟨B, cap3, rfl, hB, hbel⟩
  clear HD hB
  have HB3 := Lib.hid (HB2.out.trans (hbel.mono HZ2))
  clear hbel
  go_wp2_with fail
  (with_reducible refine (alike_none B A cap3 sc w3).mono ?_)
  rintro _ _ ⟨rfl, nq, rfl⟩
  go_wp2_with fail
  go_ret
  exact ⟨rfl, HB3.out.os, HB3.out.tape, HB3.out.output, HB3.out.size, HB3.out.block⟩

end Go.Proofs.YtbhcdkbcbcmomaaDoor
