/- WALKS OF THE REFERENCE'S DECODER, the fifth text: SnappyLength. -/
import Derived.Test.YtbhcdkbcbcmomaaDoorDa
import Derived.Deep.Cut
namespace Go.Proofs.YtbhcdkbcbcmomaaDoor
open Go.RowKit

theorem and127 (b : Nat) (hb : b < 256) : bits .and .u8 (b : Int) 127 = ((b % 128 : Nat) : Int) := by
  have h : ∀ m : Fin 256, bits .and .u8 (m.val : Int) 127 = ((m.val % 128 : Nat) : Int) := by decide +kernel
  exact h ⟨b, hb⟩

def LenEnd (w : World) (N h : Nat) (e : Ending) (w' : World) : Prop := e = .returned (.tuple #[.int .i64 (N : Int), .int .i64 (h : Int), .int .i64 0]) ∧ w = w'
theorem LenEnd.mk {w : World} {N h : Nat} {x y : Int} (hx : x = (N : Int)) (hy : y = (h : Int)) : LenEnd w N h (.returned (.tuple #[.int .i64 x, .int .i64 y, .int .i64 0])) w := by
  subst hx
  subst hy
  exact ⟨rfl, rfl⟩

theorem big_no (z : Int) (h : z < 4294967296) : decide ((4294967296 : Int) ≤ z) = false := decide_eq_false (by omega)

set_option maxRecDepth 100000 in
set_option maxHeartbeats 800000 in
theorem len_one (db dof n c b0 : Nat) (w : World) (hn : 1 ≤ n) (h0 : b0 < 128) (c0 : w.cell? ⟨db, dof, none⟩ = some (.int .u8 (b0 : Int))) :
    Calls Tryd.prog 12 #[.slice (some ⟨db, dof, none⟩) n c] w (LenEnd w (b0) 1) := by
  have e0 := and127 b0 (by omega)
  have q0 : 0 ≤ bits .and .u8 (b0 : Int) 127 ∧ bits .and .u8 (b0 : Int) 127 ≤ 127 := by rw [e0]; omega
  have E0 := Lib.hid e0
  clear e0
  go_enter Tryd.func12, Tryd.ntmps12
  go_wp2_with fail
  refine wp_loop_rounds 1 ?_
  rw [rounds_succ]
  go_upto_if 34 with fail
  rw [big_no (bits .and .u8 (b0 : Int) 127) (by omega)]
  go_wp2_with fail
  go_ret3
  exact LenEnd.mk (by rw [E0.out]; omega) rfl

set_option maxRecDepth 100000 in
set_option maxHeartbeats 800000 in
theorem len_two (db dof n c b0 b1 : Nat) (w : World) (hn : 2 ≤ n) (h0 : 128 ≤ b0 ∧ b0 < 256) (h1 : b1 < 128) (c0 : w.cell? ⟨db, dof, none⟩ = some (.int .u8 (b0 : Int))) (c1 : w.cell? ⟨db, dof + 1, none⟩ = some (.int .u8 (b1 : Int))) :
    Calls Tryd.prog 12 #[.slice (some ⟨db, dof, none⟩) n c] w (LenEnd w (b0 % 128 + b1 * 128) 2) := by
  have e0 := and127 b0 (by omega)
  have q0 : 0 ≤ bits .and .u8 (b0 : Int) 127 ∧ bits .and .u8 (b0 : Int) 127 ≤ 127 := by rw [e0]; omega
  have E0 := Lib.hid e0
  clear e0
  have p0 : (128 : Int) ≤ (b0 : Int) := by omega
  have e1 := and127 b1 (by omega)
  have q1 : 0 ≤ bits .and .u8 (b1 : Int) 127 ∧ bits .and .u8 (b1 : Int) 127 ≤ 127 := by rw [e1]; omega
  have E1 := Lib.hid e1
  clear e1
  go_enter Tryd.func12, Tryd.ntmps12
  go_wp2_with fail
  refine wp_loop_rounds 2 ?_
  rw [rounds_succ]
  go_wp2_with fail
  rw [rounds_succ]
  go_upto_if 34 with fail
  rw [big_no (bits .and .u8 (b0 : Int) 127 + bits .and .u8 (b1 : Int) 127 * 128) (by omega)]
  go_wp2_with fail
  go_ret3
  exact LenEnd.mk (by rw [E0.out, E1.out]; omega) rfl

set_option maxRecDepth 100000 in
set_option maxHeartbeats 800000 in
theorem len_three (db dof n c b0 b1 b2 : Nat) (w : World) (hn : 3 ≤ n) (h0 : 128 ≤ b0 ∧ b0 < 256) (h1 : 128 ≤ b1 ∧ b1 < 256) (h2 : b2 < 128) (c0 : w.cell? ⟨db, dof, none⟩ = some (.int .u8 (b0 : Int))) (c1 : w.cell? ⟨db, dof + 1, none⟩ = some (.int .u8 (b1 : Int))) (c2 : w.cell? ⟨db, dof + 2, none⟩ = some (.int .u8 (b2 : Int))) :
    Calls Tryd.prog 12 #[.slice (some ⟨db, dof, none⟩) n c] w (LenEnd w (b0 % 128 + b1 % 128 * 128 + b2 * 16384) 3) := by
  have e0 := and127 b0 (by omega)
  have q0 : 0 ≤ bits .and .u8 (b0 : Int) 127 ∧ bits .and .u8 (b0 : Int) 127 ≤ 127 := by rw [e0]; omega
  have E0 := Lib.hid e0
  clear e0
  have p0 : (128 : Int) ≤ (b0 : Int) := by omega
  have e1 := and127 b1 (by omega)
  have q1 : 0 ≤ bits .and .u8 (b1 : Int) 127 ∧ bits .and .u8 (b1 : Int) 127 ≤ 127 := by rw [e1]; omega
  have E1 := Lib.hid e1
  clear e1
  have p1 : (128 : Int) ≤ (b1 : Int) := by omega
  have e2 := and127 b2 (by omega)
  have q2 : 0 ≤ bits .and .u8 (b2 : Int) 127 ∧ bits .and .u8 (b2 : Int) 127 ≤ 127 := by rw [e2]; omega
  have E2 := Lib.hid e2
  clear e2
  go_enter Tryd.func12, Tryd.ntmps12
  go_wp2_with fail
  refine wp_loop_rounds 3 ?_
  rw [rounds_succ]
  go_wp2_with fail
  rw [rounds_succ]
  go_wp2_with fail
  rw [rounds_succ]
  go_upto_if 34 with fail
  rw [big_no (bits .and .u8 (b0 : Int) 127 + bits .and .u8 (b1 : Int) 127 * 128 + bits .and .u8 (b2 : Int) 127 * 16384) (by omega)]
  go_wp2_with fail
  go_ret3
  exact LenEnd.mk (by rw [E0.out, E1.out, E2.out]; omega) rfl

end Go.Proofs.YtbhcdkbcbcmomaaDoor
