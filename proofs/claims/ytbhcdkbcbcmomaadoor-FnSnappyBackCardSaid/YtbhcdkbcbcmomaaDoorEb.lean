/- WALKS: Uvarint over a block's head, decodedLen. -/
import Derived.Test.YtbhcdkbcbcmomaaDoorEa
import Derived.Test.YtbhcdkbcbcmomaaDoorDe
import Derived.Test.YtbhcdkbcbcmomaaDoorDf
import Derived.Lib.VarintBits
namespace Go.Proofs.YtbhcdkbcbcmomaaDoor
open Go.RowKit

def UvEnd (w : World) (N h : Nat) (e : Ending) (w' : World) : Prop := e = .returned (.tuple #[.int .u64 (N : Int), .int .i64 (h : Int)]) ∧ w = w'
theorem UvEnd.mk {w : World} {N h : Nat} {x y : Int} (hx : x = (N : Int)) (hy : y = (h : Int)) : UvEnd w N h (.returned (.tuple #[.int .u64 x, .int .i64 y])) w := by
  subst hx
  subst hy
  exact ⟨rfl, rfl⟩

theorem or_zero (x : Int) (h0 : 0 ≤ x) (h1 : x < 256) : bits .or .u64 0 x = x := by
  have := u64_orv0 0 x (by omega) (by omega) h0 (by omega) (by omega)
  omega
theorem low7 (b : Nat) (hb : b < 256) : IntKind.u64.wrap (IntKind.u64.wrap (bits .and .u8 (b : Int) 127)) = ((b % 128 : Nat) : Int) := by
  rw [and127 b hb]
  have e : IntKind.u64.wrap ((b % 128 : Nat) : Int) = ((b % 128 : Nat) : Int) := u64_wrap_id _ (by omega) (by omega)
  rw [e, e]

set_option maxRecDepth 100000 in
set_option maxHeartbeats 800000 in
theorem uvi_one (db dof n c b0 : Nat) (w : World) (hn : 1 ≤ n) (h0 : b0 < 128) (c0 : w.cell? ⟨db, dof, none⟩ = some (.int .u8 (b0 : Int))) :
    Calls Tryd.prog 27 #[.slice (some ⟨db, dof, none⟩) n c] w (UvEnd w b0 1) := by
  go_enter Tryd.func27, Tryd.ntmps27
  go_wp2_with fail
  refine wp_loop_rounds 1 ?_
  rw [rounds_succ]
  go_wp2_with fail
  go_ret2
  exact UvEnd.mk (or_zero _ (by omega) (by omega)) rfl

set_option maxRecDepth 100000 in
set_option maxHeartbeats 800000 in
theorem uvi_two (db dof n c b0 b1 : Nat) (w : World) (hn : 2 ≤ n) (h0 : 128 ≤ b0 ∧ b0 < 256) (h1 : b1 < 128) (c0 : w.cell? ⟨db, dof, none⟩ = some (.int .u8 (b0 : Int))) (c1 : w.cell? ⟨db, dof + 1, none⟩ = some (.int .u8 (b1 : Int))) :
    Calls Tryd.prog 27 #[.slice (some ⟨db, dof, none⟩) n c] w (UvEnd w (b0 % 128 + b1 * 128) 2) := by
  have p0 : (128 : Int) ≤ (b0 : Int) := by omega
  go_enter Tryd.func27, Tryd.ntmps27
  go_wp2_with fail
  refine wp_loop_rounds 2 ?_
  rw [rounds_succ]
  go_wp2_with fail
  rw [rounds_succ]
  go_wp2_with fail
  go_ret2
  refine UvEnd.mk ?_ rfl
  rw [low7 b0 h0.2, or_zero _ (by omega) (by omega), u64_orv7 _ _ (by omega) (by omega) (by omega) (by omega) (by omega)]
  omega

set_option maxRecDepth 100000 in
set_option maxHeartbeats 800000 in
theorem uvi_three (db dof n c b0 b1 b2 : Nat) (w : World) (hn : 3 ≤ n) (h0 : 128 ≤ b0 ∧ b0 < 256) (h1 : 128 ≤ b1 ∧ b1 < 256) (h2 : b2 < 128) (c0 : w.cell? ⟨db, dof, none⟩ = some (.int .u8 (b0 : Int))) (c1 : w.cell? ⟨db, dof + 1, none⟩ = some (.int .u8 (b1 : Int))) (c2 : w.cell? ⟨db, dof + 2, none⟩ = some (.int .u8 (b2 : Int))) :
    Calls Tryd.prog 27 #[.slice (some ⟨db, dof, none⟩) n c] w (UvEnd w (b0 % 128 + b1 % 128 * 128 + b2 * 16384) 3) := by
  have p0 : (128 : Int) ≤ (b0 : Int) := by omega
  have p1 : (128 : Int) ≤ (b1 : Int) := by omega
  go_enter Tryd.func27, Tryd.ntmps27
  go_wp2_with fail
  refine wp_loop_rounds 3 ?_
  rw [rounds_succ]
  go_wp2_with fail
  rw [rounds_succ]
  go_wp2_with fail
  rw [rounds_succ]
  go_wp2_with fail
  go_ret2
  refine UvEnd.mk ?_ rfl
  have e : IntKind.u64.wrap (IntKind.u64.wrap (bits .and .u8 (b1 : Int) 127) * 128) = ((b1 % 128 * 128 : Nat) : Int) := by
    rw [and127 b1 h1.2, u64_wrap_id ((b1 % 128 : Nat) : Int) (by omega) (by omega), u64_wrap_id (((b1 % 128 : Nat) : Int) * 128) (by omega) (by omega)]
    omega
  rw [low7 b0 h0.2, e, or_zero ((b0 % 128 : Nat) : Int) (by omega) (by omega), u64_orv7 ((b0 % 128 : Nat) : Int) ((b1 % 128 * 128 : Nat) : Int) (by omega) (by omega) (by omega) (by omega) (by omega), u64_orv14 (((b0 % 128 : Nat) : Int) + ((b1 % 128 * 128 : Nat) : Int)) ((b2 : Int) * 16384) (by omega) (by omega) (by omega) (by omega) (by omega)]
  omega

/-- Uvarint over a block's head. -/
theorem uvi_any (db dof n c N : Nat) (l cb : List UInt8) (w : World) (hl : l = Sn.uv N ++ cb) (hn : l.length = n) (hN : N ≤ 40000) (hs : Src w db dof l) :
    Calls Tryd.prog 27 #[.slice (some ⟨db, dof, none⟩) n c] w (UvEnd w N (Sn.uv N).length) := by
  by_cases h1 : N < 128
  · have e := Sn.uv_small h1
    rw [e] at hl ⊢
    have hb : (l.getD 0 0).toNat = N := by rw [hl]; exact b8_toNat_add N h1
    have c0 := hs 0 (by rw [hl]; simp)
    rw [hb] at c0
    exact uvi_one db dof n c N w (by rw [← hn, hl]; simp) h1 c0
  · have e := Sn.uv_big (x := N) (by omega)
    by_cases h2 : N / 128 < 128
    · rw [Sn.uv_small h2] at e
      rw [e] at hl ⊢
      have hb0 : (l.getD 0 0).toNat = N % 128 + 128 := by rw [hl]; show (Sn.b8 (N % 128 + 128)).toNat = _; rw [Sn.b8_toNat]; omega
      have hb1 : (l.getD 1 0).toNat = N / 128 := by rw [hl]; exact b8_toNat_add _ h2
      have hlen : 2 ≤ l.length := by rw [hl]; simp
      have c0 := hs 0 (by omega)
      have c1 := hs 1 (by omega)
      rw [hb0] at c0
      rw [hb1] at c1
      have h := uvi_two db dof n c (N % 128 + 128) (N / 128) w (by omega) (by omega) h2 c0 c1
      rw [show (N % 128 + 128) % 128 + N / 128 * 128 = N from by omega] at h
      exact h
    · have e2 := Sn.uv_big (x := N / 128) (by omega)
      rw [Sn.uv_small (x := N / 128 / 128) (by omega)] at e2
      rw [e2] at e
      rw [e] at hl ⊢
      have hb0 : (l.getD 0 0).toNat = N % 128 + 128 := by rw [hl]; show (Sn.b8 (N % 128 + 128)).toNat = _; rw [Sn.b8_toNat]; omega
      have hb1 : (l.getD 1 0).toNat = N / 128 % 128 + 128 := by rw [hl]; show (Sn.b8 (N / 128 % 128 + 128)).toNat = _; rw [Sn.b8_toNat]; omega
      have hb2 : (l.getD 2 0).toNat = N / 128 / 128 := by rw [hl]; exact b8_toNat_add _ (by omega)
      have hlen : 3 ≤ l.length := by rw [hl]; simp
      have c0 := hs 0 (by omega)
      have c1 := hs 1 (by omega)
      have c2 := hs 2 (by omega)
      rw [hb0] at c0
      rw [hb1] at c1
      rw [hb2] at c2
      have h := uvi_three db dof n c (N % 128 + 128) (N / 128 % 128 + 128) (N / 128 / 128) w (by omega) (by omega) (by omega) (by omega) c0 c1 c2
      rw [show (N % 128 + 128) % 128 + (N / 128 % 128 + 128) % 128 * 128 + N / 128 / 128 * 16384 = N from by omega] at h
      exact h

/-- decodedLen's end -/
def DLenEnd (w : World) (N h : Nat) (e : Ending) (w' : World) : Prop := e = .returned (.tuple #[.int .i64 (N : Int), .int .i64 (h : Int), .nilIface]) ∧ w = w'

theorem dlen_any (db dof n c N : Nat) (l cb : List UInt8) (w : World) (hl : Hid (l = Sn.uv N ++ cb)) (hn : Hid (l.length = n)) (hN : N ≤ 40000) (hs : Hid (Src w db dof l)) :
    Calls Tryd.prog 21 #[.slice (some ⟨db, dof, none⟩) n c] w (DLenEnd w N (Sn.uv N).length) := by
  have HC := Lib.hid (uvi_any db dof n c N l cb w hl.out hn.out hN hs.out)
  have h3 := Sn.uv_le3 N hN
  have h1 := Sn.uv_pos N
  obtain ⟨h, hh⟩ : ∃ h, h = (Sn.uv N).length := ⟨_, rfl⟩
  rw [← hh] at HC h3 h1 ⊢
  clear hh
  go_enter Tryd.func21, Tryd.ntmps21
  go_wp2_with fail
  (with_reducible refine HC.out.mono ?_)
  rintro _ _ ⟨rfl, rfl⟩
  clear HC
  have t1 : decide ((4294967295 : Int) < (N : Int)) = false := decide_eq_false (by omega)
  have t2 : decide ((2147483647 : Int) < (N : Int)) = false := decide_eq_false (by omega)
  go_upto_if 21 with fail
  rw [show decide ((5 : Int) < (h : Int)) = false from decide_eq_false (by omega)]
  go_wp2_with fail
  go_ret3
  exact ⟨rfl, rfl⟩

end Go.Proofs.YtbhcdkbcbcmomaaDoor
