/- WALKS: Decode, impl.SnappyDecode. -/
import Derived.Test.YtbhcdkbcbcmomaaDoorEg
import Derived.Test.YtbhcdkbcbcmomaaDoorEb
import Derived.Test.YtbhcdkbcbcmomaaDoorWh
namespace Go.Proofs.YtbhcdkbcbcmomaaDoor
open Go.RowKit

set_option maxRecDepth 1000000 in
set_option maxHeartbeats 2000000 in
/-- decode where nothing is to be read and nothing to be put out. -/
theorem dec_zero (A B : Option Addr) (cA cB : Nat) (w : World) : Calls Tryd.prog 22 #[.slice A 0 cA, .slice B 0 cB] w fun e w' => e = .returned (.int .i64 0) ∧ w = w' := by
  go_enter Tryd.func22, Tryd.ntmps22
  go_wp2_with fail
  refine wp_loop_rounds 1 ?_
  rw [rounds_succ]
  go_wp2_with fail
  go_ret
  exact ⟨rfl, rfl⟩

theorem bel_src {w w' : World} {g : Nat} {b o : Nat} {l : List UInt8} (h : Src w b o l) (hg : w.grownBy w' none) : Src w' b o l := src_grown_none h hg

theorem steps_zero {cb : List UInt8} (h : Sn.Steps cb [] []) : cb = [] := by
  have key : ∀ c o o1, Sn.Steps c o o1 → o1.length = o.length → c = [] := by
    intro c o o1 hs hl
    cases hs with
    | nil => rfl
    | cons hE ht =>
      obtain ⟨t, rfl, ht1⟩ := hE.grows
      have := ht.le
      rw [List.length_append] at this
      omega
  exact key _ _ _ h rfl

/-- Decode's end: what comes out lies in a new block, or is empty. -/
def DecodeEnd (w : World) (N : Nat) (src : List UInt8) (e : Ending) (w' : World) : Prop :=
  ∃ A c, e = .returned (.tuple #[.slice A N c, .nilIface]) ∧ (N = 0 ∨ ∃ g, A = some ⟨g, 0, none⟩ ∧ Src w' g 0 src) ∧ Below w.heap.size w w'

set_option maxRecDepth 100000 in
set_option maxHeartbeats 2000000 in
theorem decode_some (db n c N : Nat) (l cb src : List UInt8) (w : World) (hl : Hid (l = Sn.uv N ++ cb)) (hn : Hid (l.length = n)) (hst : Hid (Sn.Steps cb [] src)) (hN : Hid (src.length = N)) (hN1 : 1 ≤ N) (hN2 : N ≤ 40000) (hnc : n ≤ c) (hc : c ≤ 50000)
    (hs : Hid (Src w db 0 l)) (hdb : db < w.heap.size) :
    Calls Tryd.prog 16 #[.slice none 0 0, .slice (some ⟨db, 0, none⟩) n c] w (DecodeEnd w N src) := by
  have HL := Lib.hid (dlen_any db 0 n c N l cb w hl hn hN2 hs)
  obtain ⟨h, hh⟩ : ∃ h, h = (Sn.uv N).length := ⟨_, rfl⟩
  have h1 : 1 ≤ h := by rw [hh]; exact Sn.uv_pos N
  have hcb : 1 ≤ cb.length := by
    rcases Nat.lt_or_ge 0 cb.length with h | h
    · exact h
    · have e : cb = [] := List.eq_nil_of_length_eq_zero (by omega)
      have h2 := hst.out
      rw [e] at h2
      have h3 := steps_nil h2
      have h4 := hN.out
      rw [← h3] at h4
      simp at h4
      omega
  have hlen : n = h + cb.length := by rw [← hn.out, hl.out, List.length_append, hh]
  obtain ⟨m, hm⟩ : ∃ m, cb.length = m := ⟨_, rfl⟩
  have HM := Lib.hid hm
  rw [hm] at hcb hlen
  have HS2 : Hid (Src w db (0 + h) cb) := by
    have := src_drop hs.out h
    rw [show l.drop h = cb from by rw [hl.out, hh, List.drop_left]] at this
    exact this
  rw [← hh] at HL
  have l1 : n ≤ h + m := by omega
  have l2 : h + m ≤ n := by omega
  clear hh hm hlen
  have hmk := run_make22 N (by omega)
  go_enter Tryd.func16, Tryd.ntmps16
  go_wp2_with fail
  (with_reducible refine HL.out.mono ?_)
  rintro _ _ ⟨rfl, rfl⟩
  clear HL
  go_wp2_with fail
  clear hmk
  obtain ⟨w1, hw1⟩ : ∃ w1, w1 = w.alloc (Obj.cells (madeCells #[Value.int IntKind.u8 0] N) 5) := ⟨_, rfl⟩
  have HB1 : Hid (Below w.heap.size w w1) := by rw [hw1]; exact (Below.refl _ _).alloc (Nat.le_refl _) _
  have HG : Hid (DSt w1 w.heap.size N [] w1) := by
    refine ⟨by simp, ?_, Below.refl _ _⟩
    have h2 := Blk.new w 5 (madeCells #[Value.int IntKind.u8 0] N).toList
    rw [show (madeCells #[Value.int IntKind.u8 0] N).toList.toArray = madeCells #[Value.int IntKind.u8 0] N from by simp, ← hw1, toList_madeCells_one] at h2
    exact h2
  have HS3 : Hid (Src w1 db h cb) := by
    have := src_below HS2.out HB1.out hdb
    rw [Nat.zero_add] at this
    exact this
  rw [← hw1]
  clear hw1 HS2
  have HC := Lib.hid (dec_any w.heap.size db h (n - h) (c - h) N cb src w1 hN hN2 (by unfold Hid; rw [HM.out]; omega) (by omega) (by omega) (by omega) hst HS3 hdb HG)
  (with_reducible refine HC.out.mono ?_)
  rintro _ w3 ⟨rfl, hd⟩
  have HD := Lib.hid hd
  clear hd HC
  go_wp2_with fail
  go_ret2
  exact ⟨_, _, rfl, .inr ⟨_, rfl, fun j hj => by rw [Nat.zero_add]; exact HD.out.cell j hj⟩, HB1.out.trans HD.out.2.2⟩

set_option maxRecDepth 100000 in
set_option maxHeartbeats 2000000 in
theorem decode_none (db n c : Nat) (l cb : List UInt8) (w : World) (hl : Hid (l = Sn.uv 0 ++ cb)) (hn : Hid (l.length = n)) (hst : Hid (Sn.Steps cb [] [])) (hnc : n ≤ c) (hc2 : 2 ≤ c) (hc : c ≤ 50000)
    (hs : Hid (Src w db 0 l)) :
    Calls Tryd.prog 16 #[.slice none 0 0, .slice (some ⟨db, 0, none⟩) n c] w (DecodeEnd w 0 []) := by
  have hcb := steps_zero hst.out
  have HL := Lib.hid (dlen_any db 0 n c 0 l cb w hl hn (by omega) hs)
  have hu : (Sn.uv 0).length = 1 := by rw [Sn.uv_small (by omega)]; rfl
  have hn1 : n = 1 := by rw [← hn.out, hl.out, hcb, List.length_append, hu]; rfl
  subst hn1
  rw [hu] at HL
  have t0 : ¬ c = 1 := by omega
  clear hcb hu
  go_enter Tryd.func16, Tryd.ntmps16
  go_wp2_with fail
  (with_reducible refine HL.out.mono ?_)
  rintro _ _ ⟨rfl, rfl⟩
  clear HL
  go_wp2_with fail
  (with_reducible refine (dec_zero _ _ _ _ _).mono ?_)
  rintro _ _ ⟨rfl, rfl⟩
  go_wp2_with fail
  go_ret2
  exact ⟨_, _, rfl, .inl rfl, Below.refl _ _⟩

/-- impl.SnappyDecode's end -/
def SDecEnd (w : World) (N : Nat) (src : List UInt8) (e : Ending) (w' : World) : Prop :=
  ∃ A c, e = .returned (.tuple #[.slice A N c, .bool true]) ∧ (N = 0 ∨ ∃ g, A = some ⟨g, 0, none⟩ ∧ Src w' g 0 src) ∧ Below w.heap.size w w'

theorem SDecEnd.of {w w' : World} {N : Nat} {src : List UInt8} {A : Option Addr} {c : Nat} (h1 : Hid (N = 0 ∨ ∃ g, A = some ⟨g, 0, none⟩ ∧ Src w' g 0 src)) (h2 : Hid (Below w.heap.size w w')) (nq : Nat) :
    SDecEnd w N src (.returned (.tuple #[.slice A N c, .bool true])) (w'.drewN nq) :=
  ⟨A, c, rfl, h1.out, ⟨h2.out.os, h2.out.tape, h2.out.output, h2.out.size, h2.out.block⟩⟩

set_option maxRecDepth 100000 in
set_option maxHeartbeats 2000000 in
theorem sdec_of (B : Option Addr) (n c N : Nat) (src : List UInt8) (w : World) (HC : Hid (Calls Tryd.prog 16 #[.slice none 0 0, .slice B n c] w (DecodeEnd w N src))) :
    Calls Tryd.prog 10 #[.slice B n c] w (SDecEnd w N src) := by
  go_enter Tryd.func10, Tryd.ntmps10
  go_wp2_with fail
  (with_reducible refine HC.out.mono ?_)
  rintro _ w2 ⟨A, c2, rfl, h1, h2⟩
  have H1 := Lib.hid h1
  have H2 := Lib.hid h2
  clear h1 h2
  go_wp2_with fail
  go_quiet (fail)
  go_wp2_with fail
  go_ret2
  exact SDecEnd.of H1 H2 _

end Go.Proofs.YtbhcdkbcbcmomaaDoor
