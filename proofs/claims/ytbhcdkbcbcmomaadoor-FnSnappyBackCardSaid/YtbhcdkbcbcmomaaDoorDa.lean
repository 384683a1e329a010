/- WALKS OF THE REFERENCE'S DECODER, the first text: little, literal, copied. -/
import Derived.Test.YtbhcdkbcbcmomaaDoorWa
import Derived.Deep.RegionLaw
import Derived.Deep.AppendLies
import Derived.Deep.LoopGhost
import Derived.Deep.DeepCutAuto
import Derived.Deep.CutBlock
namespace Go.Proofs.YtbhcdkbcbcmomaaDoor
open Go.RowKit

/-- little's end: a number and true; the reader stands k bytes further on. -/
def LittleEnd (w : World) (rb : Nat) (dv ov cv : Value) (p : Nat) (x : Int) (e : Ending) (w' : World) : Prop :=
  e = .returned (.tuple #[.int .i64 x, .bool true]) ∧ Blk w' rb 38 [dv, .int .i64 (p : Int), ov, cv] ∧ w.grownBy w' (some rb)

theorem LittleEnd.mk {w : World} {rb : Nat} {dv ov cv u : Value} {q : Nat} (hb : Blk w rb 38 [dv, u, ov, cv]) (nq : Nat) {x : Int} {v : Value} (hv : v = .int .i64 (q : Int)) :
    LittleEnd w rb dv ov cv q x (.returned (.tuple #[.int .i64 x, .bool true])) ((w.drewN nq).setCell ⟨rb, 1, none⟩ v) := by
  subst hv
  exact ⟨rfl, (hb.drewN nq).set_ 1 _, grow_at (grow_drewN (grow_refl w _) nq) _ _⟩

set_option maxRecDepth 100000 in
set_option maxHeartbeats 800000 in
theorem little_one (rb db dof n c p x : Nat) (ov cv : Value) (w : World) (hb : Hid (Blk w rb 38 [.slice (some ⟨db, dof, none⟩) n c, .int .i64 (p : Int), ov, cv])) (hp : p + 1 ≤ n) (hn : n ≤ 100000) (hx : x < 256)
    (cx : w.cell? ⟨db, dof + p, none⟩ = some (.int .u8 (x : Int)))
    (c0 : w.cell? ⟨rb, 0, none⟩ = some (.slice (some ⟨db, dof, none⟩) n c)) (c1 : w.cell? ⟨rb, 1, none⟩ = some (.int .i64 (p : Int))) (f1 : w.frozen? ⟨rb, 1, none⟩ = false) :
    Calls Tryd.prog 20 #[.pointer (some ⟨rb, 0, none⟩), .int .i64 1] w (LittleEnd w rb (.slice (some ⟨db, dof, none⟩) n c) ov cv (p + 1) (x : Int)) := by
  go_enter Tryd.func20, Tryd.ntmps20
  go_wp2_with fail
  go_quiet (fail)
  go_wp2_with fail
  refine wp_loop_rounds 2 ?_
  rw [rounds_succ]
  go_wp2_with fail
  go_quiet (fail)
  go_wp2_with fail
  rw [rounds_succ]
  go_wp2_with fail
  go_ret2
  exact LittleEnd.mk hb.out _ (by go_num)

set_option maxRecDepth 100000 in
set_option maxHeartbeats 800000 in
theorem little_two (rb db dof n c p x y : Nat) (ov cv : Value) (w : World) (hb : Hid (Blk w rb 38 [.slice (some ⟨db, dof, none⟩) n c, .int .i64 (p : Int), ov, cv])) (hp : p + 2 ≤ n) (hn : n ≤ 100000) (hx : x < 256) (hy : y < 256)
    (cx : w.cell? ⟨db, dof + p, none⟩ = some (.int .u8 (x : Int))) (cy : w.cell? ⟨db, dof + (p + 1), none⟩ = some (.int .u8 (y : Int)))
    (c0 : w.cell? ⟨rb, 0, none⟩ = some (.slice (some ⟨db, dof, none⟩) n c)) (c1 : w.cell? ⟨rb, 1, none⟩ = some (.int .i64 (p : Int))) (f1 : w.frozen? ⟨rb, 1, none⟩ = false) :
    Calls Tryd.prog 20 #[.pointer (some ⟨rb, 0, none⟩), .int .i64 2] w (LittleEnd w rb (.slice (some ⟨db, dof, none⟩) n c) ov cv (p + 2) ((x : Int) + (y : Int) * 256)) := by
  go_enter Tryd.func20, Tryd.ntmps20
  go_wp2_with fail
  go_quiet (fail)
  go_wp2_with fail
  refine wp_loop_rounds 3 ?_
  rw [rounds_succ]
  go_wp2_with fail
  go_quiet (fail)
  go_wp2_with fail
  rw [rounds_succ]
  go_wp2_with fail
  go_quiet (fail)
  go_wp2_with fail
  rw [rounds_succ]
  go_wp2_with fail
  go_ret2
  exact LittleEnd.mk hb.out _ (by go_num)

theorem u8_infoD : (Tryd.prog.info? 5).map (fun i => (i.zero, i.size, i.bytes)) = some (some (.int .u8 0), 1, 1) := by kernel_rfl

/-- What is known of the reference's reader: it stands at p, has put out 'out', owns what it puts out; below it nothing has turned. -/
def RdSt (w0 : World) (rb : Nat) (dv : Value) (out : List UInt8) (p : Nat) (w : World) : Prop :=
  ∃ ov, Blk w rb 38 [dv, .int .i64 (p : Int), ov, .int .i64 0] ∧ w.ownsRow (rb + 1) 5 1 ov out.length (bv out) ∧ Below rb w0 w

/-- literal's and copied's end -/
def RdEnd (w0 : World) (rb : Nat) (dv : Value) (out : List UInt8) (p : Nat) (e : Ending) (w : World) : Prop := e = .returned (.bool true) ∧ RdSt w0 rb dv out p w

theorem addr_add (b o j : Nat) : (⟨b, o, none⟩ : Addr).add j = ⟨b, o + j, none⟩ := by unfold Addr.add; split <;> simp_all

theorem news_of_src {w : World} {b o : Nat} {L : List UInt8} (h : Src w b o L) : ∀ j u, (bv L)[j]? = some u → w.cell? ((⟨b, o, none⟩ : Addr).add j) = some u := by
  intro j u hu
  have hj : j < L.length := by
    rw [← bv_length]
    exact (List.getElem?_eq_some_iff.1 hu).1
  rw [addr_add, h j hj, ← hu, bv_get L j hj]

theorem own_ne {w : World} {rb n : Nat} {ov : Value} {xs : List Value} (h : w.ownsRow (rb + 1) 5 1 ov n xs) : ov.ownBlock ≠ some rb := by
  rcases h.2 with ⟨rfl, _⟩ | ⟨g, cap, cur, rfl, hb, _⟩
  · simp [Value.ownBlock]
  · intro e
    have : g = rb := by simpa [Value.ownBlock] using e
    omega

theorem below_of_grown {w w' : World} {rb : Nat} (h : w.grownBy w' (some rb)) (hr : rb < w.heap.size) : Below rb w w' :=
  ⟨h.os, h.tape, h.output, h.size, fun k hk => h.block k (by omega) (fun e => by injection e with e; omega)⟩

/-- The store behind an append to the reader's row. -/
theorem RdSt.put {w0 w w1 : World} {rb gg cap n : Nat} {dv ov : Value} {out L : List UInt8} {p : Nat} (hb : Blk w rb 38 [dv, .int .i64 (p : Int), ov, .int .i64 0]) (hown : w.ownsRow (rb + 1) 5 1 ov out.length (bv out)) (hbel : Below rb w0 w)
    (hown1 : w1.ownsRow (rb + 1) 5 1 (.slice (some ⟨gg, 0, none⟩) n cap) n (bv out ++ bv L)) (hgrow : w.grownBy w1 ov.ownBlock) (hn : n = out.length + L.length) :
    RdSt w0 rb dv (out ++ L) p (w1.setCell ⟨rb, 2, none⟩ (.slice (some ⟨gg, 0, none⟩) n cap)) := by
  have hb1 : Blk w1 rb 38 [dv, .int .i64 (p : Int), ov, .int .i64 0] := hb.grown hgrow (fun e => own_ne hown e.symm)
  refine ⟨_, hb1.set_ 2 _, ?_, ?_⟩
  · rw [bv_append, List.length_append, ← hn]
    exact ownsRow_setCell_below hown1 (by show rb < rb + 1; omega) _
  · have h2 : Below rb w0 w1 := hbel.grown hgrow (by have := hb.lt; omega) (fun k hk => by
      rcases hown.2 with ⟨rfl, _⟩ | ⟨g, cap, cur, rfl, hg, _⟩
      · simp [Value.ownBlock] at hk
      · have : g = k := by simpa [Value.ownBlock] using hk
        omega)
    exact h2.setCell (Nat.le_refl _) _

theorem RdSt.step {w0 w : World} {rb : Nat} {dv : Value} {out : List UInt8} {p q : Nat} (h : RdSt w0 rb dv out p w) {v : Value} (hv : v = .int .i64 (q : Int)) : RdSt w0 rb dv out q (w.setCell ⟨rb, 1, none⟩ v) := by
  subst hv
  obtain ⟨ov, hb, ho, hbel⟩ := h
  exact ⟨ov, hb.set_ 1 _, ownsRow_setCell_below ho (by show rb < rb + 1; omega) _, hbel.setCell (Nat.le_refl _) _⟩
theorem RdSt.drewN {w0 w : World} {rb : Nat} {dv : Value} {out : List UInt8} {p : Nat} (h : RdSt w0 rb dv out p w) (k : Nat) : RdSt w0 rb dv out p (w.drewN k) := by
  obtain ⟨ov, hb, ho, hbel⟩ := h
  exact ⟨ov, hb.drewN k, ho, ⟨hbel.os, hbel.tape, hbel.output, hbel.size, hbel.block⟩⟩

theorem RdSt.little {w0 w w2 : World} {rb p q : Nat} {dv ov : Value} {out : List UInt8} (hown : w.ownsRow (rb + 1) 5 1 ov out.length (bv out)) (hbel : Below rb w0 w) (hlt : rb < w.heap.size)
    (hb2 : Blk w2 rb 38 [dv, .int .i64 (q : Int), ov, .int .i64 0]) (hg2 : w.grownBy w2 (some rb)) (_hp : p ≤ q) : RdSt w0 rb dv out q w2 :=
  ⟨ov, hb2, hown.kept hg2 (.inr (own_ne hown)), hbel.trans (below_of_grown hg2 hlt)⟩
theorem src_below {w0 w : World} {rb db dof : Nat} {l : List UInt8} (h : Src w0 db dof l) (hb : Below rb w0 w) (hdb : db < rb) : Src w db dof l := by
  intro j hj
  rw [hb.cell (p := ⟨db, dof + j, none⟩) hdb]
  exact h j hj

end Go.Proofs.YtbhcdkbcbcmomaaDoor
