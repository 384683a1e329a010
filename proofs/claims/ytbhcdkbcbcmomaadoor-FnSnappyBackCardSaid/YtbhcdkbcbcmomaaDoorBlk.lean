/- BLOCKS OF BYTES IN MEMORY: a block that is known whole, what a store and a copy make of it, and what stays as it was. -/
import Derived.Test.YtbhcdkbcbcmomaaDoorPure
import Derived.Laws.CopyOwn
import Derived.Below
import Derived.Laws.OwnMore
import Derived.WalkKit
import Derived.Deep.QuietTactic
namespace Go.Proofs.YtbhcdkbcbcmomaaDoor
open Go.RowKit

/-- bytes as cells -/
def bv (l : List UInt8) : List Value := l.map fun b => Value.int .u8 (b.toNat : Int)
theorem bv_length (l : List UInt8) : (bv l).length = l.length := by simp [bv]
theorem bv_append (a b : List UInt8) : bv (a ++ b) = bv a ++ bv b := by simp [bv]
theorem bv_cons (a : UInt8) (b : List UInt8) : bv (a :: b) = Value.int .u8 (a.toNat : Int) :: bv b := rfl
theorem bv_get (l : List UInt8) (j : Nat) (h : j < l.length) : (bv l)[j]? = some (Value.int .u8 ((l.getD j 0).toNat : Int)) := by
  simp [bv, List.getD_eq_getElem?_getD, h]
theorem bv_one (l : List UInt8) : ∀ v ∈ bv l, v.oneCell' = true := by
  intro v hv
  simp only [bv, List.mem_map] at hv
  obtain ⟨b, _, rfl⟩ := hv
  rfl
theorem bv_u8 (l : List UInt8) : ∀ v ∈ bv l, ∃ z : Nat, z < 256 ∧ v = Value.int .u8 (z : Int) := by
  intro v hv
  simp only [bv, List.mem_map] at hv
  obtain ⟨b, _, rfl⟩ := hv
  exact ⟨b.toNat, b.toNat_lt, rfl⟩

/-- Block g is just these cells, none of them frozen. -/
def Blk (w : World) (g : Nat) (t : TypeId) (cs : List Value) : Prop := w.heap[g]? = some (.cells cs.toArray t (0, 0))

section
variable {w w' : World} {g : Nat} {t : TypeId} {cs : List Value}
theorem Blk.lt (h : Blk w g t cs) : g < w.heap.size := by
  rcases Nat.lt_or_ge g w.heap.size with hlt | hge
  · exact hlt
  · unfold Blk at h; rw [Array.getElem?_eq_none hge] at h; cases h
theorem Blk.cell (h : Blk w g t cs) (i : Nat) : w.cell? ⟨g, i, none⟩ = cs[i]? := by
  have := cell_of_row w g i cs.toArray t (0, 0) h
  simpa using this
theorem Blk.cell_at (h : Blk w g t cs) (i : Nat) (hi : i < cs.length) : ∃ x, w.cell? ⟨g, i, none⟩ = some x := ⟨cs[i], by rw [h.cell i]; simp [hi]⟩
theorem Blk.frozen (h : Blk w g t cs) (i : Nat) : w.frozen? ⟨g, i, none⟩ = false := by
  unfold Blk at h
  simp [World.frozen?, h]
theorem Blk.new (w : World) (t : TypeId) (cs : List Value) : Blk (w.alloc (.cells cs.toArray t)) w.heap.size t cs := heap_alloc_new w _
theorem Blk.drew (h : Blk w g t cs) : Blk w.drew g t cs := h
theorem Blk.drewN (h : Blk w g t cs) (n : Nat) : Blk (w.drewN n) g t cs := h
theorem Blk.alloc (h : Blk w g t cs) (o : Obj) : Blk (w.alloc o) g t cs := (Below.heap_alloc w o g h.lt).trans h
theorem Blk.set_ (h : Blk w g t cs) (i : Nat) (u : Value) : Blk (w.setCell ⟨g, i, none⟩ u) g t (cs.set i u) := by
  unfold Blk at h ⊢
  simp [World.setCell, Array.getElem?_modify, h]
theorem Blk.row (h : Blk w g t cs) (ds : List Value) : Blk (w.setRow g ds.toArray) g t ds := setRow_heap w g _ _ t _ h
theorem Blk.far (h : Blk w g t cs) {p : Addr} (hp : g ≠ p.block) (u : Value) : Blk (w.setCell p u) g t cs := (Below.heap_setCell w p u g hp).trans h
theorem Blk.grown {row : Option Nat} (h : Blk w g t cs) (hb : w.grownBy w' row) (hg : some g ≠ row) : Blk w' g t cs := (hb.block g h.lt hg).trans h
end

section
variable {w w' w'' : World} {g : Nat}
theorem grow_refl (w : World) (r : Option Nat) : w.grownBy w r := ⟨rfl, rfl, rfl, Nat.le_refl _, fun _ _ _ => rfl⟩
theorem grow_trans {r : Option Nat} (h : w.grownBy w' r) (k : w'.grownBy w'' r) : w.grownBy w'' r :=
  ⟨k.os.trans h.os, k.tape.trans h.tape, k.output.trans h.output, Nat.le_trans h.size k.size,
    fun i hi hr => (k.block i (Nat.lt_of_lt_of_le hi h.size) hr).trans (h.block i hi hr)⟩
theorem grow_set {r : Option Nat} (h : w.grownBy w' r) {p : Addr} (hp : some p.block = r) (u : Value) : w.grownBy (w'.setCell p u) r :=
  grow_trans h ⟨rfl, rfl, rfl, by simp [World.setCell], fun k _ hr => Below.heap_setCell _ _ _ _ (fun e => hr (by rw [← hp, e]))⟩
theorem grow_row {r : Option Nat} (h : w.grownBy w' r) (hp : some g = r) (cs : Array Value) : w.grownBy (w'.setRow g cs) r :=
  grow_trans h ⟨rfl, rfl, rfl, by simp [World.setRow], fun k _ hr => setRow_other w' g k cs (fun e => hr (by rw [← hp, e]))⟩
theorem grow_at (h : w.grownBy w' (some g)) (i : Nat) (u : Value) : w.grownBy (w'.setCell ⟨g, i, none⟩ u) (some g) := grow_set h rfl u
theorem grow_over (h : w.grownBy w' (some g)) (cs : Array Value) : w.grownBy (w'.setRow g cs) (some g) := grow_row h rfl cs
theorem grow_drewN {r : Option Nat} (h : w.grownBy w' r) (n : Nat) : w.grownBy (w'.drewN n) r := ⟨h.os, h.tape, h.output, h.size, h.block⟩
theorem grow_drew {r : Option Nat} (h : w.grownBy w' r) : w.grownBy w'.drew r := ⟨h.os, h.tape, h.output, h.size, h.block⟩
theorem grow_alloc {r : Option Nat} (h : w.grownBy w' r) (o : Obj) : w.grownBy (w'.alloc o) r := grow_trans h (World.grownBy_alloc w' o r)
end

theorem set_splice (L : List Value) (i : Nat) (u : Value) (h : i < L.length) : L.set i u = splice L i [u] := by
  unfold splice
  rw [List.set_eq_take_append_cons_drop, if_pos h]
  rfl
theorem splice_splice (L A B : List Value) (off : Nat) (h : off + A.length + B.length ≤ L.length) : splice (splice L off A) (off + A.length) B = splice L off (A ++ B) := by
  unfold splice
  have e1 : (L.take off ++ (A ++ L.drop (off + A.length))).take (off + A.length) = L.take off ++ A := by
    rw [← List.append_assoc, List.take_append_of_le_length (by simp; omega)]
    exact List.take_of_length_le (by simp; omega)
  have e2 : (L.take off ++ (A ++ L.drop (off + A.length))).drop (off + A.length + B.length) = L.drop (off + (A ++ B).length) := by
    rw [← List.append_assoc, List.drop_append]
    have hz : (L.take off ++ A).drop (off + A.length + B.length) = [] := List.drop_eq_nil_of_le (by simp; omega)
    rw [hz, List.nil_append, List.drop_drop]
    congr 1
    simp
    omega
  rw [e1, e2]
  simp

end Go.Proofs.YtbhcdkbcbcmomaaDoor
