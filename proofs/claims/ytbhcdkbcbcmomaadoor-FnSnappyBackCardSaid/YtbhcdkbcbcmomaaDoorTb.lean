/- THE TABLE OF encodeBlock: a new block of 16384 zeros. -/
import Derived.Test.YtbhcdkbcbcmomaaDoorBlk
import Derived.Test.YtbhcdkbcbcmomaaDoorRows
namespace Go.Proofs.YtbhcdkbcbcmomaaDoor
open Go.RowKit

noncomputable def Zv : Value := Tryd.t55.zero.getD undef
noncomputable def Zl : List Value := Zv.cells.toList

def isZ : Value → Bool
  | .int .u16 n => n == 0
  | _ => false
def zeros : List Value → Nat → Bool
  | [], n => n == 0
  | x :: xs, n => match n with
    | 0 => false
    | n + 1 => match isZ x with
      | true => zeros xs n
      | false => false

theorem Z_zero : Tryd.t55.zero = some Zv := by kernel_rfl
theorem Z_zeros : zeros Zl 16384 = true := by kernel_rfl

theorem zeros_spec : ∀ (xs : List Value) (n : Nat), zeros xs n = true → xs.length = n ∧ ∀ v ∈ xs, v = .int .u16 0
  | [], n, h => by
    simp [zeros] at h
    subst h
    simp
  | x :: xs, 0, h => by simp [zeros] at h
  | x :: xs, n + 1, h => by
    cases hx : isZ x with
    | false => simp [zeros, hx] at h
    | true =>
      rw [zeros, hx] at h
      obtain ⟨h1, h2⟩ := zeros_spec xs n h
      have e : x = .int .u16 0 := by
        unfold isZ at hx
        split at hx
        · simp at hx
          rw [hx]
        · cases hx
      refine ⟨by simp [h1], fun v hv => ?_⟩
      rcases List.mem_cons.1 hv with rfl | hv
      · exact e
      · exact h2 v hv

/-- The table: 16384 entries, each a place below s. -/
def Tab (w : World) (tb s : Nat) : Prop := ∃ T : List Value, Blk w tb 55 T ∧ T.length = 16384 ∧ ∀ i, i < 16384 → ∃ v : Nat, v < s ∧ T[i]? = some (.int .u16 (v : Int))

section
variable {w w' : World} {tb s : Nat}
theorem Tab.new (w : World) (h : 1 ≤ s) : Tab (w.alloc (.cells Zv.cells 55)) w.heap.size s := by
  obtain ⟨h1, h2⟩ := zeros_spec _ _ Z_zeros
  refine ⟨Zl, ?_, h1, fun i hi => ⟨0, h, ?_⟩⟩
  · have := Blk.new w 55 Zl
    simpa [Zl] using this
  · have hi' : i < Zl.length := by omega
    rw [List.getElem?_eq_getElem hi', h2 _ (List.getElem_mem hi')]
    rfl
theorem Tab.mono {s' : Nat} (h : Tab w tb s) (hs : s ≤ s') : Tab w tb s' := by
  obtain ⟨T, h1, h2, h3⟩ := h
  exact ⟨T, h1, h2, fun i hi => by obtain ⟨v, hv, e⟩ := h3 i hi; exact ⟨v, by omega, e⟩⟩
theorem Tab.cell (h : Tab w tb s) (i : Nat) (hi : i < 16384) : ∃ v : Nat, v < s ∧ w.cell? ⟨tb, i, none⟩ = some (.int .u16 (v : Int)) := by
  obtain ⟨T, h1, h2, h3⟩ := h
  obtain ⟨v, hv, e⟩ := h3 i hi
  exact ⟨v, hv, by rw [h1.cell i, e]⟩
theorem Tab.frozen (h : Tab w tb s) (i : Nat) : w.frozen? ⟨tb, i, none⟩ = false := by
  obtain ⟨T, h1, h2, h3⟩ := h
  exact h1.frozen i
theorem Tab.set_ {s' : Nat} (h : Tab w tb s) (hs : s ≤ s') (i v : Nat) (hv : v < s') : Tab (w.setCell ⟨tb, i, none⟩ (.int .u16 (v : Int))) tb s' := by
  obtain ⟨T, h1, h2, h3⟩ := h
  refine ⟨_, h1.set_ i _, by rw [List.length_set]; exact h2, fun j hj => ?_⟩
  rw [List.getElem?_set]
  by_cases e : i = j
  · rw [if_pos e, if_pos (by omega)]
    exact ⟨v, hv, rfl⟩
  · rw [if_neg e]
    obtain ⟨u, hu, e2⟩ := h3 j hj
    exact ⟨u, by omega, e2⟩
theorem Tab.drewN (h : Tab w tb s) (n : Nat) : Tab (w.drewN n) tb s := h
theorem Tab.grown {row : Option Nat} (h : Tab w tb s) (hb : w.grownBy w' row) (hg : some tb ≠ row) : Tab w' tb s := by
  obtain ⟨T, h1, h2, h3⟩ := h
  exact ⟨T, h1.grown hb hg, h2, h3⟩
theorem Tab.lt (h : Tab w tb s) : tb < w.heap.size := by
  obtain ⟨T, h1, _⟩ := h
  exact h1.lt
end

theorem run_table (w : World) : (Instr.alloc 55 true (.tuple #[])).run Tryd.prog w = .ok (.pointer (some ⟨w.heap.size, 0, none⟩)) (w.alloc (.cells Zv.cells 55)) := by
  unfold Instr.alloc
  rw [Sem.run_bind]
  unfold zeroValue
  rw [Sem.run_bind, Tryd.typeInfo55 w]
  simp only [Result.andThen_ok, Z_zero]
  rfl

noncomputable def Za : Array Value := Zv.cells
theorem Zv_agg : Zv = .agg Za := by kernel_rfl
theorem run_zero55 (w : World) : (zeroValue 55).run Tryd.prog w = .ok (.agg Za) w := by
  unfold zeroValue
  rw [Sem.run_bind, Tryd.typeInfo55 w]
  simp only [Result.andThen_ok, Z_zero, Zv_agg]
  rfl

end Go.Proofs.YtbhcdkbcbcmomaaDoor
