/- THE DECODER'S STATE: how far the output's block is filled; a copy from before, plainly. -/
import Derived.Test.YtbhcdkbcbcmomaaDoorWb
import Derived.Test.YtbhcdkbcbcmomaaDoorDa
import Derived.Test.YtbhcdkbcbcmomaaDoorPd
namespace Go.Proofs.YtbhcdkbcbcmomaaDoor
open Go.RowKit

theorem splice_mid (A B C : List Value) (n : Nat) (hn : n = A.length) : splice (A ++ B) n C = A ++ C ++ B.drop C.length := by
  subst hn
  unfold splice
  rw [List.take_left, ← List.drop_drop, List.drop_left, List.append_assoc]

theorem copyOut_far (off : Nat) (out : List UInt8) (ho : off ≤ out.length) : ∀ k, k ≤ off → Sn.copyOut off k out = out ++ (out.drop (out.length - off)).take k
  | 0, _ => by simp [Sn.copyOut]
  | k + 1, hk => by
    have hD : k < (out.drop (out.length - off)).length := by rw [List.length_drop]; omega
    rw [Sn.copyOut_snoc, copyOut_far off out ho k (by omega), Sn.take_snoc _ k hD, List.append_assoc]
    congr 3
    rw [getD_drop]
    rw [List.getD_eq_getElem?_getD, List.getD_eq_getElem?_getD, List.getElem?_append_left (by omega)]
    congr 2
    omega

/-- The output's block: what has come out, and zeros behind it; below the block nothing has turned. -/
def DSt (w0 : World) (g N : Nat) (out : List UInt8) (w : World) : Prop :=
  out.length ≤ N ∧ Blk w g 5 (bv out ++ List.replicate (N - out.length) (.int .u8 0)) ∧ Below g w0 w

section
variable {w0 w : World} {g N : Nat} {out : List UInt8}
theorem DSt.drewN (h : DSt w0 g N out w) (k : Nat) : DSt w0 g N out (w.drewN k) := ⟨h.1, h.2.1.drewN k, ⟨h.2.2.os, h.2.2.tape, h.2.2.output, h.2.2.size, h.2.2.block⟩⟩
theorem DSt.drew (h : DSt w0 g N out w) : DSt w0 g N out w.drew := ⟨h.1, h.2.1, h.2.2.drew⟩
theorem DSt.src (h : DSt w0 g N out w) {db so : Nat} {l : List UInt8} (hs : Src w0 db so l) (hdb : db < g) : Src w db so l := src_below hs h.2.2 hdb
theorem DSt.cell (h : DSt w0 g N out w) (j : Nat) (hj : j < out.length) : w.cell? ⟨g, j, none⟩ = some (.int .u8 ((out.getD j 0).toNat : Int)) := by
  rw [h.2.1.cell j, List.getElem?_append_left (by rw [bv_length]; exact hj), bv_get out j hj]
theorem DSt.cellx (h : DSt w0 g N out w) (j : Nat) (hj : j < N) : ∃ x, w.cell? ⟨g, j, none⟩ = some x :=
  h.2.1.cell_at j (by have := h.1; rw [List.length_append, bv_length, List.length_replicate]; omega)
theorem DSt.frozen (h : DSt w0 g N out w) (j : Nat) : w.frozen? ⟨g, j, none⟩ = false := h.2.1.frozen j
theorem DSt.len (h : DSt w0 g N out w) : (bv out ++ List.replicate (N - out.length) (Value.int .u8 0)).length = N := by
  have := h.1
  rw [List.length_append, bv_length, List.length_replicate]; omega
theorem fill_more (out X : List UInt8) (N : Nat) : bv out ++ bv X ++ (List.replicate (N - out.length) (Value.int .u8 0)).drop (bv X).length = bv (out ++ X) ++ List.replicate (N - (out ++ X).length) (.int .u8 0) := by
  rw [bv_append, List.drop_replicate, bv_length, List.length_append, Nat.sub_add_eq]
theorem DSt.put (h : DSt w0 g N out w) {X : List UInt8} {d : Nat} (hd : d = out.length) (hX : out.length + X.length ≤ N) :
    DSt w0 g N (out ++ X) (w.setRow g (splice (bv out ++ List.replicate (N - out.length) (.int .u8 0)) d (bv X)).toArray) := by
  refine ⟨by rw [List.length_append]; exact hX, ?_, ?_⟩
  · rw [splice_mid _ _ _ d (by rw [bv_length]; exact hd), fill_more]
    exact h.2.1.row _
  · exact h.2.2.trans ⟨rfl, rfl, rfl, by simp [World.setRow], fun k hk => setRow_other w g k _ (by omega)⟩
theorem DSt.set (h : DSt w0 g N out w) {b : UInt8} {v : Value} {i : Nat} (hv : v = .int .u8 (b.toNat : Int)) (hi : i = out.length) (hlt : out.length < N) :
    DSt w0 g N (out ++ [b]) (w.setCell ⟨g, i, none⟩ v) := by
  subst hv
  refine ⟨by rw [List.length_append]; exact hlt, ?_, h.2.2.setCell (Nat.le_refl _) _⟩
  have h2 := h.2.1.set_ i (.int .u8 (b.toNat : Int))
  rw [set_splice _ _ _ (by rw [h.len]; omega), splice_mid _ _ _ i (by rw [bv_length]; exact hi)] at h2
  rw [← fill_more]
  exact h2
end

/-- copy where the room is what bounds it. -/
theorem wpList_copy_room {P : Program} {w : World} {ops : Array Oper} {rest : List Oper} {o : Oper} {a : Act} {Q : Exit → Act → World → Prop} (hgd : o.guard = none) (d s : Operand) (dT sT : TypeId)
    (ho : o.op = .call { callee := .builtin .copy, args := #[d, s], argTypes := #[dT, sT] }) (elem : TypeId) (hu : P.underlying dT = some (.slice elem)) (hsz : (P.info? elem).map (·.size) = some 1)
    (g off : Nat) (dLen dCap bs os sLen sCap : Nat) (hd : a.eval d = .slice (some ⟨g, off, none⟩) dLen dCap) (hs : a.eval s = .slice (some ⟨bs, os, none⟩) sLen sCap)
    (t : TypeId) (cur cs : List Value)
    (hmem : Hid (Blk w g t cur ∧ cs.length = Nat.min sLen dLen ∧ (∀ j v, cs[j]? = some v → w.cell? ⟨bs, os + j, none⟩ = some v) ∧ off + cs.length ≤ cur.length ∧ (∀ v ∈ cs, v.oneCell' = true)))
    (h : wpList P ops Q rest (a.put o.dst (goInt cs.length)) (w.setRow g (splice cur off cs).toArray)) : wpList P ops Q (o :: rest) a w := by
  obtain ⟨hg, hn, hsrc, hfit, h1⟩ := hmem.out
  exact wpList_copy_own hgd d s dT sT ho elem hu hsz g off dLen dCap ⟨bs, os, none⟩ sLen sCap hd hs cur.toArray t hg cs hn
    (fun j v hv => by rw [addr_add]; exact hsrc j v hv) (by simpa using hfit) h1 (by simpa [splice] using h)

/-! The numbers that stand in a head -/
theorem u8_and3 (f : Nat) (hf : f < 256) : bits .and .u8 (f : Int) 3 = ((f % 4 : Nat) : Int) := by
  have h : ∀ m : Fin 256, bits .and .u8 (m.val : Int) 3 = ((m.val % 4 : Nat) : Int) := by decide +kernel
  exact h ⟨f, hf⟩
theorem u32_and224 (f : Nat) (hf : f < 256) : bits .and .u32 (f : Int) 224 = ((f / 32 * 32 : Nat) : Int) := by
  have h : ∀ m : Fin 256, bits .and .u32 (m.val : Int) 224 = ((m.val / 32 * 32 : Nat) : Int) := by decide +kernel
  exact h ⟨f, hf⟩
theorem u32_orhi (h lo : Nat) (hh : h < 8) (hl : lo < 256) : bits .or .u32 ((h * 256 : Nat) : Int) (lo : Int) = ((h * 256 + lo : Nat) : Int) := by
  have k : ∀ (m : Fin 8) (x : Fin 256), bits .or .u32 ((m.val * 256 : Nat) : Int) (x.val : Int) = ((m.val * 256 + x.val : Nat) : Int) := by decide +kernel
  exact k ⟨h, hh⟩ ⟨lo, hl⟩

end Go.Proofs.YtbhcdkbcbcmomaaDoor
