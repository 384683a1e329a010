/- WALKS, the second text: emitLiteral. -/
import Derived.Test.YtbhcdkbcbcmomaaDoorWa
namespace Go.Proofs.YtbhcdkbcbcmomaaDoor
open Go.RowKit

theorem wpList_copy_blk {P : Program} {w : World} {ops : Array Oper} {rest : List Oper} {o : Oper} {a : Act} {Q : Exit → Act → World → Prop} (hgd : o.guard = none) (d s : Operand) (dT sT : TypeId)
    (ho : o.op = .call { callee := .builtin .copy, args := #[d, s], argTypes := #[dT, sT] }) (elem : TypeId) (hu : P.underlying dT = some (.slice elem)) (hsz : (P.info? elem).map (·.size) = some 1)
    (g off dLen dCap bs os sLen sCap : Nat) (hd : a.eval d = .slice (some ⟨g, off, none⟩) dLen dCap) (hs : a.eval s = .slice (some ⟨bs, os, none⟩) sLen sCap)
    (t : TypeId) (cur cs : List Value)
    (hmem : Hid (Blk w g t cur ∧ cs.length = sLen ∧ sLen ≤ dLen ∧ (∀ j v, cs[j]? = some v → w.cell? ⟨bs, os + j, none⟩ = some v) ∧ off + cs.length ≤ cur.length ∧ (∀ v ∈ cs, v.oneCell' = true)))
    (h : wpList P ops Q rest (a.put o.dst (goInt cs.length)) (w.setRow g (splice cur off cs).toArray)) : wpList P ops Q (o :: rest) a w := by
  obtain ⟨hg, hn, hle, hsrc, hfit, h1⟩ := hmem.out
  exact wpList_copy_own hgd d s dT sT ho elem hu hsz g off dLen dCap ⟨bs, os, none⟩ sLen sCap hd hs cur.toArray t hg cs (by rw [hn]; exact (Nat.min_eq_left hle).symm)
    (fun j v hv => by
      have e : (⟨bs, os, none⟩ : Addr).add j = ⟨bs, os + j, none⟩ := by unfold Addr.add; split <;> simp_all
      rw [e]
      exact hsrc j v hv) (by simpa using hfit) h1 (by simpa [splice] using h)

theorem u8_cells : (Tryd.prog.info? 5).map (·.size) = some 1 := by kernel_rfl

/-- The bytes bs have been laid into block g from off on. -/
def Put (w : World) (g off : Nat) (cur cs : List Value) (w' : World) : Prop := Blk w' g 5 (splice cur off cs) ∧ w.grownBy w' (some g)

/-- emitLiteral's end -/
def LitEnd (w : World) (g off k : Nat) (cur cs : List Value) (e : Ending) (w' : World) : Prop := e = .returned (.int .i64 (k : Int)) ∧ Put w g off cur cs w'

theorem src_set {w : World} {g bs os off : Nat} {u : Value} {L : List Value} (hne : bs ≠ g) (hsrc : ∀ j v, L[j]? = some v → w.cell? ⟨bs, os + j, none⟩ = some v) :
    ∀ j v, L[j]? = some v → (w.setCell ⟨g, off, none⟩ u).cell? ⟨bs, os + j, none⟩ = some v := by
  intro j v hv
  rw [World.cell?_setCell_other w ⟨g, off, none⟩ ⟨bs, os + j, none⟩ u (fun e => hne (by injection e with e1; exact e1.symm))]
  exact hsrc j v hv

set_option maxRecDepth 100000 in
set_option maxHeartbeats 400000 in
theorem lit_small (g off m c bs os sc n : Nat) (L : List Value) (x0 : Value) (cur : List Value) (w : World) (hL : L.length = n + 1) (hn : n < 60) (hm : n + 2 ≤ m) (hmc : m ≤ c)
    (hg : Hid (Blk w g 5 cur)) (hfit : off + n + 2 ≤ cur.length) (h1 : Hid (∀ v ∈ L, v.oneCell' = true)) (hsrc : Hid (∀ j v, L[j]? = some v → w.cell? ⟨bs, os + j, none⟩ = some v)) (hne : bs ≠ g)
    (c0 : w.cell? ⟨g, off, none⟩ = some x0) (f0 : w.frozen? ⟨g, off, none⟩ = false) :
    Calls Tryd.prog 18 #[.slice (some ⟨g, off, none⟩) m c, .slice (some ⟨bs, os, none⟩) (n + 1) sc] w (LitEnd w g off (n + 2) cur (.int .u8 (bits .or .u8 (↑n * 4) 0) :: L)) := by
  have HM : Hid (Blk (w.setCell ⟨g, off, none⟩ (.int .u8 (bits .or .u8 (↑n * 4) 0))) g 5 (cur.set off (.int .u8 (bits .or .u8 (↑n * 4) 0))) ∧ L.length = n + 1 ∧ n + 1 ≤ m - 1 ∧ (∀ j v, L[j]? = some v → (w.setCell ⟨g, off, none⟩ (.int .u8 (bits .or .u8 (↑n * 4) 0))).cell? ⟨bs, os + j, none⟩ = some v) ∧ off + 1 + L.length ≤ (cur.set off (.int .u8 (bits .or .u8 (↑n * 4) 0))).length ∧ (∀ v ∈ L, v.oneCell' = true)) :=
    ⟨hg.out.set_ off _, hL, by omega, src_set hne hsrc.out, by rw [List.length_set]; omega, h1.out⟩
  have e : splice (cur.set off (.int .u8 (bits .or .u8 (↑n * 4) 0))) (off + 1) L = splice cur off (.int .u8 (bits .or .u8 (↑n * 4) 0) :: L) := by
    rw [set_splice _ _ _ (by omega), show off + 1 = off + [Value.int .u8 (bits .or .u8 (↑n * 4) 0)].length from rfl, splice_splice _ _ _ _ (by simp; omega)]
    rfl
  have HP : Hid (Put w g off cur (.int .u8 (bits .or .u8 (↑n * 4) 0) :: L) ((w.setCell ⟨g, off, none⟩ (.int .u8 (bits .or .u8 (↑n * 4) 0))).setRow g (splice (cur.set off (.int .u8 (bits .or .u8 (↑n * 4) 0))) (off + 1) L).toArray)) :=
    ⟨by rw [e]; exact (hg.out.set_ off _).row _, grow_over (grow_at (grow_refl w _) _ _) _⟩
  clear e hsrc h1 hg
  go_enter Tryd.func18, Tryd.ntmps18
  go_wp2_with (with_reducible refine wpList_copy_blk (o := ⟨some 45, _, _, _, _, _⟩) ?a1 (.tmp 43) (.tmp 44) 22 22 ?a2 5 Tryd.underlying22 u8_cells g (off + 1) (m - 1) (c - 1) bs os (n + 1) sc ?a4 ?a5 5 (cur.set off (.int .u8 (bits .or .u8 (↑n * 4) 0))) L HM ?_)
  case a1 => rfl
  case a2 => rfl
  case a4 => rfl
  case a5 => rfl
  go_wp2
  go_ret
  exact ⟨ret_int (by simp; omega), HP.out⟩

set_option maxRecDepth 100000 in
set_option maxHeartbeats 400000 in
theorem lit_mid (g off m c bs os sc n : Nat) (L : List Value) (x0 x1 : Value) (cur : List Value) (w : World) (hL : L.length = n + 1) (hn0 : 60 ≤ n) (hn : n < 256) (hm : n + 3 ≤ m) (hmc : m ≤ c)
    (hg : Hid (Blk w g 5 cur)) (hfit : off + n + 3 ≤ cur.length) (h1 : Hid (∀ v ∈ L, v.oneCell' = true)) (hsrc : Hid (∀ j v, L[j]? = some v → w.cell? ⟨bs, os + j, none⟩ = some v)) (hne : bs ≠ g)
    (c0 : w.cell? ⟨g, off, none⟩ = some x0) (f0 : w.frozen? ⟨g, off, none⟩ = false) (c1 : w.cell? ⟨g, off + 1, none⟩ = some x1) (f1 : w.frozen? ⟨g, off + 1, none⟩ = false) :
    Calls Tryd.prog 18 #[.slice (some ⟨g, off, none⟩) m c, .slice (some ⟨bs, os, none⟩) (n + 1) sc] w (LitEnd w g off (n + 3) cur (.int .u8 240 :: .int .u8 (n : Int) :: L)) := by
  have HM : Hid (Blk ((w.setCell ⟨g, off, none⟩ (.int .u8 240)).setCell ⟨g, off + 1, none⟩ (.int .u8 (n : Int))) g 5 ((cur.set off (.int .u8 240)).set (off + 1) (.int .u8 (n : Int))) ∧ L.length = n + 1 ∧ n + 1 ≤ m - 2 ∧ (∀ j v, L[j]? = some v → ((w.setCell ⟨g, off, none⟩ (.int .u8 240)).setCell ⟨g, off + 1, none⟩ (.int .u8 (n : Int))).cell? ⟨bs, os + j, none⟩ = some v) ∧ off + 2 + L.length ≤ ((cur.set off (.int .u8 240)).set (off + 1) (.int .u8 (n : Int))).length ∧ (∀ v ∈ L, v.oneCell' = true)) :=
    ⟨(hg.out.set_ off _).set_ (off + 1) _, hL, by omega, src_set hne (src_set hne hsrc.out), by rw [List.length_set, List.length_set]; omega, h1.out⟩
  have e : splice ((cur.set off (.int .u8 240)).set (off + 1) (.int .u8 (n : Int))) (off + 2) L = splice cur off (.int .u8 240 :: .int .u8 (n : Int) :: L) := by
    rw [set_splice _ (off + 1) _ (by rw [List.length_set]; omega), set_splice _ off _ (by omega)]
    rw [show off + 1 = off + [Value.int .u8 240].length from rfl, splice_splice _ _ _ _ (by simp; omega)]
    rw [show off + 2 = off + ([Value.int .u8 240] ++ [Value.int .u8 (n : Int)]).length from rfl, splice_splice _ _ _ _ (by simp; omega)]
    rfl
  have HP : Hid (Put w g off cur (.int .u8 240 :: .int .u8 (n : Int) :: L) (((w.setCell ⟨g, off, none⟩ (.int .u8 240)).setCell ⟨g, off + 1, none⟩ (.int .u8 (n : Int))).setRow g (splice ((cur.set off (.int .u8 240)).set (off + 1) (.int .u8 (n : Int))) (off + 2) L).toArray)) :=
    ⟨by rw [e]; exact ((hg.out.set_ off _).set_ (off + 1) _).row _, grow_over (grow_at (grow_at (grow_refl w _) _ _) _ _) _⟩
  clear e hsrc h1 hg
  go_enter Tryd.func18, Tryd.ntmps18
  go_wp2_with (with_reducible refine wpList_copy_blk (o := ⟨some 45, _, _, _, _, _⟩) ?a1 (.tmp 43) (.tmp 44) 22 22 ?a2 5 Tryd.underlying22 u8_cells g (off + 2) (m - 2) (c - 2) bs os (n + 1) sc ?a4 ?a5 5 ((cur.set off (.int .u8 240)).set (off + 1) (.int .u8 (n : Int))) L HM ?_)
  case a1 => rfl
  case a2 => rfl
  case a4 => rfl
  case a5 => rfl
  go_wp2
  go_ret
  exact ⟨ret_int (by simp; omega), HP.out⟩

set_option maxRecDepth 100000 in
set_option maxHeartbeats 400000 in
theorem lit_big (g off m c bs os sc n : Nat) (L : List Value) (x0 x1 x2 : Value) (cur : List Value) (w : World) (hL : L.length = n + 1) (hn0 : 256 ≤ n) (hn : n < 65536) (hm : n + 4 ≤ m) (hmc : m ≤ c)
    (hg : Hid (Blk w g 5 cur)) (hfit : off + n + 4 ≤ cur.length) (h1 : Hid (∀ v ∈ L, v.oneCell' = true)) (hsrc : Hid (∀ j v, L[j]? = some v → w.cell? ⟨bs, os + j, none⟩ = some v)) (hne : bs ≠ g)
    (c0 : w.cell? ⟨g, off, none⟩ = some x0) (f0 : w.frozen? ⟨g, off, none⟩ = false) (c1 : w.cell? ⟨g, off + 1, none⟩ = some x1) (f1 : w.frozen? ⟨g, off + 1, none⟩ = false)
    (c2 : w.cell? ⟨g, off + 2, none⟩ = some x2) (f2 : w.frozen? ⟨g, off + 2, none⟩ = false) :
    Calls Tryd.prog 18 #[.slice (some ⟨g, off, none⟩) m c, .slice (some ⟨bs, os, none⟩) (n + 1) sc] w (LitEnd w g off (n + 4) cur (.int .u8 244 :: .int .u8 (n % 256 : Int) :: .int .u8 (n / 256 : Int) :: L)) := by
  have HM : Hid (Blk (((w.setCell ⟨g, off, none⟩ (.int .u8 244)).setCell ⟨g, off + 1, none⟩ (.int .u8 (n % 256 : Int))).setCell ⟨g, off + 2, none⟩ (.int .u8 (n / 256 : Int))) g 5 (((cur.set off (.int .u8 244)).set (off + 1) (.int .u8 (n % 256 : Int))).set (off + 2) (.int .u8 (n / 256 : Int))) ∧ L.length = n + 1 ∧ n + 1 ≤ m - 3 ∧ (∀ j v, L[j]? = some v → (((w.setCell ⟨g, off, none⟩ (.int .u8 244)).setCell ⟨g, off + 1, none⟩ (.int .u8 (n % 256 : Int))).setCell ⟨g, off + 2, none⟩ (.int .u8 (n / 256 : Int))).cell? ⟨bs, os + j, none⟩ = some v) ∧ off + 3 + L.length ≤ (((cur.set off (.int .u8 244)).set (off + 1) (.int .u8 (n % 256 : Int))).set (off + 2) (.int .u8 (n / 256 : Int))).length ∧ (∀ v ∈ L, v.oneCell' = true)) :=
    ⟨((hg.out.set_ off _).set_ (off + 1) _).set_ (off + 2) _, hL, by omega, src_set hne (src_set hne (src_set hne hsrc.out)), by rw [List.length_set, List.length_set, List.length_set]; omega, h1.out⟩
  have e : splice (((cur.set off (.int .u8 244)).set (off + 1) (.int .u8 (n % 256 : Int))).set (off + 2) (.int .u8 (n / 256 : Int))) (off + 3) L = splice cur off (.int .u8 244 :: .int .u8 (n % 256 : Int) :: .int .u8 (n / 256 : Int) :: L) := by
    rw [set_splice _ (off + 2) _ (by rw [List.length_set, List.length_set]; omega), set_splice _ (off + 1) _ (by rw [List.length_set]; omega), set_splice _ off _ (by omega)]
    rw [show off + 1 = off + [Value.int .u8 244].length from rfl, splice_splice _ _ _ _ (by simp; omega)]
    rw [show off + 2 = off + ([Value.int .u8 244] ++ [Value.int .u8 (n % 256 : Int)]).length from rfl, splice_splice _ _ _ _ (by simp; omega)]
    rw [show off + 3 = off + ([Value.int .u8 244] ++ [Value.int .u8 (n % 256 : Int)] ++ [Value.int .u8 (n / 256 : Int)]).length from rfl, splice_splice _ _ _ _ (by simp; omega)]
    rfl
  have HP : Hid (Put w g off cur (.int .u8 244 :: .int .u8 (n % 256 : Int) :: .int .u8 (n / 256 : Int) :: L)
      ((((w.setCell ⟨g, off, none⟩ (.int .u8 244)).setCell ⟨g, off + 1, none⟩ (.int .u8 (n % 256 : Int))).setCell ⟨g, off + 2, none⟩ (.int .u8 (n / 256 : Int))).setRow g
        (splice (((cur.set off (.int .u8 244)).set (off + 1) (.int .u8 (n % 256 : Int))).set (off + 2) (.int .u8 (n / 256 : Int))) (off + 3) L).toArray)) :=
    ⟨by rw [e]; exact (((hg.out.set_ off _).set_ (off + 1) _).set_ (off + 2) _).row _, grow_over (grow_at (grow_at (grow_at (grow_refl w _) _ _) _ _) _ _) _⟩
  clear e hsrc h1 hg
  go_enter Tryd.func18, Tryd.ntmps18
  go_wp2_with (with_reducible refine wpList_copy_blk (o := ⟨some 45, _, _, _, _, _⟩) ?a1 (.tmp 43) (.tmp 44) 22 22 ?a2 5 Tryd.underlying22 u8_cells g (off + 3) (m - 3) (c - 3) bs os (n + 1) sc ?a4 ?a5 5 (((cur.set off (.int .u8 244)).set (off + 1) (.int .u8 (n % 256 : Int))).set (off + 2) (.int .u8 (n / 256 : Int))) L HM ?_)
  case a1 => rfl
  case a2 => rfl
  case a4 => rfl
  case a5 => rfl
  go_wp2
  go_ret
  exact ⟨ret_int (by simp; omega), HP.out⟩

theorem or_zero4 (n : Nat) (hn : n < 60) : bits .or .u8 (n * 4 : Int) 0 = ((Sn.b8 (n * 4)).toNat : Int) := by
  rw [Sn.b8_toNat]
  have h : ∀ m : Fin 60, bits .or .u8 ((m.val : Int) * 4) 0 = ((m.val * 4 % 256 : Nat) : Int) := by decide +kernel
  exact h ⟨n, hn⟩

/-- emitLiteral, whatever the literal's length. -/
theorem lit_any (g off m c bs os sc : Nat) (L : List UInt8) (cur : List Value) (w : World) (hL : 1 ≤ L.length) (hL2 : L.length ≤ 65536) (hm : L.length + 3 ≤ m) (hmc : m ≤ c)
    (hg : Blk w g 5 cur) (hfit : off + L.length + 3 ≤ cur.length) (hsrc : Src w bs os L) (hne : bs ≠ g) :
    Calls Tryd.prog 18 #[.slice (some ⟨g, off, none⟩) m c, .slice (some ⟨bs, os, none⟩) L.length sc] w (LitEnd w g off (Sn.litB L).length cur (bv (Sn.litB L))) := by
  obtain ⟨n, hn⟩ : ∃ n, L.length = n + 1 := ⟨L.length - 1, by omega⟩
  have hlen : (bv L).length = n + 1 := by rw [bv_length, hn]
  have hs' : ∀ j v, (bv L)[j]? = some v → w.cell? ⟨bs, os + j, none⟩ = some v := by
    intro j v hv
    have hj : j < L.length := by
      rw [← bv_length]
      exact (List.getElem?_eq_some_iff.1 hv).1
    rw [bv_get L j hj] at hv
    rw [hsrc j hj]
    exact hv
  obtain ⟨x0, c0⟩ := hg.cell_at off (by omega)
  obtain ⟨x1, c1⟩ := hg.cell_at (off + 1) (by omega)
  obtain ⟨x2, c2⟩ := hg.cell_at (off + 2) (by omega)
  rw [hn]
  unfold Sn.litB Sn.litHdr
  rw [hn]
  by_cases h60 : n < 60
  · rw [show n + 1 - 1 = n from rfl, if_pos h60]
    have h := lit_small g off m c bs os sc n (bv L) x0 cur w hlen h60 (by omega) hmc hg (by omega) (bv_one L) hs' hne c0 (hg.frozen _)
    rw [or_zero4 n h60] at h
    rw [show ([Sn.b8 (n * 4)] ++ L).length = n + 2 from by simp [hn]]
    exact h
  · rw [show n + 1 - 1 = n from rfl, if_neg h60]
    by_cases h256 : n < 256
    · rw [if_pos h256]
      have h := lit_mid g off m c bs os sc n (bv L) x0 x1 cur w hlen (by omega) h256 (by omega) hmc hg (by omega) (bv_one L) hs' hne c0 (hg.frozen _) c1 (hg.frozen _)
      rw [show (n : Int) = ((Sn.b8 n).toNat : Int) from by rw [Sn.b8_toNat]; omega] at h
      rw [show ([240, Sn.b8 n] ++ L).length = n + 3 from by simp [hn]]
      exact h
    · rw [if_neg h256]
      have h := lit_big g off m c bs os sc n (bv L) x0 x1 x2 cur w hlen (by omega) (by omega) (by omega) hmc hg (by omega) (bv_one L) hs' hne c0 (hg.frozen _) c1 (hg.frozen _) c2 (hg.frozen _)
      rw [show ((n : Int) % 256) = ((Sn.b8 n).toNat : Int) from by rw [Sn.b8_toNat]; omega, show ((n : Int) / 256) = ((Sn.b8 (n / 256)).toNat : Int) from by rw [Sn.b8_toNat]; omega] at h
      rw [show ([244, Sn.b8 n, Sn.b8 (n / 256)] ++ L).length = n + 4 from by simp [hn]]
      exact h

end Go.Proofs.YtbhcdkbcbcmomaaDoor
