/- WALKS, the third text: emitCopy. -/
import Derived.Test.YtbhcdkbcbcmomaaDoorWb
import Derived.Deep.LoopGhost
namespace Go.Proofs.YtbhcdkbcbcmomaaDoor
open Go.RowKit

theorem put_one {w : World} {g off i : Nat} {cur : List Value} {pre : List UInt8} {b : UInt8} (h : Blk w g 5 (splice cur off (bv pre))) (hi : pre.length = i) (hf : off + i + 1 ≤ cur.length) (x : Int) (hx : x = (b.toNat : Int)) :
    Blk (w.setCell ⟨g, off + i, none⟩ (.int .u8 x)) g 5 (splice cur off (bv (pre ++ [b]))) := by
  subst hx
  subst hi
  have hl : (splice cur off (bv pre)).length = cur.length := length_splice _ _ _ (by rw [bv_length]; omega)
  have h1 := h.set_ (off + pre.length) (.int .u8 (b.toNat : Int))
  rw [set_splice _ _ _ (by omega), show off + pre.length = off + (bv pre).length from by rw [bv_length], splice_splice _ _ _ _ (by rw [bv_length]; simp; omega)] at h1
  rw [show bv (pre ++ [b]) = bv pre ++ [Value.int .u8 (b.toNat : Int)] from by rw [bv_append]; rfl, show off + pre.length = off + (bv pre).length from by rw [bv_length]]
  exact h1

/-- the world behind three stores -/
def put3w (w : World) (g off i : Nat) (x y z : Int) : World := ((w.setCell ⟨g, off + i, none⟩ (.int .u8 x)).setCell ⟨g, off + (i + 1), none⟩ (.int .u8 y)).setCell ⟨g, off + (i + 2), none⟩ (.int .u8 z)
def put2w (w : World) (g off i : Nat) (x y : Int) : World := (w.setCell ⟨g, off + i, none⟩ (.int .u8 x)).setCell ⟨g, off + (i + 1), none⟩ (.int .u8 y)

theorem put_three {w : World} {g off i : Nat} {cur : List Value} {pre : List UInt8} {a b c : UInt8} (h : Blk w g 5 (splice cur off (bv pre))) (hi : pre.length = i) (hf : off + i + 3 ≤ cur.length) {x y z : Int} (hx : x = (a.toNat : Int)) (hy : y = (b.toNat : Int)) (hz : z = (c.toNat : Int)) :
    Blk (put3w w g off i x y z) g 5 (splice cur off (bv (pre ++ [a, b, c]))) := by
  have h1 := put_one h hi (by omega) x hx
  have h2 := put_one (i := i + 1) h1 (by simp [hi]) (by omega) y hy
  have h3 := put_one (i := i + 2) h2 (by simp [hi]) (by omega) z hz
  have e : pre ++ [a, b, c] = pre ++ [a] ++ [b] ++ [c] := by simp
  rw [e]
  exact h3
theorem put_two {w : World} {g off i : Nat} {cur : List Value} {pre : List UInt8} {a b : UInt8} (h : Blk w g 5 (splice cur off (bv pre))) (hi : pre.length = i) (hf : off + i + 2 ≤ cur.length) {x y : Int} (hx : x = (a.toNat : Int)) (hy : y = (b.toNat : Int)) :
    Blk (put2w w g off i x y) g 5 (splice cur off (bv (pre ++ [a, b]))) := by
  have h1 := put_one h hi (by omega) x hx
  have h2 := put_one (i := i + 1) h1 (by simp [hi]) (by omega) y hy
  have e : pre ++ [a, b] = pre ++ [a] ++ [b] := by simp
  rw [e]
  exact h2
theorem grow3 {w w' : World} {g : Nat} (h : w.grownBy w' (some g)) (o i : Nat) (x y z : Int) : w.grownBy (put3w w' g o i x y z) (some g) := grow_at (grow_at (grow_at h _ _) _ _) _ _
theorem grow2 {w w' : World} {g : Nat} (h : w.grownBy w' (some g)) (o i : Nat) (x y : Int) : w.grownBy (put2w w' g o i x y) (some g) := grow_at (grow_at h _ _) _ _

/-- What holds at the head of emitCopy's loop: i bytes have been laid, k' bytes are still to be copied. -/
def CpRel (w : World) (g off ov k : Nat) (cur : List Value) (i k' : Nat) (wr : World) : Prop :=
  ∃ pre, pre.length = i ∧ Sn.copB ov k = pre ++ Sn.copB ov k' ∧ Blk wr g 5 (splice cur off (bv pre)) ∧ w.grownBy wr (some g)

/-- the same, in the tail -/
def CpTail (w : World) (g off ov k : Nat) (cur : List Value) (i : Nat) (rest : List UInt8) (wr : World) : Prop :=
  ∃ pre, pre.length = i ∧ Sn.copB ov k = pre ++ rest ∧ Blk wr g 5 (splice cur off (bv pre)) ∧ w.grownBy wr (some g)

section
variable {w wr : World} {g off ov k : Nat} {cur : List Value} {i k' : Nat}
theorem CpRel.step (hov : ov ≤ 65535) (h : CpRel w g off ov k cur i k' wr) (h68 : 68 ≤ k') (hf : off + i + 3 ≤ cur.length) : CpRel w g off ov k cur (i + 3) (k' - 64) (put3w wr g off i 254 (ov % 256 : Int) (ov / 256 : Int)) := by
  obtain ⟨pre, hi, he, hb, hg⟩ := h
  refine ⟨pre ++ Sn.cop3 ov 64, by simp [hi, Sn.cop3], ?_, ?_, grow3 hg _ _ _ _ _⟩
  · rw [he, Sn.copB_big ov k' h68, List.append_assoc]
  · exact put_three hb hi hf rfl (by rw [Sn.b8_toNat]; omega) (by rw [Sn.b8_toNat]; omega)
theorem CpRel.tail (h : CpRel w g off ov k cur i k' wr) (h68 : k' < 68) : CpTail w g off ov k cur i (Sn.copTail ov k') wr := by
  obtain ⟨pre, hi, he, hb, hg⟩ := h
  exact ⟨pre, hi, by rw [he, Sn.copB_small ov k' h68], hb, hg⟩
theorem CpTail.mid (hov : ov ≤ 65535) (h : CpTail w g off ov k cur i (Sn.copTail ov k') wr) (h64 : 64 < k') (hf : off + i + 3 ≤ cur.length) : CpTail w g off ov k cur (i + 3) (Sn.copLast ov (k' - 60)) (put3w wr g off i 238 (ov % 256 : Int) (ov / 256 : Int)) := by
  obtain ⟨pre, hi, he, hb, hg⟩ := h
  refine ⟨pre ++ Sn.cop3 ov 60, by simp [hi, Sn.cop3], ?_, ?_, grow3 hg _ _ _ _ _⟩
  · rw [he, Sn.copTail, if_pos h64, List.append_assoc]
  · exact put_three hb hi hf rfl (by rw [Sn.b8_toNat]; omega) (by rw [Sn.b8_toNat]; omega)
theorem CpTail.last (h : CpTail w g off ov k cur i (Sn.copTail ov k') wr) (h64 : k' ≤ 64) : CpTail w g off ov k cur i (Sn.copLast ov k') wr := by
  obtain ⟨pre, hi, he, hb, hg⟩ := h
  exact ⟨pre, hi, by rw [he, Sn.copTail, if_neg (by omega)], hb, hg⟩
theorem CpTail.end3 (hov : ov ≤ 65535) (h : CpTail w g off ov k cur i (Sn.copLast ov k') wr) (hc : 12 ≤ k' ∨ 2048 ≤ ov) (hf : off + i + 3 ≤ cur.length) {x y z : Int} (hx : x = ((k' - 1 : Nat) : Int) * 4 % 256 + 2) (hy : y = (ov : Int) % 256) (hz : z = (ov : Int) / 256) (h64 : k' ≤ 64) :
    (Sn.copB ov k).length = i + 3 ∧ Put w g off cur (bv (Sn.copB ov k)) (put3w wr g off i x y z) := by
  obtain ⟨pre, hi, he, hb, hg⟩ := h
  rw [Sn.copLast, if_pos hc] at he
  rw [he]
  refine ⟨by simp [hi, Sn.cop3], put_three hb hi hf ?_ ?_ ?_, grow3 hg _ _ _ _ _⟩
  · rw [Sn.b8_toNat]; omega
  · rw [Sn.b8_toNat]; omega
  · rw [Sn.b8_toNat]; omega
theorem CpTail.end2 (h : CpTail w g off ov k cur i (Sn.copLast ov k') wr) (hc : ¬ (12 ≤ k' ∨ 2048 ≤ ov)) (hf : off + i + 2 ≤ cur.length) {x y : Int} (hx : x = ((ov / 256 * 32 + (k' - 4) * 4 + 1 : Nat) : Int)) (hy : y = (ov : Int) % 256) (h4 : 4 ≤ k') :
    (Sn.copB ov k).length = i + 2 ∧ Put w g off cur (bv (Sn.copB ov k)) (put2w wr g off i x y) := by
  obtain ⟨pre, hi, he, hb, hg⟩ := h
  rw [Sn.copLast, if_neg hc] at he
  rw [he]
  refine ⟨by simp [hi, Sn.cop2], put_two hb hi hf ?_ ?_, grow2 hg _ _ _ _⟩
  · rw [Sn.b8_toNat]; omega
  · rw [Sn.b8_toNat]; omega
theorem CpRel.cells (h : CpRel w g off ov k cur i k' wr) (hl : i ≤ k) (hfit : off + k + 3 ≤ cur.length) (j : Nat) (hj : j < cur.length) : ∃ x, wr.cell? ⟨g, j, none⟩ = some x := by
  obtain ⟨pre, hi, he, hb, hg⟩ := h
  exact hb.cell_at j (by rw [length_splice _ _ _ (by rw [bv_length]; omega)]; exact hj)
theorem CpRel.frz (h : CpRel w g off ov k cur i k' wr) (j : Nat) : wr.frozen? ⟨g, j, none⟩ = false := by
  obtain ⟨pre, hi, he, hb, hg⟩ := h
  exact hb.frozen j
end

theorem or_two (x : Int) (n : Nat) (hx : x = n) (hn : n < 64) : bits .or .u8 (x * 4) 2 = (n : Int) * 4 % 256 + 2 := by
  subst hx
  have h : ∀ m : Fin 64, bits .or .u8 ((m.val : Int) * 4) 2 = (m.val : Int) * 4 % 256 + 2 := by decide +kernel
  exact h ⟨n, hn⟩
theorem or_one (x y : Int) (n m : Nat) (hx : x = n) (hy : y = m) (hn : n < 2048) (hm : m < 8) : bits .or .u8 (bits .or .u8 (x / 256 * 32) (y * 4)) 1 = ((n / 256 * 32 + m * 4 + 1 : Nat) : Int) := by
  subst hx
  subst hy
  have h : ∀ a m : Fin 8, bits .or .u8 (bits .or .u8 ((a.val : Int) * 32) ((m.val : Int) * 4)) 1 = ((a.val * 32 + m.val * 4 + 1 : Nat) : Int) := by decide +kernel
  have h1 := h ⟨n / 256, by omega⟩ ⟨m, hm⟩
  simpa using h1

set_option maxRecDepth 100000 in
set_option maxHeartbeats 1000000 in
theorem copy_any (g off m c ov k : Nat) (cur : List Value) (w : World) (h1 : 1 ≤ ov) (h2 : ov ≤ 65535) (hk : 4 ≤ k) (hk2 : k ≤ 65535) (hm : k + 3 ≤ m) (hmc : m ≤ c)
    (hg : Hid (Blk w g 5 cur)) (hfit : off + k + 3 ≤ cur.length) :
    Calls Tryd.prog 25 #[.slice (some ⟨g, off, none⟩) m c, .int .i64 (ov : Int), .int .i64 (k : Int)] w (LitEnd w g off (Sn.copB ov k).length cur (bv (Sn.copB ov k))) := by
  go_enter Tryd.func25, Tryd.ntmps25
  go_wp2
  go_loopw [2, 7] (fun kk ii wr => ∃ i k' : Nat, ii = .int .i64 (i : Int) ∧ kk = .int .i64 (k' : Int) ∧ 4 ≤ k' ∧ i + k' ≤ k ∧ CpRel w g off ov k cur i k' wr) (fun kk _ _ => (intOf kk).toNat)
  case atStart =>
    refine ⟨0, k, rfl, rfl, hk, by omega, [], rfl, rfl, ?_, grow_refl w _⟩
    have e : splice cur off (bv []) = cur := by simp [splice, bv]
    rw [e]
    exact hg.out
  case round =>
    obtain ⟨i, k', rfl, rfl, hk4, hik, hrel⟩ := hrel
    have HR := Lib.hid hrel
    have hcell := hrel.cells (by omega) hfit
    have hfrz := hrel.frz
    clear hrel
    obtain ⟨x0, c0⟩ := hcell (off + i) (by omega)
    obtain ⟨x1, c1⟩ := hcell (off + (i + 1)) (by omega)
    obtain ⟨x2, c2⟩ := hcell (off + (i + 2)) (by omega)
    have f0 := hfrz (off + i)
    have f1 := hfrz (off + (i + 1))
    have f2 := hfrz (off + (i + 2))
    by_cases h68 : 68 ≤ k'
    · clear hcell hfrz
      go_wp2
      go_roundw
      case rel => exact ⟨i + 3, k' - 64, by go_num, by go_num, by omega, by omega, HR.out.step h2 h68 (by omega)⟩
      case measure => simp [intOf]; omega
    · have HT := Lib.hid (HR.out.tail (by omega))
      by_cases h64 : 64 < k'
      · have HT2 := Lib.hid (HT.out.mid h2 h64 (by omega))
        obtain ⟨x3, c3⟩ := hcell (off + (i + 3)) (by omega)
        obtain ⟨x4, c4⟩ := hcell (off + (i + 4)) (by omega)
        obtain ⟨x5, c5⟩ := hcell (off + (i + 5)) (by omega)
        have f3 := hfrz (off + (i + 3))
        have f4 := hfrz (off + (i + 4))
        have f5 := hfrz (off + (i + 5))
        clear hcell hfrz HR HT
        by_cases ho : 2048 ≤ ov
        · go_wp2
          go_ret
          have E := HT2.out.end3 h2 (.inr ho) (by omega) (or_two (↑k' - 60 - 1) (k' - 60 - 1) (by omega) (by omega)) rfl rfl (by omega)
          exact ⟨ret_int (by rw [E.1]; show (i : Int) + 3 + 3 = _; omega), E.2⟩
        · go_wp2
          go_ret
          have E := HT2.out.end2 (by omega) (by omega) (or_one ↑ov (↑k' - 60 - 4) ov (k' - 60 - 4) rfl (by omega) (by omega) (by omega)) rfl (by omega)
          exact ⟨ret_int (by rw [E.1]; show (i : Int) + 3 + 2 = _; omega), E.2⟩
      · have HT2 := Lib.hid (HT.out.last (by omega))
        clear hcell hfrz HR HT
        by_cases h12 : 12 ≤ k'
        · by_cases ho : 2048 ≤ ov
          all_goals
            go_wp2
            go_ret
            have E := HT2.out.end3 h2 (.inl h12) (by omega) (or_two (↑k' - 1) (k' - 1) (by omega) (by omega)) rfl rfl (by omega)
            exact ⟨ret_int (by rw [E.1]; show (i : Int) + 3 = _; omega), E.2⟩
        · by_cases ho : 2048 ≤ ov
          · go_wp2
            go_ret
            have E := HT2.out.end3 h2 (.inr ho) (by omega) (or_two (↑k' - 1) (k' - 1) (by omega) (by omega)) rfl rfl (by omega)
            exact ⟨ret_int (by rw [E.1]; show (i : Int) + 3 = _; omega), E.2⟩
          · go_wp2
            go_ret
            have E := HT2.out.end2 (by omega) (by omega) (or_one ↑ov (↑k' - 4) ov (k' - 4) rfl (by omega) (by omega) (by omega)) rfl hk4
            exact ⟨ret_int (by rw [E.1]; show (i : Int) + 2 = _; omega), E.2⟩

end Go.Proofs.YtbhcdkbcbcmomaaDoor
