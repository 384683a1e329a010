/- WALKS, the sixth text: PutUvarint, Encode, SnappyEncode, SnappyMost. -/
import Derived.Test.YtbhcdkbcbcmomaaDoorWf
import Derived.Lib.Varint
namespace Go.Proofs.YtbhcdkbcbcmomaaDoor
open Go.RowKit

/-- What holds at the head of PutUvarint's loop. -/
def UvRel (w : World) (g off x : Nat) (cur : List Value) (i y : Nat) (wr : World) : Prop :=
  ∃ pre, pre.length = i ∧ Sn.uv x = pre ++ Sn.uv y ∧ Blk wr g 5 (splice cur off (bv pre)) ∧ w.grownBy wr (some g)

theorem UvRel.step {w wr : World} {g off x : Nat} {cur : List Value} {i y : Nat} (h : UvRel w g off x cur i y wr) (hy : 128 ≤ y) (hf : off + i + 1 ≤ cur.length) {z : Int} (hz : z = ((y % 128 + 128 : Nat) : Int)) :
    UvRel w g off x cur (i + 1) (y / 128) (wr.setCell ⟨g, off + i, none⟩ (.int .u8 z)) := by
  obtain ⟨pre, hi, he, hb, hg⟩ := h
  exact ⟨pre ++ [Sn.b8 (y % 128 + 128)], by simp [hi], by rw [he, Sn.uv_big hy]; simp, put_one hb hi hf z (by rw [hz, Sn.b8_toNat]; omega), grow_at hg _ _⟩
theorem UvRel.last {w wr : World} {g off x : Nat} {cur : List Value} {i y : Nat} (h : UvRel w g off x cur i y wr) (hy : y < 128) (hf : off + i + 1 ≤ cur.length) {z : Int} (hz : z = (y : Int)) :
    (Sn.uv x).length = i + 1 ∧ Put w g off cur (bv (Sn.uv x)) (wr.setCell ⟨g, off + i, none⟩ (.int .u8 z)) := by
  obtain ⟨pre, hi, he, hb, hg⟩ := h
  rw [he, Sn.uv_small hy]
  exact ⟨by simp [hi], put_one hb hi hf z (by rw [hz, Sn.b8_toNat]; omega), grow_at hg _ _⟩
theorem UvRel.room {w wr : World} {g off x : Nat} {cur : List Value} {i y : Nat} (h : UvRel w g off x cur i y wr) : i + (Sn.uv y).length = (Sn.uv x).length := by
  obtain ⟨pre, hi, he, hb, hg⟩ := h
  rw [he, List.length_append, hi]
theorem UvRel.cells {w wr : World} {g off x : Nat} {cur : List Value} {i y : Nat} (h : UvRel w g off x cur i y wr) (hf : off + i + 1 ≤ cur.length) : (∃ v, wr.cell? ⟨g, off + i, none⟩ = some v) ∧ wr.frozen? ⟨g, off + i, none⟩ = false := by
  obtain ⟨pre, hi, he, hb, hg⟩ := h
  exact ⟨hb.cell_at _ (by rw [length_splice _ _ _ (by rw [bv_length]; omega)]; omega), hb.frozen _⟩

set_option maxRecDepth 100000 in
set_option maxHeartbeats 400000 in
theorem putuv_any (g off m c x : Nat) (cur : List Value) (w : World) (hx : x ≤ 40000) (hm : 4 ≤ m) (hmc : m ≤ c) (hg : Hid (Blk w g 5 cur)) (hfit : off + 4 ≤ cur.length) :
    Calls Tryd.prog 17 #[.slice (some ⟨g, off, none⟩) m c, .int .u64 (x : Int)] w (LitEnd w g off (Sn.uv x).length cur (bv (Sn.uv x))) := by
  have hl3 := Sn.uv_le3 x hx
  go_enter Tryd.func17, Tryd.ntmps17
  go_wp2
  go_loopw [1, 5] (fun vx vi wr => ∃ i y : Nat, vi = .int .i64 (i : Int) ∧ vx = .int .u64 (y : Int) ∧ y ≤ x ∧ UvRel w g off x cur i y wr) (fun vx _ _ => (intOf vx).toNat)
  case atStart =>
    refine ⟨0, x, rfl, rfl, Nat.le_refl _, [], rfl, rfl, ?_, grow_refl w _⟩
    have e : splice cur off (bv []) = cur := by simp [splice, bv]
    rw [e]
    exact hg.out
  case round =>
    obtain ⟨i, y, rfl, rfl, hy, hrel⟩ := hrel
    have hroom := hrel.room
    have hpos := Sn.uv_pos y
    have hi3 : i ≤ 2 := by omega
    obtain ⟨⟨v, hc⟩, hf⟩ := hrel.cells (by omega)
    have HR := Lib.hid hrel
    clear hrel hroom hpos
    by_cases h128 : 128 ≤ y
    · have hor : bits .or .u8 ((y : Int) % 256) 128 = ((y % 128 + 128 : Nat) : Int) := by
        rw [Lib.u8_or128_any _ (by omega) (by omega)]
        omega
      have HO := Lib.hid hor
      clear hor
      go_wp2
      go_roundw
      case rel => exact ⟨i + 1, y / 128, by go_num, by go_num, by omega, HR.out.step h128 (by omega) HO.out⟩
      case measure => simp [intOf]; omega
    · go_wp2
      go_ret
      have E := HR.out.last (by omega) (by omega) (z := (y : Int)) rfl
      exact ⟨ret_int (by rw [E.1]; show (i : Int) + 1 = _; omega), E.2⟩

end Go.Proofs.YtbhcdkbcbcmomaaDoor
