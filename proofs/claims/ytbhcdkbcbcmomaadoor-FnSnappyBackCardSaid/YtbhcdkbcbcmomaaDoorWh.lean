/- WALKS, the seventh text: Encode, SnappyEncode, SnappyMost. -/
import Derived.Test.YtbhcdkbcbcmomaaDoorWg
namespace Go.Proofs.YtbhcdkbcbcmomaaDoor
open Go.RowKit

/-- What Encode hands back: its bytes in a new block. -/
def EncOut (w : World) (l : List UInt8) (e : Ending) (w' : World) : Prop :=
  ∃ (g K : Nat) (cb : List UInt8), e = .returned (.slice (some ⟨g, 0, none⟩) (Sn.uv l.length ++ cb).length K) ∧ Sn.Steps cb [] l ∧ (Sn.uv l.length ++ cb).length ≤ K ∧ K = 32 + l.length + l.length / 6 ∧
    w.heap.size ≤ g ∧ g < w'.heap.size ∧ Src w' g 0 (Sn.uv l.length ++ cb) ∧ w.grownBy w' none

theorem most_at (x : Int) (n : Nat) (w : World) (hx : x = (n : Int)) (hn : n ≤ 100000) :
    Calls Tryd.prog 15 #[.int .i64 x] w fun e w' => e = .returned (.int .i64 ((32 + n + n / 6 : Nat) : Int)) ∧ w = w' := by
  subst hx
  exact most_any n w hn

theorem putuv_at (g off m c : Nat) (y : Int) (x : Nat) (cur : List Value) (w : World) (hy : y = (x : Int)) (hx : x ≤ 40000) (hm : 4 ≤ m) (hmc : m ≤ c) (hg : Blk w g 5 cur) (hfit : off + 4 ≤ cur.length) :
    Calls Tryd.prog 17 #[.slice (some ⟨g, off, none⟩) m c, .int .u64 y] w (LitEnd w g off (Sn.uv x).length cur (bv (Sn.uv x))) := by
  subst hy
  exact putuv_any g off m c x cur w hx hm hmc hg hfit

theorem u8_info : (Tryd.prog.info? 5).map (fun i => (i.zero, i.size, i.bytes)) = some (some (.int .u8 0), 1, 1) := by kernel_rfl

theorem run_make22 (K : Nat) (hK : K ≤ 1000000) (w : World) : (Instr.makeSlice 22 (.int .i64 (K : Int)) (.int .i64 (K : Int))).run Tryd.prog w = .ok (.slice (some ⟨w.heap.size, 0, none⟩) K K) (w.alloc (.cells (madeCells #[.int .u8 0] K) 5)) := by
  obtain ⟨i0, hi, hz0, hz1, hz2⟩ := info_parts u8_info
  have h := run_make (P := Tryd.prog) w 22 5 i0 (.int .u8 0) Tryd.underlying22 hi hz0 .i64 .i64 K K (by omega) (by omega) (by rw [hz2]; omega) (by omega)
  rw [h, hz1]
  simp
  rfl

theorem src_of_blk {w : World} {g : Nat} {cur : List Value} {out : List UInt8} (h : Blk w g 5 (splice cur 0 (bv out))) (hf : out.length ≤ cur.length) : Src w g 0 out := by
  intro j hj
  rw [Nat.zero_add, h.cell j]
  unfold splice
  rw [List.take_zero, List.nil_append, List.getElem?_append_left (by rw [bv_length]; exact hj)]
  exact bv_get out j hj

theorem src_grown_none {w w' : World} {bs os : Nat} {l : List UInt8} (h : Src w bs os l) (hg : w.grownBy w' none) : Src w' bs os l := by
  intro j hj
  exact hg.cell (h j hj) (by simp)

theorem grow_fresh {w w1 w2 : World} {g : Nat} (h : w.grownBy w1 none) (k : w1.grownBy w2 (some g)) (hg : w.heap.size ≤ g) : w.grownBy w2 none :=
  ⟨k.os.trans h.os, k.tape.trans h.tape, k.output.trans h.output, Nat.le_trans h.size k.size,
    fun i hi _ => (k.block i (Nat.lt_of_lt_of_le hi h.size) (fun e => by injection e with e; omega)).trans (h.block i hi (by simp))⟩

theorem enc_end {w w2 w3 : World} {g K n h k : Nat} {l U cb : List UInt8} {cur0 : List Value} (hl : l.length = n) (hU : U = Sn.uv n) (hh : h = U.length) (hk : k = cb.length) (hK : K = 32 + n + n / 6) (hst : Sn.Steps cb [] l)
    (hp : Put w2 g h (splice cur0 0 (bv U)) (bv cb) w3) (hg12 : w.grownBy w2 none) (hcl : cur0.length = K) (hg1 : w.heap.size ≤ g) (hle : h + k ≤ K) :
    EncOut w l (.returned (.slice (some ⟨g, 0, none⟩) (h + k) K)) w3 := by
  subst hU
  subst hh
  subst hk
  have hb := hp.1
  rw [show (Sn.uv n).length = 0 + (bv (Sn.uv n)).length from by rw [bv_length]; omega, splice_splice _ _ _ _ (by rw [bv_length, bv_length]; omega), ← bv_append] at hb
  refine ⟨g, K, cb, ?_, hst, ?_, ?_, hg1, hb.lt, ?_, grow_fresh hg12 hp.2 hg1⟩
  · rw [hl, List.length_append]
  · rw [hl, List.length_append]; exact hle
  · rw [hl]; exact hK
  · rw [hl]
    exact src_of_blk hb (by rw [List.length_append]; omega)

theorem enc_end0 {w w2 w3 : World} {g K : Nat} {U : List UInt8} {cur0 : List Value} (hU : U = Sn.uv 0) (hK : K = 32)
    (hp : Put w2 g 0 cur0 (bv U) w3) (hg12 : w.grownBy w2 none) (hcl : cur0.length = K) (hg1 : w.heap.size ≤ g) (hle : U.length ≤ K) :
    EncOut w [] (.returned (.slice (some ⟨g, 0, none⟩) U.length K)) w3 := by
  subst hU
  refine ⟨g, K, [], ?_, Sn.Steps.nil [], ?_, ?_, hg1, hp.1.lt, ?_, grow_fresh hg12 hp.2 hg1⟩
  · simp
  · simpa using hle
  · simpa using hK
  · have := src_of_blk hp.1 (by omega)
    simpa using this

set_option maxRecDepth 100000 in
set_option maxHeartbeats 800000 in
theorem enc_some (bs os sc n : Nat) (l : List UInt8) (w : World) (hl : Hid (l.length = n)) (h1 : 1 ≤ n) (hn : n ≤ 40000) (hsc : n ≤ sc) (hsc2 : sc ≤ 140737488351232) (hsrc : Hid (Src w bs os l)) (hbs : bs < w.heap.size) :
    Calls Tryd.prog 11 #[.slice none 0 0, .slice (some ⟨bs, os, none⟩) n sc] w (EncOut w l) := by
  go_enter Tryd.func11, Tryd.ntmps11
  go_wp2_with fail
  (with_reducible refine (most_at _ n _ ?_ ?_).mono ?_)
  · omega
  · omega
  rintro _ _ ⟨rfl, rfl⟩
  obtain ⟨K, hK⟩ : ∃ K, K = 32 + n + n / 6 := ⟨_, rfl⟩
  rw [← hK]
  have HK := Lib.hid hK
  have hK1 : 32 + n + n / 6 ≤ K := by omega
  have hK2 : K ≤ 32 + n + n / 6 := by omega
  clear hK
  have hmk := run_make22 K (by omega)
  go_wp2_with fail
  clear hmk
  obtain ⟨g, hg⟩ : ∃ g, g = w.heap.size := ⟨_, rfl⟩
  rw [← hg]
  obtain ⟨wA, hA⟩ : ∃ wA, wA = w.alloc (Obj.cells (madeCells #[Value.int IntKind.u8 0] K) 5) := ⟨_, rfl⟩
  rw [← hA]
  have hB : Blk wA g 5 (madeCells #[Value.int IntKind.u8 0] K).toList := by
    rw [hA, hg]
    have := Blk.new w 5 (madeCells #[Value.int IntKind.u8 0] K).toList
    simpa using this
  have hgA : w.grownBy wA none := by rw [hA]; exact World.grownBy_alloc w _ _
  have hcl : (madeCells #[Value.int IntKind.u8 0] K).toList.length = K := by rw [Array.length_toList, size_madeCells]
  obtain ⟨cur0, hc0⟩ : ∃ c, c = (madeCells #[Value.int IntKind.u8 0] K).toList := ⟨_, rfl⟩
  rw [← hc0] at hB hcl
  have hg1 : w.heap.size ≤ g := by omega
  have hg2 : g ≤ w.heap.size := by omega
  clear hc0 hA hg
  have hh3 := Sn.uv_le3 n hn
  have HC := Lib.hid (putuv_at g 0 K K (n : Int) n cur0 wA rfl hn (by omega) (Nat.le_refl _) hB (by omega))
  obtain ⟨U, hU⟩ : ∃ U, U = Sn.uv n := ⟨_, rfl⟩
  have HU := Lib.hid hU
  rw [← hU] at HC hh3
  clear hU
  (with_reducible refine HC.out.mono ?_)
  rintro _ w2 ⟨rfl, hp⟩
  have hB2 := hp.1
  have hg12 := grow_fresh hgA hp.2 hg1
  have hlt : g < w2.heap.size := hB2.lt
  have hl2 : (splice cur0 0 (bv U)).length = K := by rw [length_splice _ _ _ (by rw [bv_length]; omega), hcl]
  have hsrc2 := Lib.hid (src_grown_none hsrc.out hg12)
  by_cases h17 : 17 ≤ n
  · have HB := Lib.hid (block_any g U.length (K - U.length) (K - U.length) bs os sc n l (splice cur0 0 (bv U)) w2 hl h17 hn hsc hsc2 (by omega) (Nat.le_refl _) (by omega) hB2 (by omega) hsrc2 (by omega) hlt)
    have Hg12 := Lib.hid hg12
    have Hcl := Lib.hid hcl
    obtain ⟨h, hh⟩ : ∃ h, h = U.length := ⟨_, rfl⟩
    have Hh := Lib.hid hh
    rw [← hh] at HB hh3
    rw [← hh]
    clear hp hB2 hg12 HC hB hgA hcl hl2 hh
    go_wp2_with fail
    refine wp_loop_rounds 2 ?_
    rw [rounds_succ]
    go_wp2_with fail
    (with_reducible refine HB.out.mono ?_)
    rintro _ w3 ⟨cb, rfl, hst, hcost, hp3⟩
    have hcost2 : 6 * cb.length ≤ 7 * n + 18 := by have := hl.out; omega
    have Hst := Lib.hid hst
    have HP : Hid (Put w2 g h (splice cur0 0 (bv U)) (bv cb) w3) := hp3
    obtain ⟨k, hk⟩ : ∃ k, k = cb.length := ⟨_, rfl⟩
    have Hk := Lib.hid hk
    rw [← hk] at hcost2
    rw [← hk]
    clear hst hcost hp3 hk HB hsrc2
    go_wp2_with fail
    rw [rounds_succ]
    go_wp2_with fail
    go_ret
    exact enc_end hl.out HU.out Hh.out Hk.out HK.out Hst.out HP.out Hg12.out Hcl.out hg1 (by omega)
  · have HB := Lib.hid (lit_at g U.length (K - U.length) (K - U.length) bs os sc n l (splice cur0 0 (bv U)) w2 hl.out h1 (by omega) (by omega) (Nat.le_refl _) hB2 (by omega) hsrc2.out (by omega))
    have Hg12 := Lib.hid hg12
    have Hcl := Lib.hid hcl
    obtain ⟨h, hh⟩ : ∃ h, h = U.length := ⟨_, rfl⟩
    have Hh := Lib.hid hh
    rw [← hh] at HB hh3
    rw [← hh]
    clear hp hB2 hg12 HC hB hgA hcl hl2 hh
    go_wp2_with fail
    refine wp_loop_rounds 2 ?_
    rw [rounds_succ]
    go_wp2_with fail
    (with_reducible refine HB.out.mono ?_)
    rintro _ w3 ⟨rfl, hp3⟩
    obtain ⟨cb, hcb⟩ : ∃ cb, cb = Sn.litB l := ⟨_, rfl⟩
    have hcost2 : cb.length ≤ n + 3 := by have := hl.out; have := Sn.litB_le l; rw [hcb]; omega
    have Hst : Hid (Sn.Steps cb [] l) := by
      have := Sn.litB_steps l [] (by have := hl.out; omega) (by have := hl.out; omega)
      rw [hcb]
      rwa [List.nil_append] at this
    rw [← hcb] at hp3
    rw [← hcb]
    clear hcb
    have HP : Hid (Put w2 g h (splice cur0 0 (bv U)) (bv cb) w3) := hp3
    obtain ⟨k, hk⟩ : ∃ k, k = cb.length := ⟨_, rfl⟩
    have Hk := Lib.hid hk
    rw [← hk] at hcost2
    rw [← hk]
    clear hp3 hk HB hsrc2
    go_wp2_with fail
    rw [rounds_succ]
    go_wp2_with fail
    go_ret
    exact enc_end hl.out HU.out Hh.out Hk.out HK.out Hst.out HP.out Hg12.out Hcl.out hg1 (by omega)

set_option maxRecDepth 100000 in
set_option maxHeartbeats 800000 in
theorem enc_none (sa : Option Addr) (sc : Nat) (w : World) : Calls Tryd.prog 11 #[.slice none 0 0, .slice sa 0 sc] w (EncOut w []) := by
  go_enter Tryd.func11, Tryd.ntmps11
  go_wp2_with fail
  (with_reducible refine (most_at _ 0 _ ?_ ?_).mono ?_)
  · omega
  · omega
  rintro _ _ ⟨rfl, rfl⟩
  obtain ⟨K, hK⟩ : ∃ K, K = 32 + 0 + 0 / 6 := ⟨_, rfl⟩
  rw [← hK]
  have HK := Lib.hid hK
  have hK1 : 32 ≤ K := by omega
  have hK2 : K ≤ 32 := by omega
  clear hK
  have hmk := run_make22 K (by omega)
  go_wp2_with fail
  clear hmk
  obtain ⟨g, hg⟩ : ∃ g, g = w.heap.size := ⟨_, rfl⟩
  rw [← hg]
  obtain ⟨wA, hA⟩ : ∃ wA, wA = w.alloc (Obj.cells (madeCells #[Value.int IntKind.u8 0] K) 5) := ⟨_, rfl⟩
  rw [← hA]
  have hB : Blk wA g 5 (madeCells #[Value.int IntKind.u8 0] K).toList := by
    rw [hA, hg]
    have := Blk.new w 5 (madeCells #[Value.int IntKind.u8 0] K).toList
    simpa using this
  have hgA : w.grownBy wA none := by rw [hA]; exact World.grownBy_alloc w _ _
  have hcl : (madeCells #[Value.int IntKind.u8 0] K).toList.length = K := by rw [Array.length_toList, size_madeCells]
  obtain ⟨cur0, hc0⟩ : ∃ c, c = (madeCells #[Value.int IntKind.u8 0] K).toList := ⟨_, rfl⟩
  rw [← hc0] at hB hcl
  have hg1 : w.heap.size ≤ g := by omega
  clear hc0 hA hg
  have hh3 := Sn.uv_le3 0 (by omega)
  have HC := Lib.hid (putuv_at g 0 K K 0 0 cur0 wA rfl (by omega) (by omega) (Nat.le_refl _) hB (by omega))
  obtain ⟨U, hU⟩ : ∃ U, U = Sn.uv 0 := ⟨_, rfl⟩
  have HU := Lib.hid hU
  rw [← hU] at HC hh3
  clear hU
  (with_reducible refine HC.out.mono ?_)
  rintro _ w2 ⟨rfl, hp⟩
  have HP := Lib.hid hp
  have HgA := Lib.hid hgA
  have Hcl := Lib.hid hcl
  obtain ⟨h, hh⟩ : ∃ h, h = U.length := ⟨_, rfl⟩
  have Hh := Lib.hid hh
  rw [← hh] at hh3
  rw [← hh]
  clear hp HC hB hgA hcl hh
  go_wp2_with fail
  refine wp_loop_rounds 1 ?_
  rw [rounds_succ]
  go_wp2_with fail
  go_ret
  have E := enc_end0 HU.out (by omega) HP.out HgA.out Hcl.out hg1 (by rw [← Hh.out]; omega)
  rw [← Hh.out] at E
  exact E

end Go.Proofs.YtbhcdkbcbcmomaaDoor
