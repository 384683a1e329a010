/- WALKS OF THE REFERENCE'S DECODER, the fourth text: copied. -/
import Derived.Test.YtbhcdkbcbcmomaaDoorDc
namespace Go.Proofs.YtbhcdkbcbcmomaaDoor
open Go.RowKit

theorem and7 (x : Int) (a : Nat) (hx : x = (a : Int)) (ha : a < 64) : bits .and .i64 x 7 = ((a % 8 : Nat) : Int) := by
  subst hx
  have h : ∀ m : Fin 64, bits .and .i64 (m.val : Int) 7 = ((m.val % 8 : Nat) : Int) := by decide +kernel
  exact h ⟨a, ha⟩

set_option maxRecDepth 100000 in
set_option maxHeartbeats 2000000 in
theorem copied_two (w0 : World) (rb db dof n c p ov k : Nat) (l out : List UInt8) (w : World) (hst : Hid (RdSt w0 rb (.slice (some ⟨db, dof, none⟩) n c) out p w)) (hl : Hid (l.length = n)) (hn : n ≤ 100000) (hsrc : Hid (Src w0 db dof l)) (hdb : db < rb)
    (h1 : 1 ≤ ov) (h2 : ov ≤ out.length) (hov : ov ≤ 65535) (hk1 : 1 ≤ k) (hk : k ≤ 64) (hout : out.length + k ≤ 100000) (hp : p + 2 ≤ n) (hx : Hid ((l.getD p 0).toNat = ov % 256)) (hy : Hid ((l.getD (p + 1) 0).toNat = ov / 256)) :
    Calls Tryd.prog 14 #[.pointer (some ⟨rb, 0, none⟩), .int .i64 (((k - 1) * 4 + 2 : Nat) : Int), .int .i64 2] w (RdEnd w0 rb (.slice (some ⟨db, dof, none⟩) n c) (Sn.copyOut ov k out) (p + 2)) := by
  obtain ⟨oval, hb, hown, hbel⟩ := hst.out
  have c0 : w.cell? ⟨rb, 0, none⟩ = some (.slice (some ⟨db, dof, none⟩) n c) := hb.cell 0
  have c1 : w.cell? ⟨rb, 1, none⟩ = some (.int .i64 (p : Int)) := hb.cell 1
  have f1 := hb.frozen 1
  have HS := Lib.hid (src_below hsrc.out hbel hdb)
  have hlen := hl.out
  have cx := HS.out p (by omega)
  have cy := HS.out (p + 1) (by omega)
  rw [hx.out] at cx
  rw [hy.out] at cy
  have HC := Lib.hid (little_two rb db dof n c p (ov % 256) (ov / 256) oval (.int .i64 0) w hb (by omega) hn (by omega) (by omega) cx cy c0 c1 f1)
  have HR : Hid (∀ w2, Blk w2 rb 38 [.slice (some ⟨db, dof, none⟩) n c, .int .i64 ((p + 2 : Nat) : Int), oval, .int .i64 0] → w.grownBy w2 (some rb) → RdSt w0 rb (.slice (some ⟨db, dof, none⟩) n c) out (p + 2) w2) :=
    fun w2 h1 h2 => RdSt.little (p := p) hown hbel hb.lt h1 h2 (by omega)
  obtain ⟨f, hf⟩ : ∃ f, f = (k - 1) * 4 + 2 := ⟨_, rfl⟩
  rw [← hf]
  have hf1 : f / 4 + 1 ≤ k := by omega
  have hf2 : k ≤ f / 4 + 1 := by omega
  clear hb hown hbel hlen cx cy c0 c1 f1 HS hf hst
  go_enter Tryd.func14, Tryd.ntmps14
  go_wp2_with fail
  (with_reducible refine HC.out.mono ?_)
  rintro _ w2 ⟨rfl, hb2, hg2⟩
  have HD := Lib.hid (HR.out w2 hb2 hg2)
  clear HC HR hg2 hb2
  obtain ⟨ov2, hb, hown, hbel⟩ := HD.out
  have c2 : w2.cell? ⟨rb, 2, none⟩ = some ov2 := hb.cell 2
  have hv2 : ∃ A cap, ov2 = .slice A out.length cap := by
    obtain ⟨g, cap, e, _⟩ := hown.form (by omega)
    exact ⟨_, _, e⟩
  obtain ⟨A, cap, rfl⟩ := hv2
  have a1 : ((ov % 256 : Nat) : Int) + ((ov / 256 : Nat) : Int) * 256 = (ov : Int) := by omega
  have a2 : ((ov : Int) == 0) = false := by rw [beq_eq_false_iff_ne]; omega
  clear hb hown hbel
  rw [a1]
  clear a1
  go_upto_block 0 with fail
  rw [show ((f : Int) / 4 + 1) = (k : Int) from by omega]
  (with_reducible refine wp_block ?_)
  refine copy_loop w0 rb (p + 2) ov k _ out _ _ h1 h2 hout w2 HD _ _ _ _ _ _ _ _ _ _ _ _ _ _ _ _ _ _ _ _ _ _ _ _ _ _ _ _ _ _ _ _ _ _ _ _ _ _ _ _ _ _ _ _ _ _ _ _ _ _ _ _ _ _ _ _ _ _ _ _ _ _ _ _ _ _ _ _ _ ?_
  unfold Hid
  intro _x9 _x46 _x47 _x48 _x49 _x50 _x51 _x52 _x53 _x54 _x55 _x56 _x57 _x58 _x59 _x60 _x61 _x62 _x63 _x64 _x65 _x66 _x67 _x68 _x69 _x70 _x71 w' hr
  have HR2 := Lib.hid hr
  clear hr
  go_wp2_with fail
  go_ret
  exact ⟨rfl, HR2.out⟩

set_option maxRecDepth 100000 in
set_option maxHeartbeats 2000000 in
theorem copied_one (w0 : World) (rb db dof n c p ov k : Nat) (l out : List UInt8) (w : World) (hst : Hid (RdSt w0 rb (.slice (some ⟨db, dof, none⟩) n c) out p w)) (hl : Hid (l.length = n)) (hn : n ≤ 100000) (hsrc : Hid (Src w0 db dof l)) (hdb : db < rb)
    (h1 : 1 ≤ ov) (h2 : ov ≤ out.length) (hov : ov < 2048) (hk1 : 4 ≤ k) (hk : k < 12) (hout : out.length + k ≤ 100000) (hp : p + 1 ≤ n) (hx : Hid ((l.getD p 0).toNat = ov % 256)) :
    Calls Tryd.prog 14 #[.pointer (some ⟨rb, 0, none⟩), .int .i64 ((ov / 256 * 32 + (k - 4) * 4 + 1 : Nat) : Int), .int .i64 1] w (RdEnd w0 rb (.slice (some ⟨db, dof, none⟩) n c) (Sn.copyOut ov k out) (p + 1)) := by
  obtain ⟨oval, hb, hown, hbel⟩ := hst.out
  have c0 : w.cell? ⟨rb, 0, none⟩ = some (.slice (some ⟨db, dof, none⟩) n c) := hb.cell 0
  have c1 : w.cell? ⟨rb, 1, none⟩ = some (.int .i64 (p : Int)) := hb.cell 1
  have f1 := hb.frozen 1
  have HS := Lib.hid (src_below hsrc.out hbel hdb)
  have hlen := hl.out
  have cx := HS.out p (by omega)
  obtain ⟨lo, hlo⟩ : ∃ lo, lo = ov % 256 := ⟨_, rfl⟩
  rw [hx.out, ← hlo] at cx
  have HC := Lib.hid (little_one rb db dof n c p lo oval (.int .i64 0) w hb (by omega) hn (by omega) cx c0 c1 f1)
  have HR : Hid (∀ w2, Blk w2 rb 38 [.slice (some ⟨db, dof, none⟩) n c, .int .i64 ((p + 1 : Nat) : Int), oval, .int .i64 0] → w.grownBy w2 (some rb) → RdSt w0 rb (.slice (some ⟨db, dof, none⟩) n c) out (p + 1) w2) :=
    fun w2 h1 h2 => RdSt.little (p := p) hown hbel hb.lt h1 h2 (by omega)
  obtain ⟨f, hf⟩ : ∃ f, f = ov / 256 * 32 + (k - 4) * 4 + 1 := ⟨_, rfl⟩
  rw [← hf]
  have hf1 : f / 4 % 8 + 4 = k := by omega
  have hf2 : f / 32 = ov / 256 := by omega
  have hf3 : f < 256 := by omega
  have e7 : bits .and .i64 ((f : Int) / 4) 7 = ((f / 4 % 8 : Nat) : Int) := and7 _ (f / 4) (by omega) (by omega)
  have hf4 : lo + f / 32 * 256 ≤ ov := by omega
  have hf5 : ov ≤ lo + f / 32 * 256 := by omega
  have hf6 : f / 32 < 8 := by omega
  have hf7 : 0 ≤ bits .and .i64 ((f : Int) / 4) 7 ∧ bits .and .i64 ((f : Int) / 4) 7 ≤ 7 := by rw [e7]; omega
  clear hlo
  have HF1 := Lib.hid hf1
  have HF2 := Lib.hid hf2
  have HE7 := Lib.hid e7
  clear hf1 hf2 e7
  clear hb hown hbel hlen cx c0 c1 f1 HS hf hst
  go_enter Tryd.func14, Tryd.ntmps14
  go_wp2_with fail
  (with_reducible refine HC.out.mono ?_)
  rintro _ w2 ⟨rfl, hb2, hg2⟩
  have HD := Lib.hid (HR.out w2 hb2 hg2)
  clear HC HR hg2 hb2
  obtain ⟨ov2, hb, hown, hbel⟩ := HD.out
  have c2 : w2.cell? ⟨rb, 2, none⟩ = some ov2 := hb.cell 2
  have hv2 : ∃ A cap, ov2 = .slice A out.length cap := by
    obtain ⟨g, cap, e, _⟩ := hown.form (by omega)
    exact ⟨_, _, e⟩
  obtain ⟨A, cap, rfl⟩ := hv2
  have a2 : ((lo : Int) + (f : Int) / 32 * 256 == 0) = false := by rw [beq_eq_false_iff_ne]; omega
  clear hb hown hbel
  go_upto_block 0 with fail
  rw [show ((lo : Int) + (f : Int) / 32 * 256) = (ov : Int) from by omega, HE7.out, show (((f / 4 % 8 : Nat) : Int) + 4) = (k : Int) from by have := HF1.out; omega]
  (with_reducible refine wp_block ?_)
  refine copy_loop w0 rb (p + 1) ov k _ out _ _ h1 h2 hout w2 HD _ _ _ _ _ _ _ _ _ _ _ _ _ _ _ _ _ _ _ _ _ _ _ _ _ _ _ _ _ _ _ _ _ _ _ _ _ _ _ _ _ _ _ _ _ _ _ _ _ _ _ _ _ _ _ _ _ _ _ _ _ _ _ _ _ _ _ _ _ ?_
  unfold Hid
  intro _x9 _x46 _x47 _x48 _x49 _x50 _x51 _x52 _x53 _x54 _x55 _x56 _x57 _x58 _x59 _x60 _x61 _x62 _x63 _x64 _x65 _x66 _x67 _x68 _x69 _x70 _x71 w' hr
  have HR2 := Lib.hid hr
  clear hr
  go_wp2_with fail
  go_ret
  exact ⟨rfl, HR2.out⟩

end Go.Proofs.YtbhcdkbcbcmomaaDoor
