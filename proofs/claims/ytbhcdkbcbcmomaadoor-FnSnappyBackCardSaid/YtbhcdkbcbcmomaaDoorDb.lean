/- WALKS OF THE REFERENCE'S DECODER, the second text: literal. -/
import Derived.Test.YtbhcdkbcbcmomaaDoorDa
import Derived.Test.YtbhcdkbcbcmomaaDoorPd
namespace Go.Proofs.YtbhcdkbcbcmomaaDoor
open Go.RowKit

set_option maxRecDepth 100000 in
set_option maxHeartbeats 2000000 in
theorem literal_any (w0 : World) (rb db dof n c p f k p2 : Nat) (l out : List UInt8) (w : World) (hst : Hid (RdSt w0 rb (.slice (some ⟨db, dof, none⟩) n c) out p w)) (hl : Hid (l.length = n)) (hn : n ≤ 100000) (hnc : n ≤ c) (hc : c ≤ 140737488351232) (hsrc : Hid (Src w0 db dof l)) (hdb : db < rb)
    (hd : Hid (LitHd l p f k p2)) (hf : f < 256) (hk2 : p2 + k ≤ n) (hout : out.length ≤ 100000) :
    Calls Tryd.prog 13 #[.pointer (some ⟨rb, 0, none⟩), .int .i64 (f : Int)] w (RdEnd w0 rb (.slice (some ⟨db, dof, none⟩) n c) (out ++ (l.drop p2).take k) (p2 + k)) := by
  obtain ⟨i0, hi, hz0, hz1, hz2⟩ := info_parts u8_infoD
  have HI := Lib.hid hi
  have HZ0 := Lib.hid hz0
  have HZ1 := Lib.hid hz1
  have HZ2 := Lib.hid hz2
  clear hi hz0 hz1 hz2
  go_enter Tryd.func13, Tryd.ntmps13
  go_upto_if 12 with fail
  go_cut [5] from 8 (fun vk wx => vk = .int .i64 (k : Int) ∧ Hid (RdSt w0 rb (.slice (some ⟨db, dof, none⟩) n c) out p2 wx))
  case first =>
    obtain ⟨ov, hb, hown, hbel⟩ := hst.out
    have c0 : w.cell? ⟨rb, 0, none⟩ = some (.slice (some ⟨db, dof, none⟩) n c) := hb.cell 0
    have c1 : w.cell? ⟨rb, 1, none⟩ = some (.int .i64 (p : Int)) := hb.cell 1
    have f1 := hb.frozen 1
    have HB := Lib.hid hb
    have HS := Lib.hid (src_below hsrc.out hbel hdb)
    have hlen := hl.out
    have hpn : p < n ∨ n ≤ p := by omega
    rcases hd.out with ⟨h1, h2, h3⟩ | ⟨rfl, h3, h2⟩ | ⟨rfl, h3, h2⟩
    · have H2 := Lib.hid h2
      have H3 := Lib.hid h3
      clear h2 h3 hb hown hbel hlen
      go_wp2_with fail
      go_meet
      case rel => exact ⟨by rw [H2.out]; go_num, by rw [H3.out]; exact hst⟩
    · have cx := HS.out p (by omega)
      obtain ⟨x, hx⟩ : ∃ x, x = (l.getD p 0).toNat := ⟨_, rfl⟩
      have hx256 : x < 256 := by rw [hx]; exact UInt8.toNat_lt _
      rw [← hx] at cx h2
      clear hx
      have HC := Lib.hid (little_one rb db dof n c p x ov (.int .i64 0) w HB (by omega) hn hx256 cx c0 c1 f1)
      have HR : Hid (∀ w2, Blk w2 rb 38 [.slice (some ⟨db, dof, none⟩) n c, .int .i64 ((p + 1 : Nat) : Int), ov, .int .i64 0] → w.grownBy w2 (some rb) → RdSt w0 rb (.slice (some ⟨db, dof, none⟩) n c) out (p + 1) w2) :=
        fun w2 h1 h2 => RdSt.little (p := p) hown hbel hb.lt h1 h2 (by omega)
      have H2 := Lib.hid h2
      have H3 := Lib.hid h3
      clear h2 h3 hb hown hbel hlen
      go_wp2_with (go_at_call 20; (with_reducible refine HC.out.mono ?_); rintro e w2 ⟨rfl, hb2, hg2⟩)
      go_meet
      case rel => exact ⟨by rw [H2.out]; go_num, by rw [H3.out]; exact HR.out w2 hb2 hg2⟩
    · have cx := HS.out p (by omega)
      have cy := HS.out (p + 1) (by omega)
      obtain ⟨x, hx⟩ : ∃ x, x = (l.getD p 0).toNat := ⟨_, rfl⟩
      obtain ⟨y, hy⟩ : ∃ y, y = (l.getD (p + 1) 0).toNat := ⟨_, rfl⟩
      have hx256 : x < 256 := by rw [hx]; exact UInt8.toNat_lt _
      have hy256 : y < 256 := by rw [hy]; exact UInt8.toNat_lt _
      rw [← hx] at cx h2
      rw [← hy] at cy h2
      clear hx hy
      have HC := Lib.hid (little_two rb db dof n c p x y ov (.int .i64 0) w HB (by omega) hn hx256 hy256 cx cy c0 c1 f1)
      have HR : Hid (∀ w2, Blk w2 rb 38 [.slice (some ⟨db, dof, none⟩) n c, .int .i64 ((p + 2 : Nat) : Int), ov, .int .i64 0] → w.grownBy w2 (some rb) → RdSt w0 rb (.slice (some ⟨db, dof, none⟩) n c) out (p + 2) w2) :=
        fun w2 h1 h2 => RdSt.little (p := p) hown hbel hb.lt h1 h2 (by omega)
      have H2 := Lib.hid h2
      have H3 := Lib.hid h3
      clear h2 h3 hb hown hbel hlen
      go_wp2_with (go_at_call 20; (with_reducible refine HC.out.mono ?_); rintro e w2 ⟨rfl, hb2, hg2⟩)
      go_meet
      case rel => exact ⟨by rw [H2.out]; go_num, by rw [H3.out]; exact HR.out w2 hb2 hg2⟩
  case rest =>
    clear hst
    have hk1 : 1 ≤ k := by
      rcases hd.out with ⟨_, h, _⟩ | ⟨_, _, h⟩ | ⟨_, _, h⟩ <;> omega
    clear hd
    obtain ⟨rfl, hst⟩ := hcut
    obtain ⟨ov, hb, hown, hbel⟩ := hst.out
    have c0 : wc.cell? ⟨rb, 0, none⟩ = some (.slice (some ⟨db, dof, none⟩) n c) := hb.cell 0
    have c1 : wc.cell? ⟨rb, 1, none⟩ = some (.int .i64 (p2 : Int)) := hb.cell 1
    have c2 : wc.cell? ⟨rb, 2, none⟩ = some ov := hb.cell 2
    have HB := Lib.hid hb
    have HO := Lib.hid hown
    have HBE := Lib.hid hbel
    clear hb hown hbel
    go_wp2_with fail
    go_quiet (fail)
    have HD := Lib.hid (hst.out.drewN nq)
    generalize wc.drewN nq = wd at HD ⊢
    clear c0 c1 c2 HB HO HBE hst
    go_wp2_with fail
    go_cut [] from 8 (fun wx => Hid (RdSt w0 rb (.slice (some ⟨db, dof, none⟩) n c) (out ++ (l.drop p2).take k) p2 wx))
    case first =>
      obtain ⟨ov, hb, hown, hbel⟩ := HD.out
      have c0 : wd.cell? ⟨rb, 0, none⟩ = some (.slice (some ⟨db, dof, none⟩) n c) := hb.cell 0
      have c1 : wd.cell? ⟨rb, 1, none⟩ = some (.int .i64 (p2 : Int)) := hb.cell 1
      have c2 : wd.cell? ⟨rb, 2, none⟩ = some ov := hb.cell 2
      have hlen := hl.out
      have hL : ((l.drop p2).take k).length = k := by rw [List.length_take, List.length_drop]; omega
      have HN := Lib.hid (news_of_src (src_take (src_drop (src_below hsrc.out hbel hdb) p2) k))
      have HBd : Hid (Blk wd.drew rb 38 [.slice (some ⟨db, dof, none⟩) n c, .int .i64 (p2 : Int), ov, .int .i64 0]) := hb
      have HOd : Hid (wd.drew.ownsRow (rb + 1) 5 1 ov out.length (bv out)) := hown
      have HE : Hid (Below rb w0 wd.drew) := ⟨hbel.os, hbel.tape, hbel.output, hbel.size, hbel.block⟩
      have HZ : Hid (rb + 1 ≤ wd.drew.heap.size) := by have := hb.lt; show rb + 1 ≤ wd.heap.size; omega
      obtain ⟨X, hX⟩ : ∃ X, X = (l.drop p2).take k := ⟨_, rfl⟩
      rw [← hX] at HN hL ⊢
      have HL := Lib.hid hL
      have HX := Lib.hid hX
      clear hX hL hlen hb hown hbel HD
      have a1 : (p2 : Int) ≤ (n : Int) := by omega
      have a2 : (p2 : Int) + (k : Int) ≤ (c : Int) := by omega
      have a3 : IntKind.i64.wrap ((p2 : Int) + (k : Int)) = (p2 : Int) + (k : Int) := IntWalk.i64_in _ (by omega)
      have a4 : (0 : Int) ≤ (p2 : Int) + (k : Int) := by omega
      have a5 : ((p2 : Int) + (k : Int)).toNat = p2 + k := by omega
      have a6 : ¬ c = p2 := by omega
      go_region_law (refine step_append_lies _ (by rfl) (.tmp 40) (.tmp 55) 22 (by rfl) (rb + 1) 5 i0 (.int .u8 0) 1 1 Tryd.underlying22 HI.out HZ0.out HZ1.out HZ2.out rfl (by omega) ov out.length (bv out) (by simp [Act.eval, Act.put]) HOd.out ⟨db, dof + p2, none⟩ k (c - p2) (bv X) (by simp [Act.eval, Act.put]) (by rw [bv_length, HL.out]; omega) HN.out (bv_one _) hk1 (by unfold maxLen; omega) (by omega) HZ.out _ rfl ?_; intro gg cap w1 hown1 hgrow hat hlt; (have HP : Hid (RdSt w0 rb (.slice (some ⟨db, dof, none⟩) n c) (out ++ X) p2 (w1.setCell ⟨rb, 2, none⟩ (.slice (some ⟨gg, 0, none⟩) (out.length + k) cap))) := RdSt.put HBd.out HOd.out HE.out hown1 hgrow (by rw [HL.out])); (have e2 : w1.cell? ⟨rb, 2, none⟩ = some ov := (HBd.out.grown hgrow (fun e => own_ne HOd.out e.symm)).cell 2); (have f2 : w1.frozen? ⟨rb, 2, none⟩ = false := (HBd.out.grown hgrow (fun e => own_ne HOd.out e.symm)).frozen 2); clear hown1 hgrow hat hlt)
      all_goals
        go_wp2_with fail
        go_meet
        rw [← HX.out]
        exact HP
    case rest =>
      obtain ⟨ov, hb, hown, hbel⟩ := hcut.out
      have c1 : wc.cell? ⟨rb, 1, none⟩ = some (.int .i64 (p2 : Int)) := hb.cell 1
      have f1 := hb.frozen 1
      clear hb hown hbel
      go_wp2_with fail
      go_ret
      exact ⟨rfl, hcut.out.step (by go_num)⟩

end Go.Proofs.YtbhcdkbcbcmomaaDoor
