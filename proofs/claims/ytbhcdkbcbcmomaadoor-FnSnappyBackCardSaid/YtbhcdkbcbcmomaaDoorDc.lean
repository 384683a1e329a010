/- WALKS OF THE REFERENCE'S DECODER, the third text: the loop of copied. -/
import Derived.Test.YtbhcdkbcbcmomaaDoorDa
namespace Go.Proofs.YtbhcdkbcbcmomaaDoor
open Go.RowKit

/-- the code inside the first block of that number -/
def blkOf (n : Nat) : Code → Option Code
  | .block m c => if m = n then some c else blkOf n c
  | .seq a b => match blkOf n a with
    | some c => some c
    | none => blkOf n b
  | .loop c => blkOf n c
  | .scope c => blkOf n c
  | .cond _ a b => match blkOf n a with
    | some c => some c
    | none => blkOf n b
  | _ => none
noncomputable def CB0 : Code := ((Tryd.f14.body.bind (blkOf 0)).getD .skip)

set_option maxRecDepth 100000 in
set_option maxHeartbeats 2000000 in
theorem copy_loop (w0 : World) (rb p ov k : Nat) (dv : Value) (out : List UInt8) (K0 : Act → World → Prop) (R : Ending → World → Prop) (h1 : 1 ≤ ov) (h2 : ov ≤ out.length) (hout : out.length + k ≤ 100000) (w : World) (hst : Hid (RdSt w0 rb dv out p w))
    (u1 u2 u3 u4 u5 u6 u8 u10 u11 u12 u13 u14 u15 u16 u17 u18 u19 u20 u21 u22 u23 u24 u25 u26 u27 u28 u29 u30 u31 u32 u33 u34 u35 u36 u37 u38 u39 u40 u41 u42 u43 u44 u45 u46 u47 u48 u49 u50 u51 u52 u53 u54 u55 u56 u57 u58 u59 u60 u61 u62 u63 u64 u65 u66 u67 u68 u69 u70 u71 : Value) (hK : Hid (∀ (x9 x46 x47 x48 x49 x50 x51 x52 x53 x54 x55 x56 x57 x58 x59 x60 x61 x62 x63 x64 x65 x66 x67 x68 x69 x70 x71 : Value) (w' : World), RdSt w0 rb dv (Sn.copyOut ov k out) p w' → K0 { tmps := List.toArray (.pointer (some ⟨rb, 0, none⟩) :: u1 :: u2 :: u3 :: u4 :: u5 :: u6 :: .int .i64 (ov : Int) :: u8 :: x9 :: u10 :: u11 :: u12 :: u13 :: u14 :: u15 :: u16 :: u17 :: u18 :: u19 :: u20 :: u21 :: u22 :: u23 :: u24 :: u25 :: u26 :: u27 :: u28 :: u29 :: u30 :: u31 :: u32 :: u33 :: u34 :: u35 :: u36 :: u37 :: u38 :: u39 :: u40 :: u41 :: u42 :: u43 :: u44 :: u45 :: x46 :: x47 :: x48 :: x49 :: x50 :: x51 :: x52 :: x53 :: x54 :: x55 :: x56 :: x57 :: x58 :: x59 :: x60 :: x61 :: x62 :: x63 :: x64 :: x65 :: x66 :: x67 :: x68 :: x69 :: x70 :: x71 :: []), defers := [] } w')) :
    Code.wp Tryd.prog CB0 (Exit.inBlock 0 (Exit.then K0 (bodyPost Tryd.prog Tryd.f14 R))) { tmps := List.toArray (.pointer (some ⟨rb, 0, none⟩) :: u1 :: u2 :: u3 :: u4 :: u5 :: u6 :: .int .i64 (ov : Int) :: u8 :: .int .i64 (k : Int) :: u10 :: u11 :: u12 :: u13 :: u14 :: u15 :: u16 :: u17 :: u18 :: u19 :: u20 :: u21 :: u22 :: u23 :: u24 :: u25 :: u26 :: u27 :: u28 :: u29 :: u30 :: u31 :: u32 :: u33 :: u34 :: u35 :: u36 :: u37 :: u38 :: u39 :: u40 :: u41 :: u42 :: u43 :: u44 :: u45 :: u46 :: u47 :: u48 :: u49 :: u50 :: u51 :: u52 :: u53 :: u54 :: u55 :: u56 :: u57 :: u58 :: u59 :: u60 :: u61 :: u62 :: u63 :: u64 :: u65 :: u66 :: u67 :: u68 :: u69 :: u70 :: u71 :: []), defers := [] } w := by
  conv => arg 2; whnf
  obtain ⟨i0, hi, hz0, hz1, hz2⟩ := info_parts u8_infoD
  have HI := Lib.hid hi
  have HZ0 := Lib.hid hz0
  have HZ1 := Lib.hid hz1
  have HZ2 := Lib.hid hz2
  clear hi hz0 hz1 hz2
  go_loopg [9] k (fun q v wr => ∃ (j : Nat) (o : List UInt8), j ≤ q ∧ v = .int .i64 (j : Int) ∧ j ≤ k ∧ o.length + j ≤ 100000 ∧ ov ≤ o.length ∧ Hid (Sn.copyOut ov j o = Sn.copyOut ov k out) ∧ Hid (RdSt w0 rb dv o p wr))
  case atStart => exact ⟨k, out, Nat.le_refl _, rfl, Nat.le_refl _, hout, h2, rfl, hst⟩
  case round =>
    clear hst
    obtain ⟨j, o, hq, rfl, hjk, ho, hov, HQ, hst⟩ := hrel
    by_cases hj : 0 < j
    · go_upto_block 1 with fail
      go_cut [] from 46 to 71 (fun wx => Hid (RdSt w0 rb dv (o ++ [o.getD (o.length - ov) 0]) p wx))
      case first =>
        obtain ⟨oval, hb, hown, hbel⟩ := hst.out
        obtain ⟨g2, cap2, rfl, hg2, _⟩ := hown.form (by omega)
        have c2 : wr.cell? ⟨rb, 2, none⟩ = some (.slice (some ⟨g2, 0, none⟩) o.length cap2) := hb.cell 2
        have f2 := hb.frozen 2
        have cb : wr.cell? ⟨g2, o.length - ov, none⟩ = some (.int .u8 ((o.getD (o.length - ov) 0).toNat : Int)) := by
          rw [hown.cellAt _ (by omega)]
          exact bv_get o _ (by omega)
        have hlt : rb < wr.heap.size := hb.lt
        obtain ⟨b, hbb⟩ : ∃ b, b = o.getD (o.length - ov) 0 := ⟨_, rfl⟩
        rw [← hbb] at cb
        have HBB := Lib.hid hbb
        obtain ⟨x, hx⟩ : ∃ x, x = b.toNat := ⟨_, rfl⟩
        rw [← hx] at cb
        have HX := Lib.hid hx
        obtain ⟨m, hm⟩ : ∃ m, m = o.length := ⟨_, rfl⟩
        have HM := Lib.hid hm
        rw [← hm] at c2 cb ho hov hown hb
        have a1 : (0 : Int) ≤ (m : Int) - (ov : Int) := by omega
        have a2 : (m : Int) - (ov : Int) < (m : Int) := by omega
        have a3 : IntKind.i64.wrap ((m : Int) - (ov : Int)) = (m : Int) - (ov : Int) := IntWalk.i64_in _ (by omega)
        have a4 : ((m : Int) - (ov : Int)).toNat = m - ov := by omega
        have HBa : Hid (Blk (wr.drew.alloc (.cells #[.int .u8 (x : Int)] 5)) rb 38 [dv, .int .i64 (p : Int), .slice (some ⟨g2, 0, none⟩) m cap2, .int .i64 0]) := hb.alloc _
        have HOa : Hid ((wr.drew.alloc (.cells #[.int .u8 (x : Int)] 5)).ownsRow (rb + 1) 5 1 (.slice (some ⟨g2, 0, none⟩) m cap2) m (bv o)) := World.ownsRow.alloc (w := wr.drew) hown _
        have HE : Hid (Below rb w0 (wr.drew.alloc (.cells #[.int .u8 (x : Int)] 5))) := Below.alloc (w := wr.drew) ⟨hbel.os, hbel.tape, hbel.output, hbel.size, hbel.block⟩ (by show rb ≤ wr.heap.size; omega) _
        have HZ : Hid (rb + 1 ≤ (wr.drew.alloc (.cells #[.int .u8 (x : Int)] 5)).heap.size) := by
          have h1 := (World.grownBy_alloc wr.drew (.cells #[.int .u8 (x : Int)] 5) none).size
          have h2 := hb.lt
          exact Nat.le_trans (by show rb + 1 ≤ wr.heap.size; omega) h1
        clear hbb hx hm hb hown hbel hst
        go_wp2_with fail
        go_region_law (refine step_append_lies _ (by rfl) (.tmp 54) (.tmp 68) 22 (by rfl) (rb + 1) 5 i0 (.int .u8 0) 1 1 Tryd.underlying22 HI.out HZ0.out HZ1.out HZ2.out rfl (by omega) (.slice (some ⟨g2, 0, none⟩) m cap2) m (bv o) (by simp [Act.eval, Act.put]) HOa.out ⟨wr.drew.heap.size, 0, none⟩ 1 1 [.int .u8 (x : Int)] (by simp [Act.eval, Act.put]) (by rfl) (World.news_of_block (cs := #[.int .u8 (x : Int)]) (t := 5) (fr := (0, 0)) (heap_alloc_new _ _)) (by simp [Value.oneCell']) (by omega) (by unfold maxLen; omega) (by omega) HZ.out _ rfl ?_; intro gg cap w1 hown1 hgrow hat hlt2; (have HP : Hid (RdSt w0 rb dv (o ++ [b]) p (w1.setCell ⟨rb, 2, none⟩ (.slice (some ⟨gg, 0, none⟩) (m + 1) cap))) := RdSt.put (out := o) (L := [b]) HBa.out (by rw [← HM.out]; exact HOa.out) HE.out (by rw [show bv [b] = [.int .u8 (x : Int)] from by rw [HX.out]; rfl]; exact hown1) hgrow (by rw [HM.out]; rfl)); (have e2 : w1.cell? ⟨rb, 2, none⟩ = some (.slice (some ⟨g2, 0, none⟩) m cap2) := (HBa.out.grown hgrow (fun e => own_ne HOa.out e.symm)).cell 2); (have f2' : w1.frozen? ⟨rb, 2, none⟩ = false := (HBa.out.grown hgrow (fun e => own_ne HOa.out e.symm)).frozen 2); clear hown1 hgrow hat hlt2)
        all_goals
          go_wp2_with fail
          go_meet
          rw [← HBB.out]
          exact HP
      case rest =>
        go_wp2_with fail
        go_roundg (j - 1)
        case measure => omega
        case rel => exact ⟨j - 1, o ++ [o.getD (o.length - ov) 0], Nat.le_refl _, by go_num, by omega, by simp; omega, by simp; omega, by
          have := HQ.out
          obtain ⟨i, rfl⟩ : ∃ i, j = i + 1 := ⟨j - 1, by omega⟩
          rw [← this]
          rfl, hcut⟩
    · obtain rfl : j = 0 := by omega
      go_wp2_with fail
      refine hK.out _ _ _ _ _ _ _ _ _ _ _ _ _ _ _ _ _ _ _ _ _ _ _ _ _ _ _ _ ?_
      rw [← HQ.out]
      exact hst.out

end Go.Proofs.YtbhcdkbcbcmomaaDoor
