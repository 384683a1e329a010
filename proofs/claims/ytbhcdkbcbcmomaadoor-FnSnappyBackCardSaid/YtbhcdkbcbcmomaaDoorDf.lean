/- WALKS OF THE REFERENCE'S DECODER, the sixth text: SnappyDecode. -/
import Derived.Test.YtbhcdkbcbcmomaaDoorDb
import Derived.Test.YtbhcdkbcbcmomaaDoorDd
import Derived.Test.YtbhcdkbcbcmomaaDoorDe
import Derived.Test.YtbhcdkbcbcmomaaDoorPd
import Derived.Deep.CutBlock
namespace Go.Proofs.YtbhcdkbcbcmomaaDoor
open Go.RowKit

theorem b8_toNat_add (x : Nat) (h : x < 128) : (Sn.b8 x).toNat = x := by rw [Sn.b8_toNat]; omega

/-- SnappyLength over a block's head. -/
theorem len_any (db dof n c N : Nat) (l cb : List UInt8) (w : World) (hl : l = Sn.uv N ++ cb) (hn : l.length = n) (hN : N ≤ 40000) (hs : Src w db dof l) :
    Calls Tryd.prog 12 #[.slice (some ⟨db, dof, none⟩) n c] w (LenEnd w N (Sn.uv N).length) := by
  by_cases h1 : N < 128
  · have e := Sn.uv_small h1
    rw [e] at hl ⊢
    have hb : (l.getD 0 0).toNat = N := by rw [hl]; exact b8_toNat_add N h1
    have c0 := hs 0 (by rw [hl]; simp)
    rw [hb] at c0
    exact len_one db dof n c N w (by rw [← hn, hl]; simp) h1 c0
  · have e := Sn.uv_big (x := N) (by omega)
    by_cases h2 : N / 128 < 128
    · rw [Sn.uv_small h2] at e
      rw [e] at hl ⊢
      have hb0 : (l.getD 0 0).toNat = N % 128 + 128 := by rw [hl]; show (Sn.b8 (N % 128 + 128)).toNat = _; rw [Sn.b8_toNat]; omega
      have hb1 : (l.getD 1 0).toNat = N / 128 := by rw [hl]; exact b8_toNat_add _ h2
      have hlen : 2 ≤ l.length := by rw [hl]; simp
      have c0 := hs 0 (by omega)
      have c1 := hs 1 (by omega)
      rw [hb0] at c0
      rw [hb1] at c1
      have h := len_two db dof n c (N % 128 + 128) (N / 128) w (by omega) (by omega) h2 c0 c1
      rw [show (N % 128 + 128) % 128 + N / 128 * 128 = N from by omega] at h
      exact h
    · have e2 := Sn.uv_big (x := N / 128) (by omega)
      rw [Sn.uv_small (x := N / 128 / 128) (by omega)] at e2
      rw [e2] at e
      rw [e] at hl ⊢
      have hb0 : (l.getD 0 0).toNat = N % 128 + 128 := by rw [hl]; show (Sn.b8 (N % 128 + 128)).toNat = _; rw [Sn.b8_toNat]; omega
      have hb1 : (l.getD 1 0).toNat = N / 128 % 128 + 128 := by rw [hl]; show (Sn.b8 (N / 128 % 128 + 128)).toNat = _; rw [Sn.b8_toNat]; omega
      have hb2 : (l.getD 2 0).toNat = N / 128 / 128 := by rw [hl]; exact b8_toNat_add _ (by omega)
      have hlen : 3 ≤ l.length := by rw [hl]; simp
      have c0 := hs 0 (by omega)
      have c1 := hs 1 (by omega)
      have c2 := hs 2 (by omega)
      rw [hb0] at c0
      rw [hb1] at c1
      rw [hb2] at c2
      have h := len_three db dof n c (N % 128 + 128) (N / 128 % 128 + 128) (N / 128 / 128) w (by omega) (by omega) (by omega) (by omega) c0 c1 c2
      rw [show (N % 128 + 128) % 128 + (N / 128 % 128 + 128) % 128 * 128 + N / 128 / 128 * 16384 = N from by omega] at h
      exact h

/-- SnappyDecode's end: what comes out lies where the result points. -/
def DecEnd (w : World) (src : List UInt8) (e : Ending) (w' : World) : Prop :=
  ∃ v, e = .returned (.tuple #[v, .int .i64 0]) ∧ w'.ownsRow (w.heap.size + 1) 5 1 v src.length (bv src) ∧ Below w.heap.size w w'

theorem own_form {w : World} {base n : Nat} {ov : Value} {xs : List Value} (h : w.ownsRow base 5 1 ov n xs) (hn : xs.length = n) : ∃ A cap, ov = .slice A n cap := by
  rcases h.2 with ⟨rfl, rfl⟩ | ⟨g, cap, cur, rfl, _⟩
  · exact ⟨none, 0, by rw [← hn]⟩
  · exact ⟨_, _, rfl⟩

theorem and3 (f : Nat) (hf : f < 256) : bits .and .i64 (f : Int) 3 = ((f % 4 : Nat) : Int) := by
  have h : ∀ m : Fin 256, bits .and .i64 (m.val : Int) 3 = ((m.val % 4 : Nat) : Int) := by decide +kernel
  exact h ⟨f, hf⟩

set_option maxRecDepth 100000 in
set_option maxHeartbeats 2000000 in
theorem decode_any (db dof n c : Nat) (l cb src : List UInt8) (w : World) (hl : Hid (l = Sn.uv src.length ++ cb)) (hn : Hid (l.length = n)) (hst : Hid (Sn.Steps cb [] src)) (hN : src.length ≤ 40000) (hn2 : n ≤ 50000) (hnc : n ≤ c) (hc : c ≤ 140737488351232)
    (hs : Hid (Src w db dof l)) (hdb : db < w.heap.size) :
    Calls Tryd.prog 7 #[.slice (some ⟨db, dof, none⟩) n c, .int .i64 200000] w (DecEnd w src) := by
  have HL := Lib.hid (len_any db dof n c src.length l cb w hl.out hn.out hN hs.out)
  have hh := Sn.uv_le3 src.length hN
  obtain ⟨h, hhe⟩ : ∃ h, h = (Sn.uv src.length).length := ⟨_, rfl⟩
  rw [← hhe] at HL hh
  have HH := Lib.hid hhe
  obtain ⟨N, hNe⟩ : ∃ N, N = src.length := ⟨_, rfl⟩
  rw [← hNe] at HL hN
  have HN := Lib.hid hNe
  clear hhe hNe
  go_enter Tryd.func7, Tryd.ntmps7
  go_wp2_with fail
  (with_reducible refine HL.out.mono ?_)
  rintro _ _ ⟨rfl, rfl⟩
  clear HL
  go_upto_block 1 with fail
  obtain ⟨rb, hrb⟩ : ∃ rb, rb = w.heap.size := ⟨_, rfl⟩
  rw [← hrb] at hdb ⊢
  have HR0 : Hid (RdSt w rb (.slice (some ⟨db, dof, none⟩) n c) [] h (w.alloc (Obj.cells #[Value.slice (some ⟨db, dof, none⟩) n c, Value.int .i64 (h : Int), Value.slice none 0 0, Value.int .i64 0] 38))) := by
    refine ⟨.slice none 0 0, ?_, World.ownsRow_nil _ _ _ _, ?_⟩
    · rw [hrb]
      exact Blk.new w 38 [Value.slice (some ⟨db, dof, none⟩) n c, Value.int .i64 (h : Int), Value.slice none 0 0, Value.int .i64 0]
    · rw [hrb]
      exact (Below.refl _ _).alloc (Nat.le_refl _) _
  have HS0 : Hid (Sn.Steps (l.drop h) [] src) := by
    have e : l.drop h = cb := by rw [hl.out, HH.out, List.drop_left]
    rw [e]
    exact hst.out
  have hhn : h ≤ n := by
    rw [HH.out, ← hn.out, hl.out, List.length_append]
    omega
  have HRB := Lib.hid hrb
  clear hrb
  go_wp2_with fail
  go_loopg [] n (fun q wr => ∃ (out : List UInt8) (a : Nat), n ≤ q + a ∧ a ≤ n ∧ out.length ≤ N ∧ Hid (Sn.Steps (l.drop a) out src) ∧ Hid (RdSt w rb (.slice (some ⟨db, dof, none⟩) n c) out a wr))
  case atStart => exact ⟨[], h, by omega, hhn, by simp, HS0, HR0⟩
  case round =>
    clear HS0 HR0
    obtain ⟨out, a, hq, han, hon, hsteps, hrd⟩ := hrel
    obtain ⟨ov, hb, hown, hbel⟩ := hrd.out
    obtain ⟨A, cap, rfl⟩ := own_form hown (by rw [bv_length])
    have c1 : wr.cell? ⟨rb, 1, none⟩ = some (.int .i64 (a : Int)) := hb.cell 1
    have c2 : wr.cell? ⟨rb, 2, none⟩ = some (.slice A out.length cap) := hb.cell 2
    have f1 := hb.frozen 1
    by_cases ha : a < n
    · obtain ⟨f, q2, o1, hf, hf256, haq, hqn, hst2, hcase⟩ := step_of l a out src (by rw [hn.out]; exact ha) hsteps.out
      have hol : o1.length ≤ N := by rw [HN.out]; exact hst2.le
      have cf := src_below hs.out hbel hdb a (by rw [hn.out]; exact ha)
      rw [← hf] at cf
      rw [hn.out] at hqn
      have HST := Lib.hid hst2
      have HCA := Lib.hid hcase
      have HRA : Hid (RdSt w rb (.slice (some ⟨db, dof, none⟩) n c) out (a + 1) (wr.setCell ⟨rb, 1, none⟩ (.int .i64 ((a : Int) + 1)))) := hrd.out.step (by go_num)
      have e3 := and3 f hf256
      have HE3 := Lib.hid e3
      clear hst2 hcase hb hown hbel hrd hsteps hf e3
      go_upto_block 3 with fail
      go_cut [11] from 30 to 91 (fun v wx => v = .bool true ∧ Hid (RdSt w rb (.slice (some ⟨db, dof, none⟩) n c) o1 q2 wx))
      case first =>
        rcases HCA.out with ⟨hm, k, p2, hd, hk1, hqq, ho⟩ | ⟨hm, hqq, off, k, g1, g2, g3, g4, g5, hfe, hx, ho⟩ | ⟨hm, hqq, off, k, g1, g2, g3, g4, g5, hfe, hx, hy, ho⟩
        · have HC := Lib.hid (literal_any w rb db dof n c (a + 1) f k p2 l out _ HRA hn (by omega) hnc hc hs hdb hd hf256 (by omega) (by omega))
          rw [← ho, hqq] at HC
          have t0 : (bits .and .i64 (f : Int) 3 == 0) = true := by rw [HE3.out, hm]; rfl
          clear ho hqq hm hd
          go_wp2_with (go_at_call 13; (with_reducible refine HC.out.mono ?_); rintro e w2 ⟨rfl, hr⟩)
          go_meet
          exact ⟨rfl, hr⟩
        · have hle : out.length + k ≤ N := by
            have := Sn.copyOut_length off k out
            rw [← ho] at this
            omega
          have HC := Lib.hid (copied_one w rb db dof n c (a + 1) off k l out _ HRA hn (by omega) hs hdb g3 g5 g4 g1 g2 (by omega) (by omega) hx)
          rw [← ho, ← hfe, show a + 1 + 1 = q2 from hqq.symm] at HC
          have t0 : (bits .and .i64 (f : Int) 3 == 0) = false := by rw [HE3.out, hm]; rfl
          have t1 : (bits .and .i64 (f : Int) 3 == 1) = true := by rw [HE3.out, hm]; rfl
          clear ho hqq hm hfe hx
          go_wp2_with (go_at_call 14; (with_reducible refine HC.out.mono ?_); rintro e w2 ⟨rfl, hr⟩)
          go_meet
          exact ⟨rfl, hr⟩
        · have hle : out.length + k ≤ N := by
            have := Sn.copyOut_length off k out
            rw [← ho] at this
            omega
          have HC := Lib.hid (copied_two w rb db dof n c (a + 1) off k l out _ HRA hn (by omega) hs hdb g3 g5 g4 g1 g2 (by omega) (by omega) hx hy)
          rw [← ho, ← hfe, show a + 1 + 2 = q2 from hqq.symm] at HC
          have t0 : (bits .and .i64 (f : Int) 3 == 0) = false := by rw [HE3.out, hm]; rfl
          have t1 : (bits .and .i64 (f : Int) 3 == 1) = false := by rw [HE3.out, hm]; rfl
          have t2 : (bits .and .i64 (f : Int) 3 == 2) = true := by rw [HE3.out, hm]; rfl
          clear ho hqq hm hfe hx hy
          go_wp2_with (go_at_call 14; (with_reducible refine HC.out.mono ?_); rintro e w2 ⟨rfl, hr⟩)
          go_meet
          exact ⟨rfl, hr⟩
      case rest =>
        obtain ⟨rfl, hrd⟩ := hcut
        obtain ⟨ov3, hb3, _, _⟩ := hrd.out
        have c3 : wc.cell? ⟨rb, 3, none⟩ = some (.int .i64 0) := hb3.cell 3
        clear hb3 HRA HCA c1 c2 f1 cf
        go_wp2_with fail
        go_roundg (n - q2)
        case measure => omega
        case rel => exact ⟨o1, q2, by omega, hqn, hol, HST, hrd⟩
    · have hos : out = src := by
        have h1 := hsteps.out
        rw [show l.drop a = [] from List.drop_eq_nil_of_le (by rw [hn.out]; omega)] at h1
        exact steps_nil h1
      have hol : out.length = N := by rw [hos, HN.out]
      have t1 : ((out.length : Int) != (N : Int)) = false := by rw [hol]; simp
      have t2 : (out.length != N) = false := by rw [hol]; simp
      have HO := Lib.hid hown
      have HB := Lib.hid hbel
      have HOS := Lib.hid hos
      clear hos hol hb hown hbel
      go_wp2_with fail
      go_ret2
      have E := HO.out
      have e := HOS.out
      subst e
      rw [HRB.out] at E
      have E2 := HB.out
      rw [HRB.out] at E2
      exact ⟨_, rfl, E, E2⟩

end Go.Proofs.YtbhcdkbcbcmomaaDoor
