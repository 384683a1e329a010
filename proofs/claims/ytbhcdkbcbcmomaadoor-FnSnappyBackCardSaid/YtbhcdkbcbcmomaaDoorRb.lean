/- THE ROW OF FnSnappyBack: what came in is opened, the walk answers, what was there is read again. -/
import Derived.Test.YtbhcdkbcbcmomaaDoorRa
import Derived.Test.YtbhcdkbcbcmomaaDoorLb
namespace Go.Proofs.YtbhcdkbcbcmomaaDoor
open Go.ChangeShapes Go.WideShapes Go.ChangeAt Go.RowKit
set_option linter.unusedVariables false

/-- The three variables, read as tokens. -/
theorem vars_read3 {H : Type} (enc : TypeId × Value → H) {W : World} {x0 x1 x2 : Value} (h0 : W.var? Tryd.prog "loop.example/pub-g01444/pub/compress/inner/snapref.ErrTooLarge" = some #[x0]) (i0 : IsIface x0)
    (h1 : W.var? Tryd.prog "loop.example/pub-g01444/pub/compress/inner/snapref.errUnsupportedLiteralLength" = some #[x1]) (i1 : IsIface x1) (h2 : W.var? Tryd.prog "loop.example/pub-g01444/pub/compress/inner/snapref.ErrCorrupt" = some #[x2]) (i2 : IsIface x2) (sp : Nat → Bool) :
    DataW.TrodVars enc Tryd.prog W sp ["loop.example/pub-g01444/pub/compress/inner/snapref.ErrTooLarge", "loop.example/pub-g01444/pub/compress/inner/snapref.errUnsupportedLiteralLength", "loop.example/pub-g01444/pub/compress/inner/snapref.ErrCorrupt"] [tok enc x0, tok enc x1, tok enc x2] [.cell 0 0, .cell 1 0, .cell 2 0] :=
  ⟨0, 42, #[x0], 1, [], [.cell 1 0, .cell 2 0], gTooLarge, gType0, h0, trod_held Tryd.underlying42 i0 0, vars_read2 enc gUnsupported gType1 Tryd.underlying42 h1 i1 gCorrupt gType2 Tryd.underlying42 h2 i2 sp, rfl⟩

/-- THE WALK over what came in. -/
theorem walk2 (a0 : Option Addr) (len0 cap0 : Nat) (z0 : List Int) (w : World) (hc : cap0 ≤ 140737488351232) (w0 : IsRow .u8 w a0 len0 cap0 z0) : Calls Tryd.prog 4 #[.slice a0 len0 cap0] w (LawEnd w) := by
  by_cases h0 : len0 = 0
  · subst h0
    exact law2_none a0 cap0 w
  rcases w0 with ⟨_, h, _, _⟩ | ⟨x, rfl, hl, _, hz, hcell, hw⟩
  · exact absurd h h0
  obtain ⟨b, o, spot⟩ := x
  have hspot : spot = none := by simpa [Addr.add] using World.cell?_spot (hcell 0 (by omega))
  subst hspot
  by_cases h1 : 2147483647 < len0
  · exact law2_far _ len0 cap0 w h1 (by omega)
  by_cases h2 : 40000 < len0
  · exact law2_big _ len0 cap0 w (by omega) h2
  obtain ⟨hs, hlen⟩ := src_of_row hl hz hcell hw
  have hb : b < w.heap.size := by
    have hh := hcell 0 (by omega)
    rw [addr_add] at hh
    exact World.block_lt_of_cell? w ⟨b, o + 0, none⟩ hh
  exact law2_some b o cap0 len0 (bytesOf z0 len0) w (Lib.hid hlen) (by omega) (by omega) hl hc (Lib.hid hs) hb


/-- The door's own heap meets the condition. -/
theorem door_met2 (os : Os) (args : Array Value) : laidMetH Tryd.prog [("loop.example/pub-g01444/pub/compress/inner/snapref.ErrCorrupt", Rows.laid_loop_example_pub_g01444_pub_compress_inner_snapref_ErrCorrupt), ("loop.example/pub-g01444/pub/compress/inner/snapref.ErrTooLarge", Rows.laid_loop_example_pub_g01444_pub_compress_inner_snapref_ErrTooLarge), ("loop.example/pub-g01444/pub/compress/inner/snapref.errUnsupportedLiteralLength", Rows.laid_loop_example_pub_g01444_pub_compress_inner_snapref_errUnsupportedLiteralLength)] ((World.doorLaid Tryd.prog 66 os).forCall (fun _ _ => 0) ⟨#[], args, []⟩).memory :=
  laidMetH_of_parts3 (fuel := 8) (laidMet_of_run' 8 (by kernel_rfl) (by kernel_rfl)) (by kernel_rfl) (by kernel_rfl)

set_option maxRecDepth 100000 in
theorem lifted2 (os : Os) (started : os.Started) (H : Type) (enc : TypeId × Value → H) :
    ReturnsInHanded {} Tryd.checked os 4 .any (fun w args => (Rows.fnSnappyBackSpec.pre enc Tryd.prog Tryd.f4 [] false w args ∧ laidMetH Tryd.prog [("loop.example/pub-g01444/pub/compress/inner/snapref.ErrCorrupt", Rows.laid_loop_example_pub_g01444_pub_compress_inner_snapref_ErrCorrupt), ("loop.example/pub-g01444/pub/compress/inner/snapref.ErrTooLarge", Rows.laid_loop_example_pub_g01444_pub_compress_inner_snapref_ErrTooLarge), ("loop.example/pub-g01444/pub/compress/inner/snapref.errUnsupportedLiteralLength", Rows.laid_loop_example_pub_g01444_pub_compress_inner_snapref_errUnsupportedLiteralLength)] w) ∧ sizedMet enc Tryd.prog Tryd.f4 (OpenSpec.ofChange Rows.fnSnappyBackSpec) false w args)
      (Rows.fnSnappyBackSpec.post enc Tryd.prog Tryd.f4 false true false false) := by
  refine returnsInHanded_of_change_and (C := Tryd.checked) (X := fun w _ => laidMetH Tryd.prog [("loop.example/pub-g01444/pub/compress/inner/snapref.ErrCorrupt", Rows.laid_loop_example_pub_g01444_pub_compress_inner_snapref_ErrCorrupt), ("loop.example/pub-g01444/pub/compress/inner/snapref.ErrTooLarge", Rows.laid_loop_example_pub_g01444_pub_compress_inner_snapref_ErrTooLarge), ("loop.example/pub-g01444/pub/compress/inner/snapref.errUnsupportedLiteralLength", Rows.laid_loop_example_pub_g01444_pub_compress_inner_snapref_errUnsupportedLiteralLength)] w) (fun _ _ _ hh h => h.of_heap hh) ownD started (by kernel_rfl) Tryd.func4
    (ChangeSpec.witness_shaped (enc := enc) (C := Tryd.checked) (os := os) (X := fun w _ => laidMetH Tryd.prog [("loop.example/pub-g01444/pub/compress/inner/snapref.ErrCorrupt", Rows.laid_loop_example_pub_g01444_pub_compress_inner_snapref_ErrCorrupt), ("loop.example/pub-g01444/pub/compress/inner/snapref.ErrTooLarge", Rows.laid_loop_example_pub_g01444_pub_compress_inner_snapref_ErrTooLarge), ("loop.example/pub-g01444/pub/compress/inner/snapref.errUnsupportedLiteralLength", Rows.laid_loop_example_pub_g01444_pub_compress_inner_snapref_errUnsupportedLiteralLength)] w) false (World.doorLaid Tryd.prog 66 os) #[.slice none 0 0] 8 rfl (World.shaped_of_RefB (by kernel_rfl) (by kernel_rfl)) (by kernel_rfl) (by kernel_rfl) (by kernel_rfl) (door_met2 os _)) ?_
  intro W base args ds gs before hval0 hW _ hsz0 hL _
  have hval : ∀ (j : Nat) t v, Tryd.f4.params[j]? = some t → args[j]? = some v → Value.okWide Tryd.prog W .any base t v := hval0
  have hsz : (DataW.weightsEach Tryd.prog (Tryd.f4.params.toList ++ Rows.fnSnappyBackSpec.plain.varTypes Tryd.prog) (ds ++ gs)).all (· ≤ reachBytes) = true := hsz0
  have hW' := hW
  obtain ⟨p, q, hA0, hV0, rfl, hfz, hnd⟩ := hW
  have hA : DataW.TrodAll enc Tryd.prog W 0 (fun _ => true) true Tryd.f4.params.toList args.toList ds p := hA0
  have hV : DataW.TrodVars enc Tryd.prog W (fun _ => true) ["loop.example/pub-g01444/pub/compress/inner/snapref.ErrTooLarge", "loop.example/pub-g01444/pub/compress/inner/snapref.errUnsupportedLiteralLength", "loop.example/pub-g01444/pub/compress/inner/snapref.ErrCorrupt"] gs q := hV0
  rw [Tryd.params4] at hA hval hsz
  obtain ⟨v0, vs0, d0, ds0, p0, q0, hargs, rfl, rfl, h0, r0⟩ := trodAll_cons hA
  obtain ⟨rfl, rfl, rfl⟩ := trodAll_nil r0
  obtain rfl : args = #[v0] := by cases args; simp_all
  rw [MakeChecks.laidMetH_plain _ _ _ (by kernel_rfl)] at hL
  obtain ⟨e2, s2, hv2, _, _, _⟩ := laid_sentinel hL gCorrupt gType2 Tryd.underlying42 row62 Tryd.underlying62 Tryd.underlying81 rfl rfl Tryd.underlying9 cells81 cells9
  obtain ⟨e0, s0, hv0, _, _, _⟩ := laid_sentinel hL.tail gTooLarge gType0 Tryd.underlying42 row62 Tryd.underlying62 Tryd.underlying81 rfl rfl Tryd.underlying9 cells81 cells9
  obtain ⟨e1, s1, hv1, _, _, _⟩ := laid_sentinel hL.tail.tail gUnsupported gType1 Tryd.underlying42 row62 Tryd.underlying62 Tryd.underlying81 rfl rfl Tryd.underlying9 cells81 cells9
  obtain ⟨rfl, rfl⟩ := hV.unique (vars_read3 enc hv0 trivial hv1 trivial hv2 trivial _)
  obtain ⟨a0, len0, cap0, rfl⟩ := okWide_slice Tryd.underlying22 (hval 0 22 v0 rfl rfl)
  have k0 := h0
  have lt0 : ∀ x ∈ p0, x.block < W.heap.size := by obtain ⟨m, hm⟩ := k0; exact DataW.trod_lt m _ _ _ hm
  obtain ⟨z0, w0, hcap⟩ : ∃ zs, IsRow .u8 W a0 len0 cap0 zs ∧ cap0 ≤ 140737488351232 := by
    obtain ⟨fuel, hf⟩ := h0
    rcases open_ints Tryd.underlying22 Tryd.underlying5 (by kernel_rfl) hf with ⟨hcs, _⟩ | ⟨x, l, c, zs, hcs, _, hl, hm, hz, hx, hcell, hwz⟩
    · simp [Value.cells] at hcs
      obtain ⟨rfl, rfl, rfl⟩ := hcs
      exact ⟨[], .inl ⟨rfl, rfl, rfl, rfl⟩, by omega⟩
    · simp [Value.cells] at hcs
      obtain ⟨rfl, rfl, rfl⟩ := hcs
      simp only [Prod.mk.injEq] at hx
      obtain ⟨rfl, rfl⟩ := hx
      have hzz : zs.length = cap0 := by simpa using hz
      have hr := sized_slice hsz (j := 0) (t := 22) (e := 5) rfl rfl Tryd.underlying22
      rw [bytes5] at hr
      simp only [lits, List.length_map, List.length_take, List.length_drop, reachBytes] at hr
      exact ⟨zs, .inr ⟨_, rfl, hl, hm, hzz, hcell, hwz⟩, by omega⟩
  clear hA0 hval0
  have hg0 : 0 < W.heap.size := by
    have := World.block_lt_of_cell? W ⟨0, 0, none⟩ (by simpa using World.var?_cell gTooLarge hv0 0)
    exact this
  have hg1 : 1 < W.heap.size := World.block_lt_of_cell? W ⟨1, 0, none⟩ (by simpa using World.var?_cell gUnsupported hv1 0)
  have hg2 : 2 < W.heap.size := World.block_lt_of_cell? W ⟨2, 0, none⟩ (by simpa using World.var?_cell gCorrupt hv2 0)
  refine (walk2 a0 len0 cap0 z0 W hcap w0).mono fun e W' ⟨he, bel⟩ => ?_
  subst he
  exact ⟨_, rfl, _, _, _, [], _, _, hW', trodAll_mk1 (shut_bool Tryd.underlying4 _), (trodAll_cons_mk (Below.trod laidOutD (by kernel_rfl) (of_decide_eq_true (by kernel_rfl)) k0 bel lt0) trodAll_mk0), vars_read3 enc (var?_below bel gTooLarge hg0 hv0) trivial (var?_below bel gUnsupported hg1 hv1) trivial (var?_below bel gCorrupt hg2 hv2) trivial _, bel.frame _, fun h => by cases h⟩

theorem row2_holds : Rows.FnSnappyBackSaid :=
  OpenClaim.holds_of_wide 4 Tryd.f4 rfl rfl rfl rfl rfl rfl rfl ⟨rfl, rfl, rfl, rfl, rfl⟩ rfl rfl rfl rfl rfl (by kernel_rfl) Tryd.func4 (by kernel_rfl)
    (of_decide_eq_true (by kernel_rfl)) (by unfold Func.isWrapper; first | (rw [if_pos (by decide +kernel)]; kernel_rfl) | (rw [if_neg (by decide +kernel)]; exact ⟨rfl, rfl⟩))
    (fun os started H enc _ => lifted2 os started H enc)
end Go.Proofs.YtbhcdkbcbcmomaaDoor
