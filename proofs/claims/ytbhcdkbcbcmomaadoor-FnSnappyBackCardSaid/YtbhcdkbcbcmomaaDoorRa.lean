/- THE ROW OF FnSnappyEncode: what came in is opened, the walk answers, what was there is read again. -/
import Derived.Test.YtbhcdkbcbcmomaaDoorRows
import Derived.Test.YtbhcdkbcbcmomaaDoorLa
import Derived.WalkKit
import Derived.WalkSmall
import Derived.ProofKit
import Derived.OpenShut
import Derived.ShutString
import Derived.ChangeOld
import Derived.Below
import Derived.LaidMore
import Derived.SizedLaws
import Derived.Stop.Joined
import Derived.Stop.LaidErr
import Derived.MakeChecks
namespace Go.Proofs.YtbhcdkbcbcmomaaDoor
open Go.ChangeShapes Go.WideShapes Go.ChangeAt Go.RowKit
set_option linter.unusedVariables false

theorem ownD : ownKnob Tryd.prog.godebug = none := by kernel_rfl
theorem laidOutD : laidOutB Tryd.prog = true := by kernel_rfl
theorem gTooLarge : Tryd.prog.globalNamed "loop.example/pub-g01444/pub/compress/inner/snapref.ErrTooLarge" = some 0 := by kernel_rfl
theorem gUnsupported : Tryd.prog.globalNamed "loop.example/pub-g01444/pub/compress/inner/snapref.errUnsupportedLiteralLength" = some 1 := by kernel_rfl
theorem gCorrupt : Tryd.prog.globalNamed "loop.example/pub-g01444/pub/compress/inner/snapref.ErrCorrupt" = some 2 := by kernel_rfl
theorem gType0 : (Tryd.prog.globals[0]?).map (·.type) = some 42 := by kernel_rfl
theorem gType1 : (Tryd.prog.globals[1]?).map (·.type) = some 42 := by kernel_rfl
theorem gType2 : (Tryd.prog.globals[2]?).map (·.type) = some 42 := by kernel_rfl
theorem cells81 : Tryd.prog.cellsOf 81 = 1 := by kernel_rfl
theorem cells9 : Tryd.prog.cellsOf 9 = 1 := by kernel_rfl
theorem starErr : "*" ++ "errors.errorString" = "*errors.errorString" := by decide
theorem row62 (u : TypeId) (h : Tryd.prog.typeName? 3 u = some "*errors.errorString") : u = 62 :=
  typeName_ptr_named (nm := "errors.errorString") (by rw [starErr]; kernel_rfl) (by kernel_rfl) (by decide) u (by rw [starErr]; exact h)

/-- What the walk is told of the slice that came in. -/
def IsRow (k : IntKind) (w : World) (a : Option Addr) (len cap : Nat) (zs : List Int) : Prop :=
  (a = none ∧ len = 0 ∧ cap = 0 ∧ zs = []) ∨
  ∃ x, a = some x ∧ len ≤ cap ∧ cap ≤ maxLen ∧ zs.length = cap ∧ (∀ i, i < zs.length → w.cell? (x.add i) = some (.int k (zs.getD i 0))) ∧ ∀ n ∈ zs, (Lit.int k n).wf = true

theorem u8_back {z : Int} (h : (Lit.int .u8 z).wf = true) : ((UInt8.ofNat z.toNat).toNat : Int) = z := by
  have h1 : IntKind.u8.min = 0 := by decide
  have h3 : IntKind.u8.max = 255 := by decide
  have h2 : 0 ≤ z ∧ z < 256 := by
    simp [Lit.wf, h1, h3] at h
    omega
  rw [UInt8.toNat_ofNat']
  omega

/-- The elements as bytes. -/
def bytesOf (zs : List Int) (len : Nat) : List UInt8 := (zs.take len).map fun z => UInt8.ofNat z.toNat

/-- .. as a list of bytes that lies at an address. -/
theorem src_of_row {w : World} {b o : Nat} {len cap : Nat} {zs : List Int} (hl : len ≤ cap) (hz : zs.length = cap) (hc : ∀ i, i < zs.length → w.cell? ((⟨b, o, none⟩ : Addr).add i) = some (.int .u8 (zs.getD i 0))) (hw : ∀ n ∈ zs, (Lit.int .u8 n).wf = true) :
    Src w b o (bytesOf zs len) ∧ (bytesOf zs len).length = len := by
  refine ⟨?_, by simp [bytesOf]; omega⟩
  intro j hj
  have hj2 : j < len := by simp [bytesOf] at hj; omega
  have hj3 : j < zs.length := by omega
  have hcell := hc j hj3
  rw [addr_add] at hcell
  rw [hcell]
  have hg : zs.getD j 0 = zs[j] := by simp [List.getD, hj3]
  have hm : zs[j] ∈ zs := List.getElem_mem _
  have e : (bytesOf zs len).getD j 0 = UInt8.ofNat zs[j].toNat := by
    have hx : j < (bytesOf zs len).length := hj
    simp only [List.getD, List.getElem?_eq_getElem hx, Option.getD_some]
    simp [bytesOf]
  rw [e, u8_back (hw _ hm), hg]

/-- THE WALK over what came in. -/
theorem walk1 (a0 : Option Addr) (len0 cap0 : Nat) (z0 : List Int) (w : World) (hc : cap0 ≤ 140737488351232) (w0 : IsRow .u8 w a0 len0 cap0 z0) : Calls Tryd.prog 3 #[.slice a0 len0 cap0] w (LawEnd w) := by
  by_cases h0 : len0 = 0
  · subst h0
    exact law1_none a0 cap0 w
  rcases w0 with ⟨_, h, _, _⟩ | ⟨x, rfl, hl, _, hz, hcell, hw⟩
  · exact absurd h h0
  obtain ⟨b, o, spot⟩ := x
  have hspot : spot = none := by simpa [Addr.add] using World.cell?_spot (hcell 0 (by omega))
  subst hspot
  by_cases h1 : 2147483647 < len0
  · exact law1_far _ len0 cap0 w h1 (by omega)
  by_cases h2 : 40000 < len0
  · exact law1_big _ len0 cap0 w (by omega) h2
  obtain ⟨hs, hlen⟩ := src_of_row hl hz hcell hw
  have hb : b < w.heap.size := by
    have hh := hcell 0 (by omega)
    rw [addr_add] at hh
    exact World.block_lt_of_cell? w ⟨b, o + 0, none⟩ hh
  exact law1_some b o cap0 len0 (bytesOf z0 len0) w (Lib.hid hlen) (by omega) (by omega) hl hc (Lib.hid hs) hb

theorem bytes5 : Tryd.prog.bytesOf 5 = 1 := by kernel_rfl

/-- The door's own heap meets the condition. -/
theorem door_met1 (os : Os) (args : Array Value) : laidMetH Tryd.prog [("loop.example/pub-g01444/pub/compress/inner/snapref.ErrTooLarge", Rows.laid_loop_example_pub_g01444_pub_compress_inner_snapref_ErrTooLarge)] ((World.doorLaid Tryd.prog 66 os).forCall (fun _ _ => 0) ⟨#[], args, []⟩).memory :=
  laidMetH_of_parts3 (fuel := 8) (laidMet_of_run' 8 (by kernel_rfl) (by kernel_rfl)) (by kernel_rfl) (by kernel_rfl)

set_option maxRecDepth 100000 in
theorem lifted1 (os : Os) (started : os.Started) (H : Type) (enc : TypeId × Value → H) :
    ReturnsInHanded {} Tryd.checked os 3 .any (fun w args => (Rows.fnSnappyEncodeSpec.pre enc Tryd.prog Tryd.f3 [] false w args ∧ laidMetH Tryd.prog [("loop.example/pub-g01444/pub/compress/inner/snapref.ErrTooLarge", Rows.laid_loop_example_pub_g01444_pub_compress_inner_snapref_ErrTooLarge)] w) ∧ sizedMet enc Tryd.prog Tryd.f3 (OpenSpec.ofChange Rows.fnSnappyEncodeSpec) false w args)
      (Rows.fnSnappyEncodeSpec.post enc Tryd.prog Tryd.f3 false true false false) := by
  refine returnsInHanded_of_change_and (C := Tryd.checked) (X := fun w _ => laidMetH Tryd.prog [("loop.example/pub-g01444/pub/compress/inner/snapref.ErrTooLarge", Rows.laid_loop_example_pub_g01444_pub_compress_inner_snapref_ErrTooLarge)] w) (fun _ _ _ hh h => h.of_heap hh) ownD started (by kernel_rfl) Tryd.func3
    (ChangeSpec.witness_shaped (enc := enc) (C := Tryd.checked) (os := os) (X := fun w _ => laidMetH Tryd.prog [("loop.example/pub-g01444/pub/compress/inner/snapref.ErrTooLarge", Rows.laid_loop_example_pub_g01444_pub_compress_inner_snapref_ErrTooLarge)] w) false (World.doorLaid Tryd.prog 66 os) #[.slice none 0 0] 8 rfl (World.shaped_of_RefB (by kernel_rfl) (by kernel_rfl)) (by kernel_rfl) (by kernel_rfl) (by kernel_rfl) (door_met1 os _)) ?_
  intro W base args ds gs before hval0 hW _ hsz0 hL _
  have hval : ∀ (j : Nat) t v, Tryd.f3.params[j]? = some t → args[j]? = some v → Value.okWide Tryd.prog W .any base t v := hval0
  have hsz : (DataW.weightsEach Tryd.prog (Tryd.f3.params.toList ++ Rows.fnSnappyEncodeSpec.plain.varTypes Tryd.prog) (ds ++ gs)).all (· ≤ reachBytes) = true := hsz0
  have hW' := hW
  obtain ⟨p, q, hA0, hV0, rfl, hfz, hnd⟩ := hW
  have hA : DataW.TrodAll enc Tryd.prog W 0 (fun _ => true) true Tryd.f3.params.toList args.toList ds p := hA0
  have hV : DataW.TrodVars enc Tryd.prog W (fun _ => true) ["loop.example/pub-g01444/pub/compress/inner/snapref.ErrTooLarge"] gs q := hV0
  rw [Tryd.params3] at hA hval hsz
  obtain ⟨v0, vs0, d0, ds0, p0, q0, hargs, rfl, rfl, h0, r0⟩ := trodAll_cons hA
  obtain ⟨rfl, rfl, rfl⟩ := trodAll_nil r0
  obtain rfl : args = #[v0] := by cases args; simp_all
  rw [MakeChecks.laidMetH_plain _ _ _ (by kernel_rfl)] at hL
  obtain ⟨e0, s0, hv0, _, _, _⟩ := laid_sentinel hL gTooLarge gType0 Tryd.underlying42 row62 Tryd.underlying62 Tryd.underlying81 rfl rfl Tryd.underlying9 cells81 cells9
  obtain ⟨rfl, rfl⟩ := hV.unique (vars_read1 enc gTooLarge gType0 Tryd.underlying42 hv0 trivial _)
  obtain ⟨a0, len0, cap0, rfl⟩ := okWide_slice Tryd.underlying22 (hval 0 22 v0 rfl rfl)
  have k0 := h0
  have lt0 : ∀ x ∈ p0, x.block < W.heap.size := by obtain ⟨m, hm⟩ := k0; exact DataW.trod_lt m _ _ _ hm
  obtain ⟨z0, w0, hcap⟩ : ∃ zs, IsRow .u8 W a0 len0 cap0 zs ∧ cap0 ≤ 140737488351232 := by
    obtain ⟨fuel, hf⟩ := h0
    rcases open_ints Tryd.underlying22 Tryd.underlying5 (by kernel_rfl) hf with ⟨hcs, _⟩ | ⟨x, l, c, zs, hcs, _, hl, hm, hz, hx, hcell, hwz⟩
    · simp [Value.cells] at hcs
      obtain ⟨rfl, rfl, rfl⟩ := hcs
      exact ⟨[], .inl ⟨rfl, rfl, rfl, rfl⟩, by omega⟩
    · simp [Value.cells] at hcs
      obtain ⟨rfl, rfl, rfl⟩ := hcs
      simp only [Prod.mk.injEq] at hx
      obtain ⟨rfl, rfl⟩ := hx
      have hzz : zs.length = cap0 := by simpa using hz
      have hr := sized_slice hsz (j := 0) (t := 22) (e := 5) rfl rfl Tryd.underlying22
      rw [bytes5] at hr
      simp only [lits, List.length_map, List.length_take, List.length_drop, reachBytes] at hr
      exact ⟨zs, .inr ⟨_, rfl, hl, hm, hzz, hcell, hwz⟩, by omega⟩
  clear hA0 hval0
  have hg0 : 0 < W.heap.size := by
    have := World.block_lt_of_cell? W ⟨0, 0, none⟩ (by simpa using World.var?_cell gTooLarge hv0 0)
    exact this
  refine (walk1 a0 len0 cap0 z0 W hcap w0).mono fun e W' ⟨he, bel⟩ => ?_
  subst he
  exact ⟨_, rfl, _, _, _, [], _, _, hW', trodAll_mk1 (shut_bool Tryd.underlying4 _), (trodAll_cons_mk (Below.trod laidOutD (by kernel_rfl) (of_decide_eq_true (by kernel_rfl)) k0 bel lt0) trodAll_mk0), vars_read1 enc gTooLarge gType0 Tryd.underlying42 (var?_below bel gTooLarge hg0 hv0) trivial _, bel.frame _, fun h => by cases h⟩

theorem row1_holds : Rows.FnSnappyEncodeSaid :=
  OpenClaim.holds_of_wide 3 Tryd.f3 rfl rfl rfl rfl rfl rfl rfl ⟨rfl, rfl, rfl, rfl, rfl⟩ rfl rfl rfl rfl rfl (by kernel_rfl) Tryd.func3 (by kernel_rfl)
    (of_decide_eq_true (by kernel_rfl)) (by unfold Func.isWrapper; first | (rw [if_pos (by decide +kernel)]; kernel_rfl) | (rw [if_neg (by decide +kernel)]; exact ⟨rfl, rfl⟩))
    (fun os started H enc _ => lifted1 os started H enc)
end Go.Proofs.YtbhcdkbcbcmomaaDoor
