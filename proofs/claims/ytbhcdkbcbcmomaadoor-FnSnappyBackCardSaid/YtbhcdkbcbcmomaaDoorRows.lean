/-
  NARROWER THAN 'FOR EVERY INPUT', by the rows' own cells (each row's printed sentence says how): FnSnappyEncode: ifaces, laid · FnSnappyBack: ifaces, laid.
  DERIVED. THE GIVEN ROWS OF THIS SEAT. 2 by the template 'for every input the law returns true; each argument reads behind the call as it read before'; 0 by the template 'total and deterministic' (their statements: YtbhcdkbcbcmomaaDoorTotals.lean).
  GIVEN WITH THE SEED: the statements are not yours to turn. If you find one false, say at which input.
  Laid BY PROGRAM, IN A SANDBOX (cutbox-rows.mjs): the forced cells as the released guide's own fill.sh prints them over the translation 4ebef4febccd4d50… (all of the seat's roots in one cut). By AI agents, Wed Nov 11 2026. No macro, syntax, notation, axiom, sorry.
-/
import Derived.Test.YtbhcdkbcbcmomaaDoorChecked
import GoSem.Claim
import GoSem.ClaimJoined
import GoSem.ClaimMapViews
import Derived.JoinedTies
import Derived.KernelRfl
namespace Go.Proofs.YtbhcdkbcbcmomaaDoor
/- THE CELL 'sum', in the pinned program and in every row, IS THE sha256 OF THE DUMP (.gsa) THAT YtbhcdkbcbcmomaaDoorProg.lean LOADS. Nothing in Lean hashes anything: it is a label: what it is worth is what the hold of that sum in a sandbox is worth. -/
noncomputable def Tryd.pinned : Pinned := { name := "ytbhcdkbcbcmomaadoor", sum := "4ebef4febccd4d50bb3ccbf25a855de75ffcd6337962921e4a5f469dc3f9b7f8", checked := Tryd.checked }
namespace Rows
def none {H : Type} : Left H := { results := [], args := [] }

/- WHAT THE LISTED PACKAGE-LEVEL VARIABLES READ AS WHEN THE CALL BEGINS. Each datum BY PROGRAM (the guide's laid-datum.mjs) off the statement by which the dump's own 'gosem.cut.vars' lays the variable. In a bare row this is a premise. The card (YtbhcdkbcbcmomaaDoorCards.lean) ties it to the program's text. -/
def laid_loop_example_pub_g01444_pub_compress_inner_snapref_ErrTooLarge {H : Type} : DataW H := .iface "*errors.errorString" (.ptr (.agg [.lit (.string [115, 110, 97, 112, 112, 121, 58, 32, 100, 101, 99, 111, 100, 101, 100, 32, 98, 108, 111, 99, 107, 32, 105, 115, 32, 116, 111, 111, 32, 108, 97, 114, 103, 101])]))
def laid_loop_example_pub_g01444_pub_compress_inner_snapref_ErrCorrupt {H : Type} : DataW H := .iface "*errors.errorString" (.ptr (.agg [.lit (.string [115, 110, 97, 112, 112, 121, 58, 32, 99, 111, 114, 114, 117, 112, 116, 32, 105, 110, 112, 117, 116])]))
def laid_loop_example_pub_g01444_pub_compress_inner_snapref_errUnsupportedLiteralLength {H : Type} : DataW H := .iface "*errors.errorString" (.ptr (.agg [.lit (.string [115, 110, 97, 112, 112, 121, 58, 32, 117, 110, 115, 117, 112, 112, 111, 114, 116, 101, 100, 32, 108, 105, 116, 101, 114, 97, 108, 32, 108, 101, 110, 103, 116, 104])]))

/-- 'laws.FnSnappyEncode': WHATEVER THE INPUT: true; the input reads as it did. -/
def fnSnappyEncodeSpec : ChangeSpec := { name := "fnSnappyEncode", vars := ["loop.example/pub-g01444/pub/compress/inner/snapref.ErrTooLarge"], fn := fun _ => fun
  | [d, g1] => { results := [.lit (.bool true)], args := [d], vars := [g1] }
  | _ => none }
def fnSnappyEncodeRow : OpenClaim := { program := "ytbhcdkbcbcmomaadoor", sum := "4ebef4febccd4d50bb3ccbf25a855de75ffcd6337962921e4a5f469dc3f9b7f8", func := "loop.example/pub-g01444/laws.FnSnappyEncode", spec := "fnSnappyEncode", named := ["loop.example/pub-g01444/pub/compress/inner/snapref.ErrTooLarge"], ifaces := true, apart := false, laid := [("loop.example/pub-g01444/pub/compress/inner/snapref.ErrTooLarge", laid_loop_example_pub_g01444_pub_compress_inner_snapref_ErrTooLarge)] }
def FnSnappyEncodeSaid : Prop := fnSnappyEncodeRow.holds Tryd.pinned (OpenSpec.ofChange fnSnappyEncodeSpec)

/-- ITS FALSE NEIGHBOUR: 'it returns false'. Refute it at one input. -/
def fnSnappyEncodeWrong : ChangeSpec := { name := "fnSnappyEncode", vars := ["loop.example/pub-g01444/pub/compress/inner/snapref.ErrTooLarge"], fn := fun _ => fun
  | [d, g1] => { results := [.lit (.bool false)], args := [d], vars := [g1] }
  | _ => none }
def FnSnappyEncodeWrongFalsely : Prop := fnSnappyEncodeRow.holds Tryd.pinned (OpenSpec.ofChange fnSnappyEncodeWrong)

/-- 'laws.FnSnappyBack': WHATEVER THE INPUT: true; the input reads as it did. -/
def fnSnappyBackSpec : ChangeSpec := { name := "fnSnappyBack", vars := ["loop.example/pub-g01444/pub/compress/inner/snapref.ErrTooLarge", "loop.example/pub-g01444/pub/compress/inner/snapref.errUnsupportedLiteralLength", "loop.example/pub-g01444/pub/compress/inner/snapref.ErrCorrupt"], fn := fun _ => fun
  | [d, g1, g2, g3] => { results := [.lit (.bool true)], args := [d], vars := [g1, g2, g3] }
  | _ => none }
def fnSnappyBackRow : OpenClaim := { program := "ytbhcdkbcbcmomaadoor", sum := "4ebef4febccd4d50bb3ccbf25a855de75ffcd6337962921e4a5f469dc3f9b7f8", func := "loop.example/pub-g01444/laws.FnSnappyBack", spec := "fnSnappyBack", named := ["loop.example/pub-g01444/pub/compress/inner/snapref.ErrTooLarge", "loop.example/pub-g01444/pub/compress/inner/snapref.errUnsupportedLiteralLength", "loop.example/pub-g01444/pub/compress/inner/snapref.ErrCorrupt"], ifaces := true, apart := false, laid := [("loop.example/pub-g01444/pub/compress/inner/snapref.ErrCorrupt", laid_loop_example_pub_g01444_pub_compress_inner_snapref_ErrCorrupt), ("loop.example/pub-g01444/pub/compress/inner/snapref.ErrTooLarge", laid_loop_example_pub_g01444_pub_compress_inner_snapref_ErrTooLarge), ("loop.example/pub-g01444/pub/compress/inner/snapref.errUnsupportedLiteralLength", laid_loop_example_pub_g01444_pub_compress_inner_snapref_errUnsupportedLiteralLength)] }
def FnSnappyBackSaid : Prop := fnSnappyBackRow.holds Tryd.pinned (OpenSpec.ofChange fnSnappyBackSpec)

/-- ITS FALSE NEIGHBOUR: 'it returns false'. Refute it at one input. -/
def fnSnappyBackWrong : ChangeSpec := { name := "fnSnappyBack", vars := ["loop.example/pub-g01444/pub/compress/inner/snapref.ErrTooLarge", "loop.example/pub-g01444/pub/compress/inner/snapref.errUnsupportedLiteralLength", "loop.example/pub-g01444/pub/compress/inner/snapref.ErrCorrupt"], fn := fun _ => fun
  | [d, g1, g2, g3] => { results := [.lit (.bool false)], args := [d], vars := [g1, g2, g3] }
  | _ => none }
def FnSnappyBackWrongFalsely : Prop := fnSnappyBackRow.holds Tryd.pinned (OpenSpec.ofChange fnSnappyBackWrong)

/- THE SECOND FORM. 'bulk': how many values and letters a reading holds, each counted each time it is reached (what is shared counts as often as it is met; a slice's spare places count too). A statement '..UptoSaid' is the law's where the arguments, and the package variables that the reading takes, are together of bulk at most 1048576: NARROWER than '..Said'. Prove '..Said' where nothing that the law and all that it calls make is longer than what came in: it says more and counts as full. Else prove '..UptoSaid'. A law counts once. -/
mutual
def uptoBulk {H : Type} : DataW H → Nat
  | .lit (.string bytes) => bytes.length + 1
  | .lit _ => 1
  | .nil => 1
  | .ptr d => uptoBulk d + 1
  | .slice elems spare => uptoBulkAll elems + uptoBulkAll spare + 1
  | .agg parts => uptoBulkAll parts + 1
  | .iface _ d => uptoBulk d + 1
  | .map entries => uptoBulkEntries entries + 1
  | .held _ => 1
def uptoBulkAll {H : Type} : List (DataW H) → Nat
  | [] => 0
  | d :: r => uptoBulk d + uptoBulkAll r
def uptoBulkEntries {H : Type} : List (Lit × DataW H) → Nat
  | [] => 0
  | x :: r => uptoBulkEntry x + uptoBulkEntries r
def uptoBulkEntry {H : Type} : Lit × DataW H → Nat
  | (.string bytes, d) => bytes.length + uptoBulk d + 1
  | (_, d) => uptoBulk d + 1
 end
def uptoSmall : (H : Type) → List (DataW H) → Bool := fun _ ds => decide (uptoBulkAll ds ≤ 1048576)
def OpenSpec.upto (s : _root_.Go.ChangeSpec) : _root_.Go.OpenSpec := { _root_.Go.OpenSpec.ofChange s with cond := some uptoSmall }

/-- 'laws.FnSnappyEncode', WHERE WHAT IT READS IS OF BULK AT MOST 1048576: true; the input reads as it did. -/
def fnSnappyEncodeUptoRow : OpenClaim := { program := "ytbhcdkbcbcmomaadoor", sum := "4ebef4febccd4d50bb3ccbf25a855de75ffcd6337962921e4a5f469dc3f9b7f8", func := "loop.example/pub-g01444/laws.FnSnappyEncode", spec := "fnSnappyEncode", named := ["loop.example/pub-g01444/pub/compress/inner/snapref.ErrTooLarge"], ifaces := true, apart := false, laid := [("loop.example/pub-g01444/pub/compress/inner/snapref.ErrTooLarge", laid_loop_example_pub_g01444_pub_compress_inner_snapref_ErrTooLarge)], narrowed := true }
def FnSnappyEncodeUptoSaid : Prop := fnSnappyEncodeUptoRow.holds Tryd.pinned (OpenSpec.upto fnSnappyEncodeSpec)

/-- 'laws.FnSnappyBack', WHERE WHAT IT READS IS OF BULK AT MOST 1048576: true; the input reads as it did. -/
def fnSnappyBackUptoRow : OpenClaim := { program := "ytbhcdkbcbcmomaadoor", sum := "4ebef4febccd4d50bb3ccbf25a855de75ffcd6337962921e4a5f469dc3f9b7f8", func := "loop.example/pub-g01444/laws.FnSnappyBack", spec := "fnSnappyBack", named := ["loop.example/pub-g01444/pub/compress/inner/snapref.ErrTooLarge", "loop.example/pub-g01444/pub/compress/inner/snapref.errUnsupportedLiteralLength", "loop.example/pub-g01444/pub/compress/inner/snapref.ErrCorrupt"], ifaces := true, apart := false, laid := [("loop.example/pub-g01444/pub/compress/inner/snapref.ErrCorrupt", laid_loop_example_pub_g01444_pub_compress_inner_snapref_ErrCorrupt), ("loop.example/pub-g01444/pub/compress/inner/snapref.ErrTooLarge", laid_loop_example_pub_g01444_pub_compress_inner_snapref_ErrTooLarge), ("loop.example/pub-g01444/pub/compress/inner/snapref.errUnsupportedLiteralLength", laid_loop_example_pub_g01444_pub_compress_inner_snapref_errUnsupportedLiteralLength)], narrowed := true }
def FnSnappyBackUptoSaid : Prop := fnSnappyBackUptoRow.holds Tryd.pinned (OpenSpec.upto fnSnappyBackSpec)

end Rows
end Go.Proofs.YtbhcdkbcbcmomaaDoor
