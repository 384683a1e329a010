/-
  DERIVED. GIVEN WITH THE SEED: THE CARDS: each row of YtbhcdkbcbcmomaaDoorRows.lean that lists a variable, with what it lists TIED to the program's text (the seventh form; the later family's looks); each row that meets fmt, with fmt's text TOLD by the authors' own Lean function (tested against real Go, not proved from fmt's source: count such statements apart). THE CARD IS WHAT COUNTS. Prove the row's statement (the work); the ties are given (YtbhcdkbcbcmomaaDoorTie.lean); close each card by the builder's one call (the guide's Derived/Test/ToyasCard.lean, 'card_holds'). Laid BY PROGRAM, IN A SANDBOX (cutbox-door.mjs). By AI agents, Wed Nov 11 2026. No macro, syntax, notation, axiom, sorry.
-/
import Derived.Test.YtbhcdkbcbcmomaaDoorRows
import GoSem.ClaimSeven
namespace Go.Proofs.YtbhcdkbcbcmomaaDoor
namespace Rows

/-- THE TIED CARD OF 'laws.FnSnappyEncode'. -/
def fnSnappyEncodeCard : Claim7 := { stood := { row := fnSnappyEncodeRow, standIns := [], harness := (true, "ec3208f371d01e63a17580e08143c1fd8ef812e1739cd250dac345e0ff779be3"), looks := false }, kinds := [], alts := [], laidByText := true, laidKinds := [.sentinel], laidTests := true, laidLooks := .later }
def FnSnappyEncodeCardSaid : Prop := Claim7.holds Tryd.pinned (.plain (OpenSpec.ofChange fnSnappyEncodeSpec)) fnSnappyEncodeCard

/-- THE TIED CARD OF 'laws.FnSnappyBack'. -/
def fnSnappyBackCard : Claim7 := { stood := { row := fnSnappyBackRow, standIns := [], harness := (true, "ec3208f371d01e63a17580e08143c1fd8ef812e1739cd250dac345e0ff779be3"), looks := false }, kinds := [], alts := [], laidByText := true, laidKinds := [.sentinel, .sentinel, .sentinel], laidTests := true, laidLooks := .later }
def FnSnappyBackCardSaid : Prop := Claim7.holds Tryd.pinned (.plain (OpenSpec.ofChange fnSnappyBackSpec)) fnSnappyBackCard

/-- THE SECOND FORM's CARD OF 'laws.FnSnappyEncode'. -/
def fnSnappyEncodeUptoCard : Claim7 := { stood := { row := fnSnappyEncodeUptoRow, standIns := [], harness := (true, "ec3208f371d01e63a17580e08143c1fd8ef812e1739cd250dac345e0ff779be3"), looks := false }, kinds := [], alts := [], laidByText := true, laidKinds := [.sentinel], laidTests := true, laidLooks := .later }
def FnSnappyEncodeUptoCardSaid : Prop := Claim7.holds Tryd.pinned (.plain (OpenSpec.upto fnSnappyEncodeSpec)) fnSnappyEncodeUptoCard

/-- THE SECOND FORM's CARD OF 'laws.FnSnappyBack'. -/
def fnSnappyBackUptoCard : Claim7 := { stood := { row := fnSnappyBackUptoRow, standIns := [], harness := (true, "ec3208f371d01e63a17580e08143c1fd8ef812e1739cd250dac345e0ff779be3"), looks := false }, kinds := [], alts := [], laidByText := true, laidKinds := [.sentinel, .sentinel, .sentinel], laidTests := true, laidLooks := .later }
def FnSnappyBackUptoCardSaid : Prop := Claim7.holds Tryd.pinned (.plain (OpenSpec.upto fnSnappyBackSpec)) fnSnappyBackUptoCard
end Rows
end Go.Proofs.YtbhcdkbcbcmomaaDoor
