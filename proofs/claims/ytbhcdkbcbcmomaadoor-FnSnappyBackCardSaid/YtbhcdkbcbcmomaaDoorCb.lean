/- Proved: whatever slice of bytes comes in, the law FnSnappyBack returns true, and the slice and the variables ErrTooLarge, errUnsupportedLiteralLength, ErrCorrupt read behind the call as they read before. Conditions: those that the given card prints, and no other: the three variables hold at the start what the program's own text lays into them (the card's tie), and what comes in is of a size that a machine's addresses reach. -/
import Derived.Test.YtbhcdkbcbcmomaaDoorRb
import Derived.Test.YtbhcdkbcbcmomaaDoorTie
import Derived.Test.YtbhcdkbcbcmomaaDoorCards
import Derived.SevenTiedAt
namespace Go.Proofs.YtbhcdkbcbcmomaaDoor
open Go

/-- THE STATEMENT. -/
theorem fnSnappyBack_card_holds : Rows.FnSnappyBackCardSaid :=
  Claim7.holds_tied_plain_at .later [] [.sentinel, .sentinel, .sentinel] true (true, "ec3208f371d01e63a17580e08143c1fd8ef812e1739cd250dac345e0ff779be3") false
    row2_holds (fun _ h => by cases h) (by kernel_rfl) (fun _ h => by cases h) fnSnappyBack_row_tie rfl ⟨rfl, rfl⟩ (by kernel_rfl) rfl
    (fun f fn hf hfn => by
      obtain rfl : f = 4 := Option.some.inj ((show Tryd.prog.funcNamed "loop.example/pub-g01444/laws.FnSnappyBack" = some 4 by kernel_rfl).symm.trans hf) |>.symm
      obtain rfl : fn = Tryd.f4 := (Option.some.inj (Tryd.func4.symm.trans hfn)).symm
      exact ⟨by kernel_rfl, fun j t ht => by
        rw [Tryd.params4] at ht
        have hm : t ∈ [22] := by simpa using Array.mem_of_getElem? ht
        have hall : ([22].all fun u => !Tryd.prog.wantsStandIn u) = true := by kernel_rfl
        exact (show Tryd.prog.wantsStandIn t = false by simpa using List.all_eq_true.1 hall t hm)⟩)
    (by kernel_rfl)
#print axioms fnSnappyBack_card_holds
end Go.Proofs.YtbhcdkbcbcmomaaDoor
