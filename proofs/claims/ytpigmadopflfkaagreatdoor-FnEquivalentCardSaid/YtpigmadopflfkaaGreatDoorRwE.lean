/- The tied card of the law FnEquivalent: for every list of small numbers, every order and every depth it returns true and its arguments read as before. Condition: none beyond the card's own (the listed package variables read as the program's text lays them). -/
import Derived.Test.YtpigmadopflfkaaGreatDoorRwD
import Derived.Test.YtpigmadopflfkaaGreatDoorTie
import Derived.Test.YtpigmadopflfkaaGreatDoorCards
import Derived.SevenTiedAt
namespace Go.Proofs.YtpigmadopflfkaaGreatDoor
open Go.ChangeShapes Go.WideShapes Go.ChangeAt Go.RowKit

theorem fnEquivalent_holds : Rows.FnEquivalentCardSaid :=
  Claim7.holds_tied_plain_at .later [] [.data, .data, .widerDeep, .widerDeep, .data, .data, .data, .data, .data, .data, .sentinel, .sentinel, .pinned, .pinned, .pinned] true (true, "a5345045f05cacc47d9d2c79ee5f2acd4a9f6fb9148c53e39cd4c8042617c887") true
    row_holds (fun _ h => by cases h) (by kernel_rfl) (fun _ h => by cases h) fnEquivalent_row_tie rfl ⟨rfl, rfl⟩ (by kernel_rfl) rfl
    (fun f fn hf hfn => by
      obtain rfl : f = 3 := Option.some.inj ((show Tryz.prog.funcNamed "pub-stemmata/laws.FnEquivalent" = some 3 by kernel_rfl).symm.trans hf) |>.symm
      obtain rfl : fn = Tryz.f3 := (Option.some.inj (Tryz.func3.symm.trans hfn)).symm
      exact ⟨by kernel_rfl, fun j t ht => by
        rw [Tryz.params3] at ht
        have hm : t ∈ [22, 23, 5] := by simpa using Array.mem_of_getElem? ht
        have hall : ([22, 23, 5].all fun u => !Tryz.prog.wantsStandIn u) = true := by kernel_rfl
        exact (show Tryz.prog.wantsStandIn t = false by simpa using List.all_eq_true.1 hall t hm)⟩)
    (by kernel_rfl)
#print axioms fnEquivalent_holds
end Go.Proofs.YtpigmadopflfkaaGreatDoor
