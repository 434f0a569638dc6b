/- laws.FnBoxOf: the tied card. -/
import Derived.Test.YtcmeaogbfecjkaaGreatDoorE5
import Derived.Test.YtcmeaogbfecjkaaGreatDoorCards
import Derived.Test.YtcmeaogbfecjkaaGreatDoorTie
import Derived.SevenTiedAt
namespace Go.Proofs.YtcmeaogbfecjkaaGreatDoor
open Go

theorem fnBoxOf_card_holds : Rows.FnBoxOfCardSaid :=
  Claim7.holds_tied_plain_at .later [] [.data, .data, .widerDeep, .widerDeep, .data, .data, .data, .data, .data, .data, .sentinel, .sentinel, .pinned, .pinned, .pinned] true (true, "6fbee44ac39c0daf3996ed257d5c6155f1875296d0f6acd4d7b1f6ad22413d55") true
    fnBoxOf_holds (fun _ h => by cases h) (by kernel_rfl) (fun _ h => by cases h) fnBoxOf_row_tie rfl ⟨rfl, rfl⟩ (by kernel_rfl) rfl
    (fun f fn hf hfn => by
      obtain rfl : f = 5 := Option.some.inj ((show Tryz.prog.funcNamed "given.example/pub-quirewright/laws.FnBoxOf" = some 5 by kernel_rfl).symm.trans hf) |>.symm
      obtain rfl : fn = Tryz.f5 := (Option.some.inj (Tryz.func5.symm.trans hfn)).symm
      exact ⟨by kernel_rfl, fun j t ht => by
        rw [Tryz.params5] at ht
        have hm : t ∈ [3, 42, 3, 3] := by simpa using Array.mem_of_getElem? ht
        have hall : ([3, 42, 3, 3].all fun u => !Tryz.prog.wantsStandIn u) = true := by kernel_rfl
        exact (show Tryz.prog.wantsStandIn t = false by simpa using List.all_eq_true.1 hall t hm)⟩)
    (by kernel_rfl)
#print axioms fnBoxOf_card_holds
end Go.Proofs.YtcmeaogbfecjkaaGreatDoor
