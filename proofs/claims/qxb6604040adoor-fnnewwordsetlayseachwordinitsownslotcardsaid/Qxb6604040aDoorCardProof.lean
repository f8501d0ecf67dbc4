import Derived.Test.Qxb6604040aDoorProofs
import Derived.Test.Qxb6604040aDoorTie
import Derived.Test.Qxb6604040aDoorCards
import Derived.SevenTiedAt
namespace Go.Proofs.Qxb6604040aDoor
open Go

theorem card_holds : Rows.FnNewWordSetLaysEachWordInItsOwnSlotCardSaid :=
  Claim7.holds_tied_plain_at .later [] [.listed, .data] true (true, "885455a491ee57efc27d76c1a8eae3ffa73fc474b2a7cbf3fd1c939f01c274e5") false
    row_holds (fun _ h => by cases h) (by kernel_rfl) (fun _ h => by cases h) fnNewWordSetLaysEachWordInItsOwnSlot_row_tie rfl ⟨rfl, rfl⟩ (by kernel_rfl) rfl
    (fun f fn hf hfn => by
      obtain rfl : f = 5 := Option.some.inj ((show Tryd.prog.funcNamed Rows.fnNewWordSetLaysEachWordInItsOwnSlotRow.func = some 5 by kernel_rfl).symm.trans hf) |>.symm
      obtain rfl : fn = Tryd.f5 := (Option.some.inj (Tryd.func5.symm.trans hfn)).symm
      exact ⟨by kernel_rfl, fun j t ht => by
        rw [Tryd.params5] at ht
        have hm : t ∈ [9] := by simpa using Array.mem_of_getElem? ht
        have hall : ([9].all fun u => !Tryd.prog.wantsStandIn u) = true := by kernel_rfl
        exact (show Tryd.prog.wantsStandIn t = false by simpa using List.all_eq_true.1 hall t hm)⟩)
    (by kernel_rfl)
end Go.Proofs.Qxb6604040aDoor
