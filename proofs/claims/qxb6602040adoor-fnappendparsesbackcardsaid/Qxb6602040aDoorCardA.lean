import Derived.Test.Qxb6602040aDoorProofs
import Derived.Test.Qxb6602040aDoorTie
import Derived.Test.Qxb6602040aDoorCards
import Derived.SevenTiedAt
namespace Go.Proofs.Qxb6602040aDoor
open Go

theorem card_holds : Rows.FnAppendParsesBackCardSaid :=
  Claim7.holds_tied_plain_at .later [] [.data, .data, .data] true (true, "a9d9ae9b6ce2f6622bbf6f4249f39b0c020cc8ae8102a40842bd1fa03f128105") false
    row_holds (fun _ h => by cases h) (by kernel_rfl) (fun _ h => by cases h) fnAppendParsesBack_row_tie rfl ⟨rfl, rfl⟩ (by kernel_rfl) rfl
    (fun f fn hf hfn => by
      obtain rfl : f = 4 := Option.some.inj ((show Tryd.prog.funcNamed Rows.fnAppendParsesBackRow.func = some 4 by kernel_rfl).symm.trans hf) |>.symm
      obtain rfl : fn = Tryd.f4 := (Option.some.inj (Tryd.func4.symm.trans hfn)).symm
      exact ⟨by kernel_rfl, fun j t ht => by
        rw [Tryd.params4] at ht
        have hm : t ∈ [9, 9, 9, 2, 23] := by simpa using Array.mem_of_getElem? ht
        have hall : ([9, 9, 9, 2, 23].all fun u => !Tryd.prog.wantsStandIn u) = true := by kernel_rfl
        exact (show Tryd.prog.wantsStandIn t = false by simpa using List.all_eq_true.1 hall t hm)⟩)
    (by kernel_rfl)
end Go.Proofs.Qxb6602040aDoor
