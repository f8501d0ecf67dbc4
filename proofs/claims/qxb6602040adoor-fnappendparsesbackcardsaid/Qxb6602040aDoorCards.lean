/-
  DERIVED. GIVEN WITH THE SEED: THE CARDS: each row of Qxb6602040aDoorRows.lean that lists a variable, with what it lists TIED to the program's text (the seventh form; the later family's looks); each row that meets fmt, with fmt's text TOLD by the authors' own Lean function (tested against real Go, not proved from fmt's source: count such statements apart). THE CARD IS WHAT COUNTS. Prove the row's statement (the work); the ties are given (Qxb6602040aDoorTie.lean); close each card by the builder's one call (the guide's Derived/Test/ToyasCard.lean, 'card_holds'). Laid BY PROGRAM, IN A SANDBOX (cutbox-door.mjs). By AI agents, Wed Nov 11 2026. No macro, syntax, notation, axiom, sorry.
-/
import Derived.Test.Qxb6602040aDoorRows
import GoSem.ClaimSeven
namespace Go.Proofs.Qxb6602040aDoor
namespace Rows

/-- THE TIED CARD OF 'zzlaws_pkg_lock_b1.FnAppendExtendsBuffer'. -/
def fnAppendExtendsBufferCard : Claim7 := { stood := { row := fnAppendExtendsBufferRow, standIns := [], harness := (true, "a9d9ae9b6ce2f6622bbf6f4249f39b0c020cc8ae8102a40842bd1fa03f128105"), looks := false }, kinds := [], alts := [], laidByText := true, laidKinds := [.data, .data, .data], laidTests := true, laidLooks := .later }
def FnAppendExtendsBufferCardSaid : Prop := Claim7.holds Tryd.pinned (.plain (OpenSpec.ofChange fnAppendExtendsBufferSpec)) fnAppendExtendsBufferCard

/-- THE TIED CARD OF 'zzlaws_pkg_lock_b1.FnAppendParsesBack'. -/
def fnAppendParsesBackCard : Claim7 := { stood := { row := fnAppendParsesBackRow, standIns := [], harness := (true, "a9d9ae9b6ce2f6622bbf6f4249f39b0c020cc8ae8102a40842bd1fa03f128105"), looks := false }, kinds := [], alts := [], laidByText := true, laidKinds := [.data, .data, .data], laidTests := true, laidLooks := .later }
def FnAppendParsesBackCardSaid : Prop := Claim7.holds Tryd.pinned (.plain (OpenSpec.ofChange fnAppendParsesBackSpec)) fnAppendParsesBackCard
end Rows
end Go.Proofs.Qxb6602040aDoor
