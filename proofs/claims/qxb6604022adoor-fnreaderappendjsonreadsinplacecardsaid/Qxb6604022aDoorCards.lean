/-
  DERIVED. GIVEN WITH THE SEED: THE CARDS: each row of Qxb6604022aDoorRows.lean that lists a variable, with what it lists TIED to the program's text (the seventh form; the later family's looks); each row that meets fmt, with fmt's text TOLD by the authors' own Lean function (tested against real Go, not proved from fmt's source: count such statements apart). THE CARD IS WHAT COUNTS. Prove the row's statement (the work); the ties are given (Qxb6604022aDoorTie.lean); close each card by the builder's one call (the guide's Derived/Test/ToyasCard.lean, 'card_holds'). Laid BY PROGRAM, IN A SANDBOX (cutbox-door.mjs). By AI agents, Wed Nov 11 2026. No macro, syntax, notation, axiom, sorry.
-/
import Derived.Test.Qxb6604022aDoorRows
import GoSem.ClaimSeven
namespace Go.Proofs.Qxb6604022aDoor
namespace Rows

/-- THE TIED CARD OF 'zzlaws_pkg_canon_b1.FnReaderAppendJSONMatchesStackModel'. -/
def fnReaderAppendJSONMatchesStackModelCard : Claim7 := { stood := { row := fnReaderAppendJSONMatchesStackModelRow, standIns := [], harness := (true, "80836a7e5dbaf32591f6f4c5f8681ac10ebbae54487172f5172a3827f1cf7f70"), looks := false }, kinds := [], alts := [], laidByText := true, laidKinds := [.data, .data, .data], laidTests := true, laidLooks := .later }
def FnReaderAppendJSONMatchesStackModelCardSaid : Prop := Claim7.holds Tryd.pinned (.plain (OpenSpec.ofChange fnReaderAppendJSONMatchesStackModelSpec)) fnReaderAppendJSONMatchesStackModelCard

/-- THE TIED CARD OF 'zzlaws_pkg_canon_b1.FnReaderAppendJSONReadsInPlace'. -/
def fnReaderAppendJSONReadsInPlaceCard : Claim7 := { stood := { row := fnReaderAppendJSONReadsInPlaceRow, standIns := [], harness := (true, "80836a7e5dbaf32591f6f4c5f8681ac10ebbae54487172f5172a3827f1cf7f70"), looks := false }, kinds := [], alts := [], laidByText := true, laidKinds := [.data, .data, .data], laidTests := true, laidLooks := .later }
def FnReaderAppendJSONReadsInPlaceCardSaid : Prop := Claim7.holds Tryd.pinned (.plain (OpenSpec.ofChange fnReaderAppendJSONReadsInPlaceSpec)) fnReaderAppendJSONReadsInPlaceCard
end Rows
end Go.Proofs.Qxb6604022aDoor
