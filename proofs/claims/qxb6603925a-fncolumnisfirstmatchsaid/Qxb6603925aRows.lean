/-
  No cell of these rows narrows 'for every input' (looked for: loops, veiled, ifaces, maps, wideKeys, modest, calm, conditions, laid).
  DERIVED. THE GIVEN ROWS OF THIS SEAT. 1 by the template 'for every input the law returns true; each argument reads behind the call as it read before'; 0 by the template 'total and deterministic' (their statements: Qxb6603925aTotals.lean).
  GIVEN WITH THE SEED: the statements are not yours to turn. If you find one false, say at which input.
  Laid BY PROGRAM, IN A SANDBOX (cutbox-rows.mjs): the forced cells as the released guide's own fill.sh prints them over the translation 6541b97bb5d47aff… (all of the seat's roots in one cut). By AI agents, Wed Nov 11 2026. No macro, syntax, notation, axiom, sorry.
-/
import Derived.Test.Qxb6603925aChecked
import GoSem.Claim
import GoSem.ClaimJoined
import GoSem.ClaimMapViews
import Derived.JoinedTies
import Derived.KernelRfl
namespace Go.Proofs.Qxb6603925a
/- THE CELL 'sum', in the pinned program and in every row, IS THE sha256 OF THE DUMP (.gsa) THAT Qxb6603925aProg.lean LOADS. Nothing in Lean hashes anything: it is a label: what it is worth is what the hold of that sum in a sandbox is worth. -/
noncomputable def Try.pinned : Pinned := { name := "qxb6603925a", sum := "6541b97bb5d47aff459559f5df4dc10686c47a24144dbdbdb796870fd4ed1c77", checked := Try.checked }
namespace Rows
def none {H : Type} : Left H := { results := [], args := [] }

/-- 'zzlaws_internal_iana_b1.FnColumnIsFirstMatch': WHATEVER THE INPUT: true; the input reads as it did. -/
def fnColumnIsFirstMatchSpec : ChangeSpec := { name := "fnColumnIsFirstMatch", fn := fun _ => fun
  | [d1, d2] => { results := [.lit (.bool true)], args := [d1, d2] }
  | _ => none }
def fnColumnIsFirstMatchRow : OpenClaim := { program := "qxb6603925a", sum := "6541b97bb5d47aff459559f5df4dc10686c47a24144dbdbdb796870fd4ed1c77", func := "example.com/xorpath/xorpath/zzlaws_internal_iana_b1.FnColumnIsFirstMatch", spec := "fnColumnIsFirstMatch", apart := false }
def FnColumnIsFirstMatchSaid : Prop := fnColumnIsFirstMatchRow.holds Try.pinned (OpenSpec.ofChange fnColumnIsFirstMatchSpec)

/-- ITS FALSE NEIGHBOUR: 'it returns false'. Refute it at one input. -/
def fnColumnIsFirstMatchWrong : ChangeSpec := { name := "fnColumnIsFirstMatch", fn := fun _ => fun
  | [d1, d2] => { results := [.lit (.bool false)], args := [d1, d2] }
  | _ => none }
def FnColumnIsFirstMatchWrongFalsely : Prop := fnColumnIsFirstMatchRow.holds Try.pinned (OpenSpec.ofChange fnColumnIsFirstMatchWrong)

end Rows
end Go.Proofs.Qxb6603925a
