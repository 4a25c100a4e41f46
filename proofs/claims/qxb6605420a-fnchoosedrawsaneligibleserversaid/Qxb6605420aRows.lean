/-
  No cell of these rows narrows 'for every input' (looked for: loops, veiled, ifaces, maps, wideKeys, modest, calm, conditions, laid).
  DERIVED. THE GIVEN ROWS OF THIS SEAT. 3 by the template 'for every input the law returns true; each argument reads behind the call as it read before'; 0 by the template 'total and deterministic' (their statements: Qxb6605420aTotals.lean).
  GIVEN WITH THE SEED: the statements are not yours to turn. If you find one false, say at which input.
  Laid BY PROGRAM, IN A SANDBOX (cutbox-rows.mjs): the forced cells as the released guide's own fill.sh prints them over the translation 2ae049cd39701fb3… (all of the seat's roots in one cut). By AI agents, Wed Nov 11 2026. No macro, syntax, notation, axiom, sorry.
-/
import Derived.Test.Qxb6605420aChecked
import GoSem.Claim
import GoSem.ClaimJoined
import GoSem.ClaimMapViews
import Derived.JoinedTies
import Derived.KernelRfl
namespace Go.Proofs.Qxb6605420a
/- THE CELL 'sum', in the pinned program and in every row, IS THE sha256 OF THE DUMP (.gsa) THAT Qxb6605420aProg.lean LOADS. Nothing in Lean hashes anything: it is a label: what it is worth is what the hold of that sum in a sandbox is worth. -/
noncomputable def Try.pinned : Pinned := { name := "qxb6605420a", sum := "2ae049cd39701fb33233489ecdce5547b7b0b1ee4c63a8fbd0dff08453138d1c", checked := Try.checked }
namespace Rows
def none {H : Type} : Left H := { results := [], args := [] }

/-- 'zzlaws_client_b1.FnChooseDrawsAnEligibleServer': WHATEVER THE INPUT: true; the input reads as it did. -/
def fnChooseDrawsAnEligibleServerSpec : ChangeSpec := { name := "fnChooseDrawsAnEligibleServer", fn := fun _ => fun
  | [d1, d2, d3] => { results := [.lit (.bool true)], args := [d1, d2, d3] }
  | _ => none }
def fnChooseDrawsAnEligibleServerRow : OpenClaim := { program := "qxb6605420a", sum := "2ae049cd39701fb33233489ecdce5547b7b0b1ee4c63a8fbd0dff08453138d1c", func := "example.com/reconvene/reconvene/zzlaws_client_b1.FnChooseDrawsAnEligibleServer", spec := "fnChooseDrawsAnEligibleServer", apart := false }
def FnChooseDrawsAnEligibleServerSaid : Prop := fnChooseDrawsAnEligibleServerRow.holds Try.pinned (OpenSpec.ofChange fnChooseDrawsAnEligibleServerSpec)

/-- ITS FALSE NEIGHBOUR: 'it returns false'. Refute it at one input. -/
def fnChooseDrawsAnEligibleServerWrong : ChangeSpec := { name := "fnChooseDrawsAnEligibleServer", fn := fun _ => fun
  | [d1, d2, d3] => { results := [.lit (.bool false)], args := [d1, d2, d3] }
  | _ => none }
def FnChooseDrawsAnEligibleServerWrongFalsely : Prop := fnChooseDrawsAnEligibleServerRow.holds Try.pinned (OpenSpec.ofChange fnChooseDrawsAnEligibleServerWrong)

/-- 'zzlaws_client_b1.FnDistinctKeepsFirstOccurrencesInOrder': WHATEVER THE INPUT: true; the input reads as it did. -/
def fnDistinctKeepsFirstOccurrencesInOrderSpec : ChangeSpec := { name := "fnDistinctKeepsFirstOccurrencesInOrder", fn := fun _ => fun
  | [d] => { results := [.lit (.bool true)], args := [d] }
  | _ => none }
def fnDistinctKeepsFirstOccurrencesInOrderRow : OpenClaim := { program := "qxb6605420a", sum := "2ae049cd39701fb33233489ecdce5547b7b0b1ee4c63a8fbd0dff08453138d1c", func := "example.com/reconvene/reconvene/zzlaws_client_b1.FnDistinctKeepsFirstOccurrencesInOrder", spec := "fnDistinctKeepsFirstOccurrencesInOrder", apart := false }
def FnDistinctKeepsFirstOccurrencesInOrderSaid : Prop := fnDistinctKeepsFirstOccurrencesInOrderRow.holds Try.pinned (OpenSpec.ofChange fnDistinctKeepsFirstOccurrencesInOrderSpec)

/-- ITS FALSE NEIGHBOUR: 'it returns false'. Refute it at one input. -/
def fnDistinctKeepsFirstOccurrencesInOrderWrong : ChangeSpec := { name := "fnDistinctKeepsFirstOccurrencesInOrder", fn := fun _ => fun
  | [d] => { results := [.lit (.bool false)], args := [d] }
  | _ => none }
def FnDistinctKeepsFirstOccurrencesInOrderWrongFalsely : Prop := fnDistinctKeepsFirstOccurrencesInOrderRow.holds Try.pinned (OpenSpec.ofChange fnDistinctKeepsFirstOccurrencesInOrderWrong)

/-- 'zzlaws_client_b1.FnDistinctOfExtensionKeepsPrefix': WHATEVER THE INPUT: true; the input reads as it did. -/
def fnDistinctOfExtensionKeepsPrefixSpec : ChangeSpec := { name := "fnDistinctOfExtensionKeepsPrefix", fn := fun _ => fun
  | [d1, d2] => { results := [.lit (.bool true)], args := [d1, d2] }
  | _ => none }
def fnDistinctOfExtensionKeepsPrefixRow : OpenClaim := { program := "qxb6605420a", sum := "2ae049cd39701fb33233489ecdce5547b7b0b1ee4c63a8fbd0dff08453138d1c", func := "example.com/reconvene/reconvene/zzlaws_client_b1.FnDistinctOfExtensionKeepsPrefix", spec := "fnDistinctOfExtensionKeepsPrefix", apart := false }
def FnDistinctOfExtensionKeepsPrefixSaid : Prop := fnDistinctOfExtensionKeepsPrefixRow.holds Try.pinned (OpenSpec.ofChange fnDistinctOfExtensionKeepsPrefixSpec)

/-- ITS FALSE NEIGHBOUR: 'it returns false'. Refute it at one input. -/
def fnDistinctOfExtensionKeepsPrefixWrong : ChangeSpec := { name := "fnDistinctOfExtensionKeepsPrefix", fn := fun _ => fun
  | [d1, d2] => { results := [.lit (.bool false)], args := [d1, d2] }
  | _ => none }
def FnDistinctOfExtensionKeepsPrefixWrongFalsely : Prop := fnDistinctOfExtensionKeepsPrefixRow.holds Try.pinned (OpenSpec.ofChange fnDistinctOfExtensionKeepsPrefixWrong)

end Rows
end Go.Proofs.Qxb6605420a
