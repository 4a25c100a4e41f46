/-
  No cell of these rows narrows 'for every input' (looked for: loops, veiled, ifaces, maps, wideKeys, modest, calm, conditions, laid).
  DERIVED. THE GIVEN ROWS OF THIS SEAT. 3 by the template 'for every input the law returns true; each argument reads behind the call as it read before'; 0 by the template 'total and deterministic' (their statements: Qxb6605427aTotals.lean).
  GIVEN WITH THE SEED: the statements are not yours to turn. If you find one false, say at which input.
  Laid BY PROGRAM, IN A SANDBOX (cutbox-rows.mjs): the forced cells as the released guide's own fill.sh prints them over the translation 71210523f8c590ed… (all of the seat's roots in one cut). By AI agents, Wed Nov 11 2026. No macro, syntax, notation, axiom, sorry.
-/
import Derived.Test.Qxb6605427aChecked
import GoSem.Claim
import GoSem.ClaimJoined
import GoSem.ClaimMapViews
import Derived.JoinedTies
import Derived.KernelRfl
namespace Go.Proofs.Qxb6605427a
/- THE CELL 'sum', in the pinned program and in every row, IS THE sha256 OF THE DUMP (.gsa) THAT Qxb6605427aProg.lean LOADS. Nothing in Lean hashes anything: it is a label: what it is worth is what the hold of that sum in a sandbox is worth. -/
noncomputable def Try.pinned : Pinned := { name := "qxb6605427a", sum := "71210523f8c590ed3e63e4a826e315068fce2e187e64c1f3a2bec39cf31589a1", checked := Try.checked }
namespace Rows
def none {H : Type} : Left H := { results := [], args := [] }

/-- 'zzlaws_pkg_muxrpc_b1.FnUseMatchesWindowModel': WHATEVER THE INPUT: true; the input reads as it did. -/
def fnUseMatchesWindowModelSpec : ChangeSpec := { name := "fnUseMatchesWindowModel", fn := fun _ => fun
  | [d1, d2, d3] => { results := [.lit (.bool true)], args := [d1, d2, d3] }
  | _ => none }
def fnUseMatchesWindowModelRow : OpenClaim := { program := "qxb6605427a", sum := "71210523f8c590ed3e63e4a826e315068fce2e187e64c1f3a2bec39cf31589a1", func := "example.com/venue-for-peers/venue-for-peers/zzlaws_pkg_muxrpc_b1.FnUseMatchesWindowModel", spec := "fnUseMatchesWindowModel", apart := false }
def FnUseMatchesWindowModelSaid : Prop := fnUseMatchesWindowModelRow.holds Try.pinned (OpenSpec.ofChange fnUseMatchesWindowModelSpec)

/-- ITS FALSE NEIGHBOUR: 'it returns false'. Refute it at one input. -/
def fnUseMatchesWindowModelWrong : ChangeSpec := { name := "fnUseMatchesWindowModel", fn := fun _ => fun
  | [d1, d2, d3] => { results := [.lit (.bool false)], args := [d1, d2, d3] }
  | _ => none }
def FnUseMatchesWindowModelWrongFalsely : Prop := fnUseMatchesWindowModelRow.holds Try.pinned (OpenSpec.ofChange fnUseMatchesWindowModelWrong)

/-- 'zzlaws_pkg_muxrpc_b1.FnUseScriptAgreesWithHistory': WHATEVER THE INPUT: true; the input reads as it did. -/
def fnUseScriptAgreesWithHistorySpec : ChangeSpec := { name := "fnUseScriptAgreesWithHistory", fn := fun _ => fun
  | [d] => { results := [.lit (.bool true)], args := [d] }
  | _ => none }
def fnUseScriptAgreesWithHistoryRow : OpenClaim := { program := "qxb6605427a", sum := "71210523f8c590ed3e63e4a826e315068fce2e187e64c1f3a2bec39cf31589a1", func := "example.com/venue-for-peers/venue-for-peers/zzlaws_pkg_muxrpc_b1.FnUseScriptAgreesWithHistory", spec := "fnUseScriptAgreesWithHistory", apart := false }
def FnUseScriptAgreesWithHistorySaid : Prop := fnUseScriptAgreesWithHistoryRow.holds Try.pinned (OpenSpec.ofChange fnUseScriptAgreesWithHistorySpec)

/-- ITS FALSE NEIGHBOUR: 'it returns false'. Refute it at one input. -/
def fnUseScriptAgreesWithHistoryWrong : ChangeSpec := { name := "fnUseScriptAgreesWithHistory", fn := fun _ => fun
  | [d] => { results := [.lit (.bool false)], args := [d] }
  | _ => none }
def FnUseScriptAgreesWithHistoryWrongFalsely : Prop := fnUseScriptAgreesWithHistoryRow.holds Try.pinned (OpenSpec.ofChange fnUseScriptAgreesWithHistoryWrong)

/-- 'zzlaws_pkg_muxrpc_b1.FnUseTwoNumbersCommute': WHATEVER THE INPUT: true; the input reads as it did. -/
def fnUseTwoNumbersCommuteSpec : ChangeSpec := { name := "fnUseTwoNumbersCommute", fn := fun _ => fun
  | [d1, d2, d3, d4] => { results := [.lit (.bool true)], args := [d1, d2, d3, d4] }
  | _ => none }
def fnUseTwoNumbersCommuteRow : OpenClaim := { program := "qxb6605427a", sum := "71210523f8c590ed3e63e4a826e315068fce2e187e64c1f3a2bec39cf31589a1", func := "example.com/venue-for-peers/venue-for-peers/zzlaws_pkg_muxrpc_b1.FnUseTwoNumbersCommute", spec := "fnUseTwoNumbersCommute", apart := false }
def FnUseTwoNumbersCommuteSaid : Prop := fnUseTwoNumbersCommuteRow.holds Try.pinned (OpenSpec.ofChange fnUseTwoNumbersCommuteSpec)

/-- ITS FALSE NEIGHBOUR: 'it returns false'. Refute it at one input. -/
def fnUseTwoNumbersCommuteWrong : ChangeSpec := { name := "fnUseTwoNumbersCommute", fn := fun _ => fun
  | [d1, d2, d3, d4] => { results := [.lit (.bool false)], args := [d1, d2, d3, d4] }
  | _ => none }
def FnUseTwoNumbersCommuteWrongFalsely : Prop := fnUseTwoNumbersCommuteRow.holds Try.pinned (OpenSpec.ofChange fnUseTwoNumbersCommuteWrong)

end Rows
end Go.Proofs.Qxb6605427a
