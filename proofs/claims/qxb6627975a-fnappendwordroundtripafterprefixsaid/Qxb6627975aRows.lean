/-
  No cell of these rows narrows 'for every input' (looked for: loops, veiled, ifaces, maps, wideKeys, modest, calm, conditions, laid).
  DERIVED. THE GIVEN ROWS OF THIS SEAT. 2 by the template 'for every input the law returns true; each argument reads behind the call as it read before'; 0 by the template 'total and deterministic' (their statements: Qxb6627975aTotals.lean).
  GIVEN WITH THE SEED: the statements are not yours to turn. If you find one false, say at which input.
  Laid BY PROGRAM, IN A SANDBOX (cutbox-rows.mjs): the forced cells as the released guide's own fill.sh prints them over the translation 2ea5ebc0c949ebf9… (all of the seat's roots in one cut). By AI agents, Wed Nov 11 2026. No macro, syntax, notation, axiom, sorry.
-/
import Derived.Test.Qxb6627975aChecked
import GoSem.Claim
import GoSem.ClaimJoined
import GoSem.ClaimMapViews
import Derived.JoinedTies
import Derived.KernelRfl
namespace Go.Proofs.Qxb6627975a
/- THE CELL 'sum', in the pinned program and in every row, IS THE sha256 OF THE DUMP (.gsa) THAT Qxb6627975aProg.lean LOADS. Nothing in Lean hashes anything: it is a label: what it is worth is what the hold of that sum in a sandbox is worth. -/
noncomputable def Try.pinned : Pinned := { name := "qxb6627975a", sum := "2ea5ebc0c949ebf90c8b5ebb739032a511865d25652edde4452953f0ecdb77b0", checked := Try.checked }
namespace Rows
def none {H : Type} : Left H := { results := [], args := [] }

/-- 'zzlaws_internal_wire_b1.FnAppendWordRoundTripAfterPrefix': WHATEVER THE INPUT: true; the input reads as it did. -/
def fnAppendWordRoundTripAfterPrefixSpec : ChangeSpec := { name := "fnAppendWordRoundTripAfterPrefix", fn := fun _ => fun
  | [d1, d2, d3] => { results := [.lit (.bool true)], args := [d1, d2, d3] }
  | _ => none }
def fnAppendWordRoundTripAfterPrefixRow : OpenClaim := { program := "qxb6627975a", sum := "2ea5ebc0c949ebf90c8b5ebb739032a511865d25652edde4452953f0ecdb77b0", func := "example.com/sentwright/sentwright/zzlaws_internal_wire_b1.FnAppendWordRoundTripAfterPrefix", spec := "fnAppendWordRoundTripAfterPrefix", apart := false }
def FnAppendWordRoundTripAfterPrefixSaid : Prop := fnAppendWordRoundTripAfterPrefixRow.holds Try.pinned (OpenSpec.ofChange fnAppendWordRoundTripAfterPrefixSpec)

/-- ITS FALSE NEIGHBOUR: 'it returns false'. Refute it at one input. -/
def fnAppendWordRoundTripAfterPrefixWrong : ChangeSpec := { name := "fnAppendWordRoundTripAfterPrefix", fn := fun _ => fun
  | [d1, d2, d3] => { results := [.lit (.bool false)], args := [d1, d2, d3] }
  | _ => none }
def FnAppendWordRoundTripAfterPrefixWrongFalsely : Prop := fnAppendWordRoundTripAfterPrefixRow.holds Try.pinned (OpenSpec.ofChange fnAppendWordRoundTripAfterPrefixWrong)

/-- 'zzlaws_internal_wire_b1.FnAppendWordPrefixFreeShortestHeader': WHATEVER THE INPUT: true; the input reads as it did. -/
def fnAppendWordPrefixFreeShortestHeaderSpec : ChangeSpec := { name := "fnAppendWordPrefixFreeShortestHeader", fn := fun _ => fun
  | [d1, d2, d3] => { results := [.lit (.bool true)], args := [d1, d2, d3] }
  | _ => none }
def fnAppendWordPrefixFreeShortestHeaderRow : OpenClaim := { program := "qxb6627975a", sum := "2ea5ebc0c949ebf90c8b5ebb739032a511865d25652edde4452953f0ecdb77b0", func := "example.com/sentwright/sentwright/zzlaws_internal_wire_b1.FnAppendWordPrefixFreeShortestHeader", spec := "fnAppendWordPrefixFreeShortestHeader", apart := false }
def FnAppendWordPrefixFreeShortestHeaderSaid : Prop := fnAppendWordPrefixFreeShortestHeaderRow.holds Try.pinned (OpenSpec.ofChange fnAppendWordPrefixFreeShortestHeaderSpec)

/-- ITS FALSE NEIGHBOUR: 'it returns false'. Refute it at one input. -/
def fnAppendWordPrefixFreeShortestHeaderWrong : ChangeSpec := { name := "fnAppendWordPrefixFreeShortestHeader", fn := fun _ => fun
  | [d1, d2, d3] => { results := [.lit (.bool false)], args := [d1, d2, d3] }
  | _ => none }
def FnAppendWordPrefixFreeShortestHeaderWrongFalsely : Prop := fnAppendWordPrefixFreeShortestHeaderRow.holds Try.pinned (OpenSpec.ofChange fnAppendWordPrefixFreeShortestHeaderWrong)

end Rows
end Go.Proofs.Qxb6627975a
