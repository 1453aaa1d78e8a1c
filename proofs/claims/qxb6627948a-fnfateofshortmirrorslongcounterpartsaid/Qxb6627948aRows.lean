/-
  No cell of these rows narrows 'for every input' (looked for: loops, veiled, ifaces, maps, wideKeys, modest, calm, conditions, laid).
  DERIVED. THE GIVEN ROWS OF THIS SEAT. 2 by the template 'for every input the law returns true; each argument reads behind the call as it read before'; 0 by the template 'total and deterministic' (their statements: Qxb6627948aTotals.lean).
  GIVEN WITH THE SEED: the statements are not yours to turn. If you find one false, say at which input.
  Laid BY PROGRAM, IN A SANDBOX (cutbox-rows.mjs): the forced cells as the released guide's own fill.sh prints them over the translation 8ef17746940df7c0… (all of the seat's roots in one cut). By AI agents, Wed Nov 11 2026. No macro, syntax, notation, axiom, sorry.
-/
import Derived.Test.Qxb6627948aChecked
import GoSem.Claim
import GoSem.ClaimJoined
import GoSem.ClaimMapViews
import Derived.JoinedTies
import Derived.KernelRfl
namespace Go.Proofs.Qxb6627948a
/- THE CELL 'sum', in the pinned program and in every row, IS THE sha256 OF THE DUMP (.gsa) THAT Qxb6627948aProg.lean LOADS. Nothing in Lean hashes anything: it is a label: what it is worth is what the hold of that sum in a sandbox is worth. -/
noncomputable def Try.pinned : Pinned := { name := "qxb6627948a", sum := "8ef17746940df7c011a693fe6654096896ce771831457db31c98f5c2456d44b6", checked := Try.checked }
namespace Rows
def none {H : Type} : Left H := { results := [], args := [] }

/-- 'zzlaws_pkg_expiry_b1.FnFateOfShortMirrorsLongCounterpart': WHATEVER THE INPUT: true; the input reads as it did. -/
def fnFateOfShortMirrorsLongCounterpartSpec : ChangeSpec := { name := "fnFateOfShortMirrorsLongCounterpart", fn := fun _ => fun
  | [d1, d2, d3, d4, d5] => { results := [.lit (.bool true)], args := [d1, d2, d3, d4, d5] }
  | _ => none }
def fnFateOfShortMirrorsLongCounterpartRow : OpenClaim := { program := "qxb6627948a", sum := "8ef17746940df7c011a693fe6654096896ce771831457db31c98f5c2456d44b6", func := "example.com/tolabook/tolabook/zzlaws_pkg_expiry_b1.FnFateOfShortMirrorsLongCounterpart", spec := "fnFateOfShortMirrorsLongCounterpart", apart := false }
def FnFateOfShortMirrorsLongCounterpartSaid : Prop := fnFateOfShortMirrorsLongCounterpartRow.holds Try.pinned (OpenSpec.ofChange fnFateOfShortMirrorsLongCounterpartSpec)

/-- ITS FALSE NEIGHBOUR: 'it returns false'. Refute it at one input. -/
def fnFateOfShortMirrorsLongCounterpartWrong : ChangeSpec := { name := "fnFateOfShortMirrorsLongCounterpart", fn := fun _ => fun
  | [d1, d2, d3, d4, d5] => { results := [.lit (.bool false)], args := [d1, d2, d3, d4, d5] }
  | _ => none }
def FnFateOfShortMirrorsLongCounterpartWrongFalsely : Prop := fnFateOfShortMirrorsLongCounterpartRow.holds Try.pinned (OpenSpec.ofChange fnFateOfShortMirrorsLongCounterpartWrong)

/-- 'zzlaws_pkg_expiry_b1.FnFateOfLongInstructionMatters': WHATEVER THE INPUT: true; the input reads as it did. -/
def fnFateOfLongInstructionMattersSpec : ChangeSpec := { name := "fnFateOfLongInstructionMatters", fn := fun _ => fun
  | [d1, d2, d3, d4] => { results := [.lit (.bool true)], args := [d1, d2, d3, d4] }
  | _ => none }
def fnFateOfLongInstructionMattersRow : OpenClaim := { program := "qxb6627948a", sum := "8ef17746940df7c011a693fe6654096896ce771831457db31c98f5c2456d44b6", func := "example.com/tolabook/tolabook/zzlaws_pkg_expiry_b1.FnFateOfLongInstructionMatters", spec := "fnFateOfLongInstructionMatters", apart := false }
def FnFateOfLongInstructionMattersSaid : Prop := fnFateOfLongInstructionMattersRow.holds Try.pinned (OpenSpec.ofChange fnFateOfLongInstructionMattersSpec)

/-- ITS FALSE NEIGHBOUR: 'it returns false'. Refute it at one input. -/
def fnFateOfLongInstructionMattersWrong : ChangeSpec := { name := "fnFateOfLongInstructionMatters", fn := fun _ => fun
  | [d1, d2, d3, d4] => { results := [.lit (.bool false)], args := [d1, d2, d3, d4] }
  | _ => none }
def FnFateOfLongInstructionMattersWrongFalsely : Prop := fnFateOfLongInstructionMattersRow.holds Try.pinned (OpenSpec.ofChange fnFateOfLongInstructionMattersWrong)

end Rows
end Go.Proofs.Qxb6627948a
