/-
  No cell of these rows narrows 'for every input' (looked for: loops, veiled, ifaces, maps, wideKeys, modest, calm, conditions, laid).
  DERIVED. THE GIVEN ROWS OF THIS SEAT. 2 by the template 'for every input the law returns true; each argument reads behind the call as it read before'; 0 by the template 'total and deterministic' (their statements: Qxb6628005aTotals.lean).
  GIVEN WITH THE SEED: the statements are not yours to turn. If you find one false, say at which input.
  Laid BY PROGRAM, IN A SANDBOX (cutbox-rows.mjs): the forced cells as the released guide's own fill.sh prints them over the translation 9cc8bb756e156d30… (all of the seat's roots in one cut). By AI agents, Wed Nov 11 2026. No macro, syntax, notation, axiom, sorry.
-/
import Derived.Test.Qxb6628005aChecked
import GoSem.Claim
import GoSem.ClaimJoined
import GoSem.ClaimMapViews
import Derived.JoinedTies
import Derived.KernelRfl
namespace Go.Proofs.Qxb6628005a
/- THE CELL 'sum', in the pinned program and in every row, IS THE sha256 OF THE DUMP (.gsa) THAT Qxb6628005aProg.lean LOADS. Nothing in Lean hashes anything: it is a label: what it is worth is what the hold of that sum in a sandbox is worth. -/
noncomputable def Try.pinned : Pinned := { name := "qxb6628005a", sum := "9cc8bb756e156d30f1cbe9a4ff637a55811a11f424cb835cae8920c5d5456071", checked := Try.checked }
namespace Rows
def none {H : Type} : Left H := { results := [], args := [] }

/-- 'zzlaws_internal_sqltext_b1.FnIsDashCommentIsExactDashToken': WHATEVER THE INPUT: true; the input reads as it did. -/
def fnIsDashCommentIsExactDashTokenSpec : ChangeSpec := { name := "fnIsDashCommentIsExactDashToken", fn := fun _ => fun
  | [d1, d2] => { results := [.lit (.bool true)], args := [d1, d2] }
  | _ => none }
def fnIsDashCommentIsExactDashTokenRow : OpenClaim := { program := "qxb6628005a", sum := "9cc8bb756e156d30f1cbe9a4ff637a55811a11f424cb835cae8920c5d5456071", func := "example.com/nextkey/nextkey/zzlaws_internal_sqltext_b1.FnIsDashCommentIsExactDashToken", spec := "fnIsDashCommentIsExactDashToken", apart := false }
def FnIsDashCommentIsExactDashTokenSaid : Prop := fnIsDashCommentIsExactDashTokenRow.holds Try.pinned (OpenSpec.ofChange fnIsDashCommentIsExactDashTokenSpec)

/-- ITS FALSE NEIGHBOUR: 'it returns false'. Refute it at one input. -/
def fnIsDashCommentIsExactDashTokenWrong : ChangeSpec := { name := "fnIsDashCommentIsExactDashToken", fn := fun _ => fun
  | [d1, d2] => { results := [.lit (.bool false)], args := [d1, d2] }
  | _ => none }
def FnIsDashCommentIsExactDashTokenWrongFalsely : Prop := fnIsDashCommentIsExactDashTokenRow.holds Try.pinned (OpenSpec.ofChange fnIsDashCommentIsExactDashTokenWrong)

/-- 'zzlaws_internal_sqltext_b1.FnIsDashCommentLooksThreeBytesAhead': WHATEVER THE INPUT: true; the input reads as it did. -/
def fnIsDashCommentLooksThreeBytesAheadSpec : ChangeSpec := { name := "fnIsDashCommentLooksThreeBytesAhead", fn := fun _ => fun
  | [d1, d2] => { results := [.lit (.bool true)], args := [d1, d2] }
  | _ => none }
def fnIsDashCommentLooksThreeBytesAheadRow : OpenClaim := { program := "qxb6628005a", sum := "9cc8bb756e156d30f1cbe9a4ff637a55811a11f424cb835cae8920c5d5456071", func := "example.com/nextkey/nextkey/zzlaws_internal_sqltext_b1.FnIsDashCommentLooksThreeBytesAhead", spec := "fnIsDashCommentLooksThreeBytesAhead", apart := false }
def FnIsDashCommentLooksThreeBytesAheadSaid : Prop := fnIsDashCommentLooksThreeBytesAheadRow.holds Try.pinned (OpenSpec.ofChange fnIsDashCommentLooksThreeBytesAheadSpec)

/-- ITS FALSE NEIGHBOUR: 'it returns false'. Refute it at one input. -/
def fnIsDashCommentLooksThreeBytesAheadWrong : ChangeSpec := { name := "fnIsDashCommentLooksThreeBytesAhead", fn := fun _ => fun
  | [d1, d2] => { results := [.lit (.bool false)], args := [d1, d2] }
  | _ => none }
def FnIsDashCommentLooksThreeBytesAheadWrongFalsely : Prop := fnIsDashCommentLooksThreeBytesAheadRow.holds Try.pinned (OpenSpec.ofChange fnIsDashCommentLooksThreeBytesAheadWrong)

end Rows
end Go.Proofs.Qxb6628005a
