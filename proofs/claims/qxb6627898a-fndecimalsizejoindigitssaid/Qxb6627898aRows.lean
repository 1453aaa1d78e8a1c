/-
  No cell of these rows narrows 'for every input' (looked for: loops, veiled, ifaces, maps, wideKeys, modest, calm, conditions, laid).
  DERIVED. THE GIVEN ROWS OF THIS SEAT. 2 by the template 'for every input the law returns true; each argument reads behind the call as it read before'; 0 by the template 'total and deterministic' (their statements: Qxb6627898aTotals.lean).
  GIVEN WITH THE SEED: the statements are not yours to turn. If you find one false, say at which input.
  Laid BY PROGRAM, IN A SANDBOX (cutbox-rows.mjs): the forced cells as the released guide's own fill.sh prints them over the translation 858d92e4f06ac7d0… (all of the seat's roots in one cut). By AI agents, Wed Nov 11 2026. No macro, syntax, notation, axiom, sorry.
-/
import Derived.Test.Qxb6627898aChecked
import GoSem.Claim
import GoSem.ClaimJoined
import GoSem.ClaimMapViews
import Derived.JoinedTies
import Derived.KernelRfl
namespace Go.Proofs.Qxb6627898a
/- THE CELL 'sum', in the pinned program and in every row, IS THE sha256 OF THE DUMP (.gsa) THAT Qxb6627898aProg.lean LOADS. Nothing in Lean hashes anything: it is a label: what it is worth is what the hold of that sum in a sandbox is worth. -/
noncomputable def Try.pinned : Pinned := { name := "qxb6627898a", sum := "858d92e4f06ac7d0b79d482f37e51c083c2d672544049192622d01fd4f56d93e", checked := Try.checked }
namespace Rows
def none {H : Type} : Left H := { results := [], args := [] }

/-- 'zzlaws_resp_b1.FnDecimalSizeStripLastDigit': WHATEVER THE INPUT: true; the input reads as it did. -/
def fnDecimalSizeStripLastDigitSpec : ChangeSpec := { name := "fnDecimalSizeStripLastDigit", fn := fun _ => fun
  | [d] => { results := [.lit (.bool true)], args := [d] }
  | _ => none }
def fnDecimalSizeStripLastDigitRow : OpenClaim := { program := "qxb6627898a", sum := "858d92e4f06ac7d0b79d482f37e51c083c2d672544049192622d01fd4f56d93e", func := "example.com/slotwise/slotwise/zzlaws_resp_b1.FnDecimalSizeStripLastDigit", spec := "fnDecimalSizeStripLastDigit", apart := false }
def FnDecimalSizeStripLastDigitSaid : Prop := fnDecimalSizeStripLastDigitRow.holds Try.pinned (OpenSpec.ofChange fnDecimalSizeStripLastDigitSpec)

/-- ITS FALSE NEIGHBOUR: 'it returns false'. Refute it at one input. -/
def fnDecimalSizeStripLastDigitWrong : ChangeSpec := { name := "fnDecimalSizeStripLastDigit", fn := fun _ => fun
  | [d] => { results := [.lit (.bool false)], args := [d] }
  | _ => none }
def FnDecimalSizeStripLastDigitWrongFalsely : Prop := fnDecimalSizeStripLastDigitRow.holds Try.pinned (OpenSpec.ofChange fnDecimalSizeStripLastDigitWrong)

/-- 'zzlaws_resp_b1.FnDecimalSizeJoinDigits': WHATEVER THE INPUT: true; the input reads as it did. -/
def fnDecimalSizeJoinDigitsSpec : ChangeSpec := { name := "fnDecimalSizeJoinDigits", fn := fun _ => fun
  | [d1, d2, d3] => { results := [.lit (.bool true)], args := [d1, d2, d3] }
  | _ => none }
def fnDecimalSizeJoinDigitsRow : OpenClaim := { program := "qxb6627898a", sum := "858d92e4f06ac7d0b79d482f37e51c083c2d672544049192622d01fd4f56d93e", func := "example.com/slotwise/slotwise/zzlaws_resp_b1.FnDecimalSizeJoinDigits", spec := "fnDecimalSizeJoinDigits", apart := false }
def FnDecimalSizeJoinDigitsSaid : Prop := fnDecimalSizeJoinDigitsRow.holds Try.pinned (OpenSpec.ofChange fnDecimalSizeJoinDigitsSpec)

/-- ITS FALSE NEIGHBOUR: 'it returns false'. Refute it at one input. -/
def fnDecimalSizeJoinDigitsWrong : ChangeSpec := { name := "fnDecimalSizeJoinDigits", fn := fun _ => fun
  | [d1, d2, d3] => { results := [.lit (.bool false)], args := [d1, d2, d3] }
  | _ => none }
def FnDecimalSizeJoinDigitsWrongFalsely : Prop := fnDecimalSizeJoinDigitsRow.holds Try.pinned (OpenSpec.ofChange fnDecimalSizeJoinDigitsWrong)

end Rows
end Go.Proofs.Qxb6627898a
