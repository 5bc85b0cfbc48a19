/-
  No cell of these rows narrows 'for every input' (looked for: loops, veiled, ifaces, maps, wideKeys, modest, calm, conditions, laid).
  DERIVED. THE GIVEN ROWS OF THIS SEAT. 4 by the template 'for every input the law returns true; each argument reads behind the call as it read before'; 0 by the template 'total and deterministic' (their statements: Qxb6600620aTotals.lean).
  GIVEN WITH THE SEED: the statements are not yours to turn. If you find one false, say at which input.
  Laid BY PROGRAM, IN A SANDBOX (cutbox-rows.mjs): the forced cells as the released guide's own fill.sh prints them over the translation 651a0b80a455d3bc… (all of the seat's roots in one cut). By AI agents, Wed Nov 11 2026. No macro, syntax, notation, axiom, sorry.
-/
import Derived.Test.Qxb6600620aChecked
import GoSem.Claim
import GoSem.ClaimJoined
import GoSem.ClaimMapViews
import Derived.JoinedTies
import Derived.KernelRfl
namespace Go.Proofs.Qxb6600620a
/- THE CELL 'sum', in the pinned program and in every row, IS THE sha256 OF THE DUMP (.gsa) THAT Qxb6600620aProg.lean LOADS. Nothing in Lean hashes anything: it is a label: what it is worth is what the hold of that sum in a sandbox is worth. -/
noncomputable def Try.pinned : Pinned := { name := "qxb6600620a", sum := "651a0b80a455d3bca7039ecfa8a5d6f556ad044b2c0f9cb7c430dd9fe4a8f628", checked := Try.checked }
namespace Rows
def none {H : Type} : Left H := { results := [], args := [] }

/-- 'zzlaws_policy_b1.FnNumberEndMatchesAutomaton': WHATEVER THE INPUT: true; the input reads as it did. -/
def fnNumberEndMatchesAutomatonSpec : ChangeSpec := { name := "fnNumberEndMatchesAutomaton", fn := fun _ => fun
  | [d1, d2] => { results := [.lit (.bool true)], args := [d1, d2] }
  | _ => none }
def fnNumberEndMatchesAutomatonRow : OpenClaim := { program := "qxb6600620a", sum := "651a0b80a455d3bca7039ecfa8a5d6f556ad044b2c0f9cb7c430dd9fe4a8f628", func := "example.com/callwarden/callwarden/zzlaws_policy_b1.FnNumberEndMatchesAutomaton", spec := "fnNumberEndMatchesAutomaton", apart := false }
def FnNumberEndMatchesAutomatonSaid : Prop := fnNumberEndMatchesAutomatonRow.holds Try.pinned (OpenSpec.ofChange fnNumberEndMatchesAutomatonSpec)

/-- ITS FALSE NEIGHBOUR: 'it returns false'. Refute it at one input. -/
def fnNumberEndMatchesAutomatonWrong : ChangeSpec := { name := "fnNumberEndMatchesAutomaton", fn := fun _ => fun
  | [d1, d2] => { results := [.lit (.bool false)], args := [d1, d2] }
  | _ => none }
def FnNumberEndMatchesAutomatonWrongFalsely : Prop := fnNumberEndMatchesAutomatonRow.holds Try.pinned (OpenSpec.ofChange fnNumberEndMatchesAutomatonWrong)

/-- 'zzlaws_policy_b1.FnNumberEndShiftsTruncatesAndEndsOnDigit': WHATEVER THE INPUT: true; the input reads as it did. -/
def fnNumberEndShiftsTruncatesAndEndsOnDigitSpec : ChangeSpec := { name := "fnNumberEndShiftsTruncatesAndEndsOnDigit", fn := fun _ => fun
  | [d1, d2, d3] => { results := [.lit (.bool true)], args := [d1, d2, d3] }
  | _ => none }
def fnNumberEndShiftsTruncatesAndEndsOnDigitRow : OpenClaim := { program := "qxb6600620a", sum := "651a0b80a455d3bca7039ecfa8a5d6f556ad044b2c0f9cb7c430dd9fe4a8f628", func := "example.com/callwarden/callwarden/zzlaws_policy_b1.FnNumberEndShiftsTruncatesAndEndsOnDigit", spec := "fnNumberEndShiftsTruncatesAndEndsOnDigit", apart := false }
def FnNumberEndShiftsTruncatesAndEndsOnDigitSaid : Prop := fnNumberEndShiftsTruncatesAndEndsOnDigitRow.holds Try.pinned (OpenSpec.ofChange fnNumberEndShiftsTruncatesAndEndsOnDigitSpec)

/-- ITS FALSE NEIGHBOUR: 'it returns false'. Refute it at one input. -/
def fnNumberEndShiftsTruncatesAndEndsOnDigitWrong : ChangeSpec := { name := "fnNumberEndShiftsTruncatesAndEndsOnDigit", fn := fun _ => fun
  | [d1, d2, d3] => { results := [.lit (.bool false)], args := [d1, d2, d3] }
  | _ => none }
def FnNumberEndShiftsTruncatesAndEndsOnDigitWrongFalsely : Prop := fnNumberEndShiftsTruncatesAndEndsOnDigitRow.holds Try.pinned (OpenSpec.ofChange fnNumberEndShiftsTruncatesAndEndsOnDigitWrong)

/-- 'zzlaws_policy_b1.FnCreditCardAtMatchesLuhnModel': WHATEVER THE INPUT: true; the input reads as it did. -/
def fnCreditCardAtMatchesLuhnModelSpec : ChangeSpec := { name := "fnCreditCardAtMatchesLuhnModel", fn := fun _ => fun
  | [d1, d2] => { results := [.lit (.bool true)], args := [d1, d2] }
  | _ => none }
def fnCreditCardAtMatchesLuhnModelRow : OpenClaim := { program := "qxb6600620a", sum := "651a0b80a455d3bca7039ecfa8a5d6f556ad044b2c0f9cb7c430dd9fe4a8f628", func := "example.com/callwarden/callwarden/zzlaws_policy_b1.FnCreditCardAtMatchesLuhnModel", spec := "fnCreditCardAtMatchesLuhnModel", apart := false }
def FnCreditCardAtMatchesLuhnModelSaid : Prop := fnCreditCardAtMatchesLuhnModelRow.holds Try.pinned (OpenSpec.ofChange fnCreditCardAtMatchesLuhnModelSpec)

/-- ITS FALSE NEIGHBOUR: 'it returns false'. Refute it at one input. -/
def fnCreditCardAtMatchesLuhnModelWrong : ChangeSpec := { name := "fnCreditCardAtMatchesLuhnModel", fn := fun _ => fun
  | [d1, d2] => { results := [.lit (.bool false)], args := [d1, d2] }
  | _ => none }
def FnCreditCardAtMatchesLuhnModelWrongFalsely : Prop := fnCreditCardAtMatchesLuhnModelRow.holds Try.pinned (OpenSpec.ofChange fnCreditCardAtMatchesLuhnModelWrong)

/-- 'zzlaws_policy_b1.FnCreditCardAtBoundedLocalAndShiftable': WHATEVER THE INPUT: true; the input reads as it did. -/
def fnCreditCardAtBoundedLocalAndShiftableSpec : ChangeSpec := { name := "fnCreditCardAtBoundedLocalAndShiftable", fn := fun _ => fun
  | [d1, d2, d3] => { results := [.lit (.bool true)], args := [d1, d2, d3] }
  | _ => none }
def fnCreditCardAtBoundedLocalAndShiftableRow : OpenClaim := { program := "qxb6600620a", sum := "651a0b80a455d3bca7039ecfa8a5d6f556ad044b2c0f9cb7c430dd9fe4a8f628", func := "example.com/callwarden/callwarden/zzlaws_policy_b1.FnCreditCardAtBoundedLocalAndShiftable", spec := "fnCreditCardAtBoundedLocalAndShiftable", apart := false }
def FnCreditCardAtBoundedLocalAndShiftableSaid : Prop := fnCreditCardAtBoundedLocalAndShiftableRow.holds Try.pinned (OpenSpec.ofChange fnCreditCardAtBoundedLocalAndShiftableSpec)

/-- ITS FALSE NEIGHBOUR: 'it returns false'. Refute it at one input. -/
def fnCreditCardAtBoundedLocalAndShiftableWrong : ChangeSpec := { name := "fnCreditCardAtBoundedLocalAndShiftable", fn := fun _ => fun
  | [d1, d2, d3] => { results := [.lit (.bool false)], args := [d1, d2, d3] }
  | _ => none }
def FnCreditCardAtBoundedLocalAndShiftableWrongFalsely : Prop := fnCreditCardAtBoundedLocalAndShiftableRow.holds Try.pinned (OpenSpec.ofChange fnCreditCardAtBoundedLocalAndShiftableWrong)

end Rows
end Go.Proofs.Qxb6600620a
