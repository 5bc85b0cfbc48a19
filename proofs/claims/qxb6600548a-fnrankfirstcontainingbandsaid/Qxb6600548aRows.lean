/-
  No cell of these rows narrows 'for every input' (looked for: loops, veiled, ifaces, maps, wideKeys, modest, calm, conditions, laid).
  DERIVED. THE GIVEN ROWS OF THIS SEAT. 5 by the template 'for every input the law returns true; each argument reads behind the call as it read before'; 0 by the template 'total and deterministic' (their statements: Qxb6600548aTotals.lean).
  GIVEN WITH THE SEED: the statements are not yours to turn. If you find one false, say at which input.
  Laid BY PROGRAM, IN A SANDBOX (cutbox-rows.mjs): the forced cells as the released guide's own fill.sh prints them over the translation ac110e6960d561f1… (all of the seat's roots in one cut). By AI agents, Wed Nov 11 2026. No macro, syntax, notation, axiom, sorry.
-/
import Derived.Test.Qxb6600548aChecked
import GoSem.Claim
import GoSem.ClaimJoined
import GoSem.ClaimMapViews
import Derived.JoinedTies
import Derived.KernelRfl
namespace Go.Proofs.Qxb6600548a
/- THE CELL 'sum', in the pinned program and in every row, IS THE sha256 OF THE DUMP (.gsa) THAT Qxb6600548aProg.lean LOADS. Nothing in Lean hashes anything: it is a label: what it is worth is what the hold of that sum in a sandbox is worth. -/
noncomputable def Try.pinned : Pinned := { name := "qxb6600548a", sum := "ac110e6960d561f17cde43c89653cf6a5b53b7bb27ccf17ec7dbcb32929fb9b3", checked := Try.checked }
namespace Rows
def none {H : Type} : Left H := { results := [], args := [] }

/-- 'zzlaws_elo_b1.FnRankFirstContainingBand': WHATEVER THE INPUT: true; the input reads as it did. -/
def fnRankFirstContainingBandSpec : ChangeSpec := { name := "fnRankFirstContainingBand", fn := fun _ => fun
  | [d1, d2, d3] => { results := [.lit (.bool true)], args := [d1, d2, d3] }
  | _ => none }
def fnRankFirstContainingBandRow : OpenClaim := { program := "qxb6600548a", sum := "ac110e6960d561f17cde43c89653cf6a5b53b7bb27ccf17ec7dbcb32929fb9b3", func := "example.com/cipherbound/cipherbound/zzlaws_elo_b1.FnRankFirstContainingBand", spec := "fnRankFirstContainingBand", apart := false }
def FnRankFirstContainingBandSaid : Prop := fnRankFirstContainingBandRow.holds Try.pinned (OpenSpec.ofChange fnRankFirstContainingBandSpec)

/-- ITS FALSE NEIGHBOUR: 'it returns false'. Refute it at one input. -/
def fnRankFirstContainingBandWrong : ChangeSpec := { name := "fnRankFirstContainingBand", fn := fun _ => fun
  | [d1, d2, d3] => { results := [.lit (.bool false)], args := [d1, d2, d3] }
  | _ => none }
def FnRankFirstContainingBandWrongFalsely : Prop := fnRankFirstContainingBandRow.holds Try.pinned (OpenSpec.ofChange fnRankFirstContainingBandWrong)

/-- 'zzlaws_elo_b1.FnRankConcatenation': WHATEVER THE INPUT: true; the input reads as it did. -/
def fnRankConcatenationSpec : ChangeSpec := { name := "fnRankConcatenation", fn := fun _ => fun
  | [d1, d2, d3, d4, d5] => { results := [.lit (.bool true)], args := [d1, d2, d3, d4, d5] }
  | _ => none }
def fnRankConcatenationRow : OpenClaim := { program := "qxb6600548a", sum := "ac110e6960d561f17cde43c89653cf6a5b53b7bb27ccf17ec7dbcb32929fb9b3", func := "example.com/cipherbound/cipherbound/zzlaws_elo_b1.FnRankConcatenation", spec := "fnRankConcatenation", apart := false }
def FnRankConcatenationSaid : Prop := fnRankConcatenationRow.holds Try.pinned (OpenSpec.ofChange fnRankConcatenationSpec)

/-- ITS FALSE NEIGHBOUR: 'it returns false'. Refute it at one input. -/
def fnRankConcatenationWrong : ChangeSpec := { name := "fnRankConcatenation", fn := fun _ => fun
  | [d1, d2, d3, d4, d5] => { results := [.lit (.bool false)], args := [d1, d2, d3, d4, d5] }
  | _ => none }
def FnRankConcatenationWrongFalsely : Prop := fnRankConcatenationRow.holds Try.pinned (OpenSpec.ofChange fnRankConcatenationWrong)

/-- 'zzlaws_elo_b1.FnRankDefaultClosedForm': WHATEVER THE INPUT: true; the input reads as it did. -/
def fnRankDefaultClosedFormSpec : ChangeSpec := { name := "fnRankDefaultClosedForm", fn := fun _ => fun
  | [d] => { results := [.lit (.bool true)], args := [d] }
  | _ => none }
def fnRankDefaultClosedFormRow : OpenClaim := { program := "qxb6600548a", sum := "ac110e6960d561f17cde43c89653cf6a5b53b7bb27ccf17ec7dbcb32929fb9b3", func := "example.com/cipherbound/cipherbound/zzlaws_elo_b1.FnRankDefaultClosedForm", spec := "fnRankDefaultClosedForm", apart := false }
def FnRankDefaultClosedFormSaid : Prop := fnRankDefaultClosedFormRow.holds Try.pinned (OpenSpec.ofChange fnRankDefaultClosedFormSpec)

/-- ITS FALSE NEIGHBOUR: 'it returns false'. Refute it at one input. -/
def fnRankDefaultClosedFormWrong : ChangeSpec := { name := "fnRankDefaultClosedForm", fn := fun _ => fun
  | [d] => { results := [.lit (.bool false)], args := [d] }
  | _ => none }
def FnRankDefaultClosedFormWrongFalsely : Prop := fnRankDefaultClosedFormRow.holds Try.pinned (OpenSpec.ofChange fnRankDefaultClosedFormWrong)

/-- 'zzlaws_elo_b1.FnDefaultRanksTable': WHATEVER THE INPUT: true; the input reads as it did. -/
def fnDefaultRanksTableSpec : ChangeSpec := { name := "fnDefaultRanksTable", fn := fun _ => fun
  | [] => { results := [.lit (.bool true)], args := [] }
  | _ => none }
def fnDefaultRanksTableRow : OpenClaim := { program := "qxb6600548a", sum := "ac110e6960d561f17cde43c89653cf6a5b53b7bb27ccf17ec7dbcb32929fb9b3", func := "example.com/cipherbound/cipherbound/zzlaws_elo_b1.FnDefaultRanksTable", spec := "fnDefaultRanksTable", apart := false }
def FnDefaultRanksTableSaid : Prop := fnDefaultRanksTableRow.holds Try.pinned (OpenSpec.ofChange fnDefaultRanksTableSpec)

/-- ITS FALSE NEIGHBOUR: 'it returns false'. Refute it at one input. -/
def fnDefaultRanksTableWrong : ChangeSpec := { name := "fnDefaultRanksTable", fn := fun _ => fun
  | [] => { results := [.lit (.bool false)], args := [] }
  | _ => none }
def FnDefaultRanksTableWrongFalsely : Prop := fnDefaultRanksTableRow.holds Try.pinned (OpenSpec.ofChange fnDefaultRanksTableWrong)

/-- 'zzlaws_elo_b1.FnDefaultRanksFreshEachCall': WHATEVER THE INPUT: true; the input reads as it did. -/
def fnDefaultRanksFreshEachCallSpec : ChangeSpec := { name := "fnDefaultRanksFreshEachCall", fn := fun _ => fun
  | [] => { results := [.lit (.bool true)], args := [] }
  | _ => none }
def fnDefaultRanksFreshEachCallRow : OpenClaim := { program := "qxb6600548a", sum := "ac110e6960d561f17cde43c89653cf6a5b53b7bb27ccf17ec7dbcb32929fb9b3", func := "example.com/cipherbound/cipherbound/zzlaws_elo_b1.FnDefaultRanksFreshEachCall", spec := "fnDefaultRanksFreshEachCall", apart := false }
def FnDefaultRanksFreshEachCallSaid : Prop := fnDefaultRanksFreshEachCallRow.holds Try.pinned (OpenSpec.ofChange fnDefaultRanksFreshEachCallSpec)

/-- ITS FALSE NEIGHBOUR: 'it returns false'. Refute it at one input. -/
def fnDefaultRanksFreshEachCallWrong : ChangeSpec := { name := "fnDefaultRanksFreshEachCall", fn := fun _ => fun
  | [] => { results := [.lit (.bool false)], args := [] }
  | _ => none }
def FnDefaultRanksFreshEachCallWrongFalsely : Prop := fnDefaultRanksFreshEachCallRow.holds Try.pinned (OpenSpec.ofChange fnDefaultRanksFreshEachCallWrong)

end Rows
end Go.Proofs.Qxb6600548a
