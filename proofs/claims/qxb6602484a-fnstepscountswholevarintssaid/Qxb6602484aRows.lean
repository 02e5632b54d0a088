/-
  No cell of these rows narrows 'for every input' (looked for: loops, veiled, ifaces, maps, wideKeys, modest, calm, conditions, laid).
  DERIVED. THE GIVEN ROWS OF THIS SEAT. 2 by the template 'for every input the law returns true; each argument reads behind the call as it read before'; 0 by the template 'total and deterministic' (their statements: Qxb6602484aTotals.lean).
  GIVEN WITH THE SEED: the statements are not yours to turn. If you find one false, say at which input.
  Laid BY PROGRAM, IN A SANDBOX (cutbox-rows.mjs): the forced cells as the released guide's own fill.sh prints them over the translation badd4e42c3941783… (all of the seat's roots in one cut). By AI agents, Wed Nov 11 2026. No macro, syntax, notation, axiom, sorry.
-/
import Derived.Test.Qxb6602484aChecked
import GoSem.Claim
import GoSem.ClaimJoined
import GoSem.ClaimMapViews
import Derived.JoinedTies
import Derived.KernelRfl
namespace Go.Proofs.Qxb6602484a
/- THE CELL 'sum', in the pinned program and in every row, IS THE sha256 OF THE DUMP (.gsa) THAT Qxb6602484aProg.lean LOADS. Nothing in Lean hashes anything: it is a label: what it is worth is what the hold of that sum in a sandbox is worth. -/
noncomputable def Try.pinned : Pinned := { name := "qxb6602484a", sum := "badd4e42c3941783371440cc8d91413b0789746e107bf7f005ea74536e5e1638", checked := Try.checked }
namespace Rows
def none {H : Type} : Left H := { results := [], args := [] }

/-- 'zzlaws_wire_b1.FnStepsCountsWholeVarints': WHATEVER THE INPUT: true; the input reads as it did. -/
def fnStepsCountsWholeVarintsSpec : ChangeSpec := { name := "fnStepsCountsWholeVarints", fn := fun _ => fun
  | [d1, d2, d3, d4, d5, d6, d7] => { results := [.lit (.bool true)], args := [d1, d2, d3, d4, d5, d6, d7] }
  | _ => none }
def fnStepsCountsWholeVarintsRow : OpenClaim := { program := "qxb6602484a", sum := "badd4e42c3941783371440cc8d91413b0789746e107bf7f005ea74536e5e1638", func := "example.com/ferry2/ferry2/zzlaws_wire_b1.FnStepsCountsWholeVarints", spec := "fnStepsCountsWholeVarints", apart := false }
def FnStepsCountsWholeVarintsSaid : Prop := fnStepsCountsWholeVarintsRow.holds Try.pinned (OpenSpec.ofChange fnStepsCountsWholeVarintsSpec)

/-- ITS FALSE NEIGHBOUR: 'it returns false'. Refute it at one input. -/
def fnStepsCountsWholeVarintsWrong : ChangeSpec := { name := "fnStepsCountsWholeVarints", fn := fun _ => fun
  | [d1, d2, d3, d4, d5, d6, d7] => { results := [.lit (.bool false)], args := [d1, d2, d3, d4, d5, d6, d7] }
  | _ => none }
def FnStepsCountsWholeVarintsWrongFalsely : Prop := fnStepsCountsWholeVarintsRow.holds Try.pinned (OpenSpec.ofChange fnStepsCountsWholeVarintsWrong)

/-- 'zzlaws_wire_b1.FnStepsAddsOverConcatenation': WHATEVER THE INPUT: true; the input reads as it did. -/
def fnStepsAddsOverConcatenationSpec : ChangeSpec := { name := "fnStepsAddsOverConcatenation", fn := fun _ => fun
  | [d1, d2, d3] => { results := [.lit (.bool true)], args := [d1, d2, d3] }
  | _ => none }
def fnStepsAddsOverConcatenationRow : OpenClaim := { program := "qxb6602484a", sum := "badd4e42c3941783371440cc8d91413b0789746e107bf7f005ea74536e5e1638", func := "example.com/ferry2/ferry2/zzlaws_wire_b1.FnStepsAddsOverConcatenation", spec := "fnStepsAddsOverConcatenation", apart := false }
def FnStepsAddsOverConcatenationSaid : Prop := fnStepsAddsOverConcatenationRow.holds Try.pinned (OpenSpec.ofChange fnStepsAddsOverConcatenationSpec)

/-- ITS FALSE NEIGHBOUR: 'it returns false'. Refute it at one input. -/
def fnStepsAddsOverConcatenationWrong : ChangeSpec := { name := "fnStepsAddsOverConcatenation", fn := fun _ => fun
  | [d1, d2, d3] => { results := [.lit (.bool false)], args := [d1, d2, d3] }
  | _ => none }
def FnStepsAddsOverConcatenationWrongFalsely : Prop := fnStepsAddsOverConcatenationRow.holds Try.pinned (OpenSpec.ofChange fnStepsAddsOverConcatenationWrong)

end Rows
end Go.Proofs.Qxb6602484a
