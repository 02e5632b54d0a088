/-
  No cell of these rows narrows 'for every input' (looked for: loops, veiled, ifaces, maps, wideKeys, modest, calm, conditions, laid).
  DERIVED. THE GIVEN ROWS OF THIS SEAT. 2 by the template 'for every input the law returns true; each argument reads behind the call as it read before'; 0 by the template 'total and deterministic' (their statements: Qxb6602453aTotals.lean).
  GIVEN WITH THE SEED: the statements are not yours to turn. If you find one false, say at which input.
  Laid BY PROGRAM, IN A SANDBOX (cutbox-rows.mjs): the forced cells as the released guide's own fill.sh prints them over the translation 24d5c6be2a1c67bb… (all of the seat's roots in one cut). By AI agents, Wed Nov 11 2026. No macro, syntax, notation, axiom, sorry.
-/
import Derived.Test.Qxb6602453aChecked
import GoSem.Claim
import GoSem.ClaimJoined
import GoSem.ClaimMapViews
import Derived.JoinedTies
import Derived.KernelRfl
namespace Go.Proofs.Qxb6602453a
/- THE CELL 'sum', in the pinned program and in every row, IS THE sha256 OF THE DUMP (.gsa) THAT Qxb6602453aProg.lean LOADS. Nothing in Lean hashes anything: it is a label: what it is worth is what the hold of that sum in a sandbox is worth. -/
noncomputable def Try.pinned : Pinned := { name := "qxb6602453a", sum := "24d5c6be2a1c67bbb6a56070326117f7c8256addfb05a14429484a237d8dfb8f", checked := Try.checked }
namespace Rows
def none {H : Type} : Left H := { results := [], args := [] }

/-- 'zzlaws_pdf_b1.FnPixelCaseTable': WHATEVER THE INPUT: true; the input reads as it did. -/
def fnPixelCaseTableSpec : ChangeSpec := { name := "fnPixelCaseTable", fn := fun _ => fun
  | [d1, d2, d3, d4, d5, d6, d7] => { results := [.lit (.bool true)], args := [d1, d2, d3, d4, d5, d6, d7] }
  | _ => none }
def fnPixelCaseTableRow : OpenClaim := { program := "qxb6602453a", sum := "24d5c6be2a1c67bbb6a56070326117f7c8256addfb05a14429484a237d8dfb8f", func := "example.com/mynah/mynah/zzlaws_pdf_b1.FnPixelCaseTable", spec := "fnPixelCaseTable", apart := false }
def FnPixelCaseTableSaid : Prop := fnPixelCaseTableRow.holds Try.pinned (OpenSpec.ofChange fnPixelCaseTableSpec)

/-- ITS FALSE NEIGHBOUR: 'it returns false'. Refute it at one input. -/
def fnPixelCaseTableWrong : ChangeSpec := { name := "fnPixelCaseTable", fn := fun _ => fun
  | [d1, d2, d3, d4, d5, d6, d7] => { results := [.lit (.bool false)], args := [d1, d2, d3, d4, d5, d6, d7] }
  | _ => none }
def FnPixelCaseTableWrongFalsely : Prop := fnPixelCaseTableRow.holds Try.pinned (OpenSpec.ofChange fnPixelCaseTableWrong)

/-- 'zzlaws_pdf_b1.FnPixelMoreInkNeverLighter': WHATEVER THE INPUT: true; the input reads as it did. -/
def fnPixelMoreInkNeverLighterSpec : ChangeSpec := { name := "fnPixelMoreInkNeverLighter", fn := fun _ => fun
  | [d1, d2, d3, d4] => { results := [.lit (.bool true)], args := [d1, d2, d3, d4] }
  | _ => none }
def fnPixelMoreInkNeverLighterRow : OpenClaim := { program := "qxb6602453a", sum := "24d5c6be2a1c67bbb6a56070326117f7c8256addfb05a14429484a237d8dfb8f", func := "example.com/mynah/mynah/zzlaws_pdf_b1.FnPixelMoreInkNeverLighter", spec := "fnPixelMoreInkNeverLighter", apart := false }
def FnPixelMoreInkNeverLighterSaid : Prop := fnPixelMoreInkNeverLighterRow.holds Try.pinned (OpenSpec.ofChange fnPixelMoreInkNeverLighterSpec)

/-- ITS FALSE NEIGHBOUR: 'it returns false'. Refute it at one input. -/
def fnPixelMoreInkNeverLighterWrong : ChangeSpec := { name := "fnPixelMoreInkNeverLighter", fn := fun _ => fun
  | [d1, d2, d3, d4] => { results := [.lit (.bool false)], args := [d1, d2, d3, d4] }
  | _ => none }
def FnPixelMoreInkNeverLighterWrongFalsely : Prop := fnPixelMoreInkNeverLighterRow.holds Try.pinned (OpenSpec.ofChange fnPixelMoreInkNeverLighterWrong)

end Rows
end Go.Proofs.Qxb6602453a
