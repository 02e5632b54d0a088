/-
  No cell of these rows narrows 'for every input' (looked for: loops, veiled, ifaces, maps, wideKeys, modest, calm, conditions, laid).
  DERIVED. THE GIVEN ROWS OF THIS SEAT. 4 by the template 'for every input the law returns true; each argument reads behind the call as it read before'; 0 by the template 'total and deterministic' (their statements: Qxb6601490aTotals.lean).
  GIVEN WITH THE SEED: the statements are not yours to turn. If you find one false, say at which input.
  Laid BY PROGRAM, IN A SANDBOX (cutbox-rows.mjs): the forced cells as the released guide's own fill.sh prints them over the translation 4386a07134959949… (all of the seat's roots in one cut). By AI agents, Wed Nov 11 2026. No macro, syntax, notation, axiom, sorry.
-/
import Derived.Test.Qxb6601490aChecked
import GoSem.Claim
import GoSem.ClaimJoined
import GoSem.ClaimMapViews
import Derived.JoinedTies
import Derived.KernelRfl
namespace Go.Proofs.Qxb6601490a
/- THE CELL 'sum', in the pinned program and in every row, IS THE sha256 OF THE DUMP (.gsa) THAT Qxb6601490aProg.lean LOADS. Nothing in Lean hashes anything: it is a label: what it is worth is what the hold of that sum in a sandbox is worth. -/
noncomputable def Try.pinned : Pinned := { name := "qxb6601490a", sum := "4386a071349599499afd3ec305cca993380ae294f2698856c5651093b69c03dd", checked := Try.checked }
namespace Rows
def none {H : Type} : Left H := { results := [], args := [] }

/-- 'zzlaws_internal_store_b1.FnNullableFreshEachCall': WHATEVER THE INPUT: true; the input reads as it did. -/
def fnNullableFreshEachCallSpec : ChangeSpec := { name := "fnNullableFreshEachCall", fn := fun _ => fun
  | [d] => { results := [.lit (.bool true)], args := [d] }
  | _ => none }
def fnNullableFreshEachCallRow : OpenClaim := { program := "qxb6601490a", sum := "4386a071349599499afd3ec305cca993380ae294f2698856c5651093b69c03dd", func := "example.com/latchkey/latchkey/zzlaws_internal_store_b1.FnNullableFreshEachCall", spec := "fnNullableFreshEachCall", apart := false }
def FnNullableFreshEachCallSaid : Prop := fnNullableFreshEachCallRow.holds Try.pinned (OpenSpec.ofChange fnNullableFreshEachCallSpec)

/-- ITS FALSE NEIGHBOUR: 'it returns false'. Refute it at one input. -/
def fnNullableFreshEachCallWrong : ChangeSpec := { name := "fnNullableFreshEachCall", fn := fun _ => fun
  | [d] => { results := [.lit (.bool false)], args := [d] }
  | _ => none }
def FnNullableFreshEachCallWrongFalsely : Prop := fnNullableFreshEachCallRow.holds Try.pinned (OpenSpec.ofChange fnNullableFreshEachCallWrong)

/-- 'zzlaws_internal_store_b1.FnEndingSessionsSplice': WHATEVER THE INPUT: true; the input reads as it did. -/
def fnEndingSessionsSpliceSpec : ChangeSpec := { name := "fnEndingSessionsSplice", fn := fun _ => fun
  | [d] => { results := [.lit (.bool true)], args := [d] }
  | _ => none }
def fnEndingSessionsSpliceRow : OpenClaim := { program := "qxb6601490a", sum := "4386a071349599499afd3ec305cca993380ae294f2698856c5651093b69c03dd", func := "example.com/latchkey/latchkey/zzlaws_internal_store_b1.FnEndingSessionsSplice", spec := "fnEndingSessionsSplice", apart := false }
def FnEndingSessionsSpliceSaid : Prop := fnEndingSessionsSpliceRow.holds Try.pinned (OpenSpec.ofChange fnEndingSessionsSpliceSpec)

/-- ITS FALSE NEIGHBOUR: 'it returns false'. Refute it at one input. -/
def fnEndingSessionsSpliceWrong : ChangeSpec := { name := "fnEndingSessionsSplice", fn := fun _ => fun
  | [d] => { results := [.lit (.bool false)], args := [d] }
  | _ => none }
def FnEndingSessionsSpliceWrongFalsely : Prop := fnEndingSessionsSpliceRow.holds Try.pinned (OpenSpec.ofChange fnEndingSessionsSpliceWrong)

/-- 'zzlaws_internal_store_b1.FnEndingSessionsConditionBracketed': WHATEVER THE INPUT: true; the input reads as it did. -/
def fnEndingSessionsConditionBracketedSpec : ChangeSpec := { name := "fnEndingSessionsConditionBracketed", fn := fun _ => fun
  | [d] => { results := [.lit (.bool true)], args := [d] }
  | _ => none }
def fnEndingSessionsConditionBracketedRow : OpenClaim := { program := "qxb6601490a", sum := "4386a071349599499afd3ec305cca993380ae294f2698856c5651093b69c03dd", func := "example.com/latchkey/latchkey/zzlaws_internal_store_b1.FnEndingSessionsConditionBracketed", spec := "fnEndingSessionsConditionBracketed", apart := false }
def FnEndingSessionsConditionBracketedSaid : Prop := fnEndingSessionsConditionBracketedRow.holds Try.pinned (OpenSpec.ofChange fnEndingSessionsConditionBracketedSpec)

/-- ITS FALSE NEIGHBOUR: 'it returns false'. Refute it at one input. -/
def fnEndingSessionsConditionBracketedWrong : ChangeSpec := { name := "fnEndingSessionsConditionBracketed", fn := fun _ => fun
  | [d] => { results := [.lit (.bool false)], args := [d] }
  | _ => none }
def FnEndingSessionsConditionBracketedWrongFalsely : Prop := fnEndingSessionsConditionBracketedRow.holds Try.pinned (OpenSpec.ofChange fnEndingSessionsConditionBracketedWrong)

/-- 'zzlaws_internal_store_b1.FnEndingSessionsInjective': WHATEVER THE INPUT: true; the input reads as it did. -/
def fnEndingSessionsInjectiveSpec : ChangeSpec := { name := "fnEndingSessionsInjective", fn := fun _ => fun
  | [d1, d2] => { results := [.lit (.bool true)], args := [d1, d2] }
  | _ => none }
def fnEndingSessionsInjectiveRow : OpenClaim := { program := "qxb6601490a", sum := "4386a071349599499afd3ec305cca993380ae294f2698856c5651093b69c03dd", func := "example.com/latchkey/latchkey/zzlaws_internal_store_b1.FnEndingSessionsInjective", spec := "fnEndingSessionsInjective", apart := false }
def FnEndingSessionsInjectiveSaid : Prop := fnEndingSessionsInjectiveRow.holds Try.pinned (OpenSpec.ofChange fnEndingSessionsInjectiveSpec)

/-- ITS FALSE NEIGHBOUR: 'it returns false'. Refute it at one input. -/
def fnEndingSessionsInjectiveWrong : ChangeSpec := { name := "fnEndingSessionsInjective", fn := fun _ => fun
  | [d1, d2] => { results := [.lit (.bool false)], args := [d1, d2] }
  | _ => none }
def FnEndingSessionsInjectiveWrongFalsely : Prop := fnEndingSessionsInjectiveRow.holds Try.pinned (OpenSpec.ofChange fnEndingSessionsInjectiveWrong)

end Rows
end Go.Proofs.Qxb6601490a
