/-
  No cell of these rows narrows 'for every input' (looked for: loops, veiled, ifaces, maps, wideKeys, modest, calm, conditions, laid).
  DERIVED. THE GIVEN ROWS OF THIS SEAT. 9 by the template 'for every input the law returns true; each argument reads behind the call as it read before'; 0 by the template 'total and deterministic' (their statements: Qxb6000709aTotals.lean).
  GIVEN WITH THE SEED: the statements are not yours to turn. If you find one false, say at which input.
  Laid BY PROGRAM, IN A SANDBOX (cutbox-rows.mjs): the forced cells as the released guide's own fill.sh prints them over the translation 50ecea8847a83dd9… (all of the seat's roots in one cut). By AI agents, Wed Nov 11 2026. No macro, syntax, notation, axiom, sorry.
-/
import Derived.Test.Qxb6000709aChecked
import GoSem.Claim
import GoSem.ClaimJoined
import GoSem.ClaimMapViews
import Derived.JoinedTies
import Derived.KernelRfl
namespace Go.Proofs.Qxb6000709a
/- THE CELL 'sum', in the pinned program and in every row, IS THE sha256 OF THE DUMP (.gsa) THAT Qxb6000709aProg.lean LOADS. Nothing in Lean hashes anything: it is a label: what it is worth is what the hold of that sum in a sandbox is worth. -/
noncomputable def Try.pinned : Pinned := { name := "qxb6000709a", sum := "50ecea8847a83dd9d6340ed420c270cc3729167af9ea5be4d650cda04e8a0f4e", checked := Try.checked }
namespace Rows
def none {H : Type} : Left H := { results := [], args := [] }

/-- 'zzlaws_internal_prospectus_b1.FnClausePrefixWithoutStopMark': WHATEVER THE INPUT: true; the input reads as it did. -/
def fnClausePrefixWithoutStopMarkSpec : ChangeSpec := { name := "fnClausePrefixWithoutStopMark", fn := fun _ => fun
  | [d] => { results := [.lit (.bool true)], args := [d] }
  | _ => none }
def fnClausePrefixWithoutStopMarkRow : OpenClaim := { program := "qxb6000709a", sum := "50ecea8847a83dd9d6340ed420c270cc3729167af9ea5be4d650cda04e8a0f4e", func := "example.com/zhaomu/zhaomu/zzlaws_internal_prospectus_b1.FnClausePrefixWithoutStopMark", spec := "fnClausePrefixWithoutStopMark", inPlace := ["internal/bytealg.IndexByteString", "internal/bytealg.IndexString"], named := ["internal/bytealg.MaxLen"], apart := false }
def FnClausePrefixWithoutStopMarkSaid : Prop := fnClausePrefixWithoutStopMarkRow.holds Try.pinned (OpenSpec.ofChange fnClausePrefixWithoutStopMarkSpec)

/-- ITS FALSE NEIGHBOUR: 'it returns false'. Refute it at one input. -/
def fnClausePrefixWithoutStopMarkWrong : ChangeSpec := { name := "fnClausePrefixWithoutStopMark", fn := fun _ => fun
  | [d] => { results := [.lit (.bool false)], args := [d] }
  | _ => none }
def FnClausePrefixWithoutStopMarkWrongFalsely : Prop := fnClausePrefixWithoutStopMarkRow.holds Try.pinned (OpenSpec.ofChange fnClausePrefixWithoutStopMarkWrong)

/-- 'zzlaws_internal_prospectus_b1.FnClauseIdempotent': WHATEVER THE INPUT: true; the input reads as it did. -/
def fnClauseIdempotentSpec : ChangeSpec := { name := "fnClauseIdempotent", fn := fun _ => fun
  | [d] => { results := [.lit (.bool true)], args := [d] }
  | _ => none }
def fnClauseIdempotentRow : OpenClaim := { program := "qxb6000709a", sum := "50ecea8847a83dd9d6340ed420c270cc3729167af9ea5be4d650cda04e8a0f4e", func := "example.com/zhaomu/zhaomu/zzlaws_internal_prospectus_b1.FnClauseIdempotent", spec := "fnClauseIdempotent", inPlace := ["internal/bytealg.IndexByteString", "internal/bytealg.IndexString"], named := ["internal/bytealg.MaxLen"], apart := false }
def FnClauseIdempotentSaid : Prop := fnClauseIdempotentRow.holds Try.pinned (OpenSpec.ofChange fnClauseIdempotentSpec)

/-- ITS FALSE NEIGHBOUR: 'it returns false'. Refute it at one input. -/
def fnClauseIdempotentWrong : ChangeSpec := { name := "fnClauseIdempotent", fn := fun _ => fun
  | [d] => { results := [.lit (.bool false)], args := [d] }
  | _ => none }
def FnClauseIdempotentWrongFalsely : Prop := fnClauseIdempotentRow.holds Try.pinned (OpenSpec.ofChange fnClauseIdempotentWrong)

/-- 'zzlaws_internal_prospectus_b1.FnClauseStopMarkEndsName': WHATEVER THE INPUT: true; the input reads as it did. -/
def fnClauseStopMarkEndsNameSpec : ChangeSpec := { name := "fnClauseStopMarkEndsName", fn := fun _ => fun
  | [d1, d2] => { results := [.lit (.bool true)], args := [d1, d2] }
  | _ => none }
def fnClauseStopMarkEndsNameRow : OpenClaim := { program := "qxb6000709a", sum := "50ecea8847a83dd9d6340ed420c270cc3729167af9ea5be4d650cda04e8a0f4e", func := "example.com/zhaomu/zhaomu/zzlaws_internal_prospectus_b1.FnClauseStopMarkEndsName", spec := "fnClauseStopMarkEndsName", inPlace := ["internal/bytealg.IndexByteString", "internal/bytealg.IndexString"], named := ["internal/bytealg.MaxLen"], apart := false }
def FnClauseStopMarkEndsNameSaid : Prop := fnClauseStopMarkEndsNameRow.holds Try.pinned (OpenSpec.ofChange fnClauseStopMarkEndsNameSpec)

/-- ITS FALSE NEIGHBOUR: 'it returns false'. Refute it at one input. -/
def fnClauseStopMarkEndsNameWrong : ChangeSpec := { name := "fnClauseStopMarkEndsName", fn := fun _ => fun
  | [d1, d2] => { results := [.lit (.bool false)], args := [d1, d2] }
  | _ => none }
def FnClauseStopMarkEndsNameWrongFalsely : Prop := fnClauseStopMarkEndsNameRow.holds Try.pinned (OpenSpec.ofChange fnClauseStopMarkEndsNameWrong)

/-- 'zzlaws_internal_prospectus_b1.FnSpanJoinLeastHolding': WHATEVER THE INPUT: true; the input reads as it did. -/
def fnSpanJoinLeastHoldingSpec : ChangeSpec := { name := "fnSpanJoinLeastHolding", fn := fun _ => fun
  | [d1, d2, d3, d4, d5, d6] => { results := [.lit (.bool true)], args := [d1, d2, d3, d4, d5, d6] }
  | _ => none }
def fnSpanJoinLeastHoldingRow : OpenClaim := { program := "qxb6000709a", sum := "50ecea8847a83dd9d6340ed420c270cc3729167af9ea5be4d650cda04e8a0f4e", func := "example.com/zhaomu/zhaomu/zzlaws_internal_prospectus_b1.FnSpanJoinLeastHolding", spec := "fnSpanJoinLeastHolding", apart := false }
def FnSpanJoinLeastHoldingSaid : Prop := fnSpanJoinLeastHoldingRow.holds Try.pinned (OpenSpec.ofChange fnSpanJoinLeastHoldingSpec)

/-- ITS FALSE NEIGHBOUR: 'it returns false'. Refute it at one input. -/
def fnSpanJoinLeastHoldingWrong : ChangeSpec := { name := "fnSpanJoinLeastHolding", fn := fun _ => fun
  | [d1, d2, d3, d4, d5, d6] => { results := [.lit (.bool false)], args := [d1, d2, d3, d4, d5, d6] }
  | _ => none }
def FnSpanJoinLeastHoldingWrongFalsely : Prop := fnSpanJoinLeastHoldingRow.holds Try.pinned (OpenSpec.ofChange fnSpanJoinLeastHoldingWrong)

/-- 'zzlaws_internal_prospectus_b1.FnSpanJoinCommutesAndIdempotent': WHATEVER THE INPUT: true; the input reads as it did. -/
def fnSpanJoinCommutesAndIdempotentSpec : ChangeSpec := { name := "fnSpanJoinCommutesAndIdempotent", fn := fun _ => fun
  | [d1, d2, d3, d4] => { results := [.lit (.bool true)], args := [d1, d2, d3, d4] }
  | _ => none }
def fnSpanJoinCommutesAndIdempotentRow : OpenClaim := { program := "qxb6000709a", sum := "50ecea8847a83dd9d6340ed420c270cc3729167af9ea5be4d650cda04e8a0f4e", func := "example.com/zhaomu/zhaomu/zzlaws_internal_prospectus_b1.FnSpanJoinCommutesAndIdempotent", spec := "fnSpanJoinCommutesAndIdempotent", apart := false }
def FnSpanJoinCommutesAndIdempotentSaid : Prop := fnSpanJoinCommutesAndIdempotentRow.holds Try.pinned (OpenSpec.ofChange fnSpanJoinCommutesAndIdempotentSpec)

/-- ITS FALSE NEIGHBOUR: 'it returns false'. Refute it at one input. -/
def fnSpanJoinCommutesAndIdempotentWrong : ChangeSpec := { name := "fnSpanJoinCommutesAndIdempotent", fn := fun _ => fun
  | [d1, d2, d3, d4] => { results := [.lit (.bool false)], args := [d1, d2, d3, d4] }
  | _ => none }
def FnSpanJoinCommutesAndIdempotentWrongFalsely : Prop := fnSpanJoinCommutesAndIdempotentRow.holds Try.pinned (OpenSpec.ofChange fnSpanJoinCommutesAndIdempotentWrong)

/-- 'zzlaws_internal_prospectus_b1.FnSpanJoinAssociative': WHATEVER THE INPUT: true; the input reads as it did. -/
def fnSpanJoinAssociativeSpec : ChangeSpec := { name := "fnSpanJoinAssociative", fn := fun _ => fun
  | [d1, d2, d3, d4, d5, d6] => { results := [.lit (.bool true)], args := [d1, d2, d3, d4, d5, d6] }
  | _ => none }
def fnSpanJoinAssociativeRow : OpenClaim := { program := "qxb6000709a", sum := "50ecea8847a83dd9d6340ed420c270cc3729167af9ea5be4d650cda04e8a0f4e", func := "example.com/zhaomu/zhaomu/zzlaws_internal_prospectus_b1.FnSpanJoinAssociative", spec := "fnSpanJoinAssociative", apart := false }
def FnSpanJoinAssociativeSaid : Prop := fnSpanJoinAssociativeRow.holds Try.pinned (OpenSpec.ofChange fnSpanJoinAssociativeSpec)

/-- ITS FALSE NEIGHBOUR: 'it returns false'. Refute it at one input. -/
def fnSpanJoinAssociativeWrong : ChangeSpec := { name := "fnSpanJoinAssociative", fn := fun _ => fun
  | [d1, d2, d3, d4, d5, d6] => { results := [.lit (.bool false)], args := [d1, d2, d3, d4, d5, d6] }
  | _ => none }
def FnSpanJoinAssociativeWrongFalsely : Prop := fnSpanJoinAssociativeRow.holds Try.pinned (OpenSpec.ofChange fnSpanJoinAssociativeWrong)

/-- 'zzlaws_internal_prospectus_b1.FnOnBoundsOwnBoundsAccepted': WHATEVER THE INPUT: true; the input reads as it did. -/
def fnOnBoundsOwnBoundsAcceptedSpec : ChangeSpec := { name := "fnOnBoundsOwnBoundsAccepted", fn := fun _ => fun
  | [d1, d2, d3] => { results := [.lit (.bool true)], args := [d1, d2, d3] }
  | _ => none }
def fnOnBoundsOwnBoundsAcceptedRow : OpenClaim := { program := "qxb6000709a", sum := "50ecea8847a83dd9d6340ed420c270cc3729167af9ea5be4d650cda04e8a0f4e", func := "example.com/zhaomu/zhaomu/zzlaws_internal_prospectus_b1.FnOnBoundsOwnBoundsAccepted", spec := "fnOnBoundsOwnBoundsAccepted", apart := false }
def FnOnBoundsOwnBoundsAcceptedSaid : Prop := fnOnBoundsOwnBoundsAcceptedRow.holds Try.pinned (OpenSpec.ofChange fnOnBoundsOwnBoundsAcceptedSpec)

/-- ITS FALSE NEIGHBOUR: 'it returns false'. Refute it at one input. -/
def fnOnBoundsOwnBoundsAcceptedWrong : ChangeSpec := { name := "fnOnBoundsOwnBoundsAccepted", fn := fun _ => fun
  | [d1, d2, d3] => { results := [.lit (.bool false)], args := [d1, d2, d3] }
  | _ => none }
def FnOnBoundsOwnBoundsAcceptedWrongFalsely : Prop := fnOnBoundsOwnBoundsAcceptedRow.holds Try.pinned (OpenSpec.ofChange fnOnBoundsOwnBoundsAcceptedWrong)

/-- 'zzlaws_internal_prospectus_b1.FnOnBoundsMonotone': WHATEVER THE INPUT: true; the input reads as it did. -/
def fnOnBoundsMonotoneSpec : ChangeSpec := { name := "fnOnBoundsMonotone", fn := fun _ => fun
  | [d1, d2, d3, d4, d5, d6, d7, d8] => { results := [.lit (.bool true)], args := [d1, d2, d3, d4, d5, d6, d7, d8] }
  | _ => none }
def fnOnBoundsMonotoneRow : OpenClaim := { program := "qxb6000709a", sum := "50ecea8847a83dd9d6340ed420c270cc3729167af9ea5be4d650cda04e8a0f4e", func := "example.com/zhaomu/zhaomu/zzlaws_internal_prospectus_b1.FnOnBoundsMonotone", spec := "fnOnBoundsMonotone", apart := false }
def FnOnBoundsMonotoneSaid : Prop := fnOnBoundsMonotoneRow.holds Try.pinned (OpenSpec.ofChange fnOnBoundsMonotoneSpec)

/-- ITS FALSE NEIGHBOUR: 'it returns false'. Refute it at one input. -/
def fnOnBoundsMonotoneWrong : ChangeSpec := { name := "fnOnBoundsMonotone", fn := fun _ => fun
  | [d1, d2, d3, d4, d5, d6, d7, d8] => { results := [.lit (.bool false)], args := [d1, d2, d3, d4, d5, d6, d7, d8] }
  | _ => none }
def FnOnBoundsMonotoneWrongFalsely : Prop := fnOnBoundsMonotoneRow.holds Try.pinned (OpenSpec.ofChange fnOnBoundsMonotoneWrong)

/-- 'zzlaws_internal_prospectus_b1.FnOnBoundsOrderFree': WHATEVER THE INPUT: true; the input reads as it did. -/
def fnOnBoundsOrderFreeSpec : ChangeSpec := { name := "fnOnBoundsOrderFree", fn := fun _ => fun
  | [d1, d2, d3, d4, d5] => { results := [.lit (.bool true)], args := [d1, d2, d3, d4, d5] }
  | _ => none }
def fnOnBoundsOrderFreeRow : OpenClaim := { program := "qxb6000709a", sum := "50ecea8847a83dd9d6340ed420c270cc3729167af9ea5be4d650cda04e8a0f4e", func := "example.com/zhaomu/zhaomu/zzlaws_internal_prospectus_b1.FnOnBoundsOrderFree", spec := "fnOnBoundsOrderFree", apart := false }
def FnOnBoundsOrderFreeSaid : Prop := fnOnBoundsOrderFreeRow.holds Try.pinned (OpenSpec.ofChange fnOnBoundsOrderFreeSpec)

/-- ITS FALSE NEIGHBOUR: 'it returns false'. Refute it at one input. -/
def fnOnBoundsOrderFreeWrong : ChangeSpec := { name := "fnOnBoundsOrderFree", fn := fun _ => fun
  | [d1, d2, d3, d4, d5] => { results := [.lit (.bool false)], args := [d1, d2, d3, d4, d5] }
  | _ => none }
def FnOnBoundsOrderFreeWrongFalsely : Prop := fnOnBoundsOrderFreeRow.holds Try.pinned (OpenSpec.ofChange fnOnBoundsOrderFreeWrong)

end Rows
end Go.Proofs.Qxb6000709a
