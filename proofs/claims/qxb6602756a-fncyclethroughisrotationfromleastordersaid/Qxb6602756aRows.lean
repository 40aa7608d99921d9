/-
  No cell of these rows narrows 'for every input' (looked for: loops, veiled, ifaces, maps, wideKeys, modest, calm, conditions, laid).
  DERIVED. THE GIVEN ROWS OF THIS SEAT. 3 by the template 'for every input the law returns true; each argument reads behind the call as it read before'; 0 by the template 'total and deterministic' (their statements: Qxb6602756aTotals.lean).
  GIVEN WITH THE SEED: the statements are not yours to turn. If you find one false, say at which input.
  Laid BY PROGRAM, IN A SANDBOX (cutbox-rows.mjs): the forced cells as the released guide's own fill.sh prints them over the translation 0f7554cebf5e48fd… (all of the seat's roots in one cut). By AI agents, Wed Nov 11 2026. No macro, syntax, notation, axiom, sorry.
-/
import Derived.Test.Qxb6602756aChecked
import GoSem.Claim
import GoSem.ClaimJoined
import GoSem.ClaimMapViews
import Derived.JoinedTies
import Derived.KernelRfl
namespace Go.Proofs.Qxb6602756a
/- THE CELL 'sum', in the pinned program and in every row, IS THE sha256 OF THE DUMP (.gsa) THAT Qxb6602756aProg.lean LOADS. Nothing in Lean hashes anything: it is a label: what it is worth is what the hold of that sum in a sandbox is worth. -/
noncomputable def Try.pinned : Pinned := { name := "qxb6602756a", sum := "0f7554cebf5e48fdcdbce6c65198b61fb02a3272ed8616b492c73b744c6d4426", checked := Try.checked }
namespace Rows
def none {H : Type} : Left H := { results := [], args := [] }

/-- 'zzlaws_internal_ir_b1.FnCycleThroughIsRotationFromLeastOrder': WHATEVER THE INPUT: true; the input reads as it did. -/
def fnCycleThroughIsRotationFromLeastOrderSpec : ChangeSpec := { name := "fnCycleThroughIsRotationFromLeastOrder", fn := fun _ => fun
  | [d1, d2, d3, d4] => { results := [.lit (.bool true)], args := [d1, d2, d3, d4] }
  | _ => none }
def fnCycleThroughIsRotationFromLeastOrderRow : OpenClaim := { program := "qxb6602756a", sum := "0f7554cebf5e48fdcdbce6c65198b61fb02a3272ed8616b492c73b744c6d4426", func := "example.com/ordinal/ordinal/zzlaws_internal_ir_b1.FnCycleThroughIsRotationFromLeastOrder", spec := "fnCycleThroughIsRotationFromLeastOrder", apart := false }
def FnCycleThroughIsRotationFromLeastOrderSaid : Prop := fnCycleThroughIsRotationFromLeastOrderRow.holds Try.pinned (OpenSpec.ofChange fnCycleThroughIsRotationFromLeastOrderSpec)

/-- ITS FALSE NEIGHBOUR: 'it returns false'. Refute it at one input. -/
def fnCycleThroughIsRotationFromLeastOrderWrong : ChangeSpec := { name := "fnCycleThroughIsRotationFromLeastOrder", fn := fun _ => fun
  | [d1, d2, d3, d4] => { results := [.lit (.bool false)], args := [d1, d2, d3, d4] }
  | _ => none }
def FnCycleThroughIsRotationFromLeastOrderWrongFalsely : Prop := fnCycleThroughIsRotationFromLeastOrderRow.holds Try.pinned (OpenSpec.ofChange fnCycleThroughIsRotationFromLeastOrderWrong)

/-- 'zzlaws_internal_ir_b1.FnCycleThroughSameForEveryRotation': WHATEVER THE INPUT: true; the input reads as it did. -/
def fnCycleThroughSameForEveryRotationSpec : ChangeSpec := { name := "fnCycleThroughSameForEveryRotation", fn := fun _ => fun
  | [d1, d2, d3, d4, d5] => { results := [.lit (.bool true)], args := [d1, d2, d3, d4, d5] }
  | _ => none }
def fnCycleThroughSameForEveryRotationRow : OpenClaim := { program := "qxb6602756a", sum := "0f7554cebf5e48fdcdbce6c65198b61fb02a3272ed8616b492c73b744c6d4426", func := "example.com/ordinal/ordinal/zzlaws_internal_ir_b1.FnCycleThroughSameForEveryRotation", spec := "fnCycleThroughSameForEveryRotation", apart := false }
def FnCycleThroughSameForEveryRotationSaid : Prop := fnCycleThroughSameForEveryRotationRow.holds Try.pinned (OpenSpec.ofChange fnCycleThroughSameForEveryRotationSpec)

/-- ITS FALSE NEIGHBOUR: 'it returns false'. Refute it at one input. -/
def fnCycleThroughSameForEveryRotationWrong : ChangeSpec := { name := "fnCycleThroughSameForEveryRotation", fn := fun _ => fun
  | [d1, d2, d3, d4, d5] => { results := [.lit (.bool false)], args := [d1, d2, d3, d4, d5] }
  | _ => none }
def FnCycleThroughSameForEveryRotationWrongFalsely : Prop := fnCycleThroughSameForEveryRotationRow.holds Try.pinned (OpenSpec.ofChange fnCycleThroughSameForEveryRotationWrong)

/-- 'zzlaws_internal_ir_b1.FnTypeKindInjective': WHATEVER THE INPUT: true; the input reads as it did. -/
def fnTypeKindInjectiveSpec : ChangeSpec := { name := "fnTypeKindInjective", fn := fun _ => fun
  | [d1, d2] => { results := [.lit (.bool true)], args := [d1, d2] }
  | _ => none }
def fnTypeKindInjectiveRow : OpenClaim := { program := "qxb6602756a", sum := "0f7554cebf5e48fdcdbce6c65198b61fb02a3272ed8616b492c73b744c6d4426", func := "example.com/ordinal/ordinal/zzlaws_internal_ir_b1.FnTypeKindInjective", spec := "fnTypeKindInjective", apart := false }
def FnTypeKindInjectiveSaid : Prop := fnTypeKindInjectiveRow.holds Try.pinned (OpenSpec.ofChange fnTypeKindInjectiveSpec)

/-- ITS FALSE NEIGHBOUR: 'it returns false'. Refute it at one input. -/
def fnTypeKindInjectiveWrong : ChangeSpec := { name := "fnTypeKindInjective", fn := fun _ => fun
  | [d1, d2] => { results := [.lit (.bool false)], args := [d1, d2] }
  | _ => none }
def FnTypeKindInjectiveWrongFalsely : Prop := fnTypeKindInjectiveRow.holds Try.pinned (OpenSpec.ofChange fnTypeKindInjectiveWrong)

end Rows
end Go.Proofs.Qxb6602756a
