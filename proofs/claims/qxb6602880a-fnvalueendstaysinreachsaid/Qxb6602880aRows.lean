/-
  No cell of these rows narrows 'for every input' (looked for: loops, veiled, ifaces, maps, wideKeys, modest, calm, conditions, laid).
  DERIVED. THE GIVEN ROWS OF THIS SEAT. 4 by the template 'for every input the law returns true; each argument reads behind the call as it read before'; 0 by the template 'total and deterministic' (their statements: Qxb6602880aTotals.lean).
  GIVEN WITH THE SEED: the statements are not yours to turn. If you find one false, say at which input.
  Laid BY PROGRAM, IN A SANDBOX (cutbox-rows.mjs): the forced cells as the released guide's own fill.sh prints them over the translation 83c5c0ce4534a199… (all of the seat's roots in one cut). By AI agents, Wed Nov 11 2026. No macro, syntax, notation, axiom, sorry.
-/
import Derived.Test.Qxb6602880aChecked
import GoSem.Claim
import GoSem.ClaimJoined
import GoSem.ClaimMapViews
import Derived.JoinedTies
import Derived.KernelRfl
namespace Go.Proofs.Qxb6602880a
/- THE CELL 'sum', in the pinned program and in every row, IS THE sha256 OF THE DUMP (.gsa) THAT Qxb6602880aProg.lean LOADS. Nothing in Lean hashes anything: it is a label: what it is worth is what the hold of that sum in a sandbox is worth. -/
noncomputable def Try.pinned : Pinned := { name := "qxb6602880a", sum := "83c5c0ce4534a19973e1b5322c2a28b3572b4682ca00966508e23446b4b64b75", checked := Try.checked }
namespace Rows
def none {H : Type} : Left H := { results := [], args := [] }

/-- 'zzlaws_internal_jsontext_b1.FnValueEndMatchesGrammar': WHATEVER THE INPUT: true; the input reads as it did. -/
def fnValueEndMatchesGrammarSpec : ChangeSpec := { name := "fnValueEndMatchesGrammar", fn := fun _ => fun
  | [d1, d2] => { results := [.lit (.bool true)], args := [d1, d2] }
  | _ => none }
def fnValueEndMatchesGrammarRow : OpenClaim := { program := "qxb6602880a", sum := "83c5c0ce4534a19973e1b5322c2a28b3572b4682ca00966508e23446b4b64b75", func := "example.com/bounded-pages/bounded-pages/zzlaws_internal_jsontext_b1.FnValueEndMatchesGrammar", spec := "fnValueEndMatchesGrammar", recurses := true, apart := false }
def FnValueEndMatchesGrammarSaid : Prop := fnValueEndMatchesGrammarRow.holds Try.pinned (OpenSpec.ofChange fnValueEndMatchesGrammarSpec)

/-- ITS FALSE NEIGHBOUR: 'it returns false'. Refute it at one input. -/
def fnValueEndMatchesGrammarWrong : ChangeSpec := { name := "fnValueEndMatchesGrammar", fn := fun _ => fun
  | [d1, d2] => { results := [.lit (.bool false)], args := [d1, d2] }
  | _ => none }
def FnValueEndMatchesGrammarWrongFalsely : Prop := fnValueEndMatchesGrammarRow.holds Try.pinned (OpenSpec.ofChange fnValueEndMatchesGrammarWrong)

/-- 'zzlaws_internal_jsontext_b1.FnValueEndStaysInReach': WHATEVER THE INPUT: true; the input reads as it did. -/
def fnValueEndStaysInReachSpec : ChangeSpec := { name := "fnValueEndStaysInReach", fn := fun _ => fun
  | [d1, d2] => { results := [.lit (.bool true)], args := [d1, d2] }
  | _ => none }
def fnValueEndStaysInReachRow : OpenClaim := { program := "qxb6602880a", sum := "83c5c0ce4534a19973e1b5322c2a28b3572b4682ca00966508e23446b4b64b75", func := "example.com/bounded-pages/bounded-pages/zzlaws_internal_jsontext_b1.FnValueEndStaysInReach", spec := "fnValueEndStaysInReach", apart := false }
def FnValueEndStaysInReachSaid : Prop := fnValueEndStaysInReachRow.holds Try.pinned (OpenSpec.ofChange fnValueEndStaysInReachSpec)

/-- ITS FALSE NEIGHBOUR: 'it returns false'. Refute it at one input. -/
def fnValueEndStaysInReachWrong : ChangeSpec := { name := "fnValueEndStaysInReach", fn := fun _ => fun
  | [d1, d2] => { results := [.lit (.bool false)], args := [d1, d2] }
  | _ => none }
def FnValueEndStaysInReachWrongFalsely : Prop := fnValueEndStaysInReachRow.holds Try.pinned (OpenSpec.ofChange fnValueEndStaysInReachWrong)

/-- 'zzlaws_internal_jsontext_b1.FnNestedMatchesGrammar': WHATEVER THE INPUT: true; the input reads as it did. -/
def fnNestedMatchesGrammarSpec : ChangeSpec := { name := "fnNestedMatchesGrammar", fn := fun _ => fun
  | [d] => { results := [.lit (.bool true)], args := [d] }
  | _ => none }
def fnNestedMatchesGrammarRow : OpenClaim := { program := "qxb6602880a", sum := "83c5c0ce4534a19973e1b5322c2a28b3572b4682ca00966508e23446b4b64b75", func := "example.com/bounded-pages/bounded-pages/zzlaws_internal_jsontext_b1.FnNestedMatchesGrammar", spec := "fnNestedMatchesGrammar", recurses := true, apart := false }
def FnNestedMatchesGrammarSaid : Prop := fnNestedMatchesGrammarRow.holds Try.pinned (OpenSpec.ofChange fnNestedMatchesGrammarSpec)

/-- ITS FALSE NEIGHBOUR: 'it returns false'. Refute it at one input. -/
def fnNestedMatchesGrammarWrong : ChangeSpec := { name := "fnNestedMatchesGrammar", fn := fun _ => fun
  | [d] => { results := [.lit (.bool false)], args := [d] }
  | _ => none }
def FnNestedMatchesGrammarWrongFalsely : Prop := fnNestedMatchesGrammarRow.holds Try.pinned (OpenSpec.ofChange fnNestedMatchesGrammarWrong)

/-- 'zzlaws_internal_jsontext_b1.FnNestedEndsAgreeWithValueEnd': WHATEVER THE INPUT: true; the input reads as it did. -/
def fnNestedEndsAgreeWithValueEndSpec : ChangeSpec := { name := "fnNestedEndsAgreeWithValueEnd", fn := fun _ => fun
  | [d] => { results := [.lit (.bool true)], args := [d] }
  | _ => none }
def fnNestedEndsAgreeWithValueEndRow : OpenClaim := { program := "qxb6602880a", sum := "83c5c0ce4534a19973e1b5322c2a28b3572b4682ca00966508e23446b4b64b75", func := "example.com/bounded-pages/bounded-pages/zzlaws_internal_jsontext_b1.FnNestedEndsAgreeWithValueEnd", spec := "fnNestedEndsAgreeWithValueEnd", recurses := true, apart := false }
def FnNestedEndsAgreeWithValueEndSaid : Prop := fnNestedEndsAgreeWithValueEndRow.holds Try.pinned (OpenSpec.ofChange fnNestedEndsAgreeWithValueEndSpec)

/-- ITS FALSE NEIGHBOUR: 'it returns false'. Refute it at one input. -/
def fnNestedEndsAgreeWithValueEndWrong : ChangeSpec := { name := "fnNestedEndsAgreeWithValueEnd", fn := fun _ => fun
  | [d] => { results := [.lit (.bool false)], args := [d] }
  | _ => none }
def FnNestedEndsAgreeWithValueEndWrongFalsely : Prop := fnNestedEndsAgreeWithValueEndRow.holds Try.pinned (OpenSpec.ofChange fnNestedEndsAgreeWithValueEndWrong)

end Rows
end Go.Proofs.Qxb6602880a
