/-
  No cell of these rows narrows 'for every input' (looked for: loops, veiled, ifaces, maps, wideKeys, modest, calm, conditions, laid).
  DERIVED. THE GIVEN ROWS OF THIS SEAT. 6 by the template 'for every input the law returns true; each argument reads behind the call as it read before'; 0 by the template 'total and deterministic' (their statements: Qxb6602776aTotals.lean).
  GIVEN WITH THE SEED: the statements are not yours to turn. If you find one false, say at which input.
  Laid BY PROGRAM, IN A SANDBOX (cutbox-rows.mjs): the forced cells as the released guide's own fill.sh prints them over the translation 754e9d2009c79829… (all of the seat's roots in one cut). By AI agents, Wed Nov 11 2026. No macro, syntax, notation, axiom, sorry.
-/
import Derived.Test.Qxb6602776aChecked
import GoSem.Claim
import GoSem.ClaimJoined
import GoSem.ClaimMapViews
import Derived.JoinedTies
import Derived.KernelRfl
namespace Go.Proofs.Qxb6602776a
/- THE CELL 'sum', in the pinned program and in every row, IS THE sha256 OF THE DUMP (.gsa) THAT Qxb6602776aProg.lean LOADS. Nothing in Lean hashes anything: it is a label: what it is worth is what the hold of that sum in a sandbox is worth. -/
noncomputable def Try.pinned : Pinned := { name := "qxb6602776a", sum := "754e9d2009c79829cce83864135b30f45d22307a17fbae7518b2df514903e3f3", checked := Try.checked }
namespace Rows
def none {H : Type} : Left H := { results := [], args := [] }

/-- 'zzlaws_root_b1.FnNumberMatchesAutomaton': WHATEVER THE INPUT: true; the input reads as it did. -/
def fnNumberMatchesAutomatonSpec : ChangeSpec := { name := "fnNumberMatchesAutomaton", fn := fun _ => fun
  | [d1, d2] => { results := [.lit (.bool true)], args := [d1, d2] }
  | _ => none }
def fnNumberMatchesAutomatonRow : OpenClaim := { program := "qxb6602776a", sum := "754e9d2009c79829cce83864135b30f45d22307a17fbae7518b2df514903e3f3", func := "example.com/envelope-over-brokers/envelope-over-brokers/zzlaws_root_b1.FnNumberMatchesAutomaton", spec := "fnNumberMatchesAutomaton", apart := false }
def FnNumberMatchesAutomatonSaid : Prop := fnNumberMatchesAutomatonRow.holds Try.pinned (OpenSpec.ofChange fnNumberMatchesAutomatonSpec)

/-- ITS FALSE NEIGHBOUR: 'it returns false'. Refute it at one input. -/
def fnNumberMatchesAutomatonWrong : ChangeSpec := { name := "fnNumberMatchesAutomaton", fn := fun _ => fun
  | [d1, d2] => { results := [.lit (.bool false)], args := [d1, d2] }
  | _ => none }
def FnNumberMatchesAutomatonWrongFalsely : Prop := fnNumberMatchesAutomatonRow.holds Try.pinned (OpenSpec.ofChange fnNumberMatchesAutomatonWrong)

/-- 'zzlaws_root_b1.FnNumberCutAtAnswer': WHATEVER THE INPUT: true; the input reads as it did. -/
def fnNumberCutAtAnswerSpec : ChangeSpec := { name := "fnNumberCutAtAnswer", fn := fun _ => fun
  | [d1, d2] => { results := [.lit (.bool true)], args := [d1, d2] }
  | _ => none }
def fnNumberCutAtAnswerRow : OpenClaim := { program := "qxb6602776a", sum := "754e9d2009c79829cce83864135b30f45d22307a17fbae7518b2df514903e3f3", func := "example.com/envelope-over-brokers/envelope-over-brokers/zzlaws_root_b1.FnNumberCutAtAnswer", spec := "fnNumberCutAtAnswer", apart := false }
def FnNumberCutAtAnswerSaid : Prop := fnNumberCutAtAnswerRow.holds Try.pinned (OpenSpec.ofChange fnNumberCutAtAnswerSpec)

/-- ITS FALSE NEIGHBOUR: 'it returns false'. Refute it at one input. -/
def fnNumberCutAtAnswerWrong : ChangeSpec := { name := "fnNumberCutAtAnswer", fn := fun _ => fun
  | [d1, d2] => { results := [.lit (.bool false)], args := [d1, d2] }
  | _ => none }
def FnNumberCutAtAnswerWrongFalsely : Prop := fnNumberCutAtAnswerRow.holds Try.pinned (OpenSpec.ofChange fnNumberCutAtAnswerWrong)

/-- 'zzlaws_root_b1.FnNumberMinusSign': WHATEVER THE INPUT: true; the input reads as it did. -/
def fnNumberMinusSignSpec : ChangeSpec := { name := "fnNumberMinusSign", fn := fun _ => fun
  | [d1, d2] => { results := [.lit (.bool true)], args := [d1, d2] }
  | _ => none }
def fnNumberMinusSignRow : OpenClaim := { program := "qxb6602776a", sum := "754e9d2009c79829cce83864135b30f45d22307a17fbae7518b2df514903e3f3", func := "example.com/envelope-over-brokers/envelope-over-brokers/zzlaws_root_b1.FnNumberMinusSign", spec := "fnNumberMinusSign", apart := false }
def FnNumberMinusSignSaid : Prop := fnNumberMinusSignRow.holds Try.pinned (OpenSpec.ofChange fnNumberMinusSignSpec)

/-- ITS FALSE NEIGHBOUR: 'it returns false'. Refute it at one input. -/
def fnNumberMinusSignWrong : ChangeSpec := { name := "fnNumberMinusSign", fn := fun _ => fun
  | [d1, d2] => { results := [.lit (.bool false)], args := [d1, d2] }
  | _ => none }
def FnNumberMinusSignWrongFalsely : Prop := fnNumberMinusSignRow.holds Try.pinned (OpenSpec.ofChange fnNumberMinusSignWrong)

/-- 'zzlaws_root_b1.FnEscapeCutAtAnswer': WHATEVER THE INPUT: true; the input reads as it did. -/
def fnEscapeCutAtAnswerSpec : ChangeSpec := { name := "fnEscapeCutAtAnswer", fn := fun _ => fun
  | [d1, d2] => { results := [.lit (.bool true)], args := [d1, d2] }
  | _ => none }
def fnEscapeCutAtAnswerRow : OpenClaim := { program := "qxb6602776a", sum := "754e9d2009c79829cce83864135b30f45d22307a17fbae7518b2df514903e3f3", func := "example.com/envelope-over-brokers/envelope-over-brokers/zzlaws_root_b1.FnEscapeCutAtAnswer", spec := "fnEscapeCutAtAnswer", apart := false }
def FnEscapeCutAtAnswerSaid : Prop := fnEscapeCutAtAnswerRow.holds Try.pinned (OpenSpec.ofChange fnEscapeCutAtAnswerSpec)

/-- ITS FALSE NEIGHBOUR: 'it returns false'. Refute it at one input. -/
def fnEscapeCutAtAnswerWrong : ChangeSpec := { name := "fnEscapeCutAtAnswer", fn := fun _ => fun
  | [d1, d2] => { results := [.lit (.bool false)], args := [d1, d2] }
  | _ => none }
def FnEscapeCutAtAnswerWrongFalsely : Prop := fnEscapeCutAtAnswerRow.holds Try.pinned (OpenSpec.ofChange fnEscapeCutAtAnswerWrong)

/-- 'zzlaws_root_b1.FnSkipSpaceExact': WHATEVER THE INPUT: true; the input reads as it did. -/
def fnSkipSpaceExactSpec : ChangeSpec := { name := "fnSkipSpaceExact", fn := fun _ => fun
  | [d1, d2] => { results := [.lit (.bool true)], args := [d1, d2] }
  | _ => none }
def fnSkipSpaceExactRow : OpenClaim := { program := "qxb6602776a", sum := "754e9d2009c79829cce83864135b30f45d22307a17fbae7518b2df514903e3f3", func := "example.com/envelope-over-brokers/envelope-over-brokers/zzlaws_root_b1.FnSkipSpaceExact", spec := "fnSkipSpaceExact", apart := false }
def FnSkipSpaceExactSaid : Prop := fnSkipSpaceExactRow.holds Try.pinned (OpenSpec.ofChange fnSkipSpaceExactSpec)

/-- ITS FALSE NEIGHBOUR: 'it returns false'. Refute it at one input. -/
def fnSkipSpaceExactWrong : ChangeSpec := { name := "fnSkipSpaceExact", fn := fun _ => fun
  | [d1, d2] => { results := [.lit (.bool false)], args := [d1, d2] }
  | _ => none }
def FnSkipSpaceExactWrongFalsely : Prop := fnSkipSpaceExactRow.holds Try.pinned (OpenSpec.ofChange fnSkipSpaceExactWrong)

/-- 'zzlaws_root_b1.FnSkipSpaceSameEnd': WHATEVER THE INPUT: true; the input reads as it did. -/
def fnSkipSpaceSameEndSpec : ChangeSpec := { name := "fnSkipSpaceSameEnd", fn := fun _ => fun
  | [d1, d2, d3] => { results := [.lit (.bool true)], args := [d1, d2, d3] }
  | _ => none }
def fnSkipSpaceSameEndRow : OpenClaim := { program := "qxb6602776a", sum := "754e9d2009c79829cce83864135b30f45d22307a17fbae7518b2df514903e3f3", func := "example.com/envelope-over-brokers/envelope-over-brokers/zzlaws_root_b1.FnSkipSpaceSameEnd", spec := "fnSkipSpaceSameEnd", apart := false }
def FnSkipSpaceSameEndSaid : Prop := fnSkipSpaceSameEndRow.holds Try.pinned (OpenSpec.ofChange fnSkipSpaceSameEndSpec)

/-- ITS FALSE NEIGHBOUR: 'it returns false'. Refute it at one input. -/
def fnSkipSpaceSameEndWrong : ChangeSpec := { name := "fnSkipSpaceSameEnd", fn := fun _ => fun
  | [d1, d2, d3] => { results := [.lit (.bool false)], args := [d1, d2, d3] }
  | _ => none }
def FnSkipSpaceSameEndWrongFalsely : Prop := fnSkipSpaceSameEndRow.holds Try.pinned (OpenSpec.ofChange fnSkipSpaceSameEndWrong)

end Rows
end Go.Proofs.Qxb6602776a
