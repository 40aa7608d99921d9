/-
  No cell of these rows narrows 'for every input' (looked for: loops, veiled, ifaces, maps, wideKeys, modest, calm, conditions, laid).
  DERIVED. THE GIVEN ROWS OF THIS SEAT. 4 by the template 'for every input the law returns true; each argument reads behind the call as it read before'; 0 by the template 'total and deterministic' (their statements: Qxb6602846aTotals.lean).
  GIVEN WITH THE SEED: the statements are not yours to turn. If you find one false, say at which input.
  Laid BY PROGRAM, IN A SANDBOX (cutbox-rows.mjs): the forced cells as the released guide's own fill.sh prints them over the translation e4eaffd563efe5b8… (all of the seat's roots in one cut). By AI agents, Wed Nov 11 2026. No macro, syntax, notation, axiom, sorry.
-/
import Derived.Test.Qxb6602846aChecked
import GoSem.Claim
import GoSem.ClaimJoined
import GoSem.ClaimMapViews
import Derived.JoinedTies
import Derived.KernelRfl
namespace Go.Proofs.Qxb6602846a
/- THE CELL 'sum', in the pinned program and in every row, IS THE sha256 OF THE DUMP (.gsa) THAT Qxb6602846aProg.lean LOADS. Nothing in Lean hashes anything: it is a label: what it is worth is what the hold of that sum in a sandbox is worth. -/
noncomputable def Try.pinned : Pinned := { name := "qxb6602846a", sum := "e4eaffd563efe5b871b9f7788b96d1ff0ad83f7243e126c19ecc5c654e5740f3", checked := Try.checked }
namespace Rows
def none {H : Type} : Left H := { results := [], args := [] }

/-- 'zzlaws_pkg_yamlstream_b1.FnPastMatchesJSONNumberGrammar': WHATEVER THE INPUT: true; the input reads as it did. -/
def fnPastMatchesJSONNumberGrammarSpec : ChangeSpec := { name := "fnPastMatchesJSONNumberGrammar", fn := fun _ => fun
  | [d1, d2] => { results := [.lit (.bool true)], args := [d1, d2] }
  | _ => none }
def fnPastMatchesJSONNumberGrammarRow : OpenClaim := { program := "qxb6602846a", sum := "e4eaffd563efe5b871b9f7788b96d1ff0ad83f7243e126c19ecc5c654e5740f3", func := "example.com/pressurecast/pressurecast/zzlaws_pkg_yamlstream_b1.FnPastMatchesJSONNumberGrammar", spec := "fnPastMatchesJSONNumberGrammar", apart := false }
def FnPastMatchesJSONNumberGrammarSaid : Prop := fnPastMatchesJSONNumberGrammarRow.holds Try.pinned (OpenSpec.ofChange fnPastMatchesJSONNumberGrammarSpec)

/-- ITS FALSE NEIGHBOUR: 'it returns false'. Refute it at one input. -/
def fnPastMatchesJSONNumberGrammarWrong : ChangeSpec := { name := "fnPastMatchesJSONNumberGrammar", fn := fun _ => fun
  | [d1, d2] => { results := [.lit (.bool false)], args := [d1, d2] }
  | _ => none }
def FnPastMatchesJSONNumberGrammarWrongFalsely : Prop := fnPastMatchesJSONNumberGrammarRow.holds Try.pinned (OpenSpec.ofChange fnPastMatchesJSONNumberGrammarWrong)

/-- 'zzlaws_pkg_yamlstream_b1.FnPastRunsAcceptExactlyJSONNumbers': WHATEVER THE INPUT: true; the input reads as it did. -/
def fnPastRunsAcceptExactlyJSONNumbersSpec : ChangeSpec := { name := "fnPastRunsAcceptExactlyJSONNumbers", fn := fun _ => fun
  | [d] => { results := [.lit (.bool true)], args := [d] }
  | _ => none }
def fnPastRunsAcceptExactlyJSONNumbersRow : OpenClaim := { program := "qxb6602846a", sum := "e4eaffd563efe5b871b9f7788b96d1ff0ad83f7243e126c19ecc5c654e5740f3", func := "example.com/pressurecast/pressurecast/zzlaws_pkg_yamlstream_b1.FnPastRunsAcceptExactlyJSONNumbers", spec := "fnPastRunsAcceptExactlyJSONNumbers", apart := false }
def FnPastRunsAcceptExactlyJSONNumbersSaid : Prop := fnPastRunsAcceptExactlyJSONNumbersRow.holds Try.pinned (OpenSpec.ofChange fnPastRunsAcceptExactlyJSONNumbersSpec)

/-- ITS FALSE NEIGHBOUR: 'it returns false'. Refute it at one input. -/
def fnPastRunsAcceptExactlyJSONNumbersWrong : ChangeSpec := { name := "fnPastRunsAcceptExactlyJSONNumbers", fn := fun _ => fun
  | [d] => { results := [.lit (.bool false)], args := [d] }
  | _ => none }
def FnPastRunsAcceptExactlyJSONNumbersWrongFalsely : Prop := fnPastRunsAcceptExactlyJSONNumbersRow.holds Try.pinned (OpenSpec.ofChange fnPastRunsAcceptExactlyJSONNumbersWrong)

/-- 'zzlaws_pkg_yamlstream_b1.FnResetIsIdempotent': WHATEVER THE INPUT: true; the input reads as it did. -/
def fnResetIsIdempotentSpec : ChangeSpec := { name := "fnResetIsIdempotent", fn := fun _ => fun
  | [d1, d2, d3, d4, d5, d6] => { results := [.lit (.bool true)], args := [d1, d2, d3, d4, d5, d6] }
  | _ => none }
def fnResetIsIdempotentRow : OpenClaim := { program := "qxb6602846a", sum := "e4eaffd563efe5b871b9f7788b96d1ff0ad83f7243e126c19ecc5c654e5740f3", func := "example.com/pressurecast/pressurecast/zzlaws_pkg_yamlstream_b1.FnResetIsIdempotent", spec := "fnResetIsIdempotent", apart := false }
def FnResetIsIdempotentSaid : Prop := fnResetIsIdempotentRow.holds Try.pinned (OpenSpec.ofChange fnResetIsIdempotentSpec)

/-- ITS FALSE NEIGHBOUR: 'it returns false'. Refute it at one input. -/
def fnResetIsIdempotentWrong : ChangeSpec := { name := "fnResetIsIdempotent", fn := fun _ => fun
  | [d1, d2, d3, d4, d5, d6] => { results := [.lit (.bool false)], args := [d1, d2, d3, d4, d5, d6] }
  | _ => none }
def FnResetIsIdempotentWrongFalsely : Prop := fnResetIsIdempotentRow.holds Try.pinned (OpenSpec.ofChange fnResetIsIdempotentWrong)

/-- 'zzlaws_pkg_yamlstream_b1.FnHexValueMatchesDigitTable': WHATEVER THE INPUT: true; the input reads as it did. -/
def fnHexValueMatchesDigitTableSpec : ChangeSpec := { name := "fnHexValueMatchesDigitTable", fn := fun _ => fun
  | [d] => { results := [.lit (.bool true)], args := [d] }
  | _ => none }
def fnHexValueMatchesDigitTableRow : OpenClaim := { program := "qxb6602846a", sum := "e4eaffd563efe5b871b9f7788b96d1ff0ad83f7243e126c19ecc5c654e5740f3", func := "example.com/pressurecast/pressurecast/zzlaws_pkg_yamlstream_b1.FnHexValueMatchesDigitTable", spec := "fnHexValueMatchesDigitTable", apart := false }
def FnHexValueMatchesDigitTableSaid : Prop := fnHexValueMatchesDigitTableRow.holds Try.pinned (OpenSpec.ofChange fnHexValueMatchesDigitTableSpec)

/-- ITS FALSE NEIGHBOUR: 'it returns false'. Refute it at one input. -/
def fnHexValueMatchesDigitTableWrong : ChangeSpec := { name := "fnHexValueMatchesDigitTable", fn := fun _ => fun
  | [d] => { results := [.lit (.bool false)], args := [d] }
  | _ => none }
def FnHexValueMatchesDigitTableWrongFalsely : Prop := fnHexValueMatchesDigitTableRow.holds Try.pinned (OpenSpec.ofChange fnHexValueMatchesDigitTableWrong)

end Rows
end Go.Proofs.Qxb6602846a
