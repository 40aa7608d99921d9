/-
  Seat b6602756a, FnCycleThroughIsRotationFromLeastOrder: the words that all walks use: a slice of strings (of ints) that is read, by its first 'len' elements.
-/
import Derived.Test.Qxb6602756aRows
import Derived.WalkKit
import Derived.ProofKit
import Derived.OpenShut
import Derived.ShutString
import Derived.ChangeOld
import Derived.Below
import Derived.SliceStrings
import Derived.Maps.Own
import Derived.WalkSpells
namespace Go.Proofs.Qxb6602756a.Cy
open Go.ChangeShapes Go.WideShapes Go.ChangeAt Go.RowKit

/-- The slice value '.slice a len _' leads in w to the strings ss, its elements. -/
def StrsAt (w : World) (a : Option Addr) (len : Nat) (ss : List ByteArray) : Prop :=
  ss.length = len ∧ (∀ j, (ss.getD j ByteArray.empty).size ≤ maxLen) ∧
  (0 < len → ∃ b off, a = some ⟨b, off, none⟩ ∧ b < w.heap.size ∧ ∀ j, j < len → w.cell? ⟨b, off + j, none⟩ = some (.string (ss.getD j ByteArray.empty)))

/-- The same for a slice of ints. -/
def IntsAt (w : World) (a : Option Addr) (len : Nat) (zs : List Int) : Prop :=
  zs.length = len ∧ (∀ j, (Lit.int .i64 (zs.getD j 0)).wf = true) ∧
  (0 < len → ∃ b off, a = some ⟨b, off, none⟩ ∧ b < w.heap.size ∧ ∀ j, j < len → w.cell? ⟨b, off + j, none⟩ = some (.int .i64 (zs.getD j 0)))

theorem StrsAt.below {w w' : World} {a : Option Addr} {len : Nat} {ss : List ByteArray} (h : StrsAt w a len ss) (hb : Below w.heap.size w w') : StrsAt w' a len ss := by
  obtain ⟨h1, h2, h3⟩ := h
  refine ⟨h1, h2, fun hl => ?_⟩
  obtain ⟨b, off, ha, hlt, hc⟩ := h3 hl
  exact ⟨b, off, ha, Nat.lt_of_lt_of_le hlt hb.size, fun j hj => (hb.cell (p := ⟨b, off + j, none⟩) hlt).trans (hc j hj)⟩

theorem IntsAt.below {w w' : World} {a : Option Addr} {len : Nat} {zs : List Int} (h : IntsAt w a len zs) (hb : Below w.heap.size w w') : IntsAt w' a len zs := by
  obtain ⟨h1, h2, h3⟩ := h
  refine ⟨h1, h2, fun hl => ?_⟩
  obtain ⟨b, off, ha, hlt, hc⟩ := h3 hl
  exact ⟨b, off, ha, Nat.lt_of_lt_of_le hlt hb.size, fun j hj => (hb.cell (p := ⟨b, off + j, none⟩) hlt).trans (hc j hj)⟩

end Go.Proofs.Qxb6602756a.Cy
