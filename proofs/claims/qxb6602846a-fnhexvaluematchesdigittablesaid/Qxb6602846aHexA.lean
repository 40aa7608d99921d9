/-
  Seat b6602846a, FnHexValueMatchesDigitTable: hexValue, its exported name, and the law's walk.
-/
import Derived.Test.Qxb6602846aRows
import Derived.WalkKit
import Derived.ProofKit
import Derived.OpenShut
import Derived.ShutString
import Derived.WalkSpells
import Derived.Deep.LoopGhost
namespace Go.Proofs.Qxb6602846a
open Go.ChangeShapes Go.WideShapes Go.ChangeAt Go.RowKit

namespace Hex

/-- The value of a hexadecimal digit, or -1. -/
def hexv (b : Int) : Int := if 48 ≤ b ∧ b ≤ 57 then b - 48 else if 97 ≤ b ∧ b ≤ 102 then b - 87 else if 65 ≤ b ∧ b ≤ 70 then b - 55 else -1

/-- The two tables. -/
def lo (k : Nat) : Int := if k < 10 then 48 + k else 87 + k
def up (k : Nat) : Int := if k < 10 then 48 + k else 55 + k

/-- What 'want' holds after k rounds. -/
def Wv (b : Int) (k : Nat) : Int := if 0 ≤ hexv b ∧ hexv b < k then hexv b else -1

theorem w_hit {b : Int} {k : Nat} (hk : k < 16) (h : b = lo k ∨ b = up k) : Wv b (k + 1) = k := by
  have : hexv b = k := by
    unfold lo up at h
    unfold hexv
    repeat' split
    all_goals (split at h <;> omega)
  unfold Wv
  rw [this, if_pos (by omega)]

theorem w_miss {b : Int} {k : Nat} (hk : k < 16) (h1 : b ≠ lo k) (h2 : b ≠ up k) : Wv b (k + 1) = Wv b k := by
  have : hexv b ≠ k := by
    unfold lo up at *
    unfold hexv
    repeat' split
    all_goals (split at h1 <;> omega)
  unfold Wv
  by_cases h : 0 ≤ hexv b ∧ hexv b < k
  · rw [if_pos h, if_pos (by omega)]
  · rw [if_neg h, if_neg (by omega)]

theorem low_at (k : Nat) (h : k < (⟨#[48, 49, 50, 51, 52, 53, 54, 55, 56, 57, 97, 98, 99, 100, 101, 102]⟩ : ByteArray).size) : (((⟨#[48, 49, 50, 51, 52, 53, 54, 55, 56, 57, 97, 98, 99, 100, 101, 102]⟩ : ByteArray)[k]'h).toNat : Int) = lo k := by
  have : ∀ j : Fin 16, (((⟨#[48, 49, 50, 51, 52, 53, 54, 55, 56, 57, 97, 98, 99, 100, 101, 102]⟩ : ByteArray)[j.val]'(by have := j.isLt; exact this)).toNat : Int) = lo j.val := by decide
  exact this ⟨k, h⟩
theorem up_at (k : Nat) (h : k < (⟨#[48, 49, 50, 51, 52, 53, 54, 55, 56, 57, 65, 66, 67, 68, 69, 70]⟩ : ByteArray).size) : (((⟨#[48, 49, 50, 51, 52, 53, 54, 55, 56, 57, 65, 66, 67, 68, 69, 70]⟩ : ByteArray)[k]'h).toNat : Int) = up k := by
  have : ∀ j : Fin 16, (((⟨#[48, 49, 50, 51, 52, 53, 54, 55, 56, 57, 65, 66, 67, 68, 69, 70]⟩ : ByteArray)[j.val]'(by have := j.isLt; exact this)).toNat : Int) = up j.val := by decide
  exact this ⟨k, h⟩

theorem way1 {b : Int} {k : Nat} (hk : k < 16) (h : (((⟨#[48, 49, 50, 51, 52, 53, 54, 55, 56, 57, 97, 98, 99, 100, 101, 102]⟩ : ByteArray)[k]'hk).toNat : Int) = b) : Value.int .i64 k = .int .i64 (Wv b (k + 1)) := by
  rw [w_hit hk (.inl (by rw [← h]; exact low_at k hk))]
theorem way2 {b : Int} {k : Nat} (hk : k < 16) (h : ((((⟨#[48, 49, 50, 51, 52, 53, 54, 55, 56, 57, 97, 98, 99, 100, 101, 102]⟩ : ByteArray)[k]'hk).toNat : Int) == b) = true ∨ ((((⟨#[48, 49, 50, 51, 52, 53, 54, 55, 56, 57, 65, 66, 67, 68, 69, 70]⟩ : ByteArray)[k]'hk).toNat : Int) == b) = true) : Value.int .i64 k = .int .i64 (Wv b (k + 1)) := by
  rw [w_hit hk]
  rcases h with h | h
  · left; rw [← eq_of_beq h]; exact low_at k hk
  · right; rw [← eq_of_beq h]; exact up_at k hk
theorem way3 {b v : Int} {k : Nat} (hk : k < 16) (hv : v = Wv b k) (h : ((((⟨#[48, 49, 50, 51, 52, 53, 54, 55, 56, 57, 97, 98, 99, 100, 101, 102]⟩ : ByteArray)[k]'hk).toNat : Int) == b) = false ∧ ((((⟨#[48, 49, 50, 51, 52, 53, 54, 55, 56, 57, 65, 66, 67, 68, 69, 70]⟩ : ByteArray)[k]'hk).toNat : Int) == b) = false) : Value.int .i64 v = .int .i64 (Wv b (k + 1)) := by
  obtain ⟨h1, h2⟩ := h
  rw [w_miss hk, hv]
  · intro e; rw [low_at k hk, e] at h1; simp at h1
  · intro e; rw [up_at k hk, e] at h2; simp at h2

theorem w_end (b : Int) : Wv b 16 = hexv b := by
  unfold Wv hexv
  repeat' split
  all_goals omega

theorem hex_any (b : Int) (w : World) (h0 : 0 ≤ b) (h255 : b ≤ 255) : Calls Try.prog 23 #[.int .u8 b] w fun e w' => e = .returned (.int .i64 (hexv b)) ∧ w' = w := by
  by_cases c1 : 48 ≤ b ∧ b ≤ 57
  · obtain ⟨h1, h2⟩ := c1
    have e : hexv b = b - 48 := by unfold hexv; rw [if_pos ⟨h1, h2⟩]
    rw [e]
    clear e
    go_enter Try.func23, Try.ntmps23
    go_wp2
    go_ret
    exact ⟨rfl, rfl⟩
  by_cases c2 : 97 ≤ b ∧ b ≤ 102
  · obtain ⟨h1, h2⟩ := c2
    have e : hexv b = b - 97 + 10 := by unfold hexv; rw [if_neg (by omega), if_pos ⟨h1, h2⟩]; omega
    rw [e]
    clear e c1
    go_enter Try.func23, Try.ntmps23
    go_wp2
    go_ret
    exact ⟨rfl, rfl⟩
  by_cases c3 : 65 ≤ b ∧ b ≤ 70
  · obtain ⟨h1, h2⟩ := c3
    have e : hexv b = b - 65 + 10 := by unfold hexv; rw [if_neg (by omega), if_neg (by omega), if_pos ⟨h1, h2⟩]; omega
    rw [e]
    clear e c1 c2
    go_enter Try.func23, Try.ntmps23
    go_wp2
    go_ret
    exact ⟨rfl, rfl⟩
  have e : hexv b = -1 := by unfold hexv; rw [if_neg (by omega), if_neg (by omega), if_neg (by omega)]
  rw [e]
  clear e
  have h4 : b < 48 ∨ (57 < b ∧ b < 65) ∨ (70 < b ∧ b < 97) ∨ 102 < b := by omega
  clear c1 c2 c3
  rcases h4 with h | ⟨h, h'⟩ | ⟨h, h'⟩ | h
  all_goals
    go_enter Try.func23, Try.ntmps23
    go_wp2
    go_ret
    exact ⟨rfl, rfl⟩

set_option maxHeartbeats 1000000 in
theorem law_walk (b : Int) (w : World) (h0 : 0 ≤ b) (h255 : b ≤ 255) :
    Calls Try.prog 6 #[.int .u8 b] w fun e w' => e = .returned (.bool true) ∧ Grown w w' := by
  go_enter Try.func6, Try.ntmps6
  go_wp2
  go_loopg [3, 4] 16 (fun n t i wr => ∃ k : Nat, k ≤ 16 ∧ n = 16 - k ∧ i = .int .i64 k ∧ t = .int .i64 (Wv b k) ∧ w = wr)
  case atStart => exact ⟨0, by omega, rfl, rfl, by unfold Wv; rw [if_neg (by omega)], rfl⟩
  case round =>
    obtain ⟨k, hk, rfl, rfl, rfl, rfl⟩ := hrel
    obtain ⟨v, hv⟩ : ∃ v, v = Wv b k := ⟨_, rfl⟩
    have HV : Hid (v = Wv b k) := hv
    rw [← hv]
    clear hv
    by_cases hk16 : k = 16
    · subst hk16
      have hv2 : v = hexv b := HV.out.trans (w_end b)
      subst hv2
      go_wp2_with fail
      refine (hex_any b _ h0 h255).mono ?_
      rintro e w ⟨rfl, rfl⟩
      go_wp2
      go_ret
      exact ⟨rfl, Grown.refl _⟩
    · have hk' : k < 16 := by omega
      clear hk hk16
      go_wp2_with fail
      · go_roundg (16 - (k + 1))
        case measure => omega
        case rel => exact ⟨k + 1, by omega, rfl, by go_num, way1 hk' ‹_›, rfl⟩
      · go_roundg (16 - (k + 1))
        case measure => omega
        case rel => exact ⟨k + 1, by omega, rfl, by go_num, way2 hk' ‹_›, rfl⟩
      · go_roundg (16 - (k + 1))
        case measure => omega
        case rel => exact ⟨k + 1, by omega, rfl, by go_num, way3 hk' HV.out ‹_›, rfl⟩
end Hex
end Go.Proofs.Qxb6602846a
