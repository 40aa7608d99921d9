/-
  Seat b6602846a: isDigit, past, its exported name.
-/
import Derived.Test.Qxb6602846aNumQ
import Derived.WalkKit
import Derived.ProofKit
import Derived.OpenShut
import Derived.ShutString
import Derived.WalkSpells
import Derived.WalkSmall
import Derived.Deep.LoopGhost
namespace Go.Proofs.Qxb6602846a
open Go.ChangeShapes Go.WideShapes Go.ChangeAt Go.RowKit

namespace Nq

theorem ret_b {a b : Bool} (h : a = b) : Ending.returned (.bool a) = .returned (.bool b) := by rw [h]
theorem ret_ib {a b : Bool} {i j : Int} (h2 : i = j) (h : a = b) : Ending.returned (.tuple #[.int .i64 i, .bool a]) = .returned (.tuple #[.int .i64 j, .bool b]) := by rw [h, h2]

theorem digit_any (c : Int) (w : World) : Calls Try.prog 11 #[.int .u8 c] w fun e w' => e = .returned (.bool (digB c)) ∧ w' = w := by
  cases h : digB c with
  | true =>
    obtain ⟨h1, h2⟩ := digB_yes.1 h
    clear h
    go_enter Try.func11, Try.ntmps11
    go_wp2
    go_ret
    exact ⟨rfl, rfl⟩
  | false =>
    have h2 := digB_no.1 h
    clear h
    rcases h2 with h2 | h2
    all_goals
      go_enter Try.func11, Try.ntmps11
      go_wp2
      go_ret
      exact ⟨ret_b (by simp; try omega), rfl⟩

/-- What 'past' answers. -/
def pq (p c : Int) : Int := if 0 ≤ N p c then N p c else p
def pok (p c : Int) : Bool := decide (0 ≤ N p c)

set_option maxHeartbeats 4000000 in
theorem past_in (p c : Int) (w : World) (h0 : 0 ≤ p) (h7 : p ≤ 7) : Calls Try.prog 24 #[.int .i64 p, .int .u8 c] w fun e w' => e = .returned (.tuple #[.int .i64 (pq p c), .bool (pok p c)]) ∧ w' = w := by
  have hs : p = 0 ∨ p = 1 ∨ p = 2 ∨ p = 3 ∨ p = 4 ∨ p = 5 ∨ p = 6 ∨ p = 7 := by omega
  clear h0 h7
  have hd : (digB c = true ∧ 48 ≤ c ∧ c ≤ 57) ∨ (digB c = false ∧ c < 48) ∨ (digB c = false ∧ 57 < c) := by
    cases h : digB c with
    | true => exact .inl ⟨rfl, digB_yes.1 h⟩
    | false =>
      rcases digB_no.1 h with h1 | h1
      · exact .inr (.inl ⟨rfl, h1⟩)
      · exact .inr (.inr ⟨rfl, h1⟩)
  rcases hs with rfl | rfl | rfl | rfl | rfl | rfl | rfl | rfl
  all_goals
    rcases hd with ⟨hdc, h1, h2⟩ | ⟨hdc, h1⟩ | ⟨hdc, h1⟩
    all_goals
      have HD : Hid _ := hdc
      clear hdc
      go_enter Try.func24, Try.ntmps24
      go_wp2
      all_goals
        go_ret2
        have hD := HD.out
        clear HD
        refine ⟨ret_ib ?_ ?_, rfl⟩
        all_goals simp_all [pq, pok, N]
        all_goals omega
theorem N_out (p c : Int) (h : p < 0 ∨ 7 < p) : N p c = -1 := by
  unfold N
  rw [if_neg (by omega), if_neg (by omega), if_neg (by omega), if_neg (by omega), if_neg (by omega), if_neg (by omega), if_neg (by omega), if_neg (by omega)]

set_option maxHeartbeats 1000000 in
theorem past_out (p c : Int) (w : World) (h : p < 0 ∨ 7 < p) : Calls Try.prog 24 #[.int .i64 p, .int .u8 c] w fun e w' => e = .returned (.tuple #[.int .i64 (pq p c), .bool (pok p c)]) ∧ w' = w := by
  have e1 : pq p c = p := by unfold pq; rw [N_out p c h]; rfl
  have e2 : pok p c = false := by unfold pok; rw [N_out p c h]; rfl
  rw [e1, e2]
  clear e1 e2
  have p0 : (p == 0) = false := by simp; omega
  have p1 : (p == 1) = false := by simp; omega
  have p2 : (p == 2) = false := by simp; omega
  have p3 : (p == 3) = false := by simp; omega
  have p4 : (p == 4) = false := by simp; omega
  have p5 : (p == 5) = false := by simp; omega
  have p6 : (p == 6) = false := by simp; omega
  have p7 : (p == 7) = false := by simp; omega
  clear h
  have hd : (48 ≤ c ∧ c ≤ 57) ∨ c < 48 ∨ 57 < c := by omega
  rcases hd with ⟨h1, h2⟩ | h1 | h1
  all_goals
    go_enter Try.func24, Try.ntmps24
    go_wp2
    go_ret2
    exact ⟨rfl, rfl⟩

theorem past_any (p c : Int) (w : World) : Calls Try.prog 24 #[.int .i64 p, .int .u8 c] w fun e w' => e = .returned (.tuple #[.int .i64 (pq p c), .bool (pok p c)]) ∧ w' = w := by
  by_cases h : p < 0 ∨ 7 < p
  · exact past_out p c w h
  · exact past_in p c w (by omega) (by omega)

theorem zzpast_any (p c : Int) (w : World) : Calls Try.prog 7 #[.int .i64 p, .int .u8 c] w fun e w' => e = .returned (.tuple #[.int .i64 (pq p c), .bool (pok p c)]) ∧ w' = w := by
  go_enter Try.func7, Try.ntmps7
  go_wp2_with fail
  refine (past_any p c w).mono ?_
  rintro e w ⟨rfl, rfl⟩
  go_wp2
  go_ret2
  exact ⟨rfl, rfl⟩

end Nq
end Go.Proofs.Qxb6602846a
