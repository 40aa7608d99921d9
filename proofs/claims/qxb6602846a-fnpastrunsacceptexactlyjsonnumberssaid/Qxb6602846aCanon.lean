/-
  Seat b6602846a: canonNumberPrefix.
-/
import Derived.Test.Qxb6602846aPastA
namespace Go.Proofs.Qxb6602846a
open Go.ChangeShapes Go.WideShapes Go.ChangeAt Go.RowKit

namespace Nq

/-- A string's bytes as numbers. -/
def zsOf (s : ByteArray) : List Int := s.data.toList.map fun c => (c.toNat : Int)

theorem zs_len (s : ByteArray) : (zsOf s).length = s.size := by simp [zsOf]

theorem zs_get (s : ByteArray) (k : Nat) (h : k < s.size) : ((s[k]'h).toNat : Int) = (zsOf s).getD k 0 := by
  have h' : k < (zsOf s).length := by rw [zs_len]; exact h
  rw [List.getD_eq_getElem?_getD, List.getElem?_eq_getElem h', Option.getD_some]
  simp [zsOf]
  rfl

/-- A text of the phase p. -/
def CanonOk (p : Int) (cb : ByteArray) : Prop :=
  1 ≤ cb.size ∧ cb.size ≤ 4 ∧ (zsOf cb).getD 0 0 = 45 ∧ ∀ x, R (zsOf cb ++ [x]) 0 1 = R (zsOf cb ++ [x]) p cb.size

theorem canon0 : CanonOk 0 ⟨#[45]⟩ := ⟨by decide, by decide, rfl, fun x => rfl⟩
theorem canon1 : CanonOk 1 ⟨#[45, 48]⟩ := ⟨by decide, by decide, rfl, fun x => R_step (show N 0 48 = 1 by decide) (by omega)⟩
theorem canon2 : CanonOk 2 ⟨#[45, 49]⟩ := ⟨by decide, by decide, rfl, fun x => R_step (show N 0 49 = 2 by decide) (by omega)⟩
theorem canon3 : CanonOk 3 ⟨#[45, 49, 46]⟩ := ⟨by decide, by decide, rfl, fun x => (R_step (show N 0 49 = 2 by decide) (by omega)).trans (R_step (show N 2 46 = 3 by decide) (by omega))⟩
theorem canon4 : CanonOk 4 ⟨#[45, 49, 46, 53]⟩ := ⟨by decide, by decide, rfl, fun x => (R_step (show N 0 49 = 2 by decide) (by omega)).trans ((R_step (show N 2 46 = 3 by decide) (by omega)).trans (R_step (show N 3 53 = 4 by decide) (by omega)))⟩
theorem canon5 : CanonOk 5 ⟨#[45, 49, 101]⟩ := ⟨by decide, by decide, rfl, fun x => (R_step (show N 0 49 = 2 by decide) (by omega)).trans (R_step (show N 2 101 = 5 by decide) (by omega))⟩
theorem canon6 : CanonOk 6 ⟨#[45, 49, 101, 43]⟩ := ⟨by decide, by decide, rfl, fun x => (R_step (show N 0 49 = 2 by decide) (by omega)).trans ((R_step (show N 2 101 = 5 by decide) (by omega)).trans (R_step (show N 5 43 = 6 by decide) (by omega)))⟩
theorem canon7 : CanonOk 7 ⟨#[45, 49, 101, 53]⟩ := ⟨by decide, by decide, rfl, fun x => (R_step (show N 0 49 = 2 by decide) (by omega)).trans ((R_step (show N 2 101 = 5 by decide) (by omega)).trans (R_step (show N 5 53 = 7 by decide) (by omega)))⟩

/-- It returns a text of the phase p. -/
def CRet (p : Int) (e : Ending) : Prop := ∃ cb, e = .returned (.tuple #[.string cb, .bool true]) ∧ CanonOk p cb
theorem cret {p : Int} {e : Ending} (cb : ByteArray) (h : e = .returned (.tuple #[.string cb, .bool true])) (h2 : CanonOk p cb) : CRet p e := ⟨cb, h, h2⟩

set_option maxHeartbeats 1000000 in
theorem canon_in (p : Int) (w : World) (h0 : 0 ≤ p) (h7 : p ≤ 7) : Calls Try.prog 8 #[.int .i64 p] w fun e w' => CRet p e ∧ w' = w := by
  have hs : p = 0 ∨ p = 1 ∨ p = 2 ∨ p = 3 ∨ p = 4 ∨ p = 5 ∨ p = 6 ∨ p = 7 := by omega
  clear h0 h7
  rcases hs with rfl | rfl | rfl | rfl | rfl | rfl | rfl | rfl
  all_goals
    go_enter Try.func8, Try.ntmps8
    go_wp2
    go_ret2
    first | exact ⟨cret _ rfl canon0, rfl⟩ | exact ⟨cret _ rfl canon1, rfl⟩ | exact ⟨cret _ rfl canon2, rfl⟩ | exact ⟨cret _ rfl canon3, rfl⟩ | exact ⟨cret _ rfl canon4, rfl⟩ | exact ⟨cret _ rfl canon5, rfl⟩ | exact ⟨cret _ rfl canon6, rfl⟩ | exact ⟨cret _ rfl canon7, rfl⟩

theorem canon_out (p : Int) (w : World) (h : p < 0 ∨ 7 < p) : Calls Try.prog 8 #[.int .i64 p] w fun e w' => e = .returned (.tuple #[.string ⟨#[]⟩, .bool false]) ∧ w' = w := by
  have p0 : (p == 0) = false := by simp; omega
  have p1 : (p == 1) = false := by simp; omega
  have p2 : (p == 2) = false := by simp; omega
  have p3 : (p == 3) = false := by simp; omega
  have p4 : (p == 4) = false := by simp; omega
  have p5 : (p == 5) = false := by simp; omega
  have p6 : (p == 6) = false := by simp; omega
  have p7 : (p == 7) = false := by simp; omega
  clear h
  go_enter Try.func8, Try.ntmps8
  go_wp2
  go_ret2
  exact ⟨rfl, rfl⟩

end Nq
end Go.Proofs.Qxb6602846a
