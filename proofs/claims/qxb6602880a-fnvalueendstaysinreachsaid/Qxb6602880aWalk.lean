/-
  Seat b6602880a, FnValueEndStaysInReach: the law's own walk.
-/
import Derived.Test.Qxb6602880aEnds
namespace Go.Proofs.Qxb6602880a
open Go.ChangeShapes Go.WideShapes Go.ChangeAt Go.RowKit

namespace Ve

theorem bound_yes (a : Option Addr) (len cap : Nat) (p : Int) (w : World) (h : len ≤ 1048576) : Calls Try.prog 12 #[.slice a len cap, .int .i64 p] w fun e w' => e = .returned (.bool true) ∧ w' = w := by
  go_enter Try.func12, Try.ntmps12
  go_wp2
  go_ret
  exact ⟨rfl, rfl⟩
theorem bound_no (a : Option Addr) (len cap : Nat) (p : Int) (w : World) (h : 1048576 < len) : Calls Try.prog 12 #[.slice a len cap, .int .i64 p] w fun e w' => e = .returned (.bool false) ∧ w' = w := by
  have h' : (1048576 : Int) < (len : Int) := by omega
  go_enter Try.func12, Try.ntmps12
  go_wp2
  go_ret
  exact ⟨rfl, rfl⟩

set_option maxHeartbeats 4000000 in
theorem reach_law (a : Option Addr) (len cap : Nat) (zs : List Int) (pos : Int) (w : World) (h : BytesAt w w.heap.size a len zs) (hl : len ≤ 9223372036854775807) :
    Calls Try.prog 4 #[.slice a len cap, .int .i64 pos] w fun e w' => e = .returned (.bool true) ∧ Below w.heap.size w w' := by
  have H : Hid (BytesAt w w.heap.size a len zs) := h
  clear h
  by_cases hlen : 1048576 < len
  · go_enter Try.func4, Try.ntmps4
    go_wp2_with fail
    refine (bound_no a len cap pos w hlen).mono ?_
    rintro e w ⟨rfl, rfl⟩
    go_wp2
    go_ret
    exact ⟨rfl, Below.refl _ _⟩
  have hlen' : len ≤ 1048576 := by omega
  by_cases hneg : pos < 0
  · go_enter Try.func4, Try.ntmps4
    go_wp2_with fail
    refine (bound_yes a len cap pos w hlen').mono ?_
    rintro e w ⟨rfl, rfl⟩
    go_wp2
    go_ret
    exact ⟨rfl, Below.refl _ _⟩
  obtain ⟨p, rfl⟩ : ∃ p : Nat, pos = p := ⟨pos.toNat, by omega⟩
  by_cases hpl : len ≤ p
  · have hpli : (len : Int) ≤ (p : Int) := by omega
    go_enter Try.func4, Try.ntmps4
    go_wp2_with fail
    refine (bound_yes a len cap p w hlen').mono ?_
    rintro e w ⟨rfl, rfl⟩
    go_wp2
    go_ret
    exact ⟨rfl, Below.refl _ _⟩
  have hpl' : p < len := by omega
  have hpli : (p : Int) < (len : Int) := by omega
  clear hlen hneg hpl
  go_enter Try.func4, Try.ntmps4
  go_wp2_with fail
  refine (bound_yes a len cap p w hlen').mono ?_
  rintro e w ⟨rfl, rfl⟩
  go_wp2_with fail
  refine (clone_any a len cap zs w H.out hlen').mono ?_
  rintro e w1 ⟨a1, c1, rfl, hc1, h1, hb1⟩
  obtain ⟨b, off, ha1, hbl, hc⟩ := h1.2.2 (by omega)
  subst ha1
  have HC : Hid (∀ j, j < len → w1.cell? ⟨b, off + j, none⟩ = some (.int .u8 (zs.getD j 0))) := hc
  have HB1 : Hid (Below w.heap.size w w1) := hb1
  clear h1 hb1 hc hbl H
  go_wp2_with fail
  refine (zzvalue_any b off len c1 zs p w1 hpl' hlen' HC.out).mono ?_
  rintro e w1 ⟨⟨q, rfl, hq⟩, rfl⟩
  obtain ⟨z, hz⟩ : ∃ z, z = zs.getD p 0 := ⟨_, rfl⟩
  have hcz : w1.cell? ⟨b, off + p, none⟩ = some (.int .u8 z) := by rw [hz]; exact HC.out p hpl'
  rcases hq with ⟨h34, hq1, hq2, hq3⟩ | ⟨hbr, hq1, hq2, hq3⟩ | ⟨hno, hq1, hq2⟩
  · rw [← hz] at h34
    clear hz
    subst h34
    have d1 : decide (q < p) = false := decide_eq_false (by omega)
    have d2 : decide (len + 1 < q) = false := decide_eq_false (by omega)
    by_cases hqe : q = len + 1
    · subst hqe
      go_wp2
      go_ret
      exact ⟨rfl, HB1.out⟩
    · obtain ⟨r, rfl⟩ : ∃ r, q = r + 1 := ⟨q - 1, by omega⟩
      have hqb : ((r : Int) == (len : Int)) = false := by simp; omega
      have hqb1 : ((r : Int) + 1 == (len : Int) + 1) = false := by simp; omega
      have h35 : zs.getD r 0 = 34 := by
        rcases hq3 with h | h
        · exact absurd h hqe
        · simpa using h
      have hrl : r < len := by omega
      have hrli : (r : Int) < (len : Int) := by omega
      have hcq : w1.cell? ⟨b, off + r, none⟩ = some (.int .u8 34) := by rw [HC.out r hrl, h35]
      clear hq3 h35 hqe d1 d2
      go_wp2
      go_ret
      exact ⟨rfl, HB1.out⟩
  · rw [← hz] at hbr
    clear hz
    by_cases hqe : q = len
    · subst hqe
      clear hq3
      rcases hbr with rfl | rfl
      all_goals
        go_wp2
        go_ret
        exact ⟨rfl, HB1.out⟩
    · obtain ⟨r, rfl⟩ : ∃ r, q = r + 1 := ⟨q - 1, by omega⟩
      have hqb : ((r : Int) + 1 == (len : Int)) = false := by simp; omega
      have h35 : zs.getD r 0 = 125 ∨ zs.getD r 0 = 93 := by
        rcases hq3 with h | h
        · exact absurd h hqe
        · simpa using h
      have hrl : r < len := by omega
      have hrli : (r : Int) < (len : Int) := by omega
      obtain ⟨y, hy⟩ : ∃ y, y = zs.getD r 0 := ⟨_, rfl⟩
      have hcq : w1.cell? ⟨b, off + r, none⟩ = some (.int .u8 y) := by rw [HC.out r hrl, hy]
      rw [← hy] at h35
      clear hq3 hy hqe
      rcases hbr with rfl | rfl
      all_goals
        rcases h35 with rfl | rfl
        all_goals
          go_wp2
          go_ret
          exact ⟨rfl, HB1.out⟩
  · rw [← hz] at hno
    clear hz
    have b34 : (z == 34) = false := by simp [hno.1]
    have b123 : (z == 123) = false := by simp [hno.2.1]
    have b91 : (z == 91) = false := by simp [hno.2.2]
    clear hno
    go_wp2
    go_ret
    exact ⟨rfl, HB1.out⟩
end Ve
end Go.Proofs.Qxb6602880a
