/-
  Seat b6602776a, FnSkipSpaceExact: skipSpace, its exported name, the law.
-/
import Derived.Test.Qxb6602776aBase
import Derived.Deep.QuietTactic
import Derived.BigQuiet
import Derived.Deep.LoopGhost
namespace Go.Proofs.Qxb6602776a
open Go.ChangeShapes Go.WideShapes Go.ChangeAt Go.RowKit

namespace Sc

/-- JSON white space. -/
def spB (c : Int) : Bool := c == 32 || c == 9 || c == 10 || c == 13

/-- q is where white space that begins at p ends. -/
def SkipTo (zs : List Int) (p q : Nat) : Prop :=
  p ≤ q ∧ (∀ j, p ≤ j → j < q → spB (zs.getD j 0) = true) ∧ spB (zs.getD q 0) = false

set_option maxHeartbeats 1000000 in
theorem skip_any (Pb : Nat) (a : Option Addr) (len cap : Nat) (zs : List Int) (p : Nat) (w : World) (h : Scan w Pb a len cap zs p) (hp : p ≤ 9223372036854775807) (hl : len ≤ 1048576) :
    Calls Try.prog 24 #[.pointer (some ⟨Pb, 0, none⟩)] w fun e w' => e = .returned (.tuple #[]) ∧ (∃ q : Nat, SkipTo zs p q ∧ Scan w' Pb a len cap zs q) ∧ Below Pb w w' := by
  have HS : Hid (Scan w Pb a len cap zs p) := h
  clear h
  go_enter Try.func24, Try.ntmps24
  go_wp2
  go_loopg [] (len - p) (fun k wr => ∃ i : Nat, p ≤ i ∧ k = len - i ∧ (∀ j, p ≤ j → j < i → spB (zs.getD j 0) = true) ∧ i ≤ 9223372036854775807 ∧ Scan wr Pb a len cap zs i ∧ Below Pb w wr)
  case atStart => exact ⟨p, Nat.le_refl _, rfl, fun j h1 h2 => by omega, hp, HS.out, Below.refl _ _⟩
  case round =>
    obtain ⟨i, hpi, rfl, hsp, hi, hsc, hb⟩ := hrel
    have HSC : Hid (Scan wr Pb a len cap zs i) := hsc
    have HSP : Hid (∀ j, p ≤ j → j < i → spB (zs.getD j 0) = true) := hsp
    have HB : Hid (Below Pb w wr) := hb
    obtain ⟨c0, c1, f1, hby⟩ := hsc
    by_cases hil : i < len
    · obtain ⟨b, off, rfl, hbl, hc⟩ := hby.2.2 (by omega)
      obtain ⟨z, hz⟩ : ∃ z, z = zs.getD i 0 := ⟨_, rfl⟩
      have hcz : wr.cell? ⟨b, off + i, none⟩ = some (.int .u8 z) := by rw [hz]; exact hc i hil
      have HZ : Hid (z = zs.getD i 0) := hz
      have hii : (i : Int) < (len : Int) := by omega
      clear hc hz hby hsp hb
      cases hs : spB z with
      | true =>
        have h4 : z = 32 ∨ z = 9 ∨ z = 10 ∨ z = 13 := by simpa [spB, or_assoc] using hs
        clear hs
        rcases h4 with rfl | rfl | rfl | rfl
        all_goals
          go_wp2
          go_quiet (fail)
          go_wp2
          go_quiet (fail)
          go_wp2
          go_roundg (len - (i + 1))
          case measure => omega
          case rel =>
            refine ⟨i + 1, by omega, rfl, fun j h1 h2 => ?_, by omega, ?_, ?_⟩
            · by_cases e : j = i
              · subst e; rw [← HZ.out]; rfl
              · exact HSP.out j h1 (by omega)
            · exact (HSC.out.moved _).drewN _
            · exact below_drewN (HB.out.setCell (p := ⟨Pb, 1, none⟩) (Nat.le_refl Pb) _) _
      | false =>
        have e1 : (z == 32) = false := by simp [spB] at hs; simp [hs]
        have e2 : (z == 9) = false := by simp [spB] at hs; simp [hs]
        have e3 : (z == 10) = false := by simp [spB] at hs; simp [hs]
        have e4 : (z == 13) = false := by simp [spB] at hs; simp [hs]
        have HSZ : Hid (spB z = false) := hs
        clear hs
        go_wp2
        go_quiet (fail)
        go_wp2
        go_quiet (fail)
        go_wp2
        refine bodyPost_ret (v := .tuple #[]) (by simp [results, Try.results24, go_sem]) rfl ?_
        refine ⟨rfl, ⟨i, ⟨hpi, HSP.out, ?_⟩, HSC.out.drewN _⟩, below_drewN HB.out _⟩
        rw [← HZ.out]; exact HSZ.out
    · have hdi : ¬ (i : Int) < (len : Int) := by omega
      clear hsp hb hby
      go_wp2
      go_quiet (fail)
      go_wp2
      go_end0
      refine ⟨rfl, ⟨i, ⟨hpi, HSP.out, ?_⟩, HSC.out.drewN _⟩, below_drewN HB.out _⟩
      rw [List.getD_eq_getElem?_getD, List.getElem?_eq_none (by have := HSC.out.2.2.2.1; omega)]
      rfl
theorem scan_new {w : World} {a : Option Addr} {len cap : Nat} {zs : List Int} {p : Int} (h : BytesAt w w.heap.size a len zs) : Scan (w.alloc (.cells #[.slice a len cap, .int .i64 p] 32)) w.heap.size a len cap zs p := by
  refine ⟨?_, ?_, ?_, h.below ((Below.refl _ w).alloc (Nat.le_refl _) _) (Nat.le_refl _)⟩
  · go_simp
  · go_simp
  · go_simp

set_option maxHeartbeats 400000 in
theorem zzskip_any (a : Option Addr) (len cap : Nat) (zs : List Int) (p : Nat) (w : World) (h : BytesAt w w.heap.size a len zs) (hp : p ≤ 9223372036854775807) (hl : len ≤ 1048576) :
    Calls Try.prog 18 #[.slice a len cap, .int .i64 p] w fun e w' => (∃ q : Nat, e = .returned (.int .i64 q) ∧ SkipTo zs p q) ∧ Below w.heap.size w w' := by
  have H : Hid (BytesAt w w.heap.size a len zs) := h
  clear h
  go_enter Try.func18, Try.ntmps18
  go_wp2_with fail
  refine (skip_any w.heap.size a len cap zs p _ (scan_new H.out) hp hl).mono ?_
  rintro e w1 ⟨rfl, ⟨q, hq, hsc⟩, hb⟩
  have HQ : Hid (SkipTo zs p q) := hq
  have HB : Hid (Below w.heap.size (w.alloc (.cells #[.slice a len cap, .int .i64 p] 32)) w1) := hb
  obtain ⟨c0, c1, f1, _⟩ := hsc
  clear hq hb
  go_wp2
  go_ret
  exact ⟨⟨q, rfl, HQ.out⟩, ((Below.refl _ w).alloc (Nat.le_refl _) _).trans HB.out⟩

theorem ret_bool {a b : Bool} (h : a = b) : Ending.returned (.bool a) = .returned (.bool b) := by rw [h]

theorem space_any (z : Int) (w : World) : Calls Try.prog 19 #[.int .u8 z] w fun e w' => e = .returned (.bool (spB z)) ∧ w' = w := by
  go_enter Try.func19, Try.ntmps19
  go_wp2
  all_goals
    go_ret
    exact ⟨ret_bool (by simp [spB, *]), rfl⟩

theorem bound_yes (a : Option Addr) (len cap : Nat) (p : Int) (w : World) (h : len ≤ 1048576) : Calls Try.prog 17 #[.slice a len cap, .int .i64 p] w fun e w' => e = .returned (.bool true) ∧ w' = w := by
  go_enter Try.func17, Try.ntmps17
  go_wp2
  go_ret
  exact ⟨rfl, rfl⟩
theorem bound_no (a : Option Addr) (len cap : Nat) (p : Int) (w : World) (h : 1048576 < len) : Calls Try.prog 17 #[.slice a len cap, .int .i64 p] w fun e w' => e = .returned (.bool false) ∧ w' = w := by
  have h' : (1048576 : Int) < (len : Int) := by omega
  go_enter Try.func17, Try.ntmps17
  go_wp2
  go_ret
  exact ⟨rfl, rfl⟩

end Sc
end Go.Proofs.Qxb6602776a
