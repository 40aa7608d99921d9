/-
  Seat b6602776a, FnNumberMatchesAutomaton: peek, accept, digits.
-/
import Derived.Test.Qxb6602776aBase
import Derived.Deep.QuietTactic
import Derived.BigQuiet
import Derived.Deep.LoopGhost
namespace Go.Proofs.Qxb6602776a
open Go.ChangeShapes Go.WideShapes Go.ChangeAt Go.RowKit

namespace Sc

theorem getD_out {zs : List Int} {i len : Nat} (hlen : zs.length = len) (h : ¬ i < len) : zs.getD i 0 = 0 := by
  rw [List.getD_eq_getElem?_getD, List.getElem?_eq_none (by omega)]
  rfl

set_option maxHeartbeats 400000 in
theorem peek_any (Pb : Nat) (a : Option Addr) (len cap : Nat) (zs : List Int) (p : Nat) (w : World) (h : Scan w Pb a len cap zs p) :
    Calls Try.prog 28 #[.pointer (some ⟨Pb, 0, none⟩)] w fun e w' => e = .returned (.int .u8 (zs.getD p 0)) ∧ ∃ n, w' = w.drewN n := by
  obtain ⟨c0, c1, f1, hlen, hrg, hcl⟩ := h
  by_cases hpl : p < len
  · obtain ⟨b, off, rfl, hbl, hc⟩ := hcl (by omega)
    obtain ⟨z, hz⟩ : ∃ z, z = zs.getD p 0 := ⟨_, rfl⟩
    have hcz : w.cell? ⟨b, off + p, none⟩ = some (.int .u8 z) := by rw [hz]; exact hc p hpl
    have hpi : (p : Int) < (len : Int) := by omega
    rw [← hz]
    clear hc hcl hz hrg
    go_enter Try.func28, Try.ntmps28
    go_wp2
    go_quiet (fail)
    go_wp2
    go_quiet (fail)
    go_wp2
    go_ret
    exact ⟨rfl, _, by simp; rfl⟩
  · have hpi : ¬ (p : Int) < (len : Int) := by omega
    rw [getD_out hlen hpl]
    clear hcl hrg
    go_enter Try.func28, Try.ntmps28
    go_wp2
    go_quiet (fail)
    go_wp2
    go_ret
    exact ⟨rfl, _, rfl⟩

set_option maxHeartbeats 400000 in
theorem accept_any (Pb : Nat) (a : Option Addr) (len cap : Nat) (zs : List Int) (p : Nat) (c : Int) (w : World) (h : Scan w Pb a len cap zs p) (hl : len ≤ 1048576) (hc0 : c ≠ 0) :
    Calls Try.prog 25 #[.pointer (some ⟨Pb, 0, none⟩), .int .u8 c] w fun e w' => ∃ (b : Bool) (q : Nat), e = .returned (.bool b) ∧ ((b = true ∧ zs.getD p 0 = c ∧ q = p + 1) ∨ (b = false ∧ zs.getD p 0 ≠ c ∧ q = p)) ∧ Scan w' Pb a len cap zs q ∧ Below Pb w w' := by
  have HS : Hid (Scan w Pb a len cap zs p) := h
  obtain ⟨z, hz⟩ : ∃ z, z = zs.getD p 0 := ⟨_, rfl⟩
  have HP : Hid (Calls Try.prog 28 #[.pointer (some ⟨Pb, 0, none⟩)] w fun e w' => e = .returned (.int .u8 z) ∧ ∃ n, w' = w.drewN n) := by rw [hz]; exact peek_any Pb a len cap zs p w h
  obtain ⟨c0, c1, f1, hlen, _, _⟩ := h
  by_cases hzc : z = c
  · have hpl : p < len := by
      by_cases e : p < len
      · exact e
      · rw [getD_out hlen e] at hz; exact absurd (hzc.symm.trans hz) hc0
    have HZ : Hid (zs.getD p 0 = c) := by rw [← hz]; exact hzc
    have hzb : (z == c) = true := by simp [hzc]
    clear hzc hz
    go_enter Try.func25, Try.ntmps25
    go_wp2_with fail
    refine Calls.mono HP.out ?_
    rintro e w1 ⟨rfl, n, hw⟩
    subst hw
    go_wp2
    go_ret
    exact ⟨true, p + 1, rfl, .inl ⟨rfl, HZ.out, rfl⟩, (HS.out.moved _).drewN _, below_drewN ((Below.refl Pb w).setCell (p := ⟨Pb, 1, none⟩) (Nat.le_refl Pb) _) _⟩
  · have HZ : Hid (zs.getD p 0 ≠ c) := by rw [← hz]; exact hzc
    have hzb : (z == c) = false := by simp [hzc]
    clear hzc hz
    go_enter Try.func25, Try.ntmps25
    go_wp2_with fail
    refine Calls.mono HP.out ?_
    rintro e w1 ⟨rfl, n, hw⟩
    subst hw
    go_wp2
    go_ret
    exact ⟨false, p, rfl, .inr ⟨rfl, HZ.out, rfl⟩, HS.out.drewN _, below_drewN (Below.refl Pb w) _⟩
def digB (c : Int) : Bool := decide (48 ≤ c) && decide (c ≤ 57)

theorem digB_yes {c : Int} : digB c = true ↔ 48 ≤ c ∧ c ≤ 57 := by simp [digB]
theorem digB_no {c : Int} : digB c = false ↔ c < 48 ∨ 57 < c := by
  simp [digB]; omega

/-- q is where a run of digits that begins at p ends. -/
def IsRun (zs : List Int) (p q : Nat) : Prop :=
  p ≤ q ∧ (∀ j, p ≤ j → j < q → digB (zs.getD j 0) = true) ∧ digB (zs.getD q 0) = false

set_option maxHeartbeats 1000000 in
theorem digits_any (Pb : Nat) (a : Option Addr) (len cap : Nat) (zs : List Int) (p : Nat) (w : World) (h : Scan w Pb a len cap zs p) (hl : len ≤ 1048576) :
    Calls Try.prog 26 #[.pointer (some ⟨Pb, 0, none⟩)] w fun e w' => ∃ (q : Nat), e = .returned (.bool (decide (p < q))) ∧ IsRun zs p q ∧ Scan w' Pb a len cap zs q ∧ Below Pb w w' := by
  have HS : Hid (Scan w Pb a len cap zs p) := h
  obtain ⟨c0, c1, f1, hlen, _, _⟩ := h
  have HL : Hid (zs.length = len) := hlen
  clear hlen
  go_enter Try.func26, Try.ntmps26
  go_wp2_with fail
  refine (peek_any Pb a len cap zs p w HS.out).mono ?_
  rintro e w1 ⟨rfl, n, hw⟩
  subst hw
  go_wp2_with fail
  clear c0 c1 f1
  go_loopg [4] (len - p) (fun k cv wr => ∃ i : Nat, p ≤ i ∧ k = len - i ∧ cv = .int .u8 (zs.getD i 0) ∧ (∀ j, p ≤ j → j < i → digB (zs.getD j 0) = true) ∧ Scan wr Pb a len cap zs i ∧ Below Pb w wr)
  case atStart => exact ⟨p, Nat.le_refl _, rfl, rfl, fun j h1 h2 => by omega, HS.out.drewN _, below_drewN (Below.refl Pb w) _⟩
  case round =>
    obtain ⟨i, hpi, rfl, rfl, hdg, hsc, hb⟩ := hrel
    have HSC : Hid (Scan wr Pb a len cap zs i) := hsc
    have HD : Hid (∀ j, p ≤ j → j < i → digB (zs.getD j 0) = true) := hdg
    have HB : Hid (Below Pb w wr) := hb
    obtain ⟨c0, c1, f1, _, _, _⟩ := hsc
    clear hdg hb
    generalize hz : zs.getD i 0 = z
    have HZ : Hid (zs.getD i 0 = z) := hz
    clear hz
    cases hd : digB z with
    | true =>
      have hz2 := digB_yes.1 hd
      obtain ⟨hz3, hz4⟩ := hz2
      have hil : i < len := by
        by_cases e : i < len
        · exact e
        · have := HZ.out; rw [getD_out HL.out e] at this; omega
      clear hd
      go_wp2_with fail
      refine (peek_any Pb a len cap zs (i + 1) _ (HSC.out.moved _)).mono ?_
      rintro e w1 ⟨rfl, n, hw⟩
      subst hw
      go_wp2_with fail
      go_roundg (len - (i + 1))
      case measure => omega
      case rel =>
        refine ⟨i + 1, by omega, rfl, rfl, fun j h1 h2 => ?_, (HSC.out.moved _).drewN _, below_drewN (HB.out.setCell (p := ⟨Pb, 1, none⟩) (Nat.le_refl Pb) _) _⟩
        by_cases e : j = i
        · subst e; rw [HZ.out]; exact digB_yes.2 ⟨hz3, hz4⟩
        · exact HD.out j h1 (by omega)
    | false =>
      have HDZ : Hid (digB z = false) := hd
      have hz2 := digB_no.1 hd
      clear hd
      rcases hz2 with hz2 | hz2
      all_goals
        go_wp2
        go_ret
        exact ⟨i, by simp, ⟨hpi, HD.out, by rw [HZ.out]; exact HDZ.out⟩, HSC.out, HB.out⟩
end Sc
end Go.Proofs.Qxb6602776a
