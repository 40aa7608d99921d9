/-
  Seat b6602776a, FnNumberMatchesAutomaton: the exported reader, the law's own walk.
-/
import Derived.Test.Qxb6602776aNumC
namespace Go.Proofs.Qxb6602776a
open Go.ChangeShapes Go.WideShapes Go.ChangeAt Go.RowKit

namespace Sc

theorem scan_made {w : World} {a : Option Addr} {len cap : Nat} {zs : List Int} {p : Int} (h : BytesAt w w.heap.size a len zs) : Scan (w.alloc (.cells #[.slice a len cap, .int .i64 p] 32)) w.heap.size a len cap zs p := by
  refine ⟨?_, ?_, ?_, h.below ((Below.refl _ w).alloc (Nat.le_refl _) _) (Nat.le_refl _)⟩
  · go_simp
  · go_simp
  · go_simp

set_option maxHeartbeats 400000 in
theorem zznumber_any (a : Option Addr) (len cap : Nat) (zs : List Int) (p : Nat) (w : World) (h : BytesAt w w.heap.size a len zs) (hl : len ≤ 1048576) :
    Calls Try.prog 11 #[.slice a len cap, .int .i64 p] w fun e w' => (∃ (b : Bool) (q : Nat), e = .returned (.tuple #[.bool b, .int .i64 q]) ∧ NumEnd zs p b q) ∧ Below w.heap.size w w' := by
  have H : Hid (BytesAt w w.heap.size a len zs) := h
  clear h
  go_enter Try.func11, Try.ntmps11
  go_wp2_with fail
  refine (number_any w.heap.size a len cap zs p _ (scan_made H.out) hl).mono ?_
  rintro e w1 ⟨b, q, rfl, hend, hsc, hb⟩
  have HE : Hid (NumEnd zs p b q) := hend
  have HB : Hid (Below w.heap.size (w.alloc (.cells #[.slice a len cap, .int .i64 p] 32)) w1) := hb
  obtain ⟨c0, c1, f1, _⟩ := hsc
  clear hend hb
  go_wp2
  go_quiet (fail)
  go_wp2
  go_ret2
  exact ⟨⟨b, q, rfl, HE.out⟩, below_drewN (((Below.refl _ w).alloc (Nat.le_refl _) _).trans HB.out) _⟩

theorem nbound_yes (a : Option Addr) (len cap : Nat) (p : Int) (w : World) (h : len ≤ 1048576) : Calls Try.prog 9 #[.slice a len cap, .int .i64 p] w fun e w' => e = .returned (.bool true) ∧ w' = w := by
  go_enter Try.func9, Try.ntmps9
  go_wp2
  go_ret
  exact ⟨rfl, rfl⟩
theorem nbound_no (a : Option Addr) (len cap : Nat) (p : Int) (w : World) (h : 1048576 < len) : Calls Try.prog 9 #[.slice a len cap, .int .i64 p] w fun e w' => e = .returned (.bool false) ∧ w' = w := by
  have h' : (1048576 : Int) < (len : Int) := by omega
  go_enter Try.func9, Try.ntmps9
  go_wp2
  go_ret
  exact ⟨rfl, rfl⟩

theorem end_one {zs : List Int} {p : Nat} {b b' : Bool} {q q' : Nat} (h : NumEnd zs p b q) (h' : NumEnd zs p b' q') : b = b' ∧ q = q' := by
  obtain ⟨s, h1, h2⟩ := h
  obtain ⟨s', h1', h2'⟩ := h'
  rw [h1] at h1'
  obtain ⟨e1, e2⟩ := Prod.mk.inj h1'
  subst e1
  exact ⟨h2.symm.trans h2', e2⟩

set_option maxHeartbeats 1000000 in
theorem number_law (a : Option Addr) (len cap : Nat) (zs : List Int) (pos : Int) (w : World) (h : BytesAt w w.heap.size a len zs) (hl : len ≤ 9223372036854775807) :
    Calls Try.prog 3 #[.slice a len cap, .int .i64 pos] w fun e w' => e = .returned (.bool true) ∧ Below w.heap.size w w' := by
  have H : Hid (BytesAt w w.heap.size a len zs) := h
  clear h
  by_cases hlen : 1048576 < len
  · go_enter Try.func3, Try.ntmps3
    go_wp2_with fail
    refine (nbound_no a len cap pos w hlen).mono ?_
    rintro e w ⟨rfl, rfl⟩
    go_wp2
    go_ret
    exact ⟨rfl, Below.refl _ _⟩
  have hlen' : len ≤ 1048576 := by omega
  by_cases hneg : pos < 0
  · go_enter Try.func3, Try.ntmps3
    go_wp2_with fail
    refine (nbound_yes a len cap pos w hlen').mono ?_
    rintro e w ⟨rfl, rfl⟩
    go_wp2
    go_ret
    exact ⟨rfl, Below.refl _ _⟩
  obtain ⟨p, rfl⟩ : ∃ p : Nat, pos = p := ⟨pos.toNat, by omega⟩
  go_enter Try.func3, Try.ntmps3
  go_wp2_with fail
  refine (nbound_yes a len cap p w hlen').mono ?_
  rintro e w ⟨rfl, rfl⟩
  go_wp2_with fail
  refine (clone_any a len cap zs w H.out hlen').mono ?_
  rintro e w1 ⟨a1, c1, rfl, hc1, h1, hb1⟩
  have H1 : Hid (BytesAt w1 w1.heap.size a1 len zs) := h1
  have HB1 : Hid (Below w.heap.size w w1) := hb1
  clear h1 hb1
  go_wp2_with fail
  refine (zznumber_any a1 len c1 zs p w1 H1.out hlen').mono ?_
  rintro e w2 ⟨⟨b2, q2, rfl, hq2⟩, hb2⟩
  have HQ2 : Hid (NumEnd zs p b2 q2) := hq2
  have HB2 : Hid (Below w.heap.size w w2) := HB1.out.trans (hb2.mono HB1.out.size)
  have H2 : Hid (BytesAt w2 w1.heap.size a1 len zs) := H1.out.below hb2 (Nat.le_refl _)
  clear hq2 hb2
  go_wp2_with fail
  refine (model_any a1 len c1 zs p _ w2 H2.out hlen').mono ?_
  rintro e w2 ⟨⟨b3, q3, rfl, hq3⟩, rfl⟩
  obtain ⟨rfl, rfl⟩ := end_one HQ2.out hq3
  clear hq3
  go_wp2
  go_ret
  exact ⟨rfl, HB2.out⟩
end Sc
end Go.Proofs.Qxb6602776a
