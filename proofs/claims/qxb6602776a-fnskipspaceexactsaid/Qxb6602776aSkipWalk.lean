/-
  Seat b6602776a, FnSkipSpaceExact: the law's own walk.
-/
import Derived.Test.Qxb6602776aSkip
namespace Go.Proofs.Qxb6602776a
open Go.ChangeShapes Go.WideShapes Go.ChangeAt Go.RowKit

namespace Sc

/-- White space that begins at or past the end ends where it begins; else it ends within the text. -/
theorem skip_end {zs : List Int} {p q len : Nat} (h : SkipTo zs p q) (hlen : zs.length = len) : (len ≤ p → q = p) ∧ (p ≤ len → q ≤ len) := by
  obtain ⟨h1, h2, h3⟩ := h
  have out : ∀ j, len ≤ j → spB (zs.getD j 0) = false := by
    intro j hj
    rw [List.getD_eq_getElem?_getD, List.getElem?_eq_none (by omega)]
    rfl
  constructor
  · intro hp
    by_cases e : q = p
    · exact e
    · have a := h2 p (Nat.le_refl _) (by omega)
      rw [out p hp] at a
      cases a
  · intro hp
    by_cases e : q ≤ len
    · exact e
    · have a := h2 len hp (by omega)
      rw [out len (Nat.le_refl _)] at a
      cases a

set_option maxHeartbeats 1000000 in
theorem law_walk (a : Option Addr) (len cap : Nat) (zs : List Int) (pos : Int) (w : World) (h : BytesAt w w.heap.size a len zs) (hl : len ≤ 9223372036854775807) (hp : pos ≤ 9223372036854775807) :
    Calls Try.prog 7 #[.slice a len cap, .int .i64 pos] w fun e w' => e = .returned (.bool true) ∧ Below w.heap.size w w' := by
  have H : Hid (BytesAt w w.heap.size a len zs) := h
  clear h
  by_cases hlen : 1048576 < len
  · go_enter Try.func7, Try.ntmps7
    go_wp2_with fail
    refine (bound_no a len cap pos w hlen).mono ?_
    rintro e w ⟨rfl, rfl⟩
    go_wp2
    go_ret
    exact ⟨rfl, Below.refl _ _⟩
  have hlen' : len ≤ 1048576 := by omega
  by_cases hneg : pos < 0
  · go_enter Try.func7, Try.ntmps7
    go_wp2_with fail
    refine (bound_yes a len cap pos w hlen').mono ?_
    rintro e w ⟨rfl, rfl⟩
    go_wp2
    go_ret
    exact ⟨rfl, Below.refl _ _⟩
  obtain ⟨p, rfl⟩ : ∃ p : Nat, pos = p := ⟨pos.toNat, by omega⟩
  go_enter Try.func7, Try.ntmps7
  go_wp2_with fail
  refine (bound_yes a len cap p w hlen').mono ?_
  rintro e w ⟨rfl, rfl⟩
  go_wp2_with fail
  refine (clone_any a len cap zs w H.out hlen').mono ?_
  rintro e w1 ⟨a1, c1, rfl, hc1, h1, hb1⟩
  have H1 : Hid (BytesAt w1 w1.heap.size a1 len zs) := h1
  have HB1 : Hid (Below w.heap.size w w1) := hb1
  clear h1 hb1
  go_wp2_with fail
  refine (zzskip_any a1 len c1 zs p w1 H1.out (by omega) hlen').mono ?_
  rintro e w2 ⟨⟨q, rfl, hq⟩, hb2⟩
  have HQ : Hid (SkipTo zs p q) := hq
  have HB : Hid (Below w.heap.size w w2) := HB1.out.trans (hb2.mono HB1.out.size)
  have H2 : Hid (BytesAt w2 w1.heap.size a1 len zs) := H1.out.below hb2 (Nat.le_refl _)
  have hq1 := (skip_end hq H1.out.1).1
  have hq2 := (skip_end hq H1.out.1).2
  have hpq : p ≤ q := hq.1
  clear hq hb2 H1 HB1 H
  by_cases hpl : len ≤ p
  · have hqp := hq1 hpl
    subst hqp
    clear hq1 hq2
    go_wp2
    go_ret
    exact ⟨rfl, HB.out⟩
  · have hql := hq2 (by omega)
    clear hq1 hq2
    have hd1 : decide (q < p) = false := decide_eq_false (by omega)
    have hd2 : decide (len < q) = false := decide_eq_false (by omega)
    go_wp2_with fail
    obtain ⟨b, off, ha, hbl, hc⟩ := H2.out.2.2 (by omega)
    subst ha
    have HC : Hid (∀ j, j < len → w2.cell? ⟨b, off + j, none⟩ = some (.int .u8 (zs.getD j 0))) := hc
    clear hc hbl H2
    go_loopg [6] (q - p) (fun n i wr => ∃ k : Nat, p ≤ k ∧ k ≤ q ∧ n = q - k ∧ i = .int .i64 k ∧ w2 = wr)
    case atStart => exact ⟨p, Nat.le_refl _, hpq, rfl, rfl, rfl⟩
    case round =>
      obtain ⟨k, hk1, hk2, rfl, rfl, rfl⟩ := hrel
      by_cases hkq : k < q
      · obtain ⟨z, hz⟩ : ∃ z, z = zs.getD k 0 := ⟨_, rfl⟩
        have hcz : w2.cell? ⟨b, off + k, none⟩ = some (.int .u8 z) := by rw [hz]; exact HC.out k (by omega)
        have hsz : spB z = true := by rw [hz]; exact HQ.out.2.1 k hk1 hkq
        clear hz
        go_wp2_with (go_at_call 19; refine (space_any z _).mono ?_; rintro e w' ⟨rfl, rfl⟩)
        go_roundg (q - (k + 1))
        case rel => exact ⟨k + 1, by omega, by omega, rfl, by go_num, rfl⟩
        case measure => omega
      · by_cases hqe : q = len
        · have hqb : ((q : Int) == (len : Int)) = true := by simp [hqe]
          clear hqe
          go_wp2
          go_ret
          exact ⟨rfl, HB.out⟩
        · have hqb : ((q : Int) == (len : Int)) = false := by simp; omega
          have hqi : q < len := by omega
          obtain ⟨z, hz⟩ : ∃ z, z = zs.getD q 0 := ⟨_, rfl⟩
          have hcz : w2.cell? ⟨b, off + q, none⟩ = some (.int .u8 z) := by rw [hz]; exact HC.out q hqi
          have hsz : spB z = false := by rw [hz]; exact HQ.out.2.2
          clear hz
          go_wp2_with (go_at_call 19; refine (space_any z _).mono ?_; rintro e w' ⟨rfl, rfl⟩)
          go_ret
          exact ⟨rfl, HB.out⟩
end Sc
end Go.Proofs.Qxb6602776a
