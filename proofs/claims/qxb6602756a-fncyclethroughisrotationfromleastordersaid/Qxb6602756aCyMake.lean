/-
  Seat b6602756a: the two functions on the road that make memory out of their arguments: the clone of a slice of strings; the order map.
-/
import Derived.Test.Qxb6602756aCyRead
import Derived.Maps.OwnOps
import Derived.RegionTactic
namespace Go.Proofs.Qxb6602756a.Cy
open Go.ChangeShapes Go.WideShapes Go.ChangeAt Go.RowKit Go.Maps Go.WideMaps

theorem info9 : (Try.prog.info? 9).map (fun i => (i.zero, i.size, i.bytes)) = some (some (.string ByteArray.empty), 1, 16) := by kernel_rfl

/-- The first k strings of ss, then empty ones up to n. -/
def Half (ss : List ByteArray) (n k : Nat) : List Value := (List.range n).map fun j => if j < k then .string (ss.getD j ByteArray.empty) else .string ByteArray.empty

theorem half_zero (ss : List ByteArray) (n : Nat) : (madeCells (Value.string ByteArray.empty).cells (n * 1)).toList = Half ss n 0 := by
  have : (Value.string ByteArray.empty).cells = #[Value.string ByteArray.empty] := rfl
  rw [this, Nat.mul_one, toList_madeCells_one]
  unfold Half
  simp [List.map_const']

theorem half_step (ss : List ByteArray) (n k : Nat) : (Half ss n k).set k (.string (ss.getD k ByteArray.empty)) = Half ss n (k + 1) := by
  unfold Half
  apply List.ext_getElem?
  intro j
  rw [List.getElem?_set]
  by_cases e : k = j
  · subst e
    by_cases hn : k < n
    · simp [hn]
    · simp [hn]
  · by_cases hn : j < n
    · simp only [if_neg e]
      simp [hn]
      by_cases h1 : j < k
      · simp [h1, show j < k + 1 by omega]
      · simp [h1, show ¬ j < k + 1 by omega]
    · simp [hn, e]

theorem half_get (ss : List ByteArray) (n j : Nat) (h : j < n) : (Half ss n n)[j]? = some (.string (ss.getD j ByteArray.empty)) := by
  unfold Half
  simp [h]

theorem half_old (ss : List ByteArray) (n k : Nat) (h : k < n) : (Half ss n k)[k]? = some (.string ByteArray.empty) := by
  unfold Half
  simp [h]

theorem half_len (ss : List ByteArray) (n k : Nat) : (Half ss n k).length = n := by simp [Half]

set_option maxHeartbeats 400000 in
theorem clone_any (a : Option Addr) (len cap : Nat) (ss : List ByteArray) (w : World) (h : StrsAt w a len ss) (hl : len ≤ 65536) :
    Calls Try.prog 8 #[.slice a len cap] w fun e w' => ∃ a' c', e = .returned (.slice a' len c') ∧ len ≤ c' ∧ StrsAt w' a' len ss ∧ Below w.heap.size w w' := by
  have q22 := fun (w : World) (a : Option Addr) (n c n' c' : Nat) => Lib.run_eql_slice_nil w 22 9 a n c n' c' Try.underlying22
  have h' := h
  obtain ⟨hlen, hsz, hcl⟩ := h
  obtain ⟨i0, hi, hz0, hz1, hz2⟩ := info_parts info9
  cases a with
  | none =>
    have hn : len = 0 := by
      by_cases e : 0 < len
      · obtain ⟨b, off, h1, _⟩ := hcl e
        cases h1
      · omega
    subst hn
    go_enter Try.func8, Try.ntmps8
    go_wp2
    go_ret
    exact ⟨none, 0, rfl, Nat.le_refl _, h', Below.refl _ _⟩
  | some x =>
    go_enter Try.func8, Try.ntmps8
    go_wp2_with (first
      | (at_make; refine wpList_make_full _ rfl _ _ 22 rfl w.heap.size 9 i0 (.string ByteArray.empty) 1 Try.underlying22 hi hz0 hz1 _ _ _ _ len rfl rfl rfl rfl (by rw [hz2]; omega) (by unfold maxLen; omega) (Nat.le_refl _) ?_; intro w1 hown1 hgrow1)
      | go_in)
    go_loopw [4] (fun i wr => ∃ k : Nat, k ≤ len ∧ i = .int .i64 k ∧ wr.ownsRow w.heap.size 9 1 (.slice (some ⟨w.heap.size, 0, none⟩) len len) len (Half ss len k) ∧ Below w.heap.size w wr) (fun i _ => len - (intOf i).toNat)
    case atStart => exact ⟨0, Nat.zero_le _, rfl, half_zero ss len ▸ hown1, (Below.refl _ _).grown hgrow1 (Nat.le_refl _) (fun k hk => by cases hk)⟩
    case round =>
      obtain ⟨k, hk, rfl, hown, hnx⟩ := hrel
      by_cases hlt : k < len
      · obtain ⟨b, off, hx, hb, hc⟩ := hcl (by omega)
        cases hx
        obtain ⟨s, hs⟩ : ∃ s, s = ss.getD k ByteArray.empty := ⟨_, rfl⟩
        have hcx : wr.cell? ⟨b, off + k, none⟩ = some (.string s) := by rw [hs]; exact (hnx.cell (by exact hb)).trans (hc k hlt)
        have hcy : wr.cell? ⟨w.heap.size, k, none⟩ = some (.string ByteArray.empty) := by rw [hown.cellAt k (by omega)]; exact half_old ss len k hlt
        have hfy : wr.frozen? ⟨w.heap.size, k, none⟩ = false := hown.frozenAt k
        have R := hown.stored k (.string s)
        rw [hs, half_step, ← hs] at R
        have R1 : Hid _ := R.1
        have R2 : Hid _ := hnx.setCell (p := ⟨w.heap.size, k, none⟩) (Nat.le_refl _) (.string s)
        clear hs hc hcl R hown hnx
        go_wp2
        go_roundw
        case rel => exact ⟨k + 1, by omega, by go_num, R1.out, R2.out⟩
        case measure => simp [intOf]; omega
      · go_wp2
        go_ret
        have hkl : k = len := by omega
        subst hkl
        refine ⟨some ⟨w.heap.size, 0, none⟩, k, rfl, Nat.le_refl _, ⟨hlen, hsz, fun h0 => ⟨w.heap.size, 0, rfl, ?_, fun j hj => ?_⟩⟩, hnx⟩
        · exact (hown.lt _ rfl).2
        · rw [Nat.zero_add, hown.cellAt j (by omega)]
          exact half_get ss k j hj

theorem run_makeMap_hint (n : Int) (w : World) : (Instr.makeMap 28 (some (.int .i64 n))).run Try.prog w = .ok (.map (some w.heap.size)) (w.alloc (.map #[] 0)) := by
  simp [Instr.makeMap, run_underlying Try.underlying28, asInt, asIntOf]

theorem law9 : Keyed Try.prog 9 := string_keyed Try.underlying9
theorem zero3 (w : World) : (zeroValue 3).run Try.prog w = .ok (.int .i64 0) w := by kernel_rfl

set_option maxHeartbeats 400000 in
theorem order_any (a2 : Option Addr) (l2 c2 : Nat) (s2 : List ByteArray) (a3 : Option Addr) (l3 c3 : Nat) (z3 : List Int) (w : World)
    (h2 : StrsAt w a2 l2 s2) (hl2 : l2 ≤ 65536) (h3 : IntsAt w a3 l3 z3) (hl3 : l3 ≤ 65536) :
    Calls Try.prog 10 #[.slice a2 l2 c2, .slice a3 l3 c3] w fun e w' => ∃ n D, e = .returned (.map (some w.heap.size)) ∧ w'.ownsMap Try.prog 9 (plainElem (H := Unit) Try.prog 3) w.heap.size n D ∧ Below w.heap.size w w' := by
  have hmm := run_makeMap_hint
  obtain ⟨_, hsz2, hcl2⟩ := h2
  obtain ⟨_, hwf3, hcl3⟩ := h3
  go_enter Try.func10, Try.ntmps10
  go_wp2
  · go_loopw [7] (fun i wr => ∃ k : Nat, ∃ D, k ≤ l3 ∧ i = .int .i64 k ∧ wr.ownsMap Try.prog 9 (plainElem (H := Unit) Try.prog 3) w.heap.size k D ∧ Below w.heap.size w wr) (fun i _ => l3 - (intOf i).toNat)
    case atStart => exact ⟨0, _, Nat.zero_le _, rfl, World.ownsMap_made _ _ _ _, (Below.refl _ _).alloc (Nat.le_refl _) _⟩
    case round =>
      obtain ⟨k, D, hk, rfl, hown, hnx⟩ := hrel
      by_cases hlt : k < l3
      · obtain ⟨b2, off2, rfl, hb2, hc2⟩ := hcl2 (by omega)
        obtain ⟨b3, off3, rfl, hb3, hc3⟩ := hcl3 (by omega)
        obtain ⟨s, hs⟩ : ∃ s, s = s2.getD k ByteArray.empty := ⟨_, rfl⟩
        obtain ⟨z, hz⟩ : ∃ z, z = z3.getD k 0 := ⟨_, rfl⟩
        have hcx : wr.cell? ⟨b2, off2 + k, none⟩ = some (.string s) := by rw [hs]; exact (hnx.cell (by exact hb2)).trans (hc2 k (by omega))
        have hcy : wr.cell? ⟨b3, off3 + k, none⟩ = some (.int .i64 z) := by rw [hz]; exact (hnx.cell (by exact hb3)).trans (hc3 k (by omega))
        have hkey := keyOf_string_mk Try.underlying9 (s := s) (by rw [hs]; exact hsz2 k)
        have hval := plainElem_int (H := Unit) Try.underlying3 (a := z) (by rw [hz]; exact hwf3 k)
        obtain ⟨w1, hrun, hown1, hgrow1⟩ := World.ownsMap.update (w := wr.drew) (t := 28) hown law9 Try.underlying28 (by unfold maxLen; omega) hkey hval
        have R1 : Hid _ := hown1
        have R2 : Hid _ := (Below.drew hnx).grown hgrow1 hnx.size (fun j hj => by cases hj; exact Nat.le_refl _)
        have hi2 : (k : Int) < (l2 : Int) := by omega
        have hi3 : (k : Int) < (l3 : Int) := by omega
        clear hs hz hc2 hc3 hcl2 hcl3 hown hnx hown1 hgrow1 hkey hval hsz2 hwf3
        go_wp2
        go_region
        go_wp2
        go_roundw
        case rel => exact ⟨k + 1, _, by omega, by go_num, R1.out, R2.out⟩
        case measure => simp [intOf]; omega
      · go_wp2
        go_ret
        exact ⟨k, D, rfl, hown, hnx⟩
  · go_loopw [7] (fun i wr => ∃ k : Nat, ∃ D, k ≤ l2 ∧ i = .int .i64 k ∧ wr.ownsMap Try.prog 9 (plainElem (H := Unit) Try.prog 3) w.heap.size k D ∧ Below w.heap.size w wr) (fun i _ => l2 - (intOf i).toNat)
    case atStart => exact ⟨0, _, Nat.zero_le _, rfl, World.ownsMap_made _ _ _ _, (Below.refl _ _).alloc (Nat.le_refl _) _⟩
    case round =>
      obtain ⟨k, D, hk, rfl, hown, hnx⟩ := hrel
      by_cases hlt : k < l2
      · obtain ⟨b2, off2, rfl, hb2, hc2⟩ := hcl2 (by omega)
        obtain ⟨b3, off3, rfl, hb3, hc3⟩ := hcl3 (by omega)
        obtain ⟨s, hs⟩ : ∃ s, s = s2.getD k ByteArray.empty := ⟨_, rfl⟩
        obtain ⟨z, hz⟩ : ∃ z, z = z3.getD k 0 := ⟨_, rfl⟩
        have hcx : wr.cell? ⟨b2, off2 + k, none⟩ = some (.string s) := by rw [hs]; exact (hnx.cell (by exact hb2)).trans (hc2 k (by omega))
        have hcy : wr.cell? ⟨b3, off3 + k, none⟩ = some (.int .i64 z) := by rw [hz]; exact (hnx.cell (by exact hb3)).trans (hc3 k (by omega))
        have hkey := keyOf_string_mk Try.underlying9 (s := s) (by rw [hs]; exact hsz2 k)
        have hval := plainElem_int (H := Unit) Try.underlying3 (a := z) (by rw [hz]; exact hwf3 k)
        obtain ⟨w1, hrun, hown1, hgrow1⟩ := World.ownsMap.update (w := wr.drew) (t := 28) hown law9 Try.underlying28 (by unfold maxLen; omega) hkey hval
        have R1 : Hid _ := hown1
        have R2 : Hid _ := (Below.drew hnx).grown hgrow1 hnx.size (fun j hj => by cases hj; exact Nat.le_refl _)
        have hi2 : (k : Int) < (l2 : Int) := by omega
        have hi3 : (k : Int) < (l3 : Int) := by omega
        clear hs hz hc2 hc3 hcl2 hcl3 hown hnx hown1 hgrow1 hkey hval hsz2 hwf3
        go_wp2
        go_region
        go_wp2
        go_roundw
        case rel => exact ⟨k + 1, _, by omega, by go_num, R1.out, R2.out⟩
        case measure => simp [intOf]; omega
      · go_wp2
        go_ret
        exact ⟨k, D, rfl, hown, hnx⟩
end Go.Proofs.Qxb6602756a.Cy
