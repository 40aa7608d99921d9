/-
  Seat b6602846a, FnPastMatchesJSONNumberGrammar: the law's own walk.
-/
import Derived.Test.Qxb6602846aPrefix
import Derived.Test.Qxb6602846aCanon
import Derived.Maps.AppendAt
namespace Go.Proofs.Qxb6602846a
open Go.ChangeShapes Go.WideShapes Go.ChangeAt Go.RowKit

namespace Nq

theorem info5 : (Try.prog.info? 5).map (fun i => (i.zero, i.size, i.bytes)) = some (some (.int .u8 0), 1, 1) := by kernel_rfl

/-- The answer of the grammar's own reader over a text of phase p and one byte more is what 'past' answers. -/
theorem past_is {p b : Int} {cb : ByteArray} {v : Int} {bv : Bool} (hc : CanonOk p cb) (h : PEnd (zsOf cb ++ [b]) (cb.size + 1) v bv) :
    (bv = true ∧ pok p b = true ∧ pq p b = v) ∨ (bv = false ∧ pok p b = false ∧ pq p b = p) := by
  obtain ⟨_, _, _, hr⟩ := hc
  obtain ⟨s, q, h1, h2⟩ := h
  rw [hr b] at h1
  have hb : (zsOf cb ++ [b]).getD cb.size 0 = b := by
    rw [List.getD_eq_getElem?_getD, ← zs_len cb, List.getElem?_append_right (Nat.le_refl _)]
    simp
  have hl : (zsOf cb ++ [b]).length = cb.size + 1 := by simp [zs_len]
  by_cases hn : 0 ≤ N p b
  · rw [R_step (by rw [hb]) hn, R_end hl (by omega)] at h1
    obtain ⟨e1, e2⟩ := Prod.mk.inj h1
    rcases h2 with ⟨_, h4, h5⟩ | ⟨h3, _⟩
    · exact .inl ⟨h5, by simp [pok, hn], by unfold pq; rw [if_pos hn, h4, e1]⟩
    · omega
  · rw [R_stop (by rw [hb]; omega)] at h1
    obtain ⟨e1, e2⟩ := Prod.mk.inj h1
    rcases h2 with ⟨h3, _⟩ | ⟨_, _, h5⟩
    · omega
    · exact .inr ⟨h5, by simp [pok]; omega, by unfold pq; rw [if_neg hn]⟩

theorem take_next (cb : ByteArray) (k : Nat) (z : Int) (hk : k < cb.size) (hz : (zsOf cb).getD k 0 = z) :
    ((zsOf cb).take k).map (Value.int .u8) ++ [.int .u8 z] = ((zsOf cb).take (k + 1)).map (Value.int .u8) := by
  have hk' : k < (zsOf cb).length := by rw [zs_len]; exact hk
  rw [List.getD_eq_getElem?_getD, List.getElem?_eq_getElem hk', Option.getD_some] at hz
  rw [List.take_succ_eq_append_getElem hk', List.map_append, hz]
  rfl

theorem one_cell (z : Int) : ∀ u ∈ [Value.int .u8 z], u.oneCell' = true := by
  intro u hu
  simp at hu
  subst hu
  rfl

theorem all_cells {w : World} {base g n cap : Nat} {cb : ByteArray} {b : Int} (hn : n = cb.size) (h : w.ownsRow base 5 1 (.slice (some ⟨g, 0, none⟩) (n + 1) cap) (n + 1) (((zsOf cb).take n).map (Value.int .u8) ++ [.int .u8 b])) :
    ∀ j, j < n + 1 → w.cell? ⟨g, j, none⟩ = some (.int .u8 ((zsOf cb ++ [b]).getD j 0)) := by
  intro j hj
  subst hn
  rw [h.cellAt j (by omega), List.take_of_length_le (by rw [zs_len]; exact Nat.le_refl _)]
  have e : (zsOf cb).map (Value.int .u8) ++ [.int .u8 b] = (zsOf cb ++ [b]).map (Value.int .u8) := by simp
  have hj' : j < (zsOf cb ++ [b]).length := by simp [zs_len]; omega
  rw [e, List.getElem?_map, List.getD_eq_getElem?_getD, List.getElem?_eq_getElem hj']
  rfl

set_option maxHeartbeats 2000000 in
theorem past_law (p b : Int) (w : World) : Calls Try.prog 3 #[.int .i64 p, .int .u8 b] w fun e w' => e = .returned (.bool true) ∧ Below w.heap.size w w' := by
  obtain ⟨i0, hi, hz0, hz1, hz2⟩ := info_parts info5
  by_cases hp : p < 0 ∨ 7 < p
  · have e1 : pq p b = p := by unfold pq; rw [N_out p b hp]; rfl
    have e2 : pok p b = false := by unfold pok; rw [N_out p b hp]; rfl
    go_enter Try.func3, Try.ntmps3
    go_wp2_with fail
    refine (zzpast_any p b w).mono ?_
    rintro e w ⟨rfl, rfl⟩
    rw [e1, e2]
    clear e1 e2
    go_wp2_with fail
    refine (canon_out p w hp).mono ?_
    rintro e w ⟨rfl, rfl⟩
    clear hp
    go_wp2
    go_ret
    exact ⟨rfl, Below.refl _ _⟩
  obtain ⟨q, hq⟩ : ∃ q, q = pq p b := ⟨_, rfl⟩
  obtain ⟨ok, hok⟩ : ∃ ok, ok = pok p b := ⟨_, rfl⟩
  have HZ : Hid (Calls Try.prog 7 #[.int .i64 p, .int .u8 b] w fun e w' => e = .returned (.tuple #[.int .i64 q, .bool ok]) ∧ w' = w) := by rw [hq, hok]; exact zzpast_any p b w
  have HQ : Hid (pq p b = q ∧ pok p b = ok) := ⟨hq.symm, hok.symm⟩
  clear hq hok
  go_enter Try.func3, Try.ntmps3
  go_wp2_with fail
  refine Calls.mono HZ.out ?_
  rintro e w ⟨rfl, rfl⟩
  clear HZ
  go_wp2_with fail
  refine (canon_in p w (by omega) (by omega)).mono ?_
  rintro e w ⟨⟨cb, rfl, hcan⟩, rfl⟩
  have HCAN : Hid (CanonOk p cb) := hcan
  have hn1 : 1 ≤ cb.size := hcan.1
  have hn4 : cb.size ≤ 4 := hcan.2.1
  clear hcan
  go_wp2_with (first
    | (at_make; refine wpList_make_own _ rfl _ _ 26 rfl w.heap.size 5 i0 (.int .u8 0) 1 Try.underlying26 hi hz0 hz1 _ _ _ (cb.size + 1) rfl rfl (by omega) (by rw [hz2]; omega) (by unfold maxLen; omega) (Nat.le_refl _) ?_; intro w1 hown1 hgrow1)
    | fail)
  have hb1 : Below w.heap.size w w1 := (Below.refl _ _).grown hgrow1 (Nat.le_refl _) (fun j hj => by cases hj)
  have HB1 : Hid (Below w.heap.size w w1) := hb1
  have HO1 : Hid (w1.ownsRow w.heap.size 5 1 (.slice (some ⟨w.heap.size, 0, none⟩) 0 (cb.size + 1)) 0 []) := hown1
  clear hb1 hown1 hgrow1
  go_loopg [9, 10] cb.size (fun m bv iv wr => ∃ k : Nat, k ≤ cb.size ∧ m = cb.size - k ∧ iv = .int .i64 k ∧ bv = .slice (some ⟨w.heap.size, 0, none⟩) k (cb.size + 1) ∧
      wr.ownsRow w.heap.size 5 1 (.slice (some ⟨w.heap.size, 0, none⟩) k (cb.size + 1)) k (((zsOf cb).take k).map (Value.int .u8)) ∧ Below w.heap.size w wr)
  case atStart => exact ⟨0, Nat.zero_le _, rfl, rfl, rfl, HO1.out, HB1.out⟩
  case round =>
    obtain ⟨k, hk, rfl, rfl, rfl, hown, hbel⟩ := hrel
    have HO : Hid (wr.ownsRow w.heap.size 5 1 (.slice (some ⟨w.heap.size, 0, none⟩) k (cb.size + 1)) k (((zsOf cb).take k).map (Value.int .u8))) := hown
    have HB : Hid (Below w.heap.size w wr) := hbel
    clear hown hbel HO1 HB1
    by_cases hkn : k < cb.size
    · obtain ⟨z, hz⟩ : ∃ z : Int, z = ((cb[k]'hkn).toNat : Int) := ⟨_, rfl⟩
      have hzr : ((cb[k]'hkn).toNat : Int) = z := hz.symm
      have HZ : Hid ((zsOf cb).getD k 0 = z) := by show (zsOf cb).getD k 0 = z; rw [hz]; exact (zs_get cb k hkn).symm
      clear hz
      go_wp2_with (first
        | (at_builtin; refine wpList_append_fits _ rfl (.tmp 43) (.tmp 47) 26 rfl w.heap.size 5 i0 1 Try.underlying26 hi hz1 w.heap.size k (cb.size + 1) _ rfl (HO.out.alloc _) ⟨wr.heap.size, 0, none⟩ 1 1 [.int .u8 z] rfl rfl (cell_one_new _ _ _) (one_cell z) (by omega) ?_; intro w2 hown2 hgrow2; have HO2 : Hid _ := hown2; have HG2 : Hid _ := hgrow2; clear hown2 hgrow2)
        | fail)
      go_roundg (cb.size - (k + 1))
      case measure => omega
      case rel =>
        refine ⟨k + 1, by omega, rfl, by go_num, rfl, ?_, ?_⟩
        · rw [← take_next cb k z hkn HZ.out]; exact HO2.out
        · exact (HB.out.alloc HB.out.size _).grown HG2.out (by simp; have := HB.out.size; omega) (fun j hj => by cases hj; exact Nat.le_refl _)
    · have hke : k = cb.size := by omega
      go_wp2_with (first
        | (at_builtin; refine wpList_append_fits _ rfl (.tmp 49) (.tmp 51) 26 rfl w.heap.size 5 i0 1 Try.underlying26 hi hz1 w.heap.size k (cb.size + 1) _ rfl (HO.out.alloc _) ⟨wr.heap.size, 0, none⟩ 1 1 [.int .u8 b] rfl rfl (cell_one_new _ _ _) (one_cell b) (by omega) ?_; intro w2 hown2 hgrow2; have HO2 : Hid _ := hown2; have HG2 : Hid _ := hgrow2; clear hown2 hgrow2)
        | fail)
      have hcells := all_cells (b := b) hke HO2.out
      rw [hke] at hcells
      have hbw : Below w.heap.size w w2 := (HB.out.alloc HB.out.size _).grown HG2.out (by simp; have := HB.out.size; omega) (fun j hj => by cases hj; exact Nat.le_refl _)
      have HBW : Hid (Below w.heap.size w w2) := hbw
      have h45 : (zsOf cb ++ [b]).getD 0 0 = 45 := by
        have h0 := HCAN.out.2.2.1
        rw [List.getD_eq_getElem?_getD, List.getElem?_append_left (by rw [zs_len]; omega), ← List.getD_eq_getElem?_getD]
        exact h0
      refine (phases_any w.heap.size (cb.size + 1) (cb.size + 1) (zsOf cb ++ [b]) w2 (by simp [zs_len]) (by omega) (by omega) h45 hcells).mono ?_
      clear hcells hbw h45
      rintro e w2 ⟨⟨v, bv, rfl, hend⟩, rfl⟩
      have hh := past_is HCAN.out hend
      rw [HQ.out.1, HQ.out.2] at hh
      clear hend hke HO2 HG2 HB HO
      rcases hh with ⟨rfl, rfl, rfl⟩ | ⟨rfl, rfl, rfl⟩
      · go_wp2
        go_ret
        exact ⟨rfl, HBW.out⟩
      · go_wp2
        go_ret
        exact ⟨rfl, HBW.out⟩
end Nq
end Go.Proofs.Qxb6602846a
