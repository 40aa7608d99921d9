/-
  Seat b6602880a: the words that the law's walks use: a slice of bytes by its elements; the clone.
-/
import Derived.Test.Qxb6602880aRows
import Derived.WalkKit
import Derived.ProofKit
import Derived.OpenShut
import Derived.ShutString
import Derived.ChangeOld
import Derived.Below
import Derived.WalkSpells
import Derived.Laws.CopyOwn
import Derived.WalkSmall
namespace Go.Proofs.Qxb6602880a
open Go.ChangeShapes Go.WideShapes Go.ChangeAt Go.RowKit

namespace Ve

/-- The slice value '.slice a len _' leads in w to the bytes zs, its elements, in a block below B. -/
def BytesAt (w : World) (B : Nat) (a : Option Addr) (len : Nat) (zs : List Int) : Prop :=
  zs.length = len ∧ (∀ j, 0 ≤ zs.getD j 0 ∧ zs.getD j 0 ≤ 255) ∧
  (0 < len → ∃ b off, a = some ⟨b, off, none⟩ ∧ b < B ∧ ∀ j, j < len → w.cell? ⟨b, off + j, none⟩ = some (.int .u8 (zs.getD j 0)))

theorem BytesAt.below {w w' : World} {B C : Nat} {a : Option Addr} {len : Nat} {zs : List Int} (h : BytesAt w B a len zs) (hb : Below C w w') (hBC : B ≤ C) : BytesAt w' B a len zs := by
  obtain ⟨h1, h2, h3⟩ := h
  refine ⟨h1, h2, fun hl => ?_⟩
  obtain ⟨b, off, ha, hlt, hc⟩ := h3 hl
  exact ⟨b, off, ha, hlt, fun j hj => (hb.cell (p := ⟨b, off + j, none⟩) (Nat.lt_of_lt_of_le hlt hBC)).trans (hc j hj)⟩

theorem BytesAt.mono {w : World} {B C : Nat} {a : Option Addr} {len : Nat} {zs : List Int} (h : BytesAt w B a len zs) (hBC : B ≤ C) : BytesAt w C a len zs := by
  obtain ⟨h1, h2, h3⟩ := h
  refine ⟨h1, h2, fun hl => ?_⟩
  obtain ⟨b, off, ha, hlt, hc⟩ := h3 hl
  exact ⟨b, off, ha, Nat.lt_of_lt_of_le hlt hBC, hc⟩

/-- What the row tells of a slice of bytes that came in, by its elements. -/
theorem bytes_of {w : World} {a : Option Addr} {len cap : Nat} {zs : List Int}
    (h : (a = none ∧ len = 0 ∧ cap = 0 ∧ zs = []) ∨
      ∃ x, a = some x ∧ len ≤ cap ∧ cap ≤ maxLen ∧ zs.length = cap ∧ (∀ i, i < zs.length → w.cell? (x.add i) = some (.int .u8 (zs.getD i 0))) ∧ ∀ n ∈ zs, (Lit.int .u8 n).wf = true) :
    len ≤ 9223372036854775807 ∧ BytesAt w w.heap.size a len (zs.take len) := by
  rcases h with ⟨rfl, rfl, rfl, rfl⟩ | ⟨x, rfl, hl, hm, hz, hcell, hwf⟩
  · exact ⟨by omega, rfl, fun j => by simp, fun h => by omega⟩
  · unfold maxLen at hm
    have hg : ∀ j, j < len → (zs.take len).getD j 0 = zs.getD j 0 := by
      intro j hj; simp [List.getD, hj]
    refine ⟨by omega, by simp; omega, fun j => ?_, fun h0 => ?_⟩
    · by_cases hj : j < len
      · rw [hg j hj]
        have hjl : j < zs.length := by omega
        rw [List.getD_eq_getElem?_getD, List.getElem?_eq_getElem hjl]
        exact bounds_u8 (hwf _ (List.getElem_mem hjl))
      · rw [List.getD_eq_getElem?_getD, List.getElem?_eq_none (by simp; omega)]
        simp
    · obtain ⟨b, off, spot⟩ := x
      have h00 := hcell 0 (by omega)
      have hspot : spot = none := by simpa [Addr.add] using World.cell?_spot h00
      subst hspot
      refine ⟨b, off, rfl, World.block_lt_of_cell? w _ h00, fun j hj => ?_⟩
      rw [hg j hj, ← add_plain]
      exact hcell j (by omega)

theorem info5 : (Try.prog.info? 5).map (fun i => (i.zero, i.size, i.bytes)) = some (some (.int .u8 0), 1, 1) := by kernel_rfl
theorem size5 : (Try.prog.info? 5).map (·.size) = some 1 := by kernel_rfl

theorem row_of {w : World} {base e g n : Nat} {xs : List Value} (h : w.ownsRow base e 1 (.slice (some ⟨g, 0, none⟩) n n) n xs) : ∃ cur : List Value, w.heap[g]? = some (.cells cur.toArray e (0, 0)) ∧ cur.length = n := by
  rcases h.2 with ⟨h', _⟩ | ⟨g', cap', cur, h', _, hg, _, _, hcs, _⟩
  · simp at h'
  · simp only [Value.slice.injEq, Option.some.injEq, Addr.mk.injEq, and_true, true_and] at h'
    obtain ⟨rfl, rfl⟩ := h'
    exact ⟨cur.toList, by simpa using hg, by simpa using hcs⟩

theorem cells_src {w w1 : World} {x : Addr} {len : Nat} {zs : List Int} (hlen : zs.length = len) (hcl : 0 < len → ∃ b off, some x = some ⟨b, off, none⟩ ∧ b < w.heap.size ∧ ∀ j, j < len → w.cell? ⟨b, off + j, none⟩ = some (.int .u8 (zs.getD j 0)))
    (hg : w.grownBy w1 none) : ∀ j v, (zs.map (Value.int .u8))[j]? = some v → w1.cell? (x.add j) = some v := by
  intro j v hv
  have hj : j < len := by
    have := (List.getElem?_eq_some_iff.1 hv).1
    simpa [hlen] using this
  obtain ⟨b, off, hx, hb, hc⟩ := hcl (by omega)
  cases hx
  have e : (zs.map (Value.int .u8))[j]? = some (.int .u8 (zs.getD j 0)) := by simp [List.getD, show j < zs.length by omega]
  rw [e] at hv
  rw [Addr.add_lit]
  exact hg.cell ((hc j hj).trans hv) (fun e => by cases e)

theorem splice_all (cur : List Value) (zs : List Int) (h : cur.length = zs.length) : splice cur 0 (zs.map (Value.int .u8)) = zs.map (Value.int .u8) := by
  simp [splice]
  omega

set_option maxHeartbeats 400000 in
/-- jtCloneBytes: the same bytes, in new memory (nil where nil came in). -/
theorem clone_any (a : Option Addr) (len cap : Nat) (zs : List Int) (w : World) (h : BytesAt w w.heap.size a len zs) (hl : len ≤ 1048576) :
    Calls Try.prog 8 #[.slice a len cap] w fun e w' => ∃ a' c', e = .returned (.slice a' len c') ∧ len ≤ c' ∧ BytesAt w' w'.heap.size a' len zs ∧ Below w.heap.size w w' := by
  have q22 := fun (w : World) (a : Option Addr) (n c n' c' : Nat) => Lib.run_eql_slice_nil w 22 5 a n c n' c' Try.underlying22
  have h' := h
  obtain ⟨hlen, hsz, hcl⟩ := h
  obtain ⟨i0, hi, hz0, hz1, hz2⟩ := info_parts info5
  cases a with
  | none =>
    have hn : len = 0 := by
      by_cases e : 0 < len
      · obtain ⟨b, off, h1, _⟩ := hcl e
        cases h1
      · omega
    subst hn
    go_enter Try.func8, Try.ntmps8
    go_wp2
    go_ret
    exact ⟨none, 0, rfl, Nat.le_refl _, h', Below.refl _ _⟩
  | some x =>
    go_enter Try.func8, Try.ntmps8
    go_wp2_with (first
      | (at_make; refine wpList_make_full _ rfl _ _ 22 rfl w.heap.size 5 i0 (.int .u8 0) 1 Try.underlying22 hi hz0 hz1 _ _ _ _ len rfl rfl rfl rfl (by rw [hz2]; omega) (by unfold maxLen; omega) (Nat.le_refl _) ?_; intro w1 hown1 hgrow1; obtain ⟨cur, hcur, hcl1⟩ := row_of hown1; have HCUR : Hid _ := hcur; clear hcur)
      | ((refine wpList_copy_splice rfl (.tmp 9) (.tmp 10) 22 22 rfl 5 Try.underlying22 size5 _ _ len _ len _ rfl rfl w.heap.size 0 cur 5 HCUR.out (zs.map (Value.int .u8)) (by simp [hlen]) (fun _ => ⟨rfl, x, rfl, cells_src hlen hcl hgrow1⟩) (by simp [hlen, hcl1]) (ints_oneCell _ _) w.heap.size w ((Below.refl _ _).grown hgrow1 (Nat.le_refl _) (fun k hk => by cases hk)) (Nat.le_refl _) ?_); intro w2 hw2 hb2))
    go_ret
    rw [splice_all cur zs (by omega)] at hw2
    have hw3 := hw2.out
    refine ⟨_, _, rfl, Nat.le_refl _, ⟨hlen, hsz, fun h0 => ⟨w.heap.size, 0, rfl, ?_, fun j hj => ?_⟩⟩, hb2⟩
    · exact (Array.getElem?_eq_some_iff.1 hw3).1
    · rw [Nat.zero_add, cell_of_row w2 w.heap.size j _ 5 (0, 0) hw3]
      simp [List.getD, show j < zs.length by omega]
end Ve
end Go.Proofs.Qxb6602880a
