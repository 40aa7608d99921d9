/-
  Seat b6602756a: 'cycleThrough', and its exported name.
-/
import Derived.Test.Qxb6602756aCyMake
import Derived.Deep.QuietTactic
import Derived.BigQuiet
import Derived.WalkSmall
namespace Go.Proofs.Qxb6602756a.Cy
open Go.ChangeShapes Go.WideShapes Go.ChangeAt Go.RowKit Go.Maps Go.WideMaps

/-- What the map that reads as D answers at the key s. -/
def G (D : DataW Unit) (s : ByteArray) : Int := match D.atKey (.string s.data.toList) (.lit (.int .i64 0)) with
  | .lit (.int _ c) => c
  | _ => 0

theorem look {w : World} {B n : Nat} {D : DataW Unit} (h : w.ownsMap Try.prog 9 (plainElem (H := Unit) Try.prog 3) B n D) {s : ByteArray} (hs : s.size ≤ maxLen) :
    ∀ q, (Instr.lookup 28 (.map (some B)) (.string s) false).run Try.prog (w.drewN q) = .ok (.int .i64 (G D s)) (w.drewN q) := by
  intro q
  have h' : (w.drewN q).ownsMap Try.prog 9 (plainElem (H := Unit) Try.prog 3) B n D := h
  obtain ⟨c, hrun, hat, _⟩ := h'.lookup_int (t := 28) law9 Try.underlying28 Try.underlying3 (zero3 _) (keyOf_string_mk Try.underlying9 hs)
  have : G D s = c := by unfold G; rw [hat]
  rw [this]
  exact hrun

/-- f is the first place of a least value among v 0 .. v (n-1). -/
def FirstMin (v : Nat → Int) (n f : Nat) : Prop := f < n ∧ (∀ j, j < f → v f < v j) ∧ ∀ j, j < n → v f ≤ v j

/-- The same, of no values: f = 0. -/
def FirstMin0 (v : Nat → Int) (n f : Nat) : Prop := (n = 0 ∧ f = 0) ∨ FirstMin v n f

theorem fm_yes {v : Nat → Int} {n f : Nat} (h : FirstMin0 v n f) (hlt : v n < v f) : FirstMin v (n + 1) n := by
  rcases h with ⟨rfl, rfl⟩ | ⟨h1, h2, h3⟩
  · omega
  · refine ⟨by omega, fun j hj => ?_, fun j hj => ?_⟩
    · have := h3 j hj; omega
    · by_cases e : j = n
      · subst e; omega
      · have := h3 j (by omega); omega
theorem fm_no {v : Nat → Int} {n f : Nat} (h : FirstMin0 v n f) (hlt : ¬ v n < v f) : FirstMin v (n + 1) f := by
  rcases h with ⟨rfl, rfl⟩ | ⟨h1, h2, h3⟩
  · exact ⟨by omega, fun j hj => by omega, fun j hj => by have : j = 0 := by omega
                                                          subst this; omega⟩
  · refine ⟨by omega, h2, fun j hj => ?_⟩
    by_cases e : j = n
    · subst e; omega
    · exact h3 j (by omega)

theorem fm_of {v : Nat → Int} {n f : Nat} (h : FirstMin0 v n f) (hn : 0 < n) : FirstMin v n f := by
  rcases h with ⟨h1, _⟩ | h1
  · omega
  · exact h1

/-- The order's values along the cycle. -/
def V (D : DataW Unit) (ss : List ByteArray) (st j : Nat) : Int := G D (ss.getD (st + j) ByteArray.empty)

/-- The cycle from its f-th element round to that element again. -/
def Rot (ss : List ByteArray) (st f : Nat) : List ByteArray := ss.drop (st + f) ++ (ss.drop st).take (f + 1)

theorem strs_oneCell (l : List ByteArray) : ∀ u ∈ l.map Value.string, u.oneCell' = true := by
  intro u hu
  rw [List.mem_map] at hu
  obtain ⟨s, _, rfl⟩ := hu
  rfl

theorem cells_drop {w : World} {b off len p : Nat} {ss : List ByteArray} (hlen : ss.length = len) (hcell : ∀ t, t < len → w.cell? ⟨b, off + t, none⟩ = some (.string (ss.getD t ByteArray.empty)))
    {ao : Option Addr} (hao : ao = some ⟨b, off + p, none⟩) : ∀ ad, ao = some ad → ∀ t u, ((ss.drop p).map Value.string)[t]? = some u → w.cell? (ad.add t) = some u := by
  intro ad had t u hu
  have ht : t < len - p := by
    have := (List.getElem?_eq_some_iff.1 hu).1
    simpa [hlen] using this
  rw [hao] at had
  obtain rfl := Option.some.inj had
  rw [Addr.add_lit, Nat.add_assoc, hcell (p + t) (by omega)]
  have e : ((ss.drop p).map Value.string)[t]? = some (.string (ss.getD (p + t) ByteArray.empty)) := by
    simp [List.getD, show p + t < ss.length by omega]
  rw [e] at hu
  exact hu

theorem cells_take {w : World} {b off len p m : Nat} {ss : List ByteArray} (hlen : ss.length = len) (hcell : ∀ t, t < len → w.cell? ⟨b, off + t, none⟩ = some (.string (ss.getD t ByteArray.empty)))
    {ao : Option Addr} (hao : ao = some ⟨b, off + p, none⟩) : ∀ ad, ao = some ad → ∀ t u, (((ss.drop p).take m).map Value.string)[t]? = some u → w.cell? (ad.add t) = some u := by
  intro ad had t u hu
  refine cells_drop hlen hcell hao ad had t u ?_
  rw [List.map_take, List.getElem?_take] at hu
  split at hu
  · exact hu
  · cases hu

theorem ret_slice {a : Option Addr} {n m c : Nat} (h : n = m) : Ending.returned (.slice a n c) = .returned (.slice a m c) := by rw [h]

theorem rot_len (ss : List ByteArray) (len k f : Nat) (hlen : ss.length = len) (hf : f < len - k) : (Rot ss k f).length = len - k + 1 := by
  unfold Rot
  simp
  omega

theorem getD_size {ss : List ByteArray} (h : ∀ j, (ss.getD j ByteArray.empty).size ≤ maxLen) : ∀ s ∈ ss, s.size ≤ maxLen := by
  intro s hs
  obtain ⟨j, hj, rfl⟩ := List.mem_iff_getElem.1 hs
  have := h j
  rw [List.getD_eq_getElem?_getD, List.getElem?_eq_getElem hj] at this
  exact this

theorem rot_size {ss : List ByteArray} (k f : Nat) (h : ∀ j, (ss.getD j ByteArray.empty).size ≤ maxLen) (j : Nat) : ((Rot ss k f).getD j ByteArray.empty).size ≤ maxLen := by
  rw [List.getD_eq_getElem?_getD]
  cases e : (Rot ss k f)[j]? with
  | none => simp [maxLen]
  | some s =>
    have hm : s ∈ Rot ss k f := List.mem_of_getElem? e
    unfold Rot at hm
    rcases List.mem_append.1 hm with h1 | h1
    · exact getD_size h s (List.mem_of_mem_drop h1)
    · exact getD_size h s (List.mem_of_mem_drop (List.mem_of_mem_take h1))

/-- What the call hands back, read. -/
theorem rot_at {w : World} {base g len k f c : Nat} {ss : List ByteArray} (hlen : ss.length = len) (hf : f < len - k) (hsz : ∀ j, (ss.getD j ByteArray.empty).size ≤ maxLen)
    (hown : w.ownsRow base 9 1 (.slice (some ⟨g, 0, none⟩) (len - k - f + (f + 1)) c) (len - k - f + (f + 1)) ((ss.drop (k + f)).map Value.string ++ ((ss.drop k).take (f + 1)).map Value.string)) :
    StrsAt w (some ⟨g, 0, none⟩) (len - k + 1) (Rot ss k f) := by
  refine ⟨rot_len ss len k f hlen hf, rot_size k f hsz, fun _ => ⟨g, 0, rfl, (hown.lt _ rfl).2, fun j hj => ?_⟩⟩
  rw [Nat.zero_add, hown.cellAt j (by omega), ← List.map_append]
  have hjl : j < (Rot ss k f).length := by rw [rot_len ss len k f hlen hf]; exact hj
  show ((Rot ss k f).map Value.string)[j]? = _
  simp [List.getD, hjl]

set_option maxHeartbeats 1000000 in
theorem cycle_any (b off len cap : Nat) (ss : List ByteArray) (back : ByteArray) (B n : Nat) (D : DataW Unit) (st : Nat) (w : World)
    (hl : len ≤ 65536) (hlc : len ≤ cap) (hlen : ss.length = len) (hsz : ∀ j, (ss.getD j ByteArray.empty).size ≤ maxLen) (hb : b < w.heap.size)
    (hc : ∀ j, j < len → w.cell? ⟨b, off + j, none⟩ = some (.string (ss.getD j ByteArray.empty)))
    (hm : w.ownsMap Try.prog 9 (plainElem (H := Unit) Try.prog 3) B n D) (hst : IsLast ss back st) :
    Calls Try.prog 15 #[.slice (some ⟨b, off, none⟩) len cap, .string back, .map (some B)] w fun e w' =>
      ∃ g f c, e = .returned (.slice (some ⟨g, 0, none⟩) (len - st + 1) c) ∧ FirstMin (V D ss st) (len - st) f ∧ StrsAt w' (some ⟨g, 0, none⟩) (len - st + 1) (Rot ss st f) ∧ Below w.heap.size w w' := by
  obtain ⟨i0, hi, hz0, hz1, hz2⟩ := info_parts info9
  obtain ⟨hst1, hst2, hst3⟩ := hst
  have hs1 : st < len := by omega
  have HC : Hid _ := hc
  have HM : Hid _ := hm
  have HZ : Hid _ := hsz
  have H2 : Hid _ := hst2
  have H3 : Hid _ := hst3
  have HL : Hid _ := hlen
  clear hc hm hsz hst2 hst3
  go_enter Try.func15, Try.ntmps15
  go_wp2
  go_loop [7] (fun i => ∃ k : Nat, st ≤ k ∧ k < len ∧ i = .int .i64 k) (fun i => (intOf i).toNat)
  case atStart => exact ⟨len - 1, by omega, by omega, by go_num⟩
  case round =>
    obtain ⟨k, hk1, hk2, rfl⟩ := hrel
    obtain ⟨s, hs⟩ : ∃ s, s = ss.getD k ByteArray.empty := ⟨_, rfl⟩
    have hcx : w.cell? ⟨b, off + k, none⟩ = some (.string s) := by rw [hs]; exact HC.out k hk2
    by_cases hks : k = st
    · have hsb : s = back := by rw [hs, hks]; exact H2.out
      subst hsb
      subst hks
      clear hs H2 H3 hst1 hlen
      go_wp2
      go_loopw [9, 29] (fun t i wr => ∃ j f q : Nat, j ≤ len - k ∧ i = .int .i64 j ∧ t = .int .i64 f ∧ FirstMin0 (V D ss k) j f ∧ wr = w.drewN q) (fun _ i _ => len - k - (intOf i).toNat)
      case atStart => exact ⟨0, 0, 0, Nat.zero_le _, rfl, rfl, .inl ⟨rfl, rfl⟩, rfl⟩
      case round =>
        obtain ⟨j, f, q, hj, rfl, rfl, hf, rfl⟩ := hrel
        have hfj : f < len - k := by rcases hf with ⟨_, rfl⟩ | ⟨h1, _⟩ <;> omega
        have hfi : (f : Int) < ((len - k : Nat) : Int) := by omega
        have HF : Hid _ := hf
        clear hf
        by_cases hjl : j < len - k
        · have hji : (j : Int) < ((len - k : Nat) : Int) := by omega
          obtain ⟨sa, hsa⟩ : ∃ s, s = ss.getD (k + j) ByteArray.empty := ⟨_, rfl⟩
          obtain ⟨sb, hsb⟩ : ∃ s, s = ss.getD (k + f) ByteArray.empty := ⟨_, rfl⟩
          have hca : w.cell? ⟨b, off + k + j, none⟩ = some (.string sa) := by rw [hsa, Nat.add_assoc]; exact HC.out (k + j) (by omega)
          have hcb : w.cell? ⟨b, off + k + f, none⟩ = some (.string sb) := by rw [hsb, Nat.add_assoc]; exact HC.out (k + f) (by omega)
          have hla := look HM.out (s := sa) (by rw [hsa]; exact HZ.out _)
          have hlb := look HM.out (s := sb) (by rw [hsb]; exact HZ.out _)
          obtain ⟨ga, hga⟩ : ∃ g, g = G D sa := ⟨_, rfl⟩
          obtain ⟨gb, hgb⟩ : ∃ g, g = G D sb := ⟨_, rfl⟩
          rw [← hga] at hla
          rw [← hgb] at hlb
          have EA : Hid (ga = V D ss k j) := by rw [hga, hsa]; rfl
          have EB : Hid (gb = V D ss k f) := by rw [hgb, hsb]; rfl
          clear hsa hsb hga hgb hi hz0 hz1 hz2
          by_cases hlt : ga < gb
          · go_wp2
            go_quiet (fail)
            go_wp2
            go_roundw
            case rel => exact ⟨j + 1, j, _, by omega, by go_num, rfl, .inr (fm_yes HF.out (by rw [← EA.out, ← EB.out]; omega)), rfl⟩
            case measure => simp [intOf]; omega
          · go_wp2
            go_quiet (fail)
            go_wp2
            go_roundw
            case rel => exact ⟨j + 1, f, _, by omega, by go_num, rfl, .inr (fm_no HF.out (by rw [← EA.out, ← EB.out]; omega)), rfl⟩
            case measure => simp [intOf]; omega
        · have hjk : j = len - k := by omega
          subst hjk
          have c1 : (f : Int) + 1 ≤ ((len - k : Nat) : Int) := by omega
          go_wp2_with (first
            | (at_make; refine wpList_make_own _ rfl _ _ 22 rfl w.heap.size 9 i0 (.string ByteArray.empty) 1 Try.underlying22 hi hz0 hz1 _ _ _ (len - k + 1) rfl rfl (by omega) (by rw [hz2]; omega) (by unfold maxLen; omega) (Nat.le_refl _) ?_; intro w1 hown1 hgrow1)
            | (at_builtin; (refine wpList_append_fits_any _ rfl (.tmp 50) (.tmp 53) 22 rfl w.heap.size 9 i0 1 Try.underlying22 hi hz1 w.heap.size 0 (len - k + 1) _ rfl hown1 _ (len - k - f) _ ((ss.drop (k + f)).map Value.string) rfl (by simp [HL.out]; omega) (by intro h; first | cases h | (split at h <;> cases h)) (cells_drop HL.out (fun t h => hgrow1.cell (HC.out t h) (fun e => by cases e)) (by rw [← Nat.add_assoc])) (strs_oneCell _) (by omega) ?_); intro w2 hown2 hgrow2; simp only [Nat.zero_add, List.nil_append] at hown2)
            | (at_builtin; (refine wpList_append_fits_any _ rfl (.tmp 55) (.tmp 59) 22 rfl w.heap.size 9 i0 1 Try.underlying22 hi hz1 w.heap.size (len - k - f) (len - k + 1) _ rfl hown2 _ (f + 1) _ (((ss.drop k).take (f + 1)).map Value.string) rfl (by simp [HL.out]; omega) (by intro h; first | cases h | (split at h <;> cases h)) (cells_take HL.out (fun t h => hgrow2.cell (hgrow1.cell (HC.out t h) (fun e => by cases e)) (fun e => by have h2 : b = w.heap.size := Option.some.inj e; omega)) rfl) (strs_oneCell _) (by omega) ?_); intro w3 hown3 hgrow3))
          go_ret
          have hb1 : Below w.heap.size w w1 := (below_drewN (Below.refl _ w) q).grown hgrow1 (Nat.le_refl _) (fun j hj => by cases hj)
          have hb2 := hb1.grown hgrow2 hb1.size (fun j hj => by cases hj; exact Nat.le_refl _)
          have hb3 := hb2.grown hgrow3 hb2.size (fun j hj => by cases hj; exact Nat.le_refl _)
          exact ⟨w.heap.size, f, _, ret_slice (by omega), fm_of HF.out (by omega), rot_at HL.out hfj HZ.out hown3, hb3⟩
    · have hne : (s.toList == back.toList) = false := by
        have := H3.out k (by omega) (by omega)
        rw [← hs] at this
        cases h : s.toList == back.toList
        · rfl
        · exact absurd (same_yes h) this
      clear hs
      go_wp2
      go_round
      case rel => exact ⟨k - 1, by omega, by omega, by go_num⟩
      case measure => simp [intOf]; omega

theorem zzcycle_any (b off len cap : Nat) (ss : List ByteArray) (back : ByteArray) (B n : Nat) (D : DataW Unit) (st : Nat) (w : World)
    (hl : len ≤ 65536) (hlc : len ≤ cap) (hlen : ss.length = len) (hsz : ∀ j, (ss.getD j ByteArray.empty).size ≤ maxLen) (hb : b < w.heap.size)
    (hc : ∀ j, j < len → w.cell? ⟨b, off + j, none⟩ = some (.string (ss.getD j ByteArray.empty)))
    (hm : w.ownsMap Try.prog 9 (plainElem (H := Unit) Try.prog 3) B n D) (hst : IsLast ss back st) :
    Calls Try.prog 11 #[.slice (some ⟨b, off, none⟩) len cap, .string back, .map (some B)] w fun e w' =>
      ∃ g f c, e = .returned (.slice (some ⟨g, 0, none⟩) (len - st + 1) c) ∧ FirstMin (V D ss st) (len - st) f ∧ StrsAt w' (some ⟨g, 0, none⟩) (len - st + 1) (Rot ss st f) ∧ Below w.heap.size w w' := by
  go_enter Try.func11, Try.ntmps11
  go_wp2_with fail
  refine (cycle_any b off len cap ss back B n D st w hl hlc hlen hsz hb hc hm hst).mono ?_
  clear hc hm hsz hlen hst
  rintro e w' ⟨g, f, c, rfl, h1, h2, h3⟩
  go_wp2
  go_ret
  exact ⟨g, f, c, rfl, h1, h2, h3⟩
end Go.Proofs.Qxb6602756a.Cy
