/-
  Seat b6602756a: the law's own walk.
-/
import Derived.Test.Qxb6602756aCyCycle
namespace Go.Proofs.Qxb6602756a.Cy
open Go.ChangeShapes Go.WideShapes Go.ChangeAt Go.RowKit Go.Maps Go.WideMaps

theorem ownsMap_below {w w' : World} {B n : Nat} {D : DataW Unit} (h : w.ownsMap Try.prog 9 (plainElem (H := Unit) Try.prog 3) B n D) (hb : Below w.heap.size w w') : w'.ownsMap Try.prog 9 (plainElem (H := Unit) Try.prog 3) B n D := by
  have hlt := h.lt
  obtain ⟨es, clock, hB, F, hs, hD⟩ := h
  exact ⟨es, clock, (hb.block B hlt).trans hB, F, hs, hD⟩

theorem last_of {ss : List ByteArray} {back : ByteArray} {n : Nat} {r : Int} (hlen : ss.length = n) (h : AtOf ss back n r) : r = -1 ∨ ∃ st : Nat, r = st ∧ IsLast ss back st := by
  rcases h with ⟨h1, _⟩ | ⟨k, h1, h2, h3, h4⟩
  · exact .inl h1
  · exact .inr ⟨k, h1, by omega, h3, fun j a b => h4 j a (by omega)⟩

/-- x is the least of v 0 .. v (n-1). -/
def LeastTo (v : Nat → Int) (n : Nat) (x : Int) : Prop := (∃ j, j < n ∧ v j = x) ∧ ∀ j, j < n → x ≤ v j

theorem least_start {v : Nat → Int} {x : Int} (h : x = v 0) : LeastTo v 1 x := ⟨⟨0, by omega, h.symm⟩, fun j hj => by obtain rfl : j = 0 := (by omega); omega⟩
theorem least_yes {v : Nat → Int} {n m : Nat} {x y : Int} (h : LeastTo v n x) (hm : m = n + 1) (hy : y = v n) (hlt : y < x) : LeastTo v m y := by
  subst hm
  refine ⟨⟨n, by omega, hy.symm⟩, fun j hj => ?_⟩
  by_cases e : j = n
  · subst e; omega
  · have := h.2 j (by omega); omega
theorem least_no {v : Nat → Int} {n m : Nat} {x y : Int} (h : LeastTo v n x) (hm : m = n + 1) (hy : y = v n) (hlt : ¬ y < x) : LeastTo v m x := by
  subst hm
  obtain ⟨⟨i, hi, hix⟩, h2⟩ := h
  refine ⟨⟨i, by omega, hix⟩, fun j hj => ?_⟩
  by_cases e : j = n
  · subst e; omega
  · exact h2 j (by omega)
theorem least_is {v : Nat → Int} {n f : Nat} {x : Int} (h : LeastTo v n x) (hf : FirstMin v n f) : x = v f := by
  obtain ⟨⟨i, hi, hix⟩, h2⟩ := h
  have h3 := h2 f hf.1
  have h4 := hf.2.2 i hi
  omega

theorem v_at (D : DataW Unit) (ss : List ByteArray) (st k : Nat) (h : st ≤ k) : G D (ss.getD k ByteArray.empty) = V D ss st (k - st) := by
  unfold V
  rw [show st + (k - st) = k by omega]

/-- The closed cycle, by index. -/
theorem rot_get (ss : List ByteArray) (len st f j : Nat) (hlen : ss.length = len) (hf : f < len - st) (hj : j ≤ len - st) :
    (Rot ss st f).getD j ByteArray.empty = ss.getD (st + (if f + j < len - st then f + j else f + j - (len - st))) ByteArray.empty := by
  unfold Rot
  simp only [List.getD_eq_getElem?_getD]
  congr 1
  by_cases h : f + j < len - st
  · rw [if_pos h, List.getElem?_append_left (by simp; omega), List.getElem?_drop]
    congr 1; omega
  · rw [if_neg h, List.getElem?_append_right (by simp; omega), List.getElem?_take_of_lt (by simp; omega), List.getElem?_drop]
    congr 1; simp; omega

set_option maxHeartbeats 2000000 in
theorem walk (a0 : Option Addr) (l0 c0 : Nat) (s0 : List ByteArray) (back : ByteArray) (a2 : Option Addr) (l2 c2 : Nat) (s2 : List ByteArray) (a3 : Option Addr) (l3 c3 : Nat) (z3 : List Int) (w : World)
    (h0 : StrsAt w a0 l0 s0) (hl0 : l0 ≤ maxLen) (hb : back.size ≤ maxLen) (h2 : StrsAt w a2 l2 s2) (hl2 : l2 ≤ maxLen) (h3 : IntsAt w a3 l3 z3) (hl3 : l3 ≤ maxLen) :
    Calls Try.prog 3 #[.slice a0 l0 c0, .string back, .slice a2 l2 c2, .slice a3 l3 c3] w fun e w' => e = .returned (.bool true) ∧ Below w.heap.size w w' := by
  have H0 : Hid (StrsAt w a0 l0 s0) := h0
  have H2 : Hid (StrsAt w a2 l2 s2) := h2
  have H3 : Hid (IntsAt w a3 l3 z3) := h3
  clear h0 h2 h3
  go_enter Try.func3, Try.ntmps3
  go_wp2_with fail
  refine (bound_any a0 l0 c0 s0 back a2 l2 c2 s2 a3 l3 c3 w H0.out hl0 H2.out hl2).mono ?_
  rintro e w ⟨⟨r, rfl⟩, rfl⟩
  unfold maxLen at hl0 hl2 hl3 hb
  cases r with
  | false =>
    go_wp2
    go_ret
    exact ⟨rfl, Below.refl _ _⟩
  | true =>
    by_cases t0 : l0 ≤ 65536
    case neg =>
      have t0' : 65536 < (l0 : Int) := by omega
      go_wp2
      go_ret
      exact ⟨rfl, Below.refl _ _⟩
    by_cases t2 : l2 ≤ 65536
    case neg =>
      have t2' : 65536 < (l2 : Int) := by omega
      go_wp2
      go_ret
      exact ⟨rfl, Below.refl _ _⟩
    by_cases t3 : l3 ≤ 65536
    case neg =>
      have t3' : 65536 < (l3 : Int) := by omega
      go_wp2
      go_ret
      exact ⟨rfl, Below.refl _ _⟩
    by_cases t1 : back.size ≤ 1048576
    case neg =>
      have t1' : 1048576 < (back.size : Int) := by omega
      go_wp2
      go_ret
      exact ⟨rfl, Below.refl _ _⟩
    go_wp2_with fail
    refine (bytes_any a0 l0 c0 s0 back a2 l2 c2 s2 a3 l3 c3 w H0.out t0 H2.out t2).mono ?_
    rintro e w ⟨⟨r, rfl⟩, rfl⟩
    by_cases tr : 1048576 < r
    · go_wp2
      go_ret
      exact ⟨rfl, Below.refl _ _⟩
    go_wp2_with fail
    refine (clone_any a0 l0 c0 s0 w H0.out t0).mono ?_
    rintro e w1 ⟨a1, c1, rfl, hc1, h1, hb1⟩
    have HB1 : Hid (Below w.heap.size w w1) := hb1
    have H1 : Hid (StrsAt w1 a1 l0 s0) := h1
    clear hb1 h1 tr
    go_wp2_with fail
    refine (lastIndex_any a1 l0 c1 s0 back w1 H1.out t0).mono ?_
    rintro e w1 ⟨⟨r, rfl, hat⟩, rfl⟩
    rcases last_of H1.out.1 hat with hr | ⟨st, hr, hst⟩
    · clear hat
      subst hr
      go_wp2
      go_ret
      exact ⟨rfl, HB1.out⟩
    · clear hat
      subst hr
      have HST : Hid (IsLast s0 back st) := hst
      clear hst
      go_wp2_with fail
      refine (order_any a2 l2 c2 s2 a3 l3 c3 z3 w1 (H2.out.below HB1.out) t2 (H3.out.below HB1.out) t3).mono ?_
      rintro e w2 ⟨n, D, rfl, hm, hb2⟩
      have hstl : st < l0 := by have := HST.out.1; have := H1.out.1; omega
      obtain ⟨b, off, ha1, hbl, hcell⟩ := H1.out.2.2 (by omega)
      subst ha1
      have HM : Hid (w2.ownsMap Try.prog 9 (plainElem (H := Unit) Try.prog 3) w1.heap.size n D) := hm
      have HB2 : Hid (Below w1.heap.size w1 w2) := hb2
      have HC : Hid (∀ j, j < l0 → w1.cell? ⟨b, off + j, none⟩ = some (.string (s0.getD j ByteArray.empty))) := hcell
      clear hm hb2 hcell
      go_wp2_with fail
      refine (zzcycle_any b off l0 c1 s0 back w1.heap.size n D st w2 t0 hc1 H1.out.1 H1.out.2.1 (Nat.lt_of_lt_of_le hbl HB2.out.size) (fun j hj => (HB2.out.cell (p := ⟨b, off + j, none⟩) hbl).trans (HC.out j hj)) HM.out HST.out).mono ?_
      rintro e w3 ⟨g, f, c, rfl, hfm, hgot, hb3⟩
      have HF : Hid (FirstMin (V D s0 st) (l0 - st) f) := hfm
      have HG : Hid (StrsAt w3 (some ⟨g, 0, none⟩) (l0 - st + 1) (Rot s0 st f)) := hgot
      have HB3 : Hid (Below w2.heap.size w2 w3) := hb3
      clear hfm hgot hb3
      have HB : Hid (Below w.heap.size w w3) := HB1.out.trans ((HB2.out.mono HB1.out.size).trans (HB3.out.mono (Nat.le_trans HB1.out.size HB2.out.size)))
      have CEL : Hid (∀ j, j < l0 → w3.cell? ⟨b, off + j, none⟩ = some (.string (s0.getD j ByteArray.empty))) := fun j hj => (HB3.out.cell (p := ⟨b, off + j, none⟩) (Nat.lt_of_lt_of_le hbl HB2.out.size)).trans ((HB2.out.cell (p := ⟨b, off + j, none⟩) hbl).trans (HC.out j hj))
      have M3 : Hid (w3.ownsMap Try.prog 9 (plainElem (H := Unit) Try.prog 3) w1.heap.size n D) := ownsMap_below HM.out HB3.out
      have SZ : Hid (∀ j, (s0.getD j ByteArray.empty).size ≤ maxLen) := H1.out.2.1
      have LEN : Hid (s0.length = l0) := H1.out.1
      generalize hBm : w1.heap.size = Bm at M3 ⊢
      clear HB1 HB2 HB3 HC HM H0 H1 H2 H3 hbl hBm
      have cst : w3.cell? ⟨b, off + st, none⟩ = some (.string back) := by rw [CEL.out st hstl, HST.out.2.1]
      have lst : (Instr.lookup 28 (.map (some Bm)) (.string back) false).run Try.prog w3 = .ok (.int .i64 (G D back)) w3 := look M3.out (by unfold maxLen; omega) 0
      go_wp2
      clear cst lst
      go_loop [13, 14] (fun t i => ∃ k : Nat, ∃ x : Int, st + 1 ≤ k ∧ k ≤ l0 ∧ i = .int .i64 k ∧ t = .int .i64 x ∧ LeastTo (V D s0 st) (k - st) x) (fun _ i => l0 - (intOf i).toNat)
      case atStart => exact ⟨st + 1, G D back, by omega, by omega, by go_num, rfl, by rw [show st + 1 - st = 1 by omega]; exact least_start (by rw [← HST.out.2.1, v_at D s0 st st (Nat.le_refl _), Nat.sub_self])⟩
      case round =>
        obtain ⟨k, x, hk1, hk2, rfl, rfl, hx⟩ := hrel
        have HX : Hid (LeastTo (V D s0 st) (k - st) x) := hx
        clear hx
        by_cases hkl : k < l0
        · obtain ⟨sa, hsa⟩ : ∃ s, s = s0.getD k ByteArray.empty := ⟨_, rfl⟩
          have hca : w3.cell? ⟨b, off + k, none⟩ = some (.string sa) := by rw [hsa]; exact CEL.out k hkl
          have hla : (Instr.lookup 28 (.map (some Bm)) (.string sa) false).run Try.prog w3 = .ok (.int .i64 (G D sa)) w3 := look M3.out (by rw [hsa]; exact SZ.out k) 0
          obtain ⟨ga, hga⟩ : ∃ g, g = G D sa := ⟨_, rfl⟩
          rw [← hga] at hla
          have EA : Hid (ga = V D s0 st (k - st)) := by rw [hga, hsa]; exact v_at D s0 st k (by omega)
          clear hsa hga
          by_cases hlt : ga < x
          · go_wp2
            go_round
            case rel => exact ⟨k + 1, ga, by omega, by omega, by go_num, rfl, least_yes HX.out (by omega) EA.out hlt⟩
            case measure => simp [intOf]; omega
          · go_wp2
            go_round
            case rel => exact ⟨k + 1, x, by omega, by omega, by go_num, rfl, least_no HX.out (by omega) EA.out (by omega)⟩
            case measure => simp [intOf]; omega
        · have hkk : l0 = k := by omega
          subst hkk
          have XF : Hid (x = V D s0 st f) := least_is HX.out HF.out
          clear HX
          have hfl : f < l0 - st := HF.out.1
          go_wp2
          go_loop [16] (fun i => ∃ k : Nat, k ≤ f ∧ i = .int .i64 k) (fun i => f - (intOf i).toNat)
          case atStart => exact ⟨0, Nat.zero_le _, rfl⟩
          case round =>
            obtain ⟨k, hkf, rfl⟩ := hrel
            obtain ⟨sa, hsa⟩ : ∃ s, s = s0.getD (st + k) ByteArray.empty := ⟨_, rfl⟩
            have hca : w3.cell? ⟨b, off + (st + k), none⟩ = some (.string sa) := by rw [hsa]; exact CEL.out (st + k) (by omega)
            have hla : (Instr.lookup 28 (.map (some Bm)) (.string sa) false).run Try.prog w3 = .ok (.int .i64 (G D sa)) w3 := look M3.out (by rw [hsa]; exact SZ.out _) 0
            obtain ⟨ga, hga⟩ : ∃ g, g = G D sa := ⟨_, rfl⟩
            rw [← hga] at hla
            have EA : Hid (ga = V D s0 st k) := by rw [hga, hsa]; rfl
            clear hsa hga
            by_cases hkf2 : k < f
            · have hne : (ga == x) = false := by
                have h1 := HF.out.2.1 k hkf2
                rw [← EA.out, ← XF.out] at h1
                simp; omega
              go_wp2
              go_round
              case rel => exact ⟨k + 1, by omega, by go_num⟩
              case measure => simp [intOf]; omega
            · have hkk : k = f := by omega
              subst hkk
              have hxx : (ga == x) = true := by rw [EA.out, XF.out]; simp
              clear EA XF
              go_wp2
              clear hxx hla hca
              go_loopw [17] (fun i wr => ∃ j q : Nat, j ≤ l0 - st + 1 ∧ i = .int .i64 j ∧ wr = w3.drewN q) (fun i _ => l0 - st + 1 - (intOf i).toNat)
              case atStart => exact ⟨0, 0, Nat.zero_le _, rfl, rfl⟩
              case round =>
                obtain ⟨j, q, hj, rfl, rfl⟩ := hrel
                by_cases hjm : j < l0 - st + 1
                · have hji : (j : Int) < ((l0 - st + 1 : Nat) : Int) := by omega
                  obtain ⟨sa, hsa⟩ : ∃ s, s = (Rot s0 st k).getD j ByteArray.empty := ⟨_, rfl⟩
                  have hcg : w3.cell? ⟨g, j, none⟩ = some (.string sa) := by
                    obtain ⟨g', o', e1, _, hcg⟩ := HG.out.2.2 (by omega)
                    cases e1
                    rw [hsa, ← hcg j hjm, Nat.zero_add]
                  by_cases hw : k + j < l0 - st
                  · have hcp : w3.cell? ⟨b, off + (st + (k + j)), none⟩ = some (.string sa) := by
                      rw [CEL.out _ (by omega), hsa, rot_get s0 l0 st k j LEN.out hfl (by omega), if_pos hw]
                    have hti : (st : Int) + ((k : Int) + (j : Int)) < (l0 : Int) := by omega
                    clear hsa
                    go_wp2
                    go_quiet (fail)
                    go_wp2
                    go_roundw
                    case rel => exact ⟨j + 1, _, by omega, by go_num, rfl⟩
                    case measure => simp [intOf]; omega
                  · obtain ⟨p, hp⟩ : ∃ p : Nat, p = k + j - (l0 - st) := ⟨_, rfl⟩
                    have hpe : (k : Int) + (j : Int) - ((l0 : Int) - (st : Int)) = (p : Int) := by omega
                    have hpl : st + p < l0 := by omega
                    have hcp : w3.cell? ⟨b, off + (st + p), none⟩ = some (.string sa) := by
                      rw [CEL.out _ (by omega), hsa, rot_get s0 l0 st k j LEN.out hfl (by omega), if_neg hw, hp]
                    have hti : (st : Int) + (p : Int) < (l0 : Int) := by omega
                    have hji2 : (j : Int) < ((l0 - st : Nat) : Int) + 1 := by omega
                    clear hp
                    clear hsa
                    go_wp2
                    go_quiet (fail)
                    go_wp2
                    go_roundw
                    case rel => exact ⟨j + 1, _, by omega, by go_num, rfl⟩
                    case measure => simp [intOf]; omega
                · go_wp2
                  go_ret
                  exact ⟨rfl, below_drewN HB.out q⟩
end Go.Proofs.Qxb6602756a.Cy
