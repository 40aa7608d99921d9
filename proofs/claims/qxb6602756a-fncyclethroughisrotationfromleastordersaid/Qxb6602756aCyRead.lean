/-
  Seat b6602756a: the three functions on the road that only read: the two that count bytes, and the last index.
-/
import Derived.Test.Qxb6602756aCyBase
namespace Go.Proofs.Qxb6602756a.Cy
open Go.ChangeShapes Go.WideShapes Go.ChangeAt Go.RowKit

/-- k is the last place at which ss holds back. -/
def IsLast (ss : List ByteArray) (back : ByteArray) (k : Nat) : Prop :=
  k < ss.length ∧ ss.getD k ByteArray.empty = back ∧ ∀ j, k < j → j < ss.length → ss.getD j ByteArray.empty ≠ back

/-- What 'at' holds after the first n places. -/
def AtOf (ss : List ByteArray) (back : ByteArray) (n : Nat) (r : Int) : Prop :=
  (r = -1 ∧ ∀ j, j < n → ss.getD j ByteArray.empty ≠ back) ∨
  ∃ k : Nat, r = k ∧ k < n ∧ ss.getD k ByteArray.empty = back ∧ ∀ j, k < j → j < n → ss.getD j ByteArray.empty ≠ back

theorem same_yes {a b : ByteArray} (h : (a.toList == b.toList) = true) : a = b := by
  have h1 : a.toList = b.toList := by simpa using h
  rw [ByteArray.toList_eq, ByteArray.toList_eq] at h1
  exact WideShapes.bytes_inj h1
theorem same_no {a b : ByteArray} (h : (a.toList == b.toList) = false) : a ≠ b := by
  intro e; subst e; simp at h

theorem at_hit {ss : List ByteArray} {back s : ByteArray} {k : Nat} (hs : s = ss.getD k ByteArray.empty) (h : (s.toList == back.toList) = true) : AtOf ss back (k + 1) k :=
  .inr ⟨k, rfl, by omega, by rw [← hs]; exact same_yes h, fun j h1 h2 => by omega⟩
theorem at_miss {ss : List ByteArray} {back s : ByteArray} {k : Nat} {r : Int} (ha : AtOf ss back k r) (hs : s = ss.getD k ByteArray.empty) (h : (s.toList == back.toList) = false) : AtOf ss back (k + 1) r := by
  have hne := same_no h
  rw [hs] at hne
  rcases ha with ⟨h1, h2⟩ | ⟨m, h1, h2, h3, h4⟩
  · exact .inl ⟨h1, fun j hj => by
      by_cases e : j = k
      · rw [e]; exact hne
      · exact h2 j (by omega)⟩
  · exact .inr ⟨m, h1, by omega, h3, fun j hj1 hj2 => by
      by_cases e : j = k
      · rw [e]; exact hne
      · exact h4 j hj1 (by omega)⟩

set_option maxHeartbeats 400000 in
theorem lastIndex_any (a : Option Addr) (len cap : Nat) (ss : List ByteArray) (back : ByteArray) (w : World) (h : StrsAt w a len ss) (hl : len ≤ 65536) :
    Calls Try.prog 9 #[.slice a len cap, .string back] w fun e w' => (∃ r, e = .returned (.int .i64 r) ∧ AtOf ss back len r) ∧ w' = w := by
  obtain ⟨hlen, hsz, hcl⟩ := h
  go_enter Try.func9, Try.ntmps9
  go_wp2
  go_loop [5, 6] (fun t i => ∃ k : Nat, ∃ r : Int, k ≤ len ∧ i = .int .i64 k ∧ t = .int .i64 r ∧ AtOf ss back k r) (fun _ i => len - (intOf i).toNat)
  case atStart => exact ⟨0, -1, Nat.zero_le _, rfl, rfl, .inl ⟨rfl, fun j hj => by omega⟩⟩
  case round =>
    obtain ⟨k, r, hk, rfl, rfl, hat⟩ := hrel
    by_cases hlt : k < len
    · obtain ⟨b, off, rfl, hb, hc⟩ := hcl (by omega)
      obtain ⟨s, hs⟩ : ∃ s, s = ss.getD k ByteArray.empty := ⟨_, rfl⟩
      have hcx : w.cell? ⟨b, off + k, none⟩ = some (.string s) := by rw [hs]; exact hc k hlt
      have HS : Hid (s = ss.getD k ByteArray.empty) := hs
      have HA : Hid (AtOf ss back k r) := hat
      clear hs hat hc hcl hsz hlen
      go_wp2
      · go_round
        case rel => exact ⟨k + 1, k, by omega, by go_num, rfl, at_hit HS.out ‹_›⟩
        case measure => simp [intOf]; omega
      · go_round
        case rel => exact ⟨k + 1, r, by omega, by go_num, rfl, at_miss HA.out HS.out ‹_›⟩
        case measure => simp [intOf]; omega
    · go_wp2
      go_ret
      have : k = len := by omega
      subst this
      exact ⟨⟨r, rfl, hat⟩, rfl⟩

set_option maxHeartbeats 1000000 in
/-- zzb1Bytes: it returns some number, and turns nothing. -/
theorem bytes_any (a0 : Option Addr) (l0 c0 : Nat) (s0 : List ByteArray) (back : ByteArray) (a2 : Option Addr) (l2 c2 : Nat) (s2 : List ByteArray) (a3 : Option Addr) (l3 c3 : Nat) (w : World)
    (h0 : StrsAt w a0 l0 s0) (hl0 : l0 ≤ 65536) (h2 : StrsAt w a2 l2 s2) (hl2 : l2 ≤ 65536) :
    Calls Try.prog 7 #[.slice a0 l0 c0, .string back, .slice a2 l2 c2, .slice a3 l3 c3] w fun e w' => (∃ r, e = .returned (.int .i64 r)) ∧ w' = w := by
  obtain ⟨_, _, hcl0⟩ := h0
  obtain ⟨_, _, hcl2⟩ := h2
  go_enter Try.func7, Try.ntmps7
  go_wp2
  · go_ret
    exact ⟨⟨_, rfl⟩, rfl⟩
  · go_loop [9, 10] (fun t i => ∃ k : Nat, ∃ r : Int, k ≤ l0 ∧ i = .int .i64 k ∧ t = .int .i64 r) (fun _ i => l0 - (intOf i).toNat)
    case atStart => exact ⟨0, _, Nat.zero_le _, rfl, rfl⟩
    case round =>
      obtain ⟨k, r, hk, rfl, rfl⟩ := hrel
      by_cases hlt : k < l0
      · obtain ⟨b, off, rfl, hb0, hc⟩ := hcl0 (by omega)
        obtain ⟨s, hs⟩ : ∃ s, s = s0.getD k ByteArray.empty := ⟨_, rfl⟩
        have hcx : w.cell? ⟨b, off + k, none⟩ = some (.string s) := by rw [hs]; exact hc k hlt
        clear hs hc hcl0 hcl2
        go_wp2
        · go_ret
          exact ⟨⟨_, rfl⟩, rfl⟩
        · go_round
          case rel => exact ⟨k + 1, _, by omega, by go_num, rfl⟩
          case measure => simp [intOf]; omega
      · go_wp2
        go_loop [9, 11] (fun t i => ∃ k : Nat, ∃ r : Int, k ≤ l2 ∧ i = .int .i64 k ∧ t = .int .i64 r) (fun _ i => l2 - (intOf i).toNat)
        case atStart => exact ⟨0, _, Nat.zero_le _, rfl, rfl⟩
        case round =>
          obtain ⟨k2, r2, hk2, rfl, rfl⟩ := hrel
          by_cases hlt2 : k2 < l2
          · obtain ⟨b, off, rfl, hb0, hc⟩ := hcl2 (by omega)
            obtain ⟨s, hs⟩ : ∃ s, s = s2.getD k2 ByteArray.empty := ⟨_, rfl⟩
            have hcx : w.cell? ⟨b, off + k2, none⟩ = some (.string s) := by rw [hs]; exact hc k2 hlt2
            clear hs hc hcl0 hcl2
            go_wp2
            · go_ret
              exact ⟨⟨_, rfl⟩, rfl⟩
            · go_round
              case rel => exact ⟨k2 + 1, _, by omega, by go_num, rfl⟩
              case measure => simp [intOf]; omega
          · go_wp2
            go_ret
            exact ⟨⟨_, rfl⟩, rfl⟩

/-- It returns some bool. -/
def RetB (e : Ending) : Prop := ∃ r : Bool, e = .returned (.bool r)
theorem RetB.mk (r : Bool) : RetB (.returned (.bool r)) := ⟨r, rfl⟩

set_option maxHeartbeats 1000000 in
/-- zzBytes_..: it returns some bool, and turns nothing. -/
theorem bound_any (a0 : Option Addr) (l0 c0 : Nat) (s0 : List ByteArray) (back : ByteArray) (a2 : Option Addr) (l2 c2 : Nat) (s2 : List ByteArray) (a3 : Option Addr) (l3 c3 : Nat) (w : World)
    (h0 : StrsAt w a0 l0 s0) (hl0 : l0 ≤ maxLen) (h2 : StrsAt w a2 l2 s2) (hl2 : l2 ≤ maxLen) :
    Calls Try.prog 6 #[.slice a0 l0 c0, .string back, .slice a2 l2 c2, .slice a3 l3 c3] w fun e w' => RetB e ∧ w' = w := by
  obtain ⟨_, _, hcl0⟩ := h0
  obtain ⟨_, _, hcl2⟩ := h2
  unfold maxLen at hl0 hl2
  go_enter Try.func6, Try.ntmps6
  go_wp2
  · go_ret
    exact ⟨RetB.mk _, rfl⟩
  · go_loop [8, 9, 10] (fun _ t i => ∃ k : Nat, ∃ r : Int, k ≤ l0 ∧ i = .int .i64 k ∧ t = .int .i64 r) (fun _ _ i => l0 - (intOf i).toNat)
    case atStart => exact ⟨0, _, Nat.zero_le _, rfl, rfl⟩
    case round =>
      obtain ⟨k, r, hk, rfl, rfl⟩ := hrel
      by_cases hlt : k < l0
      · obtain ⟨b, off, rfl, hb0, hc⟩ := hcl0 (by omega)
        obtain ⟨s, hs⟩ : ∃ s, s = s0.getD k ByteArray.empty := ⟨_, rfl⟩
        have hcx : w.cell? ⟨b, off + k, none⟩ = some (.string s) := by rw [hs]; exact hc k hlt
        clear hs hc hcl0 hcl2
        go_wp2
        · go_ret
          exact ⟨RetB.mk _, rfl⟩
        · go_ret
          exact ⟨RetB.mk _, rfl⟩
        · go_round
          case rel => exact ⟨k + 1, _, by omega, by go_num, rfl⟩
          case measure => simp [intOf]; omega
      · clear hcl0
        go_wp2
        · go_ret
          exact ⟨RetB.mk _, rfl⟩
        · go_ret
          exact ⟨RetB.mk _, rfl⟩
        · go_ret
          exact ⟨RetB.mk _, rfl⟩
        · go_ret
          exact ⟨RetB.mk _, rfl⟩
        · go_loop [8, 9, 11] (fun _ t i => ∃ k : Nat, ∃ r : Int, k ≤ l2 ∧ i = .int .i64 k ∧ t = .int .i64 r) (fun _ _ i => l2 - (intOf i).toNat)
          case atStart => exact ⟨0, _, Nat.zero_le _, rfl, rfl⟩
          case round =>
            obtain ⟨k2, r2, hk2, rfl, rfl⟩ := hrel
            by_cases hlt2 : k2 < l2
            · obtain ⟨b, off, rfl, hb0, hc⟩ := hcl2 (by omega)
              obtain ⟨s, hs⟩ : ∃ s, s = s2.getD k2 ByteArray.empty := ⟨_, rfl⟩
              have hcx : w.cell? ⟨b, off + k2, none⟩ = some (.string s) := by rw [hs]; exact hc k2 hlt2
              clear hs hc hcl2
              go_wp2
              · go_ret
                exact ⟨RetB.mk _, rfl⟩
              · go_ret
                exact ⟨RetB.mk _, rfl⟩
              · go_round
                case rel => exact ⟨k2 + 1, _, by omega, by go_num, rfl⟩
                case measure => simp [intOf]; omega
            · clear hcl2
              go_wp2
              all_goals
                go_ret
                exact ⟨RetB.mk _, rfl⟩
end Go.Proofs.Qxb6602756a.Cy
