/-
  Seat b6602880a: stringEnd, valueEnd, its exported name.
-/
import Derived.Test.Qxb6602880aBase
import Derived.Deep.LoopGhost
namespace Go.Proofs.Qxb6602880a
open Go.ChangeShapes Go.WideShapes Go.ChangeAt Go.RowKit

namespace Ve

/-- Where stringEnd ends: behind st; at the end, or at a quote. -/
def SE (zs : List Int) (len st q : Nat) : Prop := st < q ∧ q ≤ len ∧ (q = len ∨ zs.getD q 0 = 34)

set_option maxHeartbeats 1000000 in
theorem string_any (b off len cap : Nat) (zs : List Int) (st : Nat) (w : World) (hst : st < len) (hl : len ≤ 1048576)
    (hc : ∀ j, j < len → w.cell? ⟨b, off + j, none⟩ = some (.int .u8 (zs.getD j 0))) :
    Calls Try.prog 28 #[.slice (some ⟨b, off, none⟩) len cap, .int .i64 st] w fun e w' => (∃ q : Nat, e = .returned (.int .i64 q) ∧ SE zs len st q) ∧ w' = w := by
  have HC : Hid (∀ j, j < len → w.cell? ⟨b, off + j, none⟩ = some (.int .u8 (zs.getD j 0))) := hc
  clear hc
  go_enter Try.func28, Try.ntmps28
  go_wp2
  go_loopg [5] (len + 1 - (st + 1)) (fun m iv wr => ∃ i : Nat, st + 1 ≤ i ∧ i ≤ len + 1 ∧ m = len + 1 - i ∧ iv = .int .i64 i ∧ w = wr)
  case atStart => exact ⟨st + 1, Nat.le_refl _, by omega, rfl, by go_num, rfl⟩
  case round =>
    obtain ⟨i, hi1, hi2, rfl, rfl, rfl⟩ := hrel
    by_cases hlt : i < len
    · have hlti : (i : Int) < (len : Int) := by omega
      obtain ⟨z, hz⟩ : ∃ z, z = zs.getD i 0 := ⟨_, rfl⟩
      have hcz : w.cell? ⟨b, off + i, none⟩ = some (.int .u8 z) := by rw [hz]; exact HC.out i hlt
      have HZ : Hid (zs.getD i 0 = z) := hz.symm
      clear hz
      by_cases h92 : z = 92
      · have hb : (z == 92) = true := by simp [h92]
        clear h92
        go_wp2
        go_roundg (len + 1 - (i + 2))
        case measure => omega
        case rel => exact ⟨i + 2, by omega, by omega, rfl, by go_num, rfl⟩
      · have hb : (z == 92) = false := by simp [h92]
        clear h92
        by_cases h34 : z = 34
        · have hb2 : (z == 34) = true := by simp [h34]
          have HS : Hid (SE zs len st i) := ⟨by omega, by omega, .inr (HZ.out.trans h34)⟩
          clear h34
          go_wp2
          go_ret
          exact ⟨⟨i, rfl, HS.out⟩, rfl⟩
        · have hb2 : (z == 34) = false := by simp [h34]
          clear h34
          go_wp2
          go_roundg (len + 1 - (i + 1))
          case measure => omega
          case rel => exact ⟨i + 1, by omega, by omega, rfl, by go_num, rfl⟩
    · have hlti : ¬ (i : Int) < (len : Int) := by omega
      go_wp2
      go_ret
      exact ⟨⟨len, rfl, by omega, Nat.le_refl _, .inl rfl⟩, rfl⟩

/-- Where valueEnd ends. -/
def VE (zs : List Int) (len st e : Nat) : Prop :=
  (zs.getD st 0 = 34 ∧ st + 2 ≤ e ∧ e ≤ len + 1 ∧ (e = len + 1 ∨ zs.getD (e - 1) 0 = 34)) ∨
  ((zs.getD st 0 = 123 ∨ zs.getD st 0 = 91) ∧ st < e ∧ e ≤ len ∧ (e = len ∨ zs.getD (e - 1) 0 = 125 ∨ zs.getD (e - 1) 0 = 93)) ∨
  ((zs.getD st 0 ≠ 34 ∧ zs.getD st 0 ≠ 123 ∧ zs.getD st 0 ≠ 91) ∧ st ≤ e ∧ e ≤ len)

/-- It returns such an end. -/
def VRet (zs : List Int) (len st : Nat) (e : Ending) : Prop := ∃ q : Nat, e = .returned (.int .i64 q) ∧ VE zs len st q
theorem vret {zs : List Int} {len st : Nat} {e : Ending} (q : Nat) (h : e = .returned (.int .i64 q)) (h2 : VE zs len st q) : VRet zs len st e := ⟨q, h, h2⟩

theorem ret_i {a b : Int} (h : a = b) : Ending.returned (.int .i64 a) = .returned (.int .i64 b) := by rw [h]

set_option maxHeartbeats 4000000 in
theorem value_any (b off len cap : Nat) (zs : List Int) (st : Nat) (w : World) (hst : st < len) (hl : len ≤ 1048576)
    (hc : ∀ j, j < len → w.cell? ⟨b, off + j, none⟩ = some (.int .u8 (zs.getD j 0))) :
    Calls Try.prog 20 #[.slice (some ⟨b, off, none⟩) len cap, .int .i64 st] w fun e w' => VRet zs len st e ∧ w' = w := by
  have HC : Hid (∀ j, j < len → w.cell? ⟨b, off + j, none⟩ = some (.int .u8 (zs.getD j 0))) := hc
  have hsti : (st : Int) < (len : Int) := by omega
  obtain ⟨z, hz⟩ : ∃ z, z = zs.getD st 0 := ⟨_, rfl⟩
  have hcz : w.cell? ⟨b, off + st, none⟩ = some (.int .u8 z) := by rw [hz]; exact hc st hst
  have HZ : Hid (zs.getD st 0 = z) := hz.symm
  clear hz hc
  by_cases h34 : z = 34
  · have hb : (z == 34) = true := by simp [h34]
    have HZ34 : Hid (zs.getD st 0 = 34) := HZ.out.trans h34
    clear h34
    go_enter Try.func20, Try.ntmps20
    go_wp2_with fail
    refine (string_any b off len cap zs st w hst hl HC.out).mono ?_
    rintro e w ⟨⟨q, rfl, hq⟩, rfl⟩
    have HQ : Hid (SE zs len st q) := hq
    have hq1 := hq.1
    have hq2 := hq.2.1
    clear hq
    go_wp2
    go_ret
    refine ⟨vret (q + 1) rfl (.inl ⟨HZ34.out, by omega, by omega, ?_⟩), rfl⟩
    rcases HQ.out.2.2 with h | h
    · left; omega
    · right; exact h
  have b34 : (z == 34) = false := by simp [h34]
  by_cases hbr : z = 123 ∨ z = 91
  · have HBR : Hid (zs.getD st 0 = 123 ∨ zs.getD st 0 = 91) := by
      show zs.getD st 0 = 123 ∨ zs.getD st 0 = 91
      rw [HZ.out]; exact hbr
    clear h34
    rcases hbr with rfl | rfl
    all_goals
      go_enter Try.func20, Try.ntmps20
      go_wp2_with fail
      go_loopg [5, 6] (len + 1 - st) (fun m dv iv wr => ∃ (d : Int) (i : Nat), st ≤ i ∧ i ≤ len + 1 ∧ m = len + 1 - i ∧ dv = .int .i64 d ∧ iv = .int .i64 i ∧ w = wr)
      case atStart => exact ⟨0, st, Nat.le_refl _, by omega, rfl, rfl, rfl, rfl⟩
      case round =>
        obtain ⟨d, i, hi1, hi2, rfl, rfl, rfl, rfl⟩ := hrel
        by_cases hlt : i < len
        · have hlti : (i : Int) < (len : Int) := by omega
          obtain ⟨y, hy⟩ : ∃ y, y = zs.getD i 0 := ⟨_, rfl⟩
          have hcy : w.cell? ⟨b, off + i, none⟩ = some (.int .u8 y) := by rw [hy]; exact HC.out i hlt
          have HY : Hid (zs.getD i 0 = y) := hy.symm
          clear hy
          by_cases h34 : y = 34
          · have hb : (y == 34) = true := by simp [h34]
            clear h34
            go_wp2_with fail
            refine (string_any b off len cap zs i w hlt hl HC.out).mono ?_
            rintro e w ⟨⟨q, rfl, hq⟩, rfl⟩
            have hq1 := hq.1
            have hq2 := hq.2.1
            clear hq
            go_wp2_with fail
            go_roundg (len + 1 - (q + 1))
            case measure => omega
            case rel => exact ⟨_, q + 1, by omega, by omega, rfl, rfl, by go_num, rfl⟩
          have b34 : (y == 34) = false := by simp [h34]
          clear h34
          by_cases hop : y = 123 ∨ y = 91
          · rcases hop with rfl | rfl
            all_goals
              go_wp2_with fail
              go_roundg (len + 1 - (i + 1))
              case measure => omega
              case rel => exact ⟨_, i + 1, by omega, by omega, rfl, rfl, by go_num, rfl⟩
          have b123 : (y == 123) = false := by simp; omega
          have b91 : (y == 91) = false := by simp; omega
          clear hop
          by_cases hcl : y = 125 ∨ y = 93
          · have HCL : Hid (zs.getD i 0 = 125 ∨ zs.getD i 0 = 93) := by
              show zs.getD i 0 = 125 ∨ zs.getD i 0 = 93
              rw [HY.out]; exact hcl
            rcases hcl with rfl | rfl
            all_goals
              go_wp2_with fail
              · go_ret
                exact ⟨vret (i + 1) rfl (.inr (.inl ⟨HBR.out, by omega, by omega, .inr HCL.out⟩)), rfl⟩
              · go_roundg (len + 1 - (i + 1))
                case measure => omega
                case rel => exact ⟨_, i + 1, by omega, by omega, rfl, rfl, by go_num, rfl⟩
          have b125 : (y == 125) = false := by simp; omega
          have b93 : (y == 93) = false := by simp; omega
          clear hcl
          go_wp2_with fail
          go_roundg (len + 1 - (i + 1))
          case measure => omega
          case rel => exact ⟨_, i + 1, by omega, by omega, rfl, rfl, by go_num, rfl⟩
        · have hlti : ¬ (i : Int) < (len : Int) := by omega
          go_wp2
          go_ret
          exact ⟨vret len rfl (.inr (.inl ⟨HBR.out, hst, Nat.le_refl _, .inl rfl⟩)), rfl⟩
  · have HNB : Hid (zs.getD st 0 ≠ 34 ∧ zs.getD st 0 ≠ 123 ∧ zs.getD st 0 ≠ 91) := by
      show zs.getD st 0 ≠ 34 ∧ zs.getD st 0 ≠ 123 ∧ zs.getD st 0 ≠ 91
      rw [HZ.out]; omega
    have b123 : (z == 123) = false := by simp; omega
    have b91 : (z == 91) = false := by simp; omega
    clear h34 hbr
    go_enter Try.func20, Try.ntmps20
    go_wp2_with fail
    go_loopg [7] (len - st) (fun m iv wr => ∃ (i : Nat), st ≤ i ∧ i ≤ len ∧ m = len - i ∧ iv = .int .i64 i ∧ w = wr)
    case atStart => exact ⟨st, Nat.le_refl _, by omega, rfl, rfl, rfl⟩
    case round =>
      obtain ⟨i, hi1, hi2, rfl, rfl, rfl⟩ := hrel
      by_cases hlt : i < len
      · have hlti : (i : Int) < (len : Int) := by omega
        obtain ⟨y, hy⟩ : ∃ y, y = zs.getD i 0 := ⟨_, rfl⟩
        have hcy : w.cell? ⟨b, off + i, none⟩ = some (.int .u8 y) := by rw [hy]; exact HC.out i hlt
        clear hy hcz
        go_wp2_with fail
        rotate_right
        · go_roundg (len - (i + 1))
          case measure => omega
          case rel => exact ⟨i + 1, by omega, by omega, rfl, by go_num, rfl⟩
        all_goals
          go_ret
          exact ⟨vret i rfl (.inr (.inr ⟨HNB.out, hi1, hi2⟩)), rfl⟩
      · have hlti : ¬ (i : Int) < (len : Int) := by omega
        go_wp2
        go_ret
        exact ⟨vret i rfl (.inr (.inr ⟨HNB.out, hi1, hi2⟩)), rfl⟩
theorem zzvalue_any (b off len cap : Nat) (zs : List Int) (st : Nat) (w : World) (hst : st < len) (hl : len ≤ 1048576)
    (hc : ∀ j, j < len → w.cell? ⟨b, off + j, none⟩ = some (.int .u8 (zs.getD j 0))) :
    Calls Try.prog 11 #[.slice (some ⟨b, off, none⟩) len cap, .int .i64 st] w fun e w' => VRet zs len st e ∧ w' = w := by
  have HC : Hid (∀ j, j < len → w.cell? ⟨b, off + j, none⟩ = some (.int .u8 (zs.getD j 0))) := hc
  clear hc
  go_enter Try.func11, Try.ntmps11
  go_wp2_with fail
  refine (value_any b off len cap zs st w hst hl HC.out).mono ?_
  rintro e w ⟨⟨q, rfl, hq⟩, rfl⟩
  have HQ : Hid (VE zs len st q) := hq
  clear hq
  go_wp2
  go_ret
  exact ⟨vret q rfl HQ.out, rfl⟩

end Ve
end Go.Proofs.Qxb6602880a
