/-
  Seat b6602846a: numberPrefixPhase, over any two bytes or more that begin with a minus sign.
-/
import Derived.Test.Qxb6602846aPastA
import Derived.Deep.DeepCutAuto
namespace Go.Proofs.Qxb6602846a
open Go.ChangeShapes Go.WideShapes Go.ChangeAt Go.RowKit

namespace Nq

/-- What numberPrefixPhase answers: the run has taken all, and v is its last phase; or it has not. -/
def PEnd (zs : List Int) (n : Nat) (v : Int) (b : Bool) : Prop := ∃ s q, R zs 0 1 = (s, q) ∧ ((q = n ∧ v = s ∧ b = true) ∨ (q ≠ n ∧ v = 0 ∧ b = false))

/-- It returns an answer of that kind. -/
def PRet (zs : List Int) (n : Nat) (e : Ending) : Prop := ∃ v b, e = .returned (.tuple #[.int .i64 v, .bool b]) ∧ PEnd zs n v b
theorem pret {zs : List Int} {n : Nat} {e : Ending} (v : Int) (b : Bool) (h : e = .returned (.tuple #[.int .i64 v, .bool b])) (h2 : PEnd zs n v b) : PRet zs n e := ⟨v, b, h, h2⟩

theorem end_yes {zs : List Int} {n : Nat} {s : Int} (h : R zs 0 1 = (s, n)) : PEnd zs n s true := ⟨s, n, h, .inl ⟨rfl, rfl, rfl⟩⟩
theorem end_no {zs : List Int} {n q : Nat} {s : Int} (h : R zs 0 1 = (s, q)) (hq : q ≠ n) : PEnd zs n 0 false := ⟨s, q, h, .inr ⟨hq, rfl, rfl⟩⟩

set_option maxRecDepth 100000 in
set_option maxHeartbeats 4000000 in
theorem phases_any (g n cap : Nat) (zs : List Int) (w : World) (hlen : zs.length = n) (hn : 2 ≤ n) (hn2 : n ≤ 1000) (h45 : zs.getD 0 0 = 45)
    (hc : ∀ j, j < n → w.cell? ⟨g, j, none⟩ = some (.int .u8 (zs.getD j 0))) :
    Calls Try.prog 9 #[.slice (some ⟨g, 0, none⟩) n cap] w fun e w' => PRet zs n e ∧ w' = w := by
  have HC : Hid (∀ j, j < n → w.cell? ⟨g, j, none⟩ = some (.int .u8 (zs.getD j 0))) := hc
  have HL : Hid (zs.length = n) := hlen
  have c0 : w.cell? ⟨g, 0, none⟩ = some (.int .u8 45) := by rw [hc 0 (by omega), h45]
  obtain ⟨z1, hz1⟩ : ∃ z, z = zs.getD 1 0 := ⟨_, rfl⟩
  have c1 : w.cell? ⟨g, 1, none⟩ = some (.int .u8 z1) := by rw [hc 1 (by omega), hz1]
  have HZ1 : Hid (zs.getD 1 0 = z1) := hz1.symm
  have n0 : ((n : Int) == 0) = false := by simp; omega
  have n1 : ((1 : Int) == (n : Int)) = false := by simp; omega
  have n0i : (0 : Int) < (n : Int) := by omega
  have n1i : (1 : Int) < (n : Int) := by omega
  clear hc hlen h45 hz1
  go_enter Try.func9, Try.ntmps9
  go_upto_if 24 with fail
  go_cut [5, 6] (fun iv lz wx => ∃ (k : Nat) (s : Int), iv = .int .i64 k ∧ lz = .bool (s == 1) ∧ A1 zs s k ∧ R zs 0 1 = R zs s k ∧ 1 ≤ k ∧ k ≤ n ∧ w = wx)
  case first =>
    by_cases hz48 : z1 = 48
    · have hb48 : (z1 == 48) = true := by simp [hz48]
      have hh := zero_road (zs := zs) (i := 1) (HZ1.out.trans hz48)
      have HA : Hid (A1 zs 1 2) := hh.1
      have HR : Hid (R zs 0 1 = R zs 1 2) := hh.2
      clear hz48 hh
      go_wp2_with fail
      go_meet
      exact ⟨2, 1, rfl, rfl, HA.out, HR.out, by omega, hn, rfl⟩
    · have hb48 : (z1 == 48) = false := by simp [hz48]
      have HN48 : Hid (zs.getD 1 0 ≠ 48) := by show zs.getD 1 0 ≠ 48; rw [HZ1.out]; exact hz48
      clear hz48
      cases hdz1 : digB z1 with
      | true =>
        have HD1 : Hid (digB (zs.getD 1 0) = true) := by show digB _ = true; rw [HZ1.out]; exact hdz1
        go_wp2_with (go_at_call 11; refine (digit_any z1 _).mono ?_; rintro e w ⟨rfl, rfl⟩)
        go_loopg [5] (n - 1) (fun m iv wr => ∃ i : Nat, 1 ≤ i ∧ i ≤ n ∧ m = n - i ∧ iv = .int .i64 i ∧ (∀ j, 1 ≤ j → j < i → digB (zs.getD j 0) = true) ∧ w = wr)
        case atStart => exact ⟨1, Nat.le_refl _, by omega, rfl, by go_num, fun j h1 h2 => by omega, rfl⟩
        case round =>
          obtain ⟨i, hi0, hin, rfl, rfl, hdg, rfl⟩ := hrel
          have HD : Hid (∀ j, 1 ≤ j → j < i → digB (zs.getD j 0) = true) := hdg
          clear hdg
          by_cases hlt : i < n
          · have hlti : (i : Int) < (n : Int) := by omega
            obtain ⟨z, hz⟩ : ∃ z, z = zs.getD i 0 := ⟨_, rfl⟩
            have hcz : w.cell? ⟨g, i, none⟩ = some (.int .u8 z) := by rw [hz]; exact HC.out i hlt
            have HZ : Hid (zs.getD i 0 = z) := hz.symm
            clear hz
            cases hdz : digB z with
            | true =>
              go_wp2_with (go_at_call 11; refine (digit_any z _).mono ?_; rintro e w ⟨rfl, rfl⟩)
              go_roundg (n - (i + 1))
              case measure => omega
              case rel =>
                refine ⟨i + 1, by omega, by omega, rfl, by go_num, fun j h1 h2 => ?_, rfl⟩
                by_cases e : j = i
                · subst e; rw [HZ.out]; exact hdz
                · exact HD.out j h1 (by omega)
            | false =>
              have HRUN : Hid (IsRun zs 1 i) := ⟨hi0, HD.out, by rw [HZ.out]; exact hdz⟩
              go_wp2_with (go_at_call 11; refine (digit_any z _).mono ?_; rintro e w ⟨rfl, rfl⟩)
              have hq : 1 < i := by
                by_cases e : i = 1
                · subst e; have := HRUN.out.2.2; rw [HD1.out] at this; cases this
                · omega
              have hh := int_road HN48.out HRUN.out hq
              go_meet
              exact ⟨i, 2, rfl, rfl, hh.1, hh.2, by omega, hin, rfl⟩
          · have hni : n = i := by omega
            subst hni
            have HRUN : Hid (IsRun zs 1 n) := ⟨hi0, HD.out, by rw [getD_out HL.out (by omega)]; decide⟩
            have hlti : ¬ (n : Int) < (n : Int) := by omega
            go_wp2_with fail
            have hh := int_road HN48.out HRUN.out (by omega)
            go_meet
            exact ⟨n, 2, rfl, rfl, hh.1, hh.2, by omega, Nat.le_refl _, rfl⟩
      | false =>
        have HE : Hid (PEnd zs n 0 false) := end_no (int_fail (by rw [HZ1.out]; exact hdz1)) (by omega)
        go_wp2_with (go_at_call 11; refine (digit_any z1 _).mono ?_; rintro e w ⟨rfl, rfl⟩)
        go_ret2
        exact ⟨pret 0 false rfl HE.out, rfl⟩
  case rest =>
  obtain ⟨k, s, rfl, rfl, ha, hr, hk1, hkn, rfl⟩ := hcut
  have HA1 : Hid (A1 zs s k) := ha
  have HR1 : Hid (R zs 0 1 = R zs s k) := hr
  clear ha hr c0 c1 HZ1 n1 n0 n1i n0i
  by_cases hke : k = n
  · have hkb : ((k : Int) == (n : Int)) = true := by simp [hke]
    have HE : Hid (PEnd zs n s true) := end_yes (HR1.out.trans (by rw [R_end HL.out (by omega), hke]))
    rcases HA1.out with h1 | ⟨h1, _⟩
    all_goals
      subst h1
      clear hke
      go_wp2
      go_ret2
      exact ⟨pret _ true rfl HE.out, rfl⟩
  have hkb : ((k : Int) == (n : Int)) = false := by simp; omega
  have hkl : k < n := by omega
  have hkli : (k : Int) < (n : Int) := by omega
  obtain ⟨z, hz⟩ : ∃ z, z = zs.getD k 0 := ⟨_, rfl⟩
  have hcz : w.cell? ⟨g, k, none⟩ = some (.int .u8 z) := by rw [hz]; exact HC.out k hkl
  have HZ : Hid (zs.getD k 0 = z) := hz.symm
  clear hz hke
  go_upto_if 52 with fail
  go_cut [5] (fun iv wx => ∃ (k : Nat) (s : Int), iv = .int .i64 k ∧ A2 zs s k ∧ R zs 0 1 = R zs s k ∧ 1 ≤ k ∧ k < n ∧ w = wx)
  case first =>
    by_cases hz46 : z = 46
    · have hb46 : (z == 46) = true := by simp [hz46]
      have HR3 : Hid (R zs 0 1 = R zs 3 (k + 1)) := HR1.out.trans (dot_road HA1.out (HZ.out.trans hz46))
      clear hz46
      by_cases hk1e : k + 1 = n
      · have hk1b : ((k : Int) + 1 == (n : Int)) = true := by simp; omega
        have HE : Hid (PEnd zs n 3 true) := end_yes (HR3.out.trans (by rw [R_end HL.out (by omega), hk1e]))
        clear hk1e
        go_wp2_with fail
        go_ret2
        exact ⟨pret 3 true rfl HE.out, rfl⟩
      · have hk1b : ((k : Int) + 1 == (n : Int)) = false := by simp; omega
        have hk1l : k + 1 < n := by omega
        have hk1li : (k : Int) + 1 < (n : Int) := by omega
        obtain ⟨y, hy⟩ : ∃ y, y = zs.getD (k + 1) 0 := ⟨_, rfl⟩
        have hcy : w.cell? ⟨g, k + 1, none⟩ = some (.int .u8 y) := by rw [hy]; exact HC.out (k + 1) hk1l
        have HY : Hid (zs.getD (k + 1) 0 = y) := hy.symm
        clear hy hk1e
        cases hdy : digB y with
        | true =>
          have HD1 : Hid (digB (zs.getD (k + 1) 0) = true) := by show digB _ = true; rw [HY.out]; exact hdy
          go_wp2_with (go_at_call 11; refine (digit_any y _).mono ?_; rintro e w ⟨rfl, rfl⟩)
          go_loopg [5] (n - (k + 1)) (fun m iv wr => ∃ i : Nat, k + 1 ≤ i ∧ i ≤ n ∧ m = n - i ∧ iv = .int .i64 i ∧ (∀ j, k + 1 ≤ j → j < i → digB (zs.getD j 0) = true) ∧ w = wr)
          case atStart => exact ⟨k + 1, Nat.le_refl _, by omega, rfl, by go_num, fun j h1 h2 => by omega, rfl⟩
          case round =>
            obtain ⟨i, hi0, hin, rfl, rfl, hdg, rfl⟩ := hrel
            have HD : Hid (∀ j, k + 1 ≤ j → j < i → digB (zs.getD j 0) = true) := hdg
            clear hdg
            by_cases hlt : i < n
            · have hlti : (i : Int) < (n : Int) := by omega
              obtain ⟨z, hz⟩ : ∃ z, z = zs.getD i 0 := ⟨_, rfl⟩
              have hcz : w.cell? ⟨g, i, none⟩ = some (.int .u8 z) := by rw [hz]; exact HC.out i hlt
              have HZ : Hid (zs.getD i 0 = z) := hz.symm
              clear hz
              cases hdz : digB z with
              | true =>
                go_wp2_with (go_at_call 11; refine (digit_any z _).mono ?_; rintro e w ⟨rfl, rfl⟩)
                go_roundg (n - (i + 1))
                case measure => omega
                case rel =>
                  refine ⟨i + 1, by omega, by omega, rfl, by go_num, fun j h1 h2 => ?_, rfl⟩
                  by_cases e : j = i
                  · subst e; rw [HZ.out]; exact hdz
                  · exact HD.out j h1 (by omega)
              | false =>
                have HRUN : Hid (IsRun zs (k + 1) i) := ⟨hi0, HD.out, by rw [HZ.out]; exact hdz⟩
                have hin2 : ((i : Int) == (n : Int)) = false := by simp; omega
                go_wp2_with (go_at_call 11; refine (digit_any z _).mono ?_; rintro e w ⟨rfl, rfl⟩)
                have hq : k + 1 < i := by
                  by_cases e : i = k + 1
                  · subst e; have := HRUN.out.2.2; rw [HD1.out] at this; cases this
                  · omega
                have hh := frac_road HRUN.out hq
                go_meet
                exact ⟨i, 4, rfl, hh.1, HR3.out.trans hh.2, by omega, hlt, rfl⟩
            · have hni : n = i := by omega
              subst hni
              have HRUN : Hid (IsRun zs (k + 1) n) := ⟨hi0, HD.out, by rw [getD_out HL.out (by omega)]; decide⟩
              have hlti : ¬ (n : Int) < (n : Int) := by omega
              go_wp2_with fail
              have hh := frac_road HRUN.out (by omega)
              go_ret2
              exact ⟨pret 4 true rfl (end_yes (HR3.out.trans (hh.2.trans (R_end HL.out (by omega))))), rfl⟩
        | false =>
          have HE : Hid (PEnd zs n 0 false) := end_no (HR3.out.trans (frac_fail (by rw [HY.out]; exact hdy))) (by omega)
          go_wp2_with (go_at_call 11; refine (digit_any y _).mono ?_; rintro e w ⟨rfl, rfl⟩)
          go_ret2
          exact ⟨pret 0 false rfl HE.out, rfl⟩
    · have hb46 : (z == 46) = false := by simp [hz46]
      have HA2 : Hid (A2 zs s k) := dot_no HA1.out (by rw [HZ.out]; exact hz46)
      clear hz46
      go_wp2_with fail
      go_meet
      exact ⟨k, s, rfl, HA2.out, HR1.out, hk1, hkl, rfl⟩
  case rest =>
  clear HA1 HR1 hcz HZ hkb hkl hkli hk1 hkn
  obtain ⟨k, s, rfl, ha, hr, hk1, hkl, rfl⟩ := hcut
  have HA2 : Hid (A2 zs s k) := ha
  have HR2 : Hid (R zs 0 1 = R zs s k) := hr
  have hkli : (k : Int) < (n : Int) := by omega
  obtain ⟨z, hz⟩ : ∃ z, z = zs.getD k 0 := ⟨_, rfl⟩
  have hcz : w.cell? ⟨g, k, none⟩ = some (.int .u8 z) := by rw [hz]; exact HC.out k hkl
  have HZ : Hid (zs.getD k 0 = z) := hz.symm
  clear hz ha hr
  have hze : z = 101 ∨ z = 69 ∨ (z ≠ 101 ∧ z ≠ 69) := by omega
  by_cases hzn : z ≠ 101 ∧ z ≠ 69
  · have b101 : (z == 101) = false := by simp [hzn.1]
    have b69 : (z == 69) = false := by simp [hzn.2]
    have HE : Hid (PEnd zs n 0 false) := end_no (HR2.out.trans (e_no HA2.out (by rw [HZ.out]; exact hzn.1) (by rw [HZ.out]; exact hzn.2)).1) (by omega)
    clear hzn hze
    go_wp2
    go_ret2
    exact ⟨pret 0 false rfl HE.out, rfl⟩
  have hz2 : z = 101 ∨ z = 69 := by omega
  have HR5 : Hid (R zs 0 1 = R zs 5 (k + 1)) := HR2.out.trans (e_road HA2.out (by rw [HZ.out]; exact hz2))
  clear hze hzn HA2 HR2 HZ
  go_upto_region 29 with fail
  go_cut [90] (fun c wx => c = .bool true ∧ w = wx)
  case first =>
    rcases hz2 with hz2 | hz2
    · subst hz2
      go_wp2_with fail
      go_meet
      exact ⟨rfl, rfl⟩
    · subst hz2
      go_wp2_with fail
      go_meet
      exact ⟨rfl, rfl⟩
  case rest =>
  obtain ⟨rfl, rfl⟩ := hcut
  clear hcz hz2
  by_cases hk1e : k + 1 = n
  · have hk1b : ((k : Int) + 1 == (n : Int)) = true := by simp; omega
    have HE : Hid (PEnd zs n 5 true) := end_yes (HR5.out.trans (by rw [R_end HL.out (by omega), hk1e]))
    clear hk1e
    go_wp2
    go_ret2
    exact ⟨pret 5 true rfl HE.out, rfl⟩
  have hk1b : ((k : Int) + 1 == (n : Int)) = false := by simp; omega
  have hk1l : k + 1 < n := by omega
  have hk1li : (k : Int) + 1 < (n : Int) := by omega
  obtain ⟨y, hy⟩ : ∃ y, y = zs.getD (k + 1) 0 := ⟨_, rfl⟩
  have hcy : w.cell? ⟨g, k + 1, none⟩ = some (.int .u8 y) := by rw [hy]; exact HC.out (k + 1) hk1l
  have HY : Hid (zs.getD (k + 1) 0 = y) := hy.symm
  clear hy hk1e
  go_upto_region 33 with fail
  obtain ⟨sg, hsg⟩ : ∃ sg : Bool, sg = decide (y = 43 ∨ y = 45) := ⟨_, rfl⟩
  have HSG : Hid (sg = decide (y = 43 ∨ y = 45)) := hsg
  clear hsg
  go_cut [107] (fun c wx => c = .bool sg ∧ w = wx)
  case first =>
    by_cases h43 : y = 43
    · subst h43
      go_wp2_with fail
      go_meet
      exact ⟨by rw [HSG.out]; rfl, rfl⟩
    · by_cases h45 : y = 45
      · subst h45
        go_wp2_with fail
        go_meet
        exact ⟨by rw [HSG.out]; rfl, rfl⟩
      · have b43 : (y == 43) = false := by simp [h43]
        have b45 : (y == 45) = false := by simp [h45]
        have hdec : sg = false := by rw [HSG.out]; simp [h43, h45]
        clear h43 h45 HSG
        subst hdec
        go_wp2_with fail
        go_meet
        exact ⟨rfl, rfl⟩
  case rest =>
  obtain ⟨rfl, rfl⟩ := hcut
  clear hcy
  go_upto_if 107 with fail
  go_cut [5] (fun iv wx => ∃ (m : Nat) (s : Int), iv = .int .i64 m ∧ A5 zs s m ∧ R zs 0 1 = R zs s m ∧ 1 ≤ m ∧ m < n ∧ w = wx)
  case first =>
    by_cases hs : y = 43 ∨ y = 45
    · have hdec : sg = true := by rw [HSG.out]; exact decide_eq_true hs
      have hh := sign_road (zs := zs) (i := k + 1) (by rw [HY.out]; exact hs)
      have HA6 : Hid (A5 zs 6 (k + 1 + 1)) := hh.1
      have HR6 : Hid (R zs 0 1 = R zs 6 (k + 1 + 1)) := HR5.out.trans hh.2
      clear HSG
      subst hdec
      clear hs hh
      by_cases hk2e : k + 2 = n
      · have hk2b : ((k : Int) + 1 + 1 == (n : Int)) = true := by simp; omega
        have HE : Hid (PEnd zs n 6 true) := end_yes (HR6.out.trans (by rw [R_end HL.out (by omega), ← hk2e]))
        clear hk2e
        go_wp2_with fail
        go_ret2
        exact ⟨pret 6 true rfl HE.out, rfl⟩
      · have hk2b : ((k : Int) + 1 + 1 == (n : Int)) = false := by simp; omega
        go_wp2_with fail
        go_meet
        exact ⟨k + 1 + 1, 6, by go_num, HA6.out, HR6.out, by omega, by omega, rfl⟩
    · have hdec : sg = false := by rw [HSG.out]; exact decide_eq_false hs
      have HA5 : Hid (A5 zs 5 (k + 1)) := .inr ⟨rfl, by rw [HY.out]; omega, by rw [HY.out]; omega⟩
      clear HSG
      subst hdec
      clear hs
      go_wp2_with fail
      go_meet
      exact ⟨k + 1, 5, by go_num, HA5.out, HR5.out, by omega, hk1l, rfl⟩
  case rest =>
  clear HY HSG HR5 hk1b hk1l hk1li hk1 hkl hkli
  obtain ⟨m, s, rfl, ha, hr, hm1, hml, rfl⟩ := hcut
  have HA5 : Hid (A5 zs s m) := ha
  have HR5 : Hid (R zs 0 1 = R zs s m) := hr
  have hmli : (m : Int) < (n : Int) := by omega
  obtain ⟨x, hx⟩ : ∃ x, x = zs.getD m 0 := ⟨_, rfl⟩
  have hcx : w.cell? ⟨g, m, none⟩ = some (.int .u8 x) := by rw [hx]; exact HC.out m hml
  have HX : Hid (zs.getD m 0 = x) := hx.symm
  clear hx ha hr
  cases hdx : digB x with
  | true =>
    have HD1 : Hid (digB (zs.getD m 0) = true) := by show digB _ = true; rw [HX.out]; exact hdx
    go_wp2_with (go_at_call 11; refine (digit_any x _).mono ?_; rintro e w ⟨rfl, rfl⟩)
    go_loopg [5] (n - (m)) (fun mm iv wr => ∃ i : Nat, m ≤ i ∧ i ≤ n ∧ mm = n - i ∧ iv = .int .i64 i ∧ (∀ j, m ≤ j → j < i → digB (zs.getD j 0) = true) ∧ w = wr)
    case atStart => exact ⟨m, Nat.le_refl _, by omega, rfl, by go_num, fun j h1 h2 => by omega, rfl⟩
    case round =>
      obtain ⟨i, hi0, hin, rfl, rfl, hdg, rfl⟩ := hrel
      have HD : Hid (∀ j, m ≤ j → j < i → digB (zs.getD j 0) = true) := hdg
      clear hdg
      by_cases hlt : i < n
      · have hlti : (i : Int) < (n : Int) := by omega
        obtain ⟨z, hz⟩ : ∃ z, z = zs.getD i 0 := ⟨_, rfl⟩
        have hcz : w.cell? ⟨g, i, none⟩ = some (.int .u8 z) := by rw [hz]; exact HC.out i hlt
        have HZ : Hid (zs.getD i 0 = z) := hz.symm
        clear hz
        cases hdz : digB z with
        | true =>
          go_wp2_with (go_at_call 11; refine (digit_any z _).mono ?_; rintro e w ⟨rfl, rfl⟩)
          go_roundg (n - (i + 1))
          case measure => omega
          case rel =>
            refine ⟨i + 1, by omega, by omega, rfl, by go_num, fun j h1 h2 => ?_, rfl⟩
            by_cases e : j = i
            · subst e; rw [HZ.out]; exact hdz
            · exact HD.out j h1 (by omega)
        | false =>
          have HRUN : Hid (IsRun zs (m) i) := ⟨hi0, HD.out, by rw [HZ.out]; exact hdz⟩
          have hin2 : ((i : Int) == (n : Int)) = false := by simp; omega
          go_wp2_with (go_at_call 11; refine (digit_any z _).mono ?_; rintro e w ⟨rfl, rfl⟩)
          have hq : m < i := by
            by_cases e : i = m
            · subst e; have := HRUN.out.2.2; rw [HD1.out] at this; cases this
            · omega
          have hh := exp_road HA5.out HRUN.out hq
          go_ret2
          exact ⟨pret 0 false rfl (end_no (HR5.out.trans hh) (by omega)), rfl⟩
      · have hni : n = i := by omega
        subst hni
        have HRUN : Hid (IsRun zs (m) n) := ⟨hi0, HD.out, by rw [getD_out HL.out (by omega)]; decide⟩
        have hlti : ¬ (n : Int) < (n : Int) := by omega
        go_wp2_with fail
        have hh := exp_road HA5.out HRUN.out (by omega)
        go_ret2
        exact ⟨pret 7 true rfl (end_yes (HR5.out.trans hh)), rfl⟩
  | false =>
    have HE : Hid (PEnd zs n 0 false) := end_no (HR5.out.trans (exp_fail HA5.out (by rw [HX.out]; exact hdx))) (by omega)
    go_wp2_with (go_at_call 11; refine (digit_any x _).mono ?_; rintro e w ⟨rfl, rfl⟩)
    go_ret2
    exact ⟨pret 0 false rfl HE.out, rfl⟩
end Nq
end Go.Proofs.Qxb6602846a
