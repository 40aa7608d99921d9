/-
  Seat b6602846a: isJSONNumber, over any string of at most 1048576 bytes.
-/
import Derived.Test.Qxb6602846aCanon
import Derived.Deep.DeepCutAuto
namespace Go.Proofs.Qxb6602846a
open Go.ChangeShapes Go.WideShapes Go.ChangeAt Go.RowKit

namespace Nq

/-- Where a number's digits begin: behind a minus sign. -/
def i0Of (zs : List Int) : Nat := if zs.getD 0 0 = 45 then 1 else 0

/-- b says whether the run from there takes all and ends in a phase in which a number may end. -/
def JEnd (zs : List Int) (n : Nat) (b : Bool) : Prop := ∃ s q, R zs 0 (i0Of zs) = (s, q) ∧ b = (decide (q = n) && acc s)

/-- It returns that. -/
def JRet (zs : List Int) (n : Nat) (e : Ending) : Prop := ∃ b : Bool, e = .returned (.bool b) ∧ JEnd zs n b
theorem jret {zs : List Int} {n : Nat} {e : Ending} (b : Bool) (h : e = .returned (.bool b)) (h2 : JEnd zs n b) : JRet zs n e := ⟨b, h, h2⟩

theorem jno {zs : List Int} {n q : Nat} {s : Int} (h : R zs 0 (i0Of zs) = (s, q)) (ha : acc s = false) : JEnd zs n false := ⟨s, q, h, by simp [ha]⟩
theorem jyes {zs : List Int} {n q : Nat} {s : Int} (h : R zs 0 (i0Of zs) = (s, q)) (ha : acc s = true) : JEnd zs n (decide (q = n)) := ⟨s, q, h, by simp [ha]⟩

theorem beq_nat (i n : Nat) : ((i : Int) == (n : Int)) = decide (i = n) := by
  by_cases h : i = n
  · subst h; simp
  · rw [decide_eq_false h]; simp; omega

theorem zs_out (s : ByteArray) (k : Nat) (h : ¬ k < s.size) : (zsOf s).getD k 0 = 0 := getD_out (zs_len s) h

set_option maxRecDepth 100000 in
set_option maxHeartbeats 4000000 in
theorem json_any (s : ByteArray) (w : World) (hn : s.size ≤ 1048576) :
    Calls Try.prog 12 #[.string s] w fun e w' => JRet (zsOf s) s.size e ∧ w' = w := by
  obtain ⟨zs, hzs⟩ : ∃ zs, zs = zsOf s := ⟨_, rfl⟩
  have HL : Hid (zs.length = s.size) := by rw [hzs]; exact zs_len s
  have HG : Hid (∀ (k : Nat) (h : k < s.size), ((s[k]'h).toNat : Int) = zs.getD k 0) := by rw [hzs]; exact zs_get s
  have HO : Hid (∀ k, ¬ k < s.size → zs.getD k 0 = 0) := by rw [hzs]; exact zs_out s
  rw [← hzs]
  clear hzs
  obtain ⟨i0, hi0⟩ : ∃ i, i = i0Of zs := ⟨_, rfl⟩
  have HI : Hid (i0Of zs = i0) := hi0.symm
  clear hi0
  by_cases h0 : s.size = 0
  · have h0i : ¬ (0 : Int) < (s.size : Int) := by omega
    have h0b : ((0 : Int) == (s.size : Int)) = true := by simp [h0]
    have h00 : zs.getD 0 0 = 0 := HO.out 0 (by omega)
    have HE : Hid (JEnd zs s.size false) := by
      have e : i0Of zs = 0 := by unfold i0Of; rw [if_neg (by rw [h00]; omega)]
      exact jno (s := 0) (q := 0) (by rw [e]; exact R_end HL.out (by omega)) rfl
    clear h0 h00
    go_enter Try.func12, Try.ntmps12
    go_wp2
    go_ret
    exact ⟨jret false rfl HE.out, rfl⟩
  have hpos : 0 < s.size := by omega
  have hposi : (0 : Int) < (s.size : Int) := by omega
  obtain ⟨z0, hz0⟩ : ∃ z, z = zs.getD 0 0 := ⟨_, rfl⟩
  have hg0 : ((s[0]'hpos).toNat : Int) = z0 := by rw [hz0]; exact HG.out 0 hpos
  have HZ0 : Hid (zs.getD 0 0 = z0) := hz0.symm
  have hi1 : i0 ≤ 1 := by
    rw [← HI.out]; unfold i0Of; split <;> omega
  clear hz0 h0
  go_enter Try.func12, Try.ntmps12
  go_upto_if 15 with fail
  go_cut [4] (fun iv wx => iv = .int .i64 i0 ∧ w = wx)
  case first =>
    by_cases h45 : z0 = 45
    · have hb : (z0 == 45) = true := by simp [h45]
      have he : i0 = 1 := by rw [← HI.out]; unfold i0Of; rw [HZ0.out, if_pos h45]
      clear h45 HI
      subst he
      go_wp2_with fail
      go_meet
      exact ⟨rfl, rfl⟩
    · have hb : (z0 == 45) = false := by simp [h45]
      have he : i0 = 0 := by rw [← HI.out]; unfold i0Of; rw [HZ0.out, if_neg h45]
      clear h45 HI
      subst he
      go_wp2_with fail
      go_meet
      exact ⟨rfl, rfl⟩
  case rest =>
  obtain ⟨rfl, rfl⟩ := hcut
  clear hg0 HZ0 hposi
  by_cases hie : i0 = s.size
  · have hib : ((i0 : Int) == (s.size : Int)) = true := by simp [hie]
    have HE : Hid (JEnd zs s.size false) := jno (s := 0) (q := i0) (by rw [HI.out]; exact R_end HL.out (by omega)) rfl
    clear hie
    go_wp2
    go_ret
    exact ⟨jret false rfl HE.out, rfl⟩
  have hib : ((i0 : Int) == (s.size : Int)) = false := by simp; omega
  have hil : i0 < s.size := by omega
  have hili : (i0 : Int) < (s.size : Int) := by omega
  obtain ⟨z, hz⟩ : ∃ z, z = zs.getD i0 0 := ⟨_, rfl⟩
  have hgz : ((s[i0]'hil).toNat : Int) = z := by rw [hz]; exact HG.out i0 hil
  have HZ : Hid (zs.getD i0 0 = z) := hz.symm
  obtain ⟨bz, hbz⟩ : ∃ b : Bool, b = (z == 48) := ⟨_, rfl⟩
  have hbr : (z == 48) = bz := hbz.symm
  have HBZ : Hid (bz = (z == 48)) := hbz
  clear hz hie hbz
  go_upto_if 24 with fail
  clear hbr
  go_cut [4] (fun iv wx => ∃ (k : Nat) (t : Int), iv = .int .i64 k ∧ A1 zs t k ∧ R zs 0 i0 = R zs t k ∧ k ≤ s.size ∧ w = wx)
  case first =>
    by_cases hz48 : z = 48
    · have hb48 : bz = true := by rw [HBZ.out]; simp [hz48]
      clear HBZ
      subst hb48
      have hh := zero_road (zs := zs) (i := i0) (HZ.out.trans hz48)
      have HA : Hid (A1 zs 1 (i0 + 1)) := hh.1
      have HR : Hid (R zs 0 i0 = R zs 1 (i0 + 1)) := hh.2
      clear hz48 hh
      go_wp2_with fail
      go_meet
      exact ⟨i0 + 1, 1, by go_num, HA.out, HR.out, by omega, rfl⟩
    · have hb48 : bz = false := by rw [HBZ.out]; simp [hz48]
      clear HBZ
      subst hb48
      have HN48 : Hid (zs.getD i0 0 ≠ 48) := by show zs.getD i0 0 ≠ 48; rw [HZ.out]; exact hz48
      cases hdz0 : digB z with
      | true =>
        have HD1 : Hid (digB (zs.getD i0 0) = true) := by show digB _ = true; rw [HZ.out]; exact hdz0
        have hrg := digB_yes.1 hdz0
        have hr1 : 49 ≤ z := by omega
        have hr2 : z ≤ 57 := hrg.2
        clear hrg hdz0 hz48
        go_wp2_with fail
        clear hr1 hr2
        go_loopg [4] (s.size - (i0)) (fun mm iv wr => ∃ i : Nat, i0 ≤ i ∧ i ≤ s.size ∧ mm = s.size - i ∧ iv = .int .i64 i ∧ (∀ j, i0 ≤ j → j < i → digB (zs.getD j 0) = true) ∧ w = wr)
        case atStart => exact ⟨i0, Nat.le_refl _, by omega, rfl, by go_num, fun j h1 h2 => by omega, rfl⟩
        case round =>
          obtain ⟨i, hi0, hin, rfl, rfl, hdg, rfl⟩ := hrel
          have HD : Hid (∀ j, i0 ≤ j → j < i → digB (zs.getD j 0) = true) := hdg
          clear hdg
          by_cases hlt : i < s.size
          · have hlti : (i : Int) < (s.size : Int) := by omega
            obtain ⟨zz, hz⟩ : ∃ z, z = zs.getD i 0 := ⟨_, rfl⟩
            have hgz : ((s[i]'hlt).toNat : Int) = zz := by rw [hz]; exact HG.out i hlt
            have HZZ : Hid (zs.getD i 0 = zz) := hz.symm
            clear hz
            cases hdz : digB zz with
            | true =>
              go_wp2_with (go_at_call 11; refine (digit_any zz _).mono ?_; rintro e w ⟨rfl, rfl⟩)
              go_roundg (s.size - (i + 1))
              case measure => omega
              case rel =>
                refine ⟨i + 1, by omega, by omega, rfl, by go_num, fun j h1 h2 => ?_, rfl⟩
                by_cases e : j = i
                · subst e; rw [HZZ.out]; exact hdz
                · exact HD.out j h1 (by omega)
            | false =>
              have HRUN : Hid (IsRun zs (i0) i) := ⟨hi0, HD.out, by rw [HZZ.out]; exact hdz⟩
              go_wp2_with (go_at_call 11; refine (digit_any zz _).mono ?_; rintro e w ⟨rfl, rfl⟩)
              have hq : i0 < i := by
                by_cases e : i = i0
                · subst e; have := HRUN.out.2.2; rw [HD1.out] at this; cases this
                · omega
              have hh := int_road HN48.out HRUN.out hq
              go_meet
              exact ⟨i, 2, rfl, hh.1, hh.2, by omega, rfl⟩
          · have hie : i = s.size := by omega
            subst hie
            have HRUN : Hid (IsRun zs (i0) s.size) := ⟨hi0, HD.out, by rw [getD_out HL.out (by omega)]; decide⟩
            have hlti : ¬ (s.size : Int) < (s.size : Int) := by omega
            go_wp2_with fail
            have hh := int_road HN48.out HRUN.out (by omega)
            go_meet
            exact ⟨s.size, 2, rfl, hh.1, hh.2, Nat.le_refl _, rfl⟩
      | false =>
        have HE : Hid (JEnd zs s.size false) := jno (s := 0) (q := i0) (by rw [HI.out]; exact int_fail (by rw [HZ.out]; exact hdz0)) rfl
        have hrg := digB_no.1 hdz0
        have hr : z < 49 ∨ 57 < z := by omega
        clear hrg hdz0 hz48
        rcases hr with hr | hr
        all_goals
          go_wp2_with fail
          go_ret
          exact ⟨jret false rfl HE.out, rfl⟩
  case rest =>
  clear hgz HZ HBZ hib hil hili
  obtain ⟨k, t, rfl, ha, hr, hkn, rfl⟩ := hcut
  have HA1 : Hid (A1 zs t k) := ha
  have HR1 : Hid (R zs 0 i0 = R zs t k) := hr
  clear ha hr
  go_upto_region 13 with fail
  obtain ⟨dot, hdot⟩ : ∃ d : Bool, d = decide (zs.getD k 0 = 46) := ⟨_, rfl⟩
  have HDOT : Hid (dot = decide (zs.getD k 0 = 46)) := hdot
  clear hdot
  go_cut [56] (fun c wx => c = .bool dot ∧ w = wx)
  case first =>
    by_cases hlt : k < s.size
    · have hlti : (k : Int) < (s.size : Int) := by omega
      obtain ⟨z, hz⟩ : ∃ z, z = zs.getD k 0 := ⟨_, rfl⟩
      have hgz : ((s[k]'hlt).toNat : Int) = z := by rw [hz]; exact HG.out k hlt
      have hdz : dot = decide (z = 46) := by rw [hz]; exact HDOT.out
      clear hz HDOT
      by_cases h46 : z = 46
      · have hb : (z == 46) = true := by simp [h46]
        have hd : dot = true := by rw [hdz]; simp [h46]
        clear h46 hdz
        subst hd
        go_wp2_with fail
        go_meet
        exact ⟨rfl, rfl⟩
      · have hb : (z == 46) = false := by simp [h46]
        have hd : dot = false := by rw [hdz]; simp [h46]
        clear h46 hdz
        subst hd
        go_wp2_with fail
        go_meet
        exact ⟨rfl, rfl⟩
    · have hlti : ¬ (k : Int) < (s.size : Int) := by omega
      have hd : dot = false := by rw [HDOT.out, HO.out k hlt]; rfl
      clear HDOT
      subst hd
      go_wp2_with fail
      go_meet
      exact ⟨rfl, rfl⟩
  case rest =>
  obtain ⟨rfl, rfl⟩ := hcut
  go_upto_if 56 with fail
  go_cut [4] (fun iv wx => ∃ (k : Nat) (t : Int), iv = .int .i64 k ∧ A2 zs t k ∧ R zs 0 i0 = R zs t k ∧ k ≤ s.size ∧ w = wx)
  case first =>
    by_cases h46 : zs.getD k 0 = 46
    · have hd : dot = true := by rw [HDOT.out]; exact decide_eq_true h46
      have hkl : k < s.size := by
        by_cases e : k < s.size
        · exact e
        · rw [HO.out k e] at h46; omega
      have HR3 : Hid (R zs 0 i0 = R zs 3 (k + 1)) := HR1.out.trans (dot_road HA1.out h46)
      clear h46 HDOT
      subst hd
      by_cases hke : k + 1 = s.size
      · have hkb : ((k : Int) + 1 == (s.size : Int)) = true := by simp; omega
        have HE : Hid (JEnd zs s.size false) := jno (s := 3) (q := k + 1) (by rw [HI.out]; exact HR3.out.trans (R_end HL.out (by omega))) rfl
        clear hke
        go_wp2_with fail
        go_ret
        exact ⟨jret false rfl HE.out, rfl⟩
      · have hkb : ((k : Int) + 1 == (s.size : Int)) = false := by simp; omega
        have hk1l : k + 1 < s.size := by omega
        have hk1li : (k : Int) + 1 < (s.size : Int) := by omega
        obtain ⟨y, hy⟩ : ∃ y, y = zs.getD (k + 1) 0 := ⟨_, rfl⟩
        have hgy : ((s[k + 1]'hk1l).toNat : Int) = y := by rw [hy]; exact HG.out (k + 1) hk1l
        have HY : Hid (zs.getD (k + 1) 0 = y) := hy.symm
        clear hy hke
        cases hdy : digB y with
        | true =>
          have HD1 : Hid (digB (zs.getD (k + 1) 0) = true) := by show digB _ = true; rw [HY.out]; exact hdy
          go_wp2_with (go_at_call 11; refine (digit_any y _).mono ?_; rintro e w ⟨rfl, rfl⟩)
          go_loopg [4] (s.size - (k + 1)) (fun mm iv wr => ∃ i : Nat, k + 1 ≤ i ∧ i ≤ s.size ∧ mm = s.size - i ∧ iv = .int .i64 i ∧ (∀ j, k + 1 ≤ j → j < i → digB (zs.getD j 0) = true) ∧ w = wr)
          case atStart => exact ⟨k + 1, Nat.le_refl _, by omega, rfl, by go_num, fun j h1 h2 => by omega, rfl⟩
          case round =>
            obtain ⟨i, hi0, hin, rfl, rfl, hdg, rfl⟩ := hrel
            have HD : Hid (∀ j, k + 1 ≤ j → j < i → digB (zs.getD j 0) = true) := hdg
            clear hdg
            by_cases hlt : i < s.size
            · have hlti : (i : Int) < (s.size : Int) := by omega
              obtain ⟨zz, hz⟩ : ∃ z, z = zs.getD i 0 := ⟨_, rfl⟩
              have hgz : ((s[i]'hlt).toNat : Int) = zz := by rw [hz]; exact HG.out i hlt
              have HZZ : Hid (zs.getD i 0 = zz) := hz.symm
              clear hz
              cases hdz : digB zz with
              | true =>
                go_wp2_with (go_at_call 11; refine (digit_any zz _).mono ?_; rintro e w ⟨rfl, rfl⟩)
                go_roundg (s.size - (i + 1))
                case measure => omega
                case rel =>
                  refine ⟨i + 1, by omega, by omega, rfl, by go_num, fun j h1 h2 => ?_, rfl⟩
                  by_cases e : j = i
                  · subst e; rw [HZZ.out]; exact hdz
                  · exact HD.out j h1 (by omega)
              | false =>
                have HRUN : Hid (IsRun zs (k + 1) i) := ⟨hi0, HD.out, by rw [HZZ.out]; exact hdz⟩
                go_wp2_with (go_at_call 11; refine (digit_any zz _).mono ?_; rintro e w ⟨rfl, rfl⟩)
                have hq : k + 1 < i := by
                  by_cases e : i = k + 1
                  · subst e; have := HRUN.out.2.2; rw [HD1.out] at this; cases this
                  · omega
                have hh := frac_road HRUN.out hq
                go_meet
                exact ⟨i, 4, rfl, hh.1, HR3.out.trans hh.2, by omega, rfl⟩
            · have hie : i = s.size := by omega
              subst hie
              have HRUN : Hid (IsRun zs (k + 1) s.size) := ⟨hi0, HD.out, by rw [getD_out HL.out (by omega)]; decide⟩
              have hlti : ¬ (s.size : Int) < (s.size : Int) := by omega
              go_wp2_with fail
              have hh := frac_road HRUN.out (by omega)
              go_meet
              exact ⟨s.size, 4, rfl, hh.1, HR3.out.trans hh.2, Nat.le_refl _, rfl⟩
        | false =>
          have HE : Hid (JEnd zs s.size false) := jno (s := 3) (q := k + 1) (by rw [HI.out]; exact HR3.out.trans (frac_fail (by rw [HY.out]; exact hdy))) rfl
          go_wp2_with (go_at_call 11; refine (digit_any y _).mono ?_; rintro e w ⟨rfl, rfl⟩)
          go_ret
          exact ⟨jret false rfl HE.out, rfl⟩
    · have hd : dot = false := by rw [HDOT.out]; exact decide_eq_false h46
      have HA2 : Hid (A2 zs t k) := dot_no HA1.out h46
      clear h46 HDOT
      subst hd
      go_wp2_with fail
      go_meet
      exact ⟨k, t, rfl, HA2.out, HR1.out, hkn, rfl⟩
  case rest =>
  clear HA1 HR1 HDOT hkn
  obtain ⟨k, t, rfl, ha, hr, hkn, rfl⟩ := hcut
  have HA2 : Hid (A2 zs t k) := ha
  have HR2 : Hid (R zs 0 i0 = R zs t k) := hr
  clear ha hr
  go_upto_region 19 with fail
  obtain ⟨ex, hex⟩ : ∃ d : Bool, d = decide (zs.getD k 0 = 101 ∨ zs.getD k 0 = 69) := ⟨_, rfl⟩
  have HEX : Hid (ex = decide (zs.getD k 0 = 101 ∨ zs.getD k 0 = 69)) := hex
  clear hex
  go_cut [94] (fun c wx => c = .bool ex ∧ w = wx)
  case first =>
    by_cases hlt : k < s.size
    · have hlti : (k : Int) < (s.size : Int) := by omega
      obtain ⟨z, hz⟩ : ∃ z, z = zs.getD k 0 := ⟨_, rfl⟩
      have hgz : ((s[k]'hlt).toNat : Int) = z := by rw [hz]; exact HG.out k hlt
      have hdz : ex = decide (z = 101 ∨ z = 69) := by rw [hz]; exact HEX.out
      clear hz HEX
      by_cases h1 : z = 101
      · have hb : (z == 101) = true := by simp [h1]
        have hd : ex = true := by rw [hdz]; simp [h1]
        clear h1 hdz
        subst hd
        go_wp2_with fail
        go_meet
        exact ⟨rfl, rfl⟩
      · have hb : (z == 101) = false := by simp [h1]
        by_cases h2 : z = 69
        · have hb2 : (z == 69) = true := by simp [h2]
          have hd : ex = true := by rw [hdz]; simp [h2]
          clear h1 h2 hdz
          subst hd
          go_wp2_with fail
          go_meet
          exact ⟨rfl, rfl⟩
        · have hb2 : (z == 69) = false := by simp [h2]
          have hd : ex = false := by rw [hdz]; simp [h1, h2]
          clear h1 h2 hdz
          subst hd
          go_wp2_with fail
          go_meet
          exact ⟨rfl, rfl⟩
    · have hlti : ¬ (k : Int) < (s.size : Int) := by omega
      have hd : ex = false := by rw [HEX.out, HO.out k hlt]; rfl
      clear HEX
      subst hd
      go_wp2_with fail
      go_meet
      exact ⟨rfl, rfl⟩
  case rest =>
  obtain ⟨rfl, rfl⟩ := hcut
  by_cases he : zs.getD k 0 = 101 ∨ zs.getD k 0 = 69
  case neg =>
    have hd : ex = false := by rw [HEX.out]; exact decide_eq_false he
    have hh := e_no HA2.out (fun e => he (.inl e)) (fun e => he (.inr e))
    have HE : Hid (JEnd zs s.size (decide (k = s.size))) := jyes (by rw [HI.out]; exact HR2.out.trans hh.1) hh.2
    clear he HEX hh
    subst hd
    go_wp2
    go_ret
    exact ⟨jret (decide (k = s.size)) (ret_b (beq_nat k s.size)) HE.out, rfl⟩
  have hd : ex = true := by rw [HEX.out]; exact decide_eq_true he
  have hkl : k < s.size := by
    by_cases e : k < s.size
    · exact e
    · rw [HO.out k e] at he; omega
  have HR5 : Hid (R zs 0 i0 = R zs 5 (k + 1)) := HR2.out.trans (e_road HA2.out he)
  clear he HEX HR2 HA2
  subst hd
  go_upto_region 21 with fail
  obtain ⟨sg, hsg⟩ : ∃ d : Bool, d = decide (zs.getD (k + 1) 0 = 43 ∨ zs.getD (k + 1) 0 = 45) := ⟨_, rfl⟩
  have HSG : Hid (sg = decide (zs.getD (k + 1) 0 = 43 ∨ zs.getD (k + 1) 0 = 45)) := hsg
  clear hsg
  go_cut [111] (fun c wx => c = .bool sg ∧ w = wx)
  case first =>
    by_cases hlt : k + 1 < s.size
    · have hlti : (k : Int) + 1 < (s.size : Int) := by omega
      obtain ⟨z, hz⟩ : ∃ z, z = zs.getD (k + 1) 0 := ⟨_, rfl⟩
      have hgz : ((s[k + 1]'hlt).toNat : Int) = z := by rw [hz]; exact HG.out (k + 1) hlt
      have hdz : sg = decide (z = 43 ∨ z = 45) := by rw [hz]; exact HSG.out
      clear hz HSG
      by_cases h1 : z = 43
      · have hb : (z == 43) = true := by simp [h1]
        have hd : sg = true := by rw [hdz]; simp [h1]
        clear h1 hdz
        subst hd
        go_wp2_with fail
        go_meet
        exact ⟨rfl, rfl⟩
      · have hb : (z == 43) = false := by simp [h1]
        by_cases h2 : z = 45
        · have hb2 : (z == 45) = true := by simp [h2]
          have hd : sg = true := by rw [hdz]; simp [h2]
          clear h1 h2 hdz
          subst hd
          go_wp2_with fail
          go_meet
          exact ⟨rfl, rfl⟩
        · have hb2 : (z == 45) = false := by simp [h2]
          have hd : sg = false := by rw [hdz]; simp [h1, h2]
          clear h1 h2 hdz
          subst hd
          go_wp2_with fail
          go_meet
          exact ⟨rfl, rfl⟩
    · have hlti : ¬ (k : Int) + 1 < (s.size : Int) := by omega
      have hd : sg = false := by rw [HSG.out, HO.out (k + 1) hlt]; rfl
      clear HSG
      subst hd
      go_wp2_with fail
      go_meet
      exact ⟨rfl, rfl⟩
  case rest =>
  obtain ⟨rfl, rfl⟩ := hcut
  go_upto_if 111 with fail
  go_cut [4] (fun iv wx => ∃ (m : Nat) (t : Int), iv = .int .i64 m ∧ A5 zs t m ∧ R zs 0 i0 = R zs t m ∧ m ≤ s.size ∧ w = wx)
  case first =>
    by_cases hs : zs.getD (k + 1) 0 = 43 ∨ zs.getD (k + 1) 0 = 45
    · have hd : sg = true := by rw [HSG.out]; exact decide_eq_true hs
      have hkl1 : k + 1 < s.size := by
        by_cases e : k + 1 < s.size
        · exact e
        · rw [HO.out (k + 1) e] at hs; omega
      have hh := sign_road hs
      have HA6 : Hid (A5 zs 6 (k + 1 + 1)) := hh.1
      have HR6 : Hid (R zs 0 i0 = R zs 6 (k + 1 + 1)) := HR5.out.trans hh.2
      clear hs HSG hh
      subst hd
      go_wp2_with fail
      go_meet
      exact ⟨k + 1 + 1, 6, by go_num, HA6.out, HR6.out, by omega, rfl⟩
    · have hd : sg = false := by rw [HSG.out]; exact decide_eq_false hs
      have HA5 : Hid (A5 zs 5 (k + 1)) := .inr ⟨rfl, fun e => hs (.inl e), fun e => hs (.inr e)⟩
      clear hs HSG
      subst hd
      go_wp2_with fail
      go_meet
      exact ⟨k + 1, 5, by go_num, HA5.out, HR5.out, by omega, rfl⟩
  case rest =>
  clear HSG HR5 hkl hkn
  obtain ⟨m, t, rfl, ha, hr, hmn, rfl⟩ := hcut
  have HA5 : Hid (A5 zs t m) := ha
  have HR5 : Hid (R zs 0 i0 = R zs t m) := hr
  have hacc : acc t = false := by rcases ha with rfl | ⟨rfl, _⟩ <;> rfl
  have HACC : Hid (acc t = false) := hacc
  clear ha hr hacc
  by_cases hme : m = s.size
  · have hmb : ((m : Int) == (s.size : Int)) = true := by simp [hme]
    have HE : Hid (JEnd zs s.size false) := jno (s := t) (q := m) (by rw [HI.out]; exact HR5.out.trans (R_end HL.out (by omega))) HACC.out
    clear hme
    go_wp2
    go_ret
    exact ⟨jret false rfl HE.out, rfl⟩
  have hmb : ((m : Int) == (s.size : Int)) = false := by simp; omega
  have hml : m < s.size := by omega
  have hmli : (m : Int) < (s.size : Int) := by omega
  obtain ⟨x, hx⟩ : ∃ x, x = zs.getD m 0 := ⟨_, rfl⟩
  have hgx : ((s[m]'hml).toNat : Int) = x := by rw [hx]; exact HG.out m hml
  have HX : Hid (zs.getD m 0 = x) := hx.symm
  clear hx hme
  cases hdx : digB x with
  | true =>
    have HD1 : Hid (digB (zs.getD m 0) = true) := by show digB _ = true; rw [HX.out]; exact hdx
    go_wp2_with (go_at_call 11; refine (digit_any x _).mono ?_; rintro e w ⟨rfl, rfl⟩)
    go_loopg [4] (s.size - (m)) (fun mm iv wr => ∃ i : Nat, m ≤ i ∧ i ≤ s.size ∧ mm = s.size - i ∧ iv = .int .i64 i ∧ (∀ j, m ≤ j → j < i → digB (zs.getD j 0) = true) ∧ w = wr)
    case atStart => exact ⟨m, Nat.le_refl _, by omega, rfl, by go_num, fun j h1 h2 => by omega, rfl⟩
    case round =>
      obtain ⟨i, hi0, hin, rfl, rfl, hdg, rfl⟩ := hrel
      have HD : Hid (∀ j, m ≤ j → j < i → digB (zs.getD j 0) = true) := hdg
      clear hdg
      by_cases hlt : i < s.size
      · have hlti : (i : Int) < (s.size : Int) := by omega
        obtain ⟨zz, hz⟩ : ∃ z, z = zs.getD i 0 := ⟨_, rfl⟩
        have hgz : ((s[i]'hlt).toNat : Int) = zz := by rw [hz]; exact HG.out i hlt
        have HZZ : Hid (zs.getD i 0 = zz) := hz.symm
        clear hz
        cases hdz : digB zz with
        | true =>
          go_wp2_with (go_at_call 11; refine (digit_any zz _).mono ?_; rintro e w ⟨rfl, rfl⟩)
          go_roundg (s.size - (i + 1))
          case measure => omega
          case rel =>
            refine ⟨i + 1, by omega, by omega, rfl, by go_num, fun j h1 h2 => ?_, rfl⟩
            by_cases e : j = i
            · subst e; rw [HZZ.out]; exact hdz
            · exact HD.out j h1 (by omega)
        | false =>
          have HRUN : Hid (IsRun zs (m) i) := ⟨hi0, HD.out, by rw [HZZ.out]; exact hdz⟩
          go_wp2_with (go_at_call 11; refine (digit_any zz _).mono ?_; rintro e w ⟨rfl, rfl⟩)
          have hq : m < i := by
            by_cases e : i = m
            · subst e; have := HRUN.out.2.2; rw [HD1.out] at this; cases this
            · omega
          have hh := exp_road HA5.out HRUN.out hq
          have HE : JEnd zs s.size (decide (i = s.size)) := jyes (by rw [HI.out]; exact HR5.out.trans hh) rfl
          go_ret
          exact ⟨jret (decide (i = s.size)) (ret_b (beq_nat i s.size)) HE, rfl⟩
      · have hie : i = s.size := by omega
        subst hie
        have HRUN : Hid (IsRun zs (m) s.size) := ⟨hi0, HD.out, by rw [getD_out HL.out (by omega)]; decide⟩
        have hlti : ¬ (s.size : Int) < (s.size : Int) := by omega
        go_wp2_with fail
        have hh := exp_road HA5.out HRUN.out (by omega)
        have HE : JEnd zs s.size (decide (s.size = s.size)) := jyes (by rw [HI.out]; exact HR5.out.trans hh) rfl
        go_ret
        exact ⟨jret true rfl (by simpa using HE), rfl⟩
  | false =>
    have HE : Hid (JEnd zs s.size false) := jno (s := t) (q := m) (by rw [HI.out]; exact HR5.out.trans (exp_fail HA5.out (by rw [HX.out]; exact hdx))) HACC.out
    go_wp2_with (go_at_call 11; refine (digit_any x _).mono ?_; rintro e w ⟨rfl, rfl⟩)
    go_ret
    exact ⟨jret false rfl HE.out, rfl⟩
end Nq
end Go.Proofs.Qxb6602846a
