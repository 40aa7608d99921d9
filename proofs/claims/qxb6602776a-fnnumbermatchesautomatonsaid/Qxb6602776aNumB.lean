/-
  Seat b6602776a, FnNumberMatchesAutomaton: the reader 'number'.
-/
import Derived.Test.Qxb6602776aNumP
import Derived.Deep.DeepCutAuto
namespace Go.Proofs.Qxb6602776a
open Go.ChangeShapes Go.WideShapes Go.ChangeAt Go.RowKit

namespace Sc

/-- What 'number' leaves: its verdict b and its place q are the automaton's. -/
def NumEnd (zs : List Int) (p : Nat) (b : Bool) (q : Nat) : Prop := ∃ s, R zs 0 p = (s, q) ∧ acc s = b

theorem end_mk {zs : List Int} {p q : Nat} {s : Int} {b : Bool} (h1 : R zs 0 p = (s, q)) (h2 : acc s = b) : NumEnd zs p b q := ⟨s, h1, h2⟩

/-- Behind a test: it says to leave, the number being broken; or it goes on in a state of the kind A. -/
def Mid (A : List Int → Int → Nat → Prop) (zs : List Int) (p : Nat) (b : Bool) (i : Nat) : Prop :=
  (b = true ∧ NumEnd zs p false i) ∨ (b = false ∧ ∃ s, A zs s i ∧ R zs 0 p = R zs s i)

/-- Behind the test for an exponent: there is one, and the run is in state 6; or there is none, and the number ends. -/
def MidE (zs : List Int) (p : Nat) (b : Bool) (i : Nat) : Prop :=
  (b = true ∧ R zs 0 p = R zs 6 i) ∨ (b = false ∧ NumEnd zs p true i)

set_option maxHeartbeats 4000000 in
theorem number_any (Pb : Nat) (a : Option Addr) (len cap : Nat) (zs : List Int) (p : Nat) (w : World) (h : Scan w Pb a len cap zs p) (hl : len ≤ 1048576) :
    Calls Try.prog 21 #[.pointer (some ⟨Pb, 0, none⟩)] w fun e w' => ∃ (b : Bool) (q : Nat), e = .returned (.bool b) ∧ NumEnd zs p b q ∧ Scan w' Pb a len cap zs q ∧ Below Pb w w' := by
  have HS : Hid (Scan w Pb a len cap zs p) := h
  clear h
  go_enter Try.func21, Try.ntmps21
  go_wp2_with fail
  refine (accept_any Pb a len cap zs p 45 w HS.out hl (by omega)).mono ?_
  rintro e w1 ⟨b1, i1, rfl, hi1, hs1, hb1⟩
  obtain ⟨s1, ha1, hr1⟩ := sign_road hi1
  have HA1 : Hid (A1 zs s1 i1) := ha1
  have HR1 : Hid (R zs 0 p = R zs s1 i1) := hr1
  have HS1 : Hid (Scan w1 Pb a len cap zs i1) := hs1
  have HB1 : Hid (Below Pb w w1) := hb1
  clear hi1 ha1 hr1 hs1 hb1 HS
  go_upto_region 2 with fail
  go_cut [12] (fun c wx => ∃ (b : Bool) (i : Nat), c = .bool b ∧ Mid A2 zs p b i ∧ Scan wx Pb a len cap zs i ∧ Below Pb w wx)
  case first =>
    go_wp2_with fail
    refine (accept_any Pb a len cap zs i1 48 w1 HS1.out hl (by omega)).mono ?_
    rintro e w2 ⟨b2, i2, rfl, hi2, hs2, hb2⟩
    have HS2 : Hid (Scan w2 Pb a len cap zs i2) := hs2
    have HB2 : Hid (Below Pb w w2) := HB1.out.trans hb2
    clear hs2 hb2 HS1 HB1
    rcases hi2 with ⟨rfl, hz, rfl⟩ | ⟨rfl, hz, rfl⟩
    · have HR2 : Hid (R zs 0 p = R zs 2 (i1 + 1)) := HR1.out.trans (zero_road HA1.out hz)
      clear hz
      go_wp2_with fail
      go_meet
      exact ⟨false, i1 + 1, rfl, .inr ⟨rfl, 2, .inl rfl, HR2.out⟩, HS2.out, HB2.out⟩
    · have HZ : Hid (zs.getD i2 0 ≠ 48) := hz
      clear hz
      go_wp2_with fail
      refine (digits_any Pb a len cap zs i2 w2 HS2.out hl).mono ?_
      rintro e w3 ⟨q3, rfl, hrun, hs3, hb3⟩
      have HRUN : Hid (IsRun zs i2 q3) := hrun
      have HS3 : Hid (Scan w3 Pb a len cap zs q3) := hs3
      have HB3 : Hid (Below Pb w w3) := HB2.out.trans hb3
      clear hrun hs3 hb3
      by_cases hq : i2 < q3
      · have hqd : decide (i2 < q3) = true := decide_eq_true hq
        go_wp2_with fail
        go_meet
        have hh := int_road HA1.out HZ.out HRUN.out hq
        exact ⟨false, q3, rfl, .inr ⟨rfl, 3, hh.1, HR1.out.trans hh.2⟩, HS3.out, HB3.out⟩
      · have hqd : decide (i2 < q3) = false := decide_eq_false hq
        go_wp2_with fail
        go_meet
        have hh := int_fail HA1.out HZ.out HRUN.out hq
        exact ⟨true, q3, rfl, .inl ⟨rfl, end_mk (HR1.out.trans hh.1) hh.2⟩, HS3.out, HB3.out⟩
  case rest =>
  obtain ⟨b2, i2, rfl, hm2, hs2, hb2⟩ := hcut
  have HS2 : Hid (Scan wc Pb a len cap zs i2) := hs2
  have HB2 : Hid (Below Pb w wc) := hb2
  clear hs2 hb2 HS1 HB1 HR1 HA1
  rcases hm2 with ⟨rfl, hend⟩ | ⟨rfl, s2, ha2, hr2⟩
  · have HE : Hid (NumEnd zs p false i2) := hend
    clear hend
    go_wp2
    go_ret
    exact ⟨false, i2, rfl, HE.out, HS2.out, HB2.out⟩
  have HA2 : Hid (A2 zs s2 i2) := ha2
  have HR2 : Hid (R zs 0 p = R zs s2 i2) := hr2
  clear ha2 hr2
  go_upto_region 4 with fail
  go_cut [19] (fun c wx => ∃ (b : Bool) (i : Nat), c = .bool b ∧ Mid A3 zs p b i ∧ Scan wx Pb a len cap zs i ∧ Below Pb w wx)
  case first =>
    go_wp2_with fail
    refine (accept_any Pb a len cap zs i2 46 wc HS2.out hl (by omega)).mono ?_
    rintro e w3 ⟨b3, i3, rfl, hi3, hs3, hb3⟩
    have HS3 : Hid (Scan w3 Pb a len cap zs i3) := hs3
    have HB3 : Hid (Below Pb w w3) := HB2.out.trans hb3
    clear hs3 hb3
    rcases hi3 with ⟨rfl, hz, rfl⟩ | ⟨rfl, hz, rfl⟩
    · have HR3 : Hid (R zs 0 p = R zs 4 (i2 + 1)) := HR2.out.trans (dot_road HA2.out hz)
      clear hz
      go_wp2_with fail
      refine (digits_any Pb a len cap zs (i2 + 1) w3 HS3.out hl).mono ?_
      rintro e w4 ⟨q4, rfl, hrun, hs4, hb4⟩
      have HRUN : Hid (IsRun zs (i2 + 1) q4) := hrun
      have HS4 : Hid (Scan w4 Pb a len cap zs q4) := hs4
      have HB4 : Hid (Below Pb w w4) := HB3.out.trans hb4
      clear hrun hs4 hb4
      by_cases hq : i2 + 1 < q4
      · have hqd : decide (i2 + 1 < q4) = true := decide_eq_true hq
        go_wp2_with fail
        go_meet
        have hh := frac_road HRUN.out hq
        exact ⟨false, q4, rfl, .inr ⟨rfl, 5, hh.1, HR3.out.trans hh.2⟩, HS4.out, HB4.out⟩
      · have hqd : decide (i2 + 1 < q4) = false := decide_eq_false hq
        go_wp2_with fail
        go_meet
        have hh := frac_fail HRUN.out hq
        exact ⟨true, q4, rfl, .inl ⟨rfl, end_mk (HR3.out.trans hh.1) hh.2⟩, HS4.out, HB4.out⟩
    · have HZ : Hid (zs.getD i3 0 ≠ 46) := hz
      clear hz
      go_wp2_with fail
      go_meet
      exact ⟨false, i3, rfl, .inr ⟨rfl, s2, dot_no HA2.out HZ.out, HR2.out⟩, HS3.out, HB3.out⟩
  case rest =>
  clear HS2 HB2 HR2 HA2
  obtain ⟨b3, i3, rfl, hm3, hs3, hb3⟩ := hcut
  have HS3 : Hid (Scan wc Pb a len cap zs i3) := hs3
  have HB3 : Hid (Below Pb w wc) := hb3
  clear hs3 hb3
  rcases hm3 with ⟨rfl, hend⟩ | ⟨rfl, s3, ha3, hr3⟩
  · have HE : Hid (NumEnd zs p false i3) := hend
    clear hend
    go_wp2
    go_ret
    exact ⟨false, i3, rfl, HE.out, HS3.out, HB3.out⟩
  have HA3 : Hid (A3 zs s3 i3) := ha3
  have HR3 : Hid (R zs 0 p = R zs s3 i3) := hr3
  clear ha3 hr3
  go_upto_region 6 with fail
  go_cut [25] (fun c wx => ∃ (b : Bool) (i : Nat), c = .bool b ∧ MidE zs p b i ∧ Scan wx Pb a len cap zs i ∧ Below Pb w wx)
  case first =>
    go_wp2_with fail
    refine (accept_any Pb a len cap zs i3 101 wc HS3.out hl (by omega)).mono ?_
    rintro e w4 ⟨b4, i4, rfl, hi4, hs4, hb4⟩
    have HS4 : Hid (Scan w4 Pb a len cap zs i4) := hs4
    have HB4 : Hid (Below Pb w w4) := HB3.out.trans hb4
    clear hs4 hb4
    rcases hi4 with ⟨rfl, hz, rfl⟩ | ⟨rfl, hz, rfl⟩
    · have HR4 : Hid (R zs 0 p = R zs 6 (i3 + 1)) := HR3.out.trans (e_road HA3.out (.inl hz))
      clear hz
      go_wp2_with fail
      go_meet
      exact ⟨true, i3 + 1, rfl, .inl ⟨rfl, HR4.out⟩, HS4.out, HB4.out⟩
    · have HZ : Hid (zs.getD i4 0 ≠ 101) := hz
      clear hz
      go_wp2_with fail
      refine (accept_any Pb a len cap zs i4 69 w4 HS4.out hl (by omega)).mono ?_
      rintro e w5 ⟨b5, i5, rfl, hi5, hs5, hb5⟩
      have HS5 : Hid (Scan w5 Pb a len cap zs i5) := hs5
      have HB5 : Hid (Below Pb w w5) := HB4.out.trans hb5
      clear hs5 hb5
      rcases hi5 with ⟨rfl, hz, rfl⟩ | ⟨rfl, hz, rfl⟩
      · have HR4 : Hid (R zs 0 p = R zs 6 (i4 + 1)) := HR3.out.trans (e_road HA3.out (.inr hz))
        clear hz
        go_wp2_with fail
        go_meet
        exact ⟨true, i4 + 1, rfl, .inl ⟨rfl, HR4.out⟩, HS5.out, HB5.out⟩
      · have hh := e_no HA3.out HZ.out hz
        have HE : Hid (NumEnd zs p true i5) := end_mk (HR3.out.trans hh.1) hh.2
        clear hz hh
        go_wp2_with fail
        go_meet
        exact ⟨false, i5, rfl, .inr ⟨rfl, HE.out⟩, HS5.out, HB5.out⟩
  case rest =>
  clear HS3 HB3 HR3 HA3
  obtain ⟨b4, i4, rfl, hm4, hs4, hb4⟩ := hcut
  have HS4 : Hid (Scan wc Pb a len cap zs i4) := hs4
  have HB4 : Hid (Below Pb w wc) := hb4
  clear hs4 hb4
  rcases hm4 with ⟨rfl, hr4⟩ | ⟨rfl, hend⟩
  · have HR4 : Hid (R zs 0 p = R zs 6 i4) := hr4
    clear hr4
    go_wp2_with fail
    refine (accept_any Pb a len cap zs i4 43 wc HS4.out hl (by omega)).mono ?_
    rintro e w5 ⟨b5, i5, rfl, hi5, hs5, hb5⟩
    have HS5 : Hid (Scan w5 Pb a len cap zs i5) := hs5
    have HB5 : Hid (Below Pb w w5) := HB4.out.trans hb5
    clear hs5 hb5
    have fin : ∀ (s : Int) (i q : Nat), A6 zs s i → R zs 0 p = R zs s i → IsRun zs i q → NumEnd zs p (decide (i < q)) q := by
      intro s i q ha hr hrun
      by_cases hq : i < q
      · rw [decide_eq_true hq]
        exact end_mk (hr.trans (exp_road ha hrun hq).1) (exp_road ha hrun hq).2
      · rw [decide_eq_false hq]
        exact end_mk (hr.trans (exp_fail ha hrun hq).1) (exp_fail ha hrun hq).2
    have FIN : Hid (∀ (s : Int) (i q : Nat), A6 zs s i → R zs 0 p = R zs s i → IsRun zs i q → NumEnd zs p (decide (i < q)) q) := fin
    clear fin
    rcases hi5 with ⟨rfl, hz, rfl⟩ | ⟨rfl, hz, rfl⟩
    · have hh := plus_road hz
      have HA6 : Hid (A6 zs 7 (i4 + 1)) := hh.1
      have HR6 : Hid (R zs 0 p = R zs 7 (i4 + 1)) := HR4.out.trans hh.2
      clear hz hh HR4
      go_wp2_with fail
      refine (digits_any Pb a len cap zs (i4 + 1) w5 HS5.out hl).mono ?_
      rintro e w6 ⟨q6, rfl, hrun, hs6, hb6⟩
      have HE := FIN.out 7 (i4 + 1) q6 HA6.out HR6.out hrun
      have HS6 : Hid (Scan w6 Pb a len cap zs q6) := hs6
      have HB6 : Hid (Below Pb w w6) := HB5.out.trans hb6
      clear hrun hs6 hb6
      by_cases hq : i4 + 1 < q6
      · have hqd : decide (i4 + 1 < q6) = true := decide_eq_true hq
        rw [hqd] at HE
        have HE' : Hid (NumEnd zs p true q6) := HE
        clear HE
        go_wp2
        go_ret
        exact ⟨true, q6, rfl, HE'.out, HS6.out, HB6.out⟩
      · have hqd : decide (i4 + 1 < q6) = false := decide_eq_false hq
        rw [hqd] at HE
        have HE' : Hid (NumEnd zs p false q6) := HE
        clear HE
        go_wp2
        go_ret
        exact ⟨false, q6, rfl, HE'.out, HS6.out, HB6.out⟩
    · have HZ : Hid (zs.getD i5 0 ≠ 43) := hz
      clear hz
      go_wp2_with fail
      refine (accept_any Pb a len cap zs i5 45 w5 HS5.out hl (by omega)).mono ?_
      rintro e w6 ⟨b6, i6, rfl, hi6, hs6, hb6⟩
      obtain ⟨s6, ha6, hr6⟩ := minus_road HZ.out hi6
      have HA6 : Hid (A6 zs s6 i6) := ha6
      have HR6 : Hid (R zs 0 p = R zs s6 i6) := HR4.out.trans hr6
      have HS6 : Hid (Scan w6 Pb a len cap zs i6) := hs6
      have HB6 : Hid (Below Pb w w6) := HB5.out.trans hb6
      clear hi6 ha6 hr6 hs6 hb6
      go_wp2_with fail
      refine (digits_any Pb a len cap zs i6 w6 HS6.out hl).mono ?_
      rintro e w7 ⟨q7, rfl, hrun, hs7, hb7⟩
      have HE := FIN.out s6 i6 q7 HA6.out HR6.out hrun
      have HS7 : Hid (Scan w7 Pb a len cap zs q7) := hs7
      have HB7 : Hid (Below Pb w w7) := HB6.out.trans hb7
      clear hrun hs7 hb7
      by_cases hq : i6 < q7
      · have hqd : decide (i6 < q7) = true := decide_eq_true hq
        rw [hqd] at HE
        have HE' : Hid (NumEnd zs p true q7) := HE
        clear HE
        go_wp2
        go_ret
        exact ⟨true, q7, rfl, HE'.out, HS7.out, HB7.out⟩
      · have hqd : decide (i6 < q7) = false := decide_eq_false hq
        rw [hqd] at HE
        have HE' : Hid (NumEnd zs p false q7) := HE
        clear HE
        go_wp2
        go_ret
        exact ⟨false, q7, rfl, HE'.out, HS7.out, HB7.out⟩
  · have HE : Hid (NumEnd zs p true i4) := hend
    clear hend
    go_wp2
    go_ret
    exact ⟨true, i4, rfl, HE.out, HS4.out, HB4.out⟩
end Sc
end Go.Proofs.Qxb6602776a
