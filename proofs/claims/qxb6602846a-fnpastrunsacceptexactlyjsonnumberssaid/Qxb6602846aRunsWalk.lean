/-
  Seat b6602846a, FnPastRunsAcceptExactlyJSONNumbers: the law's own walk.
-/
import Derived.Test.Qxb6602846aJsonNum
namespace Go.Proofs.Qxb6602846a
open Go.ChangeShapes Go.WideShapes Go.ChangeAt Go.RowKit

namespace Nq

theorem jone {zs : List Int} {n : Nat} {a b : Bool} (h : JEnd zs n a) (h' : JEnd zs n b) : a = b := by
  obtain ⟨s, q, h1, h2⟩ := h
  obtain ⟨s', q', h1', h2'⟩ := h'
  rw [h1] at h1'
  obtain ⟨e1, e2⟩ := Prod.mk.inj h1'
  subst e1; subst e2
  rw [h2, h2']

/-- The value is the verdict. -/
def BV (zs : List Int) (n : Nat) (v : Value) : Prop := ∃ a : Bool, v = .bool a ∧ JEnd zs n a
theorem bv {zs : List Int} {n : Nat} {v : Value} (a : Bool) (h : v = .bool a) (h2 : JEnd zs n a) : BV zs n v := ⟨a, h, h2⟩

/-- Behind the first byte: the run has begun, and stands in a phase at place 1; or the verdict is no. -/
def Begun (zs : List Int) (n i0 : Nat) (pv sv : Value) : Prop :=
  (∃ t : Int, 0 ≤ t ∧ t ≤ 7 ∧ pv = .int .i64 t ∧ sv = .bool true ∧ R zs 0 i0 = R zs t 1) ∨ (sv = .bool false ∧ JEnd zs n false)
theorem begun_yes {zs : List Int} {n i0 : Nat} {pv sv : Value} (t : Int) (h0 : 0 ≤ t) (h7 : t ≤ 7) (h1 : pv = .int .i64 t) (h2 : sv = .bool true) (h3 : R zs 0 i0 = R zs t 1) : Begun zs n i0 pv sv := .inl ⟨t, h0, h7, h1, h2, h3⟩
theorem begun_no {zs : List Int} {n i0 : Nat} {pv sv : Value} (h2 : sv = .bool false) (h3 : JEnd zs n false) : Begun zs n i0 pv sv := .inr ⟨h2, h3⟩

theorem rbound_yes (s : ByteArray) (w : World) (h : s.size ≤ 1048576) : Calls Try.prog 10 #[.string s] w fun e w' => e = .returned (.bool true) ∧ w' = w := by
  go_enter Try.func10, Try.ntmps10
  go_wp2
  go_ret
  exact ⟨rfl, rfl⟩
theorem rbound_no (s : ByteArray) (w : World) (h : 1048576 < s.size) : Calls Try.prog 10 #[.string s] w fun e w' => e = .returned (.bool false) ∧ w' = w := by
  have h' : (1048576 : Int) < (s.size : Int) := by omega
  go_enter Try.func10, Try.ntmps10
  go_wp2
  go_ret
  exact ⟨rfl, rfl⟩

set_option maxHeartbeats 4000000 in
theorem runs_law (s : ByteArray) (w : World) (hmax : s.size ≤ maxLen) : Calls Try.prog 4 #[.string s] w fun e w' => e = .returned (.bool true) ∧ Grown w w' := by
  unfold maxLen at hmax
  by_cases hbig : 1048576 < s.size
  · go_enter Try.func4, Try.ntmps4
    go_wp2_with fail
    refine (rbound_no s w hbig).mono ?_
    rintro e w ⟨rfl, rfl⟩
    go_wp2
    go_ret
    exact ⟨rfl, Grown.refl _⟩
  have hn : s.size ≤ 1048576 := by omega
  clear hbig hmax
  obtain ⟨zs, hzs⟩ : ∃ zs, zs = zsOf s := ⟨_, rfl⟩
  have HL : Hid (zs.length = s.size) := by rw [hzs]; exact zs_len s
  have HG : Hid (∀ (k : Nat) (h : k < s.size), ((s[k]'h).toNat : Int) = zs.getD k 0) := by rw [hzs]; exact zs_get s
  have HO : Hid (∀ k, ¬ k < s.size → zs.getD k 0 = 0) := by rw [hzs]; exact zs_out s
  have HJ : Hid (∀ w, Calls Try.prog 12 #[.string s] w fun e w' => JRet zs s.size e ∧ w' = w) := by intro w; rw [hzs]; exact json_any s w hn
  clear hzs
  by_cases h0 : s.size = 0
  · have h0i : ¬ (0 : Int) < (s.size : Int) := by omega
    have h00 : zs.getD 0 0 = 0 := HO.out 0 (by omega)
    have HE : Hid (JEnd zs s.size false) := by
      have e : i0Of zs = 0 := by unfold i0Of; rw [if_neg (by rw [h00]; omega)]
      exact jno (s := 0) (q := 0) (by rw [e]; exact R_end HL.out (by omega)) rfl
    clear h0 h00
    go_enter Try.func4, Try.ntmps4
    go_wp2_with fail
    refine (rbound_yes s w hn).mono ?_
    rintro e w ⟨rfl, rfl⟩
    go_wp2_with fail
    refine Calls.mono (HJ.out w) ?_
    rintro e w ⟨⟨b, rfl, hb⟩, rfl⟩
    obtain rfl := jone HE.out hb
    clear hb
    go_wp2
    go_ret
    exact ⟨rfl, Grown.refl _⟩
  have hpos : 0 < s.size := by omega
  have hposi : (0 : Int) < (s.size : Int) := by omega
  obtain ⟨z0, hz0⟩ : ∃ z, z = zs.getD 0 0 := ⟨_, rfl⟩
  have hg0 : ((s[0]'hpos).toNat : Int) = z0 := by rw [hz0]; exact HG.out 0 hpos
  have HZ0 : Hid (zs.getD 0 0 = z0) := hz0.symm
  obtain ⟨i0, hi0⟩ : ∃ i, i = i0Of zs := ⟨_, rfl⟩
  have HI : Hid (i0Of zs = i0) := hi0.symm
  clear hz0 h0 hi0
  go_enter Try.func4, Try.ntmps4
  go_wp2_with fail
  refine (rbound_yes s w hn).mono ?_
  rintro e w ⟨rfl, rfl⟩
  go_upto_if 20 with fail
  go_cut [4, 5] (fun pv sv wx => Begun zs s.size i0 pv sv ∧ w = wx)
  case first =>
    by_cases h45 : z0 = 45
    · have hb : (z0 == 45) = true := by simp [h45]
      have he : i0 = 1 := by rw [← HI.out]; unfold i0Of; rw [HZ0.out, if_pos h45]
      clear h45
      go_wp2_with fail
      go_meet
      exact ⟨begun_yes 0 (by omega) (by omega) rfl rfl (by rw [he]), rfl⟩
    · have hb : (z0 == 45) = false := by simp [h45]
      have he : i0 = 0 := by rw [← HI.out]; unfold i0Of; rw [HZ0.out, if_neg h45]
      have HE0 : Hid (i0 = 0) := he
      clear h45 he
      by_cases h48 : z0 = 48
      · have hb48 : (z0 == 48) = true := by simp [h48]
        have HR : Hid (R zs 0 i0 = R zs 1 1) := by
          show R zs 0 i0 = R zs 1 1
          rw [HE0.out]; exact (zero_road (HZ0.out.trans h48)).2
        clear h48
        go_wp2_with fail
        go_meet
        exact ⟨begun_yes 1 (by omega) (by omega) rfl rfl HR.out, rfl⟩
      · have hb48 : (z0 == 48) = false := by simp [h48]
        cases hd : digB z0 with
        | true =>
          have HR : Hid (R zs 0 i0 = R zs 2 1) := by
            show R zs 0 i0 = R zs 2 1
            rw [HE0.out]; exact R_step (N0 _ (by rw [HZ0.out]; exact h48) (by rw [HZ0.out]; exact hd)) (by omega)
          clear h48
          go_wp2_with (go_at_call 11; refine (digit_any z0 _).mono ?_; rintro e w ⟨rfl, rfl⟩)
          go_meet
          exact ⟨begun_yes 2 (by omega) (by omega) rfl rfl HR.out, rfl⟩
        | false =>
          have HE : Hid (JEnd zs s.size false) := jno (s := 0) (q := 0) (by rw [HI.out, HE0.out]; exact int_fail (by rw [HZ0.out]; exact hd)) rfl
          clear h48
          go_wp2_with (go_at_call 11; refine (digit_any z0 _).mono ?_; rintro e w ⟨rfl, rfl⟩)
          go_meet
          exact ⟨begun_no rfl HE.out, rfl⟩
  case rest =>
  obtain ⟨hbeg, rfl⟩ := hcut
  clear hg0 HZ0 hposi
  go_upto_if 27 with fail
  have HBEG : Hid (Begun zs s.size i0 u4 u5) := hbeg
  clear hbeg
  go_cut [3] (fun av wx => BV zs s.size av ∧ w = wx)
  case first =>
    rcases HBEG.out with ⟨t, ht0, ht7, h4, h5, hr⟩ | ⟨h5, hend⟩
    case inr =>
      have HE : Hid (JEnd zs s.size false) := hend
      clear HBEG hend
      subst h5
      go_wp2_with fail
      go_meet
      exact ⟨bv false rfl HE.out, rfl⟩
    have HR : Hid (R zs 0 i0 = R zs t 1) := hr
    clear HBEG hr
    subst h4
    subst h5
    go_wp2_with fail
    go_loopg [3, 4, 6] (s.size - 1) (fun mm av pv iv wr => ∃ (st : Int) (i : Nat), 0 ≤ st ∧ st ≤ 7 ∧ 1 ≤ i ∧ i ≤ s.size ∧ mm = s.size - i ∧ av = .bool true ∧ pv = .int .i64 st ∧ iv = .int .i64 i ∧ R zs 0 i0 = R zs st i ∧ w = wr)
    case atStart => exact ⟨t, 1, ht0, ht7, Nat.le_refl _, by omega, rfl, rfl, rfl, rfl, HR.out, rfl⟩
    case round =>
      clear ht0 ht7 HR
      obtain ⟨st, i, hs0, hs7, hi1, hin, rfl, rfl, rfl, rfl, hr, rfl⟩ := hrel
      have HR : Hid (R zs 0 i0 = R zs st i) := hr
      clear hr
      by_cases hlt : i < s.size
      · have hlti : (i : Int) < (s.size : Int) := by omega
        obtain ⟨z, hz⟩ : ∃ z, z = zs.getD i 0 := ⟨_, rfl⟩
        have hgz : ((s[i]'hlt).toNat : Int) = z := by rw [hz]; exact HG.out i hlt
        have HZ : Hid (zs.getD i 0 = z) := hz.symm
        clear hz
        by_cases hN : 0 ≤ N st z
        · obtain ⟨t', ht'⟩ : ∃ t', t' = N st z := ⟨_, rfl⟩
          have H7 : Hid (Calls Try.prog 7 #[.int .i64 st, .int .u8 z] w fun e w' => e = .returned (.tuple #[.int .i64 t', .bool true]) ∧ w' = w) := by
            have h := zzpast_any st z w
            have e1 : pq st z = t' := by unfold pq; rw [if_pos hN, ht']
            have e2 : pok st z = true := by simp [pok, hN]
            rw [e1, e2] at h
            exact h
          have HT : Hid (N st (zs.getD i 0) = t') := by show N st (zs.getD i 0) = t'; rw [HZ.out, ht']
          have h0' : 0 ≤ t' := by rw [ht']; exact hN
          have h7' : t' ≤ 7 := by rw [ht']; exact N_range st z
          clear hN ht'
          go_wp2_with fail
          refine Calls.mono H7.out ?_
          rintro e w ⟨rfl, rfl⟩
          clear H7
          go_wp2_with fail
          go_roundg (s.size - (i + 1))
          case measure => omega
          case rel => exact ⟨t', i + 1, h0', h7', by omega, by omega, rfl, rfl, rfl, by go_num, HR.out.trans (R_step HT.out h0'), rfl⟩
        · have H7 : Hid (Calls Try.prog 7 #[.int .i64 st, .int .u8 z] w fun e w' => e = .returned (.tuple #[.int .i64 st, .bool false]) ∧ w' = w) := by
            have h := zzpast_any st z w
            have e1 : pq st z = st := by unfold pq; rw [if_neg hN]
            have e2 : pok st z = false := by simp [pok]; omega
            rw [e1, e2] at h
            exact h
          have HE : Hid (JEnd zs s.size false) := ⟨st, i, by rw [HI.out]; exact HR.out.trans (R_stop (by rw [HZ.out]; omega)), by rw [decide_eq_false (by omega)]; rfl⟩
          clear hN
          go_wp2_with fail
          refine Calls.mono H7.out ?_
          rintro e w ⟨rfl, rfl⟩
          clear H7
          go_wp2_with fail
          go_meet
          exact ⟨bv false rfl HE.out, rfl⟩
      · have hie : i = s.size := by omega
        subst hie
        have HE : Hid (JEnd zs s.size (acc st)) := ⟨st, s.size, by rw [HI.out]; exact HR.out.trans (R_end HL.out (by omega)), by simp⟩
        have hlti : ¬ (s.size : Int) < (s.size : Int) := by omega
        have hst : st = 0 ∨ st = 1 ∨ st = 2 ∨ st = 3 ∨ st = 4 ∨ st = 5 ∨ st = 6 ∨ st = 7 := by omega
        clear hs0 hs7 HR
        rcases hst with rfl | rfl | rfl | rfl | rfl | rfl | rfl | rfl
        all_goals
          go_wp2_with fail
          go_meet
          exact ⟨bv _ rfl HE.out, rfl⟩
  case rest =>
  clear HBEG
  obtain ⟨hbv, rfl⟩ := hcut
  obtain ⟨a, rfl, ha⟩ := hbv
  have HA : Hid (JEnd zs s.size a) := ha
  clear ha
  go_wp2_with fail
  refine Calls.mono (HJ.out w) ?_
  rintro e w ⟨⟨b, rfl, hb⟩, rfl⟩
  obtain rfl := jone HA.out hb
  clear hb
  go_wp2
  go_ret
  exact ⟨rfl, Grown.refl _⟩
end Nq
end Go.Proofs.Qxb6602846a
