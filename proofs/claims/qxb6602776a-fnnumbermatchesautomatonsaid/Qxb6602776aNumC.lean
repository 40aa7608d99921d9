/-
  Seat b6602776a, FnNumberMatchesAutomaton: the model's automaton, the exported reader, the law.
-/
import Derived.Test.Qxb6602776aNumB
namespace Go.Proofs.Qxb6602776a
open Go.ChangeShapes Go.WideShapes Go.ChangeAt Go.RowKit

namespace Sc

theorem ret_b {a b : Bool} (h : a = b) : Ending.returned (.bool a) = .returned (.bool b) := by rw [h]
theorem ret_i {a b : Int} (h : a = b) : Ending.returned (.int .i64 a) = .returned (.int .i64 b) := by rw [h]

theorem digit_any (c : Int) (w : World) : Calls Try.prog 27 #[.int .u8 c] w fun e w' => e = .returned (.bool (digB c)) ∧ w' = w := by
  cases h : digB c with
  | true =>
    obtain ⟨h1, h2⟩ := digB_yes.1 h
    clear h
    go_enter Try.func27, Try.ntmps27
    go_wp2
    go_ret
    exact ⟨rfl, rfl⟩
  | false =>
    have h2 := digB_no.1 h
    clear h
    rcases h2 with h2 | h2
    all_goals
      go_enter Try.func27, Try.ntmps27
      go_wp2
      go_ret
      exact ⟨ret_b (by simp; try omega), rfl⟩

set_option maxHeartbeats 4000000 in
theorem step_any (s c : Int) (w : World) (h0 : 0 ≤ s) (h8 : s ≤ 8) : Calls Try.prog 22 #[.int .i64 s, .int .u8 c] w fun e w' => e = .returned (.int .i64 (N s c)) ∧ w' = w := by
  obtain ⟨d, hd⟩ : ∃ d, d = digB c := ⟨_, rfl⟩
  have HD : Hid (digB c = d) := hd.symm
  have H27 : Hid (∀ w, Calls Try.prog 27 #[.int .u8 c] w fun e w' => e = .returned (.bool d) ∧ w' = w) := by intro w; rw [hd]; exact digit_any c w
  clear hd
  have hs : s = 0 ∨ s = 1 ∨ s = 2 ∨ s = 3 ∨ s = 4 ∨ s = 5 ∨ s = 6 ∨ s = 7 ∨ s = 8 := by omega
  clear h0 h8
  rcases hs with rfl | rfl | rfl | rfl | rfl | rfl | rfl | rfl | rfl
  all_goals
    go_enter Try.func22, Try.ntmps22
    go_wp2_with fail
    refine Calls.mono (H27.out _) ?_
    rintro e w ⟨rfl, rfl⟩
    cases d
    all_goals
      go_wp2
      all_goals
        go_ret
        have hD := HD.out
        refine ⟨ret_i ?_, rfl⟩
        clear HD H27
        simp_all [N]
theorem N_range (s c : Int) : N s c ≤ 8 := by
  unfold N
  repeat' split
  all_goals omega

theorem ret_bi {a b : Bool} {i j : Int} (h : a = b) (h2 : i = j) : Ending.returned (.tuple #[.bool a, .int .i64 i]) = .returned (.tuple #[.bool b, .int .i64 j]) := by rw [h, h2]

set_option maxHeartbeats 2000000 in
theorem model_any (a : Option Addr) (len cap : Nat) (zs : List Int) (p : Nat) (B : Nat) (w : World) (h : BytesAt w B a len zs) (hl : len ≤ 1048576) :
    Calls Try.prog 12 #[.slice a len cap, .int .i64 p] w fun e w' => (∃ (b : Bool) (q : Nat), e = .returned (.tuple #[.bool b, .int .i64 q]) ∧ NumEnd zs p b q) ∧ w' = w := by
  have H : Hid (BytesAt w B a len zs) := h
  clear h
  go_enter Try.func12, Try.ntmps12
  go_wp2_with fail
  go_loopg [6, 7] (len - p) (fun n sv iv wr => ∃ (s : Int) (i : Nat), 0 ≤ s ∧ s ≤ 8 ∧ n = len - i ∧ sv = .int .i64 s ∧ iv = .int .i64 i ∧ R zs 0 p = R zs s i ∧ w = wr)
  case atStart => exact ⟨0, p, by omega, by omega, rfl, rfl, rfl, rfl, rfl⟩
  case round =>
    obtain ⟨s, i, hs0, hs8, rfl, rfl, rfl, hr, rfl⟩ := hrel
    have HR : Hid (R zs 0 p = R zs s i) := hr
    clear hr
    by_cases hil : i < len
    · obtain ⟨b, off, ha, hbl, hc⟩ := H.out.2.2 (by omega)
      subst ha
      obtain ⟨z, hz⟩ : ∃ z, z = zs.getD i 0 := ⟨_, rfl⟩
      have hcz : w.cell? ⟨b, off + i, none⟩ = some (.int .u8 z) := by rw [hz]; exact hc i hil
      obtain ⟨t, ht⟩ : ∃ t, t = N s z := ⟨_, rfl⟩
      have H22 : Hid (Calls Try.prog 22 #[.int .i64 s, .int .u8 z] w fun e w' => e = .returned (.int .i64 t) ∧ w' = w) := by rw [ht]; exact step_any s z w hs0 hs8
      have HT : Hid (N s (zs.getD i 0) = t) := by show N s (zs.getD i 0) = t; rw [ht, hz]
      have ht8 : t ≤ 8 := by rw [ht]; exact N_range s z
      clear hc hz ht
      by_cases htn : t < 0
      · have HE : Hid (R zs 0 p = (s, i)) := HR.out.trans (R_stop (by rw [HT.out]; exact htn))
        go_wp2_with fail
        refine Calls.mono H22.out ?_
        rintro e w ⟨rfl, rfl⟩
        clear hcz
        go_wp2
        all_goals
          go_ret2
          refine ⟨⟨acc s, i, ret_bi ?_ rfl, s, HE.out, rfl⟩, rfl⟩
          simp_all [acc]
      · go_wp2_with fail
        refine Calls.mono H22.out ?_
        rintro e w ⟨rfl, rfl⟩
        go_wp2_with fail
        go_roundg (len - (i + 1))
        case measure => omega
        case rel => exact ⟨t, i + 1, by omega, ht8, rfl, rfl, by go_num, HR.out.trans (R_step HT.out (by omega)), rfl⟩
    · have HE : Hid (R zs 0 p = (s, i)) := HR.out.trans (R_stop (by rw [getD_out H.out.1 hil, N_zero]; omega))
      go_wp2
      all_goals
        go_ret2
        refine ⟨⟨acc s, i, ret_bi ?_ rfl, s, HE.out, rfl⟩, rfl⟩
        simp_all [acc]
end Sc
end Go.Proofs.Qxb6602776a
