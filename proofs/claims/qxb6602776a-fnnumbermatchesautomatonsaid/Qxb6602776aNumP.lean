/-
  Seat b6602776a, FnNumberMatchesAutomaton: the plain law: the automaton's run, and the reader's road through it.
-/
import Derived.Test.Qxb6602776aNumA
namespace Go.Proofs.Qxb6602776a
namespace Sc

/-- The automaton's step. -/
def N (s c : Int) : Int :=
  if s = 0 then (if c = 45 then 1 else if c = 48 then 2 else if digB c = true then 3 else -1)
  else if s = 1 then (if c = 48 then 2 else if digB c = true then 3 else -1)
  else if s = 2 then (if c = 46 then 4 else if c = 101 then 6 else if c = 69 then 6 else -1)
  else if s = 3 then (if digB c = true then 3 else if c = 46 then 4 else if c = 101 then 6 else if c = 69 then 6 else -1)
  else if s = 4 then (if digB c = true then 5 else -1)
  else if s = 5 then (if digB c = true then 5 else if c = 101 then 6 else if c = 69 then 6 else -1)
  else if s = 6 then (if c = 43 then 7 else if c = 45 then 7 else if digB c = true then 8 else -1)
  else if s = 7 then (if digB c = true then 8 else -1)
  else if s = 8 then (if digB c = true then 8 else -1)
  else -1

/-- The states in which it accepts. -/
def acc (s : Int) : Bool := s == 2 || s == 3 || s == 5 || s == 8

/-- The automaton's run from s over a list: the last state, and how many it took. -/
def aut : Int → List Int → Int × Nat
  | s, [] => (s, 0)
  | s, c :: r => if N s c < 0 then (s, 0) else ((aut (N s c) r).1, (aut (N s c) r).2 + 1)

/-- The run from place i: the last state, and the place. -/
def R (zs : List Int) (s : Int) (i : Nat) : Int × Nat := ((aut s (zs.drop i)).1, i + (aut s (zs.drop i)).2)

theorem N_zero (s : Int) : N s 0 = -1 := by
  have : digB 0 = false := by decide
  unfold N
  simp [this]

theorem R_stop {zs : List Int} {s : Int} {i : Nat} (h : N s (zs.getD i 0) < 0) : R zs s i = (s, i) := by
  unfold R
  by_cases hi : i < zs.length
  · rw [List.drop_eq_getElem_cons hi]
    rw [List.getD_eq_getElem?_getD, List.getElem?_eq_getElem hi] at h
    simp only [Option.getD_some] at h
    simp [aut, h]
  · rw [List.drop_eq_nil_of_le (by omega)]
    simp [aut]

theorem R_step {zs : List Int} {s t : Int} {i : Nat} (h : N s (zs.getD i 0) = t) (ht : 0 ≤ t) : R zs s i = R zs t (i + 1) := by
  have hi : i < zs.length := by
    by_cases e : i < zs.length
    · exact e
    · rw [List.getD_eq_getElem?_getD, List.getElem?_eq_none (by omega), Option.getD_none, N_zero] at h
      omega
  unfold R
  rw [List.drop_eq_getElem_cons hi]
  rw [List.getD_eq_getElem?_getD, List.getElem?_eq_getElem hi] at h
  simp only [Option.getD_some] at h
  have hn : ¬ t < 0 := by omega
  simp only [aut, h, if_neg hn]
  rw [show i + ((aut t (zs.drop (i + 1))).2 + 1) = i + 1 + (aut t (zs.drop (i + 1))).2 by omega]

theorem run_same {zs : List Int} {s : Int} (hs : ∀ c, digB c = true → N s c = s) (h0 : 0 ≤ s) : ∀ (n i : Nat), (∀ j, i ≤ j → j < i + n → digB (zs.getD j 0) = true) → R zs s i = R zs s (i + n)
  | 0, _, _ => rfl
  | n + 1, i, h => by
    have a := R_step (hs _ (h i (Nat.le_refl _) (by omega))) h0
    have b := run_same hs h0 n (i + 1) (fun j h1 h2 => h j (by omega) (by omega))
    rw [a, b, show i + 1 + n = i + (n + 1) by omega]

theorem run_to {zs : List Int} {s : Int} {i q : Nat} (hs : ∀ c, digB c = true → N s c = s) (h0 : 0 ≤ s) (hq : i ≤ q) (h : ∀ j, i ≤ j → j < q → digB (zs.getD j 0) = true) : R zs s i = R zs s q := by
  have := run_same hs h0 (q - i) i (fun j h1 h2 => h j h1 (by omega))
  rwa [show i + (q - i) = q by omega] at this

theorem N3 (c : Int) (h : digB c = true) : N 3 c = 3 := by simp [N, h]
theorem N5 (c : Int) (h : digB c = true) : N 5 c = 5 := by simp [N, h]
theorem N8 (c : Int) (h : digB c = true) : N 8 c = 8 := by simp [N, h]
theorem N4 (c : Int) (h : digB c = true) : N 4 c = 5 := by simp [N, h]

theorem N1d (c : Int) (h48 : c ≠ 48) (h : digB c = true) : N 1 c = 3 := by simp [N, h, h48]
theorem N0d (c : Int) (h48 : c ≠ 48) (h : digB c = true) : N 0 c = 3 := by
  have := digB_yes.1 h
  simp [N, h, h48, show c ≠ 45 by omega]
theorem N1x (c : Int) (h48 : c ≠ 48) (h : digB c = false) : N 1 c < 0 := by simp [N, h, h48]
theorem N0x (c : Int) (h45 : c ≠ 45) (h48 : c ≠ 48) (h : digB c = false) : N 0 c < 0 := by simp [N, h, h48, h45]
theorem N4x (c : Int) (h : digB c = false) : N 4 c < 0 := by simp [N, h]
theorem N2x (c : Int) (h1 : c ≠ 101) (h2 : c ≠ 69) (h3 : c ≠ 46) : N 2 c < 0 := by simp [N, h1, h2, h3]
theorem N3x (c : Int) (h1 : c ≠ 101) (h2 : c ≠ 69) (h3 : c ≠ 46) (h : digB c = false) : N 3 c < 0 := by simp [N, h1, h2, h3, h]
theorem N5x (c : Int) (h1 : c ≠ 101) (h2 : c ≠ 69) (h : digB c = false) : N 5 c < 0 := by simp [N, h1, h2, h]
theorem N7d (c : Int) (h : digB c = true) : N 7 c = 8 := by simp [N, h]
theorem N6d (c : Int) (h : digB c = true) : N 6 c = 8 := by
  have := digB_yes.1 h
  simp [N, h, show c ≠ 43 by omega, show c ≠ 45 by omega]
theorem N7x (c : Int) (h : digB c = false) : N 7 c < 0 := by simp [N, h]
theorem N8x (c : Int) (h : digB c = false) : N 8 c < 0 := by simp [N, h]
theorem N6x (c : Int) (h1 : c ≠ 43) (h2 : c ≠ 45) (h : digB c = false) : N 6 c < 0 := by simp [N, h, h1, h2]

/-- Behind the sign. -/
def A1 (zs : List Int) (s : Int) (i : Nat) : Prop := s = 1 ∨ (s = 0 ∧ zs.getD i 0 ≠ 45)
/-- Behind the whole part, and behind the fraction. -/
def A2 (zs : List Int) (s : Int) (i : Nat) : Prop := s = 2 ∨ (s = 3 ∧ digB (zs.getD i 0) = false)
def A3 (zs : List Int) (s : Int) (i : Nat) : Prop := ((s = 2 ∨ s = 3) ∧ zs.getD i 0 ≠ 46 ∧ (s = 3 → digB (zs.getD i 0) = false)) ∨ (s = 5 ∧ digB (zs.getD i 0) = false)
/-- Behind the exponent's letter and its sign. -/
def A6 (zs : List Int) (s : Int) (i : Nat) : Prop := s = 7 ∨ (s = 6 ∧ zs.getD i 0 ≠ 43 ∧ zs.getD i 0 ≠ 45)

theorem sign_road {zs : List Int} {p q : Nat} {b : Bool} (h : (b = true ∧ zs.getD p 0 = 45 ∧ q = p + 1) ∨ (b = false ∧ zs.getD p 0 ≠ 45 ∧ q = p)) : ∃ s, A1 zs s q ∧ R zs 0 p = R zs s q := by
  rcases h with ⟨_, h, rfl⟩ | ⟨_, h, rfl⟩
  · exact ⟨1, .inl rfl, R_step (by rw [h]; decide) (by omega)⟩
  · exact ⟨0, .inr ⟨rfl, h⟩, rfl⟩

theorem zero_road {zs : List Int} {s : Int} {i : Nat} (h : A1 zs s i) (hz : zs.getD i 0 = 48) : R zs s i = R zs 2 (i + 1) := by
  rcases h with rfl | ⟨rfl, _⟩
  · exact R_step (by rw [hz]; decide) (by omega)
  · exact R_step (by rw [hz]; decide) (by omega)

theorem int_road {zs : List Int} {s : Int} {i q : Nat} (h : A1 zs s i) (hz : zs.getD i 0 ≠ 48) (hr : IsRun zs i q) (hq : i < q) : A2 zs 3 q ∧ R zs s i = R zs 3 q := by
  have hd := hr.2.1 i (Nat.le_refl _) hq
  refine ⟨.inr ⟨rfl, hr.2.2⟩, ?_⟩
  have e1 : R zs s i = R zs 3 (i + 1) := by
    rcases h with rfl | ⟨rfl, _⟩
    · exact R_step (N1d _ hz hd) (by omega)
    · exact R_step (N0d _ hz hd) (by omega)
  rw [e1]
  exact run_to N3 (by omega) (by omega) (fun j h1 h2 => hr.2.1 j (by omega) h2)

theorem int_fail {zs : List Int} {s : Int} {i q : Nat} (h : A1 zs s i) (hz : zs.getD i 0 ≠ 48) (hr : IsRun zs i q) (hq : ¬ i < q) : R zs s i = (s, q) ∧ acc s = false := by
  have e : q = i := by have := hr.1; omega
  subst e
  have hd := hr.2.2
  rcases h with rfl | ⟨rfl, h45⟩
  · exact ⟨R_stop (N1x _ hz hd), rfl⟩
  · exact ⟨R_stop (N0x _ h45 hz hd), rfl⟩

theorem dot_no {zs : List Int} {s : Int} {i : Nat} (h : A2 zs s i) (hz : zs.getD i 0 ≠ 46) : A3 zs s i := by
  rcases h with rfl | ⟨rfl, hd⟩
  · exact .inl ⟨.inl rfl, hz, fun h => by omega⟩
  · exact .inl ⟨.inr rfl, hz, fun _ => hd⟩

theorem dot_road {zs : List Int} {s : Int} {i : Nat} (h : A2 zs s i) (hz : zs.getD i 0 = 46) : R zs s i = R zs 4 (i + 1) := by
  rcases h with rfl | ⟨rfl, hd⟩
  · exact R_step (by rw [hz]; decide) (by omega)
  · exact R_step (by rw [hz]; decide) (by omega)

theorem frac_road {zs : List Int} {i q : Nat} (hr : IsRun zs i q) (hq : i < q) : A3 zs 5 q ∧ R zs 4 i = R zs 5 q := by
  refine ⟨.inr ⟨rfl, hr.2.2⟩, ?_⟩
  rw [R_step (N4 _ (hr.2.1 i (Nat.le_refl _) hq)) (by omega)]
  exact run_to N5 (by omega) (by omega) (fun j h1 h2 => hr.2.1 j (by omega) h2)

theorem frac_fail {zs : List Int} {i q : Nat} (hr : IsRun zs i q) (hq : ¬ i < q) : R zs 4 i = (4, q) ∧ acc 4 = false := by
  have e : q = i := by have := hr.1; omega
  subst e
  have hd := hr.2.2
  exact ⟨R_stop (N4x _ hd), rfl⟩

theorem e_road {zs : List Int} {s : Int} {i : Nat} (h : A3 zs s i) (hz : zs.getD i 0 = 101 ∨ zs.getD i 0 = 69) : R zs s i = R zs 6 (i + 1) := by
  rcases h with ⟨rfl | rfl, _, _⟩ | ⟨rfl, _⟩ <;> rcases hz with hz | hz <;> exact R_step (by rw [hz]; decide) (by omega)

theorem e_no {zs : List Int} {s : Int} {i : Nat} (h : A3 zs s i) (h1 : zs.getD i 0 ≠ 101) (h2 : zs.getD i 0 ≠ 69) : R zs s i = (s, i) ∧ acc s = true := by
  rcases h with ⟨rfl | rfl, h46, hd⟩ | ⟨rfl, hd⟩
  · exact ⟨R_stop (N2x _ h1 h2 h46), rfl⟩
  · exact ⟨R_stop (N3x _ h1 h2 h46 (hd rfl)), rfl⟩
  · exact ⟨R_stop (N5x _ h1 h2 hd), rfl⟩

theorem plus_road {zs : List Int} {i : Nat} (hz : zs.getD i 0 = 43) : A6 zs 7 (i + 1) ∧ R zs 6 i = R zs 7 (i + 1) := ⟨.inl rfl, R_step (by rw [hz]; decide) (by omega)⟩

theorem minus_road {zs : List Int} {p q : Nat} {b : Bool} (h43 : zs.getD p 0 ≠ 43) (h : (b = true ∧ zs.getD p 0 = 45 ∧ q = p + 1) ∨ (b = false ∧ zs.getD p 0 ≠ 45 ∧ q = p)) : ∃ s, A6 zs s q ∧ R zs 6 p = R zs s q := by
  rcases h with ⟨_, h, rfl⟩ | ⟨_, h, rfl⟩
  · exact ⟨7, .inl rfl, R_step (by rw [h]; decide) (by omega)⟩
  · exact ⟨6, .inr ⟨rfl, h43, h⟩, rfl⟩

theorem exp_road {zs : List Int} {s : Int} {i q : Nat} (h : A6 zs s i) (hr : IsRun zs i q) (hq : i < q) : R zs s i = (8, q) ∧ acc 8 = true := by
  have hd := hr.2.1 i (Nat.le_refl _) hq
  refine ⟨?_, rfl⟩
  have e1 : R zs s i = R zs 8 (i + 1) := by
    rcases h with rfl | ⟨rfl, h1, h2⟩
    · exact R_step (N7d _ hd) (by omega)
    · exact R_step (N6d _ hd) (by omega)
  rw [e1, run_to N8 (by omega) (by omega) (fun j h1 h2 => hr.2.1 j (by omega) h2)]
  exact R_stop (N8x _ hr.2.2)

theorem exp_fail {zs : List Int} {s : Int} {i q : Nat} (h : A6 zs s i) (hr : IsRun zs i q) (hq : ¬ i < q) : R zs s i = (s, q) ∧ acc s = false := by
  have e : q = i := by have := hr.1; omega
  subst e
  have hd := hr.2.2
  rcases h with rfl | ⟨rfl, h1, h2⟩
  · exact ⟨R_stop (N7x _ hd), rfl⟩
  · exact ⟨R_stop (N6x _ h1 h2 hd), rfl⟩

end Sc
end Go.Proofs.Qxb6602776a
