/-
  Seat b6602846a: the phases of a JSON number as a plain automaton, its run over a list of bytes, and the roads through it. No Go in sight.
-/
import Derived.Test.Qxb6602846aRows
namespace Go.Proofs.Qxb6602846a
namespace Nq

def digB (c : Int) : Bool := decide (48 ≤ c) && decide (c ≤ 57)

theorem digB_yes {c : Int} : digB c = true ↔ 48 ≤ c ∧ c ≤ 57 := by simp [digB]
theorem digB_no {c : Int} : digB c = false ↔ c < 48 ∨ 57 < c := by
  simp [digB]; omega

/-- The phase past c, or -1. -/
def N (s c : Int) : Int :=
  if s = 0 then (if c = 48 then 1 else if digB c = true then 2 else -1)
  else if s = 1 then (if c = 46 then 3 else if c = 101 then 5 else if c = 69 then 5 else -1)
  else if s = 2 then (if digB c = true then 2 else if c = 46 then 3 else if c = 101 then 5 else if c = 69 then 5 else -1)
  else if s = 3 then (if digB c = true then 4 else -1)
  else if s = 4 then (if digB c = true then 4 else if c = 101 then 5 else if c = 69 then 5 else -1)
  else if s = 5 then (if c = 43 then 6 else if c = 45 then 6 else if digB c = true then 7 else -1)
  else if s = 6 then (if digB c = true then 7 else -1)
  else if s = 7 then (if digB c = true then 7 else -1)
  else -1

/-- The phases in which a number may end. -/
def acc (s : Int) : Bool := s == 1 || s == 2 || s == 4 || s == 7

def aut : Int → List Int → Int × Nat
  | s, [] => (s, 0)
  | s, c :: r => if N s c < 0 then (s, 0) else ((aut (N s c) r).1, (aut (N s c) r).2 + 1)

/-- The run from place i: the last phase, and the place. -/
def R (zs : List Int) (s : Int) (i : Nat) : Int × Nat := ((aut s (zs.drop i)).1, i + (aut s (zs.drop i)).2)

theorem N_zero (s : Int) : N s 0 = -1 := by
  have : digB 0 = false := by decide
  unfold N
  simp [this]

theorem N_range (s c : Int) : N s c ≤ 7 := by
  unfold N
  repeat' split
  all_goals omega

theorem getD_out {zs : List Int} {i len : Nat} (hlen : zs.length = len) (h : ¬ i < len) : zs.getD i 0 = 0 := by
  rw [List.getD_eq_getElem?_getD, List.getElem?_eq_none (by omega)]
  rfl

theorem R_stop {zs : List Int} {s : Int} {i : Nat} (h : N s (zs.getD i 0) < 0) : R zs s i = (s, i) := by
  unfold R
  by_cases hi : i < zs.length
  · rw [List.drop_eq_getElem_cons hi]
    rw [List.getD_eq_getElem?_getD, List.getElem?_eq_getElem hi] at h
    simp only [Option.getD_some] at h
    simp [aut, h]
  · rw [List.drop_eq_nil_of_le (by omega)]
    simp [aut]

theorem R_end {zs : List Int} {s : Int} {i len : Nat} (hlen : zs.length = len) (h : ¬ i < len) : R zs s i = (s, i) :=
  R_stop (by rw [getD_out hlen h, N_zero]; omega)

theorem R_step {zs : List Int} {s t : Int} {i : Nat} (h : N s (zs.getD i 0) = t) (ht : 0 ≤ t) : R zs s i = R zs t (i + 1) := by
  have hi : i < zs.length := by
    by_cases e : i < zs.length
    · exact e
    · rw [List.getD_eq_getElem?_getD, List.getElem?_eq_none (by omega), Option.getD_none, N_zero] at h
      omega
  unfold R
  rw [List.drop_eq_getElem_cons hi]
  rw [List.getD_eq_getElem?_getD, List.getElem?_eq_getElem hi] at h
  simp only [Option.getD_some] at h
  have hn : ¬ t < 0 := by omega
  simp only [aut, h, if_neg hn]
  rw [show i + ((aut t (zs.drop (i + 1))).2 + 1) = i + 1 + (aut t (zs.drop (i + 1))).2 by omega]

theorem run_same {zs : List Int} {s : Int} (hs : ∀ c, digB c = true → N s c = s) (h0 : 0 ≤ s) : ∀ (n i : Nat), (∀ j, i ≤ j → j < i + n → digB (zs.getD j 0) = true) → R zs s i = R zs s (i + n)
  | 0, _, _ => rfl
  | n + 1, i, h => by
    have a := R_step (hs _ (h i (Nat.le_refl _) (by omega))) h0
    have b := run_same hs h0 n (i + 1) (fun j h1 h2 => h j (by omega) (by omega))
    rw [a, b, show i + 1 + n = i + (n + 1) by omega]

theorem run_to {zs : List Int} {s : Int} {i q : Nat} (hs : ∀ c, digB c = true → N s c = s) (h0 : 0 ≤ s) (hq : i ≤ q) (h : ∀ j, i ≤ j → j < q → digB (zs.getD j 0) = true) : R zs s i = R zs s q := by
  have := run_same hs h0 (q - i) i (fun j h1 h2 => h j h1 (by omega))
  rwa [show i + (q - i) = q by omega] at this

/-- q is where a run of digits that begins at p ends. -/
def IsRun (zs : List Int) (p q : Nat) : Prop :=
  p ≤ q ∧ (∀ j, p ≤ j → j < q → digB (zs.getD j 0) = true) ∧ digB (zs.getD q 0) = false

theorem N2 (c : Int) (h : digB c = true) : N 2 c = 2 := by simp [N, h]
theorem N4 (c : Int) (h : digB c = true) : N 4 c = 4 := by simp [N, h]
theorem N7 (c : Int) (h : digB c = true) : N 7 c = 7 := by simp [N, h]
theorem N3 (c : Int) (h : digB c = true) : N 3 c = 4 := by simp [N, h]
theorem N6 (c : Int) (h : digB c = true) : N 6 c = 7 := by simp [N, h]
theorem N5 (c : Int) (h : digB c = true) : N 5 c = 7 := by
  have := digB_yes.1 h
  simp [N, h, show c ≠ 43 by omega, show c ≠ 45 by omega]
theorem N0 (c : Int) (h48 : c ≠ 48) (h : digB c = true) : N 0 c = 2 := by simp [N, h, h48]
theorem N0x (c : Int) (h : digB c = false) : N 0 c < 0 := by
  have h48 : c ≠ 48 := by intro e; subst e; cases h
  simp [N, h, h48]
theorem N1x (c : Int) (h1 : c ≠ 101) (h2 : c ≠ 69) (h3 : c ≠ 46) : N 1 c < 0 := by simp [N, h1, h2, h3]
theorem N2x (c : Int) (h1 : c ≠ 101) (h2 : c ≠ 69) (h3 : c ≠ 46) (h : digB c = false) : N 2 c < 0 := by simp [N, h1, h2, h3, h]
theorem N3x (c : Int) (h : digB c = false) : N 3 c < 0 := by simp [N, h]
theorem N4x (c : Int) (h1 : c ≠ 101) (h2 : c ≠ 69) (h : digB c = false) : N 4 c < 0 := by simp [N, h1, h2, h]
theorem N5x (c : Int) (h1 : c ≠ 43) (h2 : c ≠ 45) (h : digB c = false) : N 5 c < 0 := by simp [N, h, h1, h2]
theorem N6x (c : Int) (h : digB c = false) : N 6 c < 0 := by simp [N, h]
theorem N7x (c : Int) (h : digB c = false) : N 7 c < 0 := by simp [N, h]

/-- Behind the whole part; behind the fraction. -/
def A1 (zs : List Int) (s : Int) (i : Nat) : Prop := s = 1 ∨ (s = 2 ∧ digB (zs.getD i 0) = false)
def A2 (zs : List Int) (s : Int) (i : Nat) : Prop := (s = 1 ∧ zs.getD i 0 ≠ 46) ∨ (s = 2 ∧ zs.getD i 0 ≠ 46 ∧ digB (zs.getD i 0) = false) ∨ (s = 4 ∧ digB (zs.getD i 0) = false)
/-- Behind the exponent's letter and its sign. -/
def A5 (zs : List Int) (s : Int) (i : Nat) : Prop := s = 6 ∨ (s = 5 ∧ zs.getD i 0 ≠ 43 ∧ zs.getD i 0 ≠ 45)

theorem zero_road {zs : List Int} {i : Nat} (hz : zs.getD i 0 = 48) : A1 zs 1 (i + 1) ∧ R zs 0 i = R zs 1 (i + 1) :=
  ⟨.inl rfl, R_step (by rw [hz]; decide) (by omega)⟩

theorem int_road {zs : List Int} {i q : Nat} (hz : zs.getD i 0 ≠ 48) (hr : IsRun zs i q) (hq : i < q) : A1 zs 2 q ∧ R zs 0 i = R zs 2 q := by
  refine ⟨.inr ⟨rfl, hr.2.2⟩, ?_⟩
  rw [R_step (N0 _ hz (hr.2.1 i (Nat.le_refl _) hq)) (by omega)]
  exact run_to N2 (by omega) (by omega) (fun j h1 h2 => hr.2.1 j (by omega) h2)

theorem int_fail {zs : List Int} {i : Nat} (hd : digB (zs.getD i 0) = false) : R zs 0 i = (0, i) := R_stop (N0x _ hd)

theorem dot_no {zs : List Int} {s : Int} {i : Nat} (h : A1 zs s i) (hz : zs.getD i 0 ≠ 46) : A2 zs s i := by
  rcases h with rfl | ⟨rfl, hd⟩
  · exact .inl ⟨rfl, hz⟩
  · exact .inr (.inl ⟨rfl, hz, hd⟩)

theorem dot_road {zs : List Int} {s : Int} {i : Nat} (h : A1 zs s i) (hz : zs.getD i 0 = 46) : R zs s i = R zs 3 (i + 1) := by
  rcases h with rfl | ⟨rfl, hd⟩
  · exact R_step (by rw [hz]; decide) (by omega)
  · exact R_step (by rw [hz]; decide) (by omega)

theorem frac_road {zs : List Int} {i q : Nat} (hr : IsRun zs i q) (hq : i < q) : A2 zs 4 q ∧ R zs 3 i = R zs 4 q := by
  refine ⟨.inr (.inr ⟨rfl, hr.2.2⟩), ?_⟩
  rw [R_step (N3 _ (hr.2.1 i (Nat.le_refl _) hq)) (by omega)]
  exact run_to N4 (by omega) (by omega) (fun j h1 h2 => hr.2.1 j (by omega) h2)

theorem frac_fail {zs : List Int} {i : Nat} (hd : digB (zs.getD i 0) = false) : R zs 3 i = (3, i) := R_stop (N3x _ hd)

theorem e_road {zs : List Int} {s : Int} {i : Nat} (h : A2 zs s i) (hz : zs.getD i 0 = 101 ∨ zs.getD i 0 = 69) : R zs s i = R zs 5 (i + 1) := by
  rcases h with ⟨rfl, _⟩ | ⟨rfl, _, _⟩ | ⟨rfl, _⟩ <;> rcases hz with hz | hz <;> exact R_step (by rw [hz]; decide) (by omega)

theorem e_no {zs : List Int} {s : Int} {i : Nat} (h : A2 zs s i) (h1 : zs.getD i 0 ≠ 101) (h2 : zs.getD i 0 ≠ 69) : R zs s i = (s, i) ∧ acc s = true := by
  rcases h with ⟨rfl, h46⟩ | ⟨rfl, h46, hd⟩ | ⟨rfl, hd⟩
  · exact ⟨R_stop (N1x _ h1 h2 h46), rfl⟩
  · exact ⟨R_stop (N2x _ h1 h2 h46 hd), rfl⟩
  · exact ⟨R_stop (N4x _ h1 h2 hd), rfl⟩

theorem sign_road {zs : List Int} {i : Nat} (hz : zs.getD i 0 = 43 ∨ zs.getD i 0 = 45) : A5 zs 6 (i + 1) ∧ R zs 5 i = R zs 6 (i + 1) := by
  rcases hz with hz | hz
  · exact ⟨.inl rfl, R_step (by rw [hz]; decide) (by omega)⟩
  · exact ⟨.inl rfl, R_step (by rw [hz]; decide) (by omega)⟩

theorem exp_road {zs : List Int} {s : Int} {i q : Nat} (h : A5 zs s i) (hr : IsRun zs i q) (hq : i < q) : R zs s i = (7, q) := by
  have hd := hr.2.1 i (Nat.le_refl _) hq
  have e1 : R zs s i = R zs 7 (i + 1) := by
    rcases h with rfl | ⟨rfl, h1, h2⟩
    · exact R_step (N6 _ hd) (by omega)
    · exact R_step (N5 _ hd) (by omega)
  rw [e1, run_to N7 (by omega) (by omega) (fun j h1 h2 => hr.2.1 j (by omega) h2)]
  exact R_stop (N7x _ hr.2.2)

theorem exp_fail {zs : List Int} {s : Int} {i : Nat} (h : A5 zs s i) (hd : digB (zs.getD i 0) = false) : R zs s i = (s, i) := by
  rcases h with rfl | ⟨rfl, h1, h2⟩
  · exact R_stop (N6x _ hd)
  · exact R_stop (N5x _ h1 h2 hd)

end Nq
end Go.Proofs.Qxb6602846a
