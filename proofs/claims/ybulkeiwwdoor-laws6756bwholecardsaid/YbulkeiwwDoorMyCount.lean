/-
  The counting sort of the references by their holders, step by step. No Go in sight.
-/
import Derived.Test.YbulkeiwwDoorMyMeas
namespace Go.Proofs.YbulkeiwwDoor.Gr
set_option linter.unusedVariables false

/-- How many of the first i references vertex u holds. -/
def cnt (H : Nat → Nat) (u : Nat) : Nat → Nat
  | 0 => 0
  | i + 1 => cnt H u i + if H i = u then 1 else 0
/-- How many of the m references are held by vertices below v. -/
def below (H : Nat → Nat) (m : Nat) : Nat → Nat
  | 0 => 0
  | v + 1 => below H m v + cnt H v m

theorem cnt_same {H : Nat → Nat} {u i : Nat} (h : H i = u) : cnt H u (i + 1) = cnt H u i + 1 := by simp [cnt, h]
theorem cnt_other {H : Nat → Nat} {u i : Nat} (h : H i ≠ u) : cnt H u (i + 1) = cnt H u i := by simp [cnt, h]
theorem cnt_le {H : Nat → Nat} {u : Nat} : ∀ {i j : Nat}, i ≤ j → cnt H u i ≤ cnt H u j
  | i, 0, h => by rw [Nat.le_zero.1 h]; exact Nat.le_refl _
  | i, j + 1, h => by
    by_cases e : i = j + 1
    · rw [e]; exact Nat.le_refl _
    · exact Nat.le_trans (cnt_le (by omega)) (Nat.le_add_right _ _)
theorem below_mono {H : Nat → Nat} {m : Nat} : ∀ {a b : Nat}, a ≤ b → below H m a ≤ below H m b
  | a, 0, h => by rw [Nat.le_zero.1 h]; exact Nat.le_refl _
  | a, b + 1, h => by
    by_cases e : a = b + 1
    · rw [e]; exact Nat.le_refl _
    · exact Nat.le_trans (below_mono (by omega)) (Nat.le_add_right _ _)

/-- All references are counted. -/
theorem below_all {H : Nat → Nat} : ∀ (m n : Nat), (∀ i, i < m → H i < n) → below H m n = m
  | 0, n, _ => by
    induction n with
    | zero => rfl
    | succ n ih => simp [below, cnt, ih]
  | m + 1, n, h => by
    have ih := below_all m n (fun i hi => h i (by omega))
    have key : ∀ k, below H (m + 1) k = below H m k + if H m < k then 1 else 0 := by
      intro k
      induction k with
      | zero => simp [below]
      | succ k ihk =>
        show below H (m + 1) k + cnt H k (m + 1) = below H m k + cnt H k m + _
        rw [ihk]
        by_cases e : H m = k
        · rw [cnt_same e, if_neg (by omega), if_pos (by omega)]; omega
        · rw [cnt_other e]
          by_cases h2 : H m < k
          · rw [if_pos h2, if_pos (by omega)]; omega
          · rw [if_neg h2, if_neg (by omega)]; omega
    rw [key, ih, if_pos (h m (by omega))]

/-- The place lies in one vertex's part. -/
theorem below_find {H : Nat → Nat} {m : Nat} : ∀ {n p : Nat}, p < below H m n → ∃ u, u < n ∧ below H m u ≤ p ∧ p < below H m (u + 1)
  | 0, p, h => absurd h (Nat.not_lt_zero _)
  | n + 1, p, h => by
    by_cases hp : p < below H m n
    · obtain ⟨u, h1, h2⟩ := below_find hp
      exact ⟨u, by omega, h2⟩
    · exact ⟨n, by omega, by omega, h⟩

/-- What holds ahead of round i of the placing: pos u is the next free place of u. -/
structure Placed (H : Nat → Nat) (T : Nat → Int) (m n i : Nat) (pos : Nat → Nat) (tg : Nat → Int) : Prop where
  at_ : ∀ u, u < n → pos u = below H m u + cnt H u i
  from_ : ∀ u p, u < n → below H m u ≤ p → p < pos u → ∃ j, j < i ∧ H j = u ∧ tg p = T j
  to_ : ∀ j, j < i → ∃ p, below H m (H j) ≤ p ∧ p < pos (H j) ∧ tg p = T j

theorem placed_start (H : Nat → Nat) (T : Nat → Int) (m n : Nat) (tg : Nat → Int) (pos : Nat → Nat) (hp : ∀ u, u < n → pos u = below H m u) : Placed H T m n 0 pos tg :=
  ⟨fun u hu => by rw [hp u hu]; rfl, fun u p hu h1 h2 => by rw [hp u hu] at h2; omega, fun j hj => absurd hj (Nat.not_lt_zero _)⟩

theorem Placed.lt {H : Nat → Nat} {T : Nat → Int} {m n i : Nat} {pos : Nat → Nat} {tg : Nat → Int} (h : Placed H T m n i pos tg) (hi : i < m) (hH : ∀ j, j < m → H j < n) : pos (H i) < m := by
  have h1 := h.at_ (H i) (hH i hi)
  have h2 : cnt H (H i) (i + 1) ≤ cnt H (H i) m := cnt_le (by omega)
  rw [cnt_same rfl] at h2
  have h3 : below H m (H i + 1) ≤ below H m n := below_mono (by have := hH i hi; omega)
  rw [below_all m n hH] at h3
  have h4 : below H m (H i + 1) = below H m (H i) + cnt H (H i) m := rfl
  omega

theorem Placed.next {H : Nat → Nat} {T : Nat → Int} {m n i : Nat} {pos : Nat → Nat} {tg : Nat → Int} (h : Placed H T m n i pos tg) (hi : i < m) (hH : ∀ j, j < m → H j < n) :
    Placed H T m n (i + 1) (fup pos (H i) (pos (H i) + 1)) (fup tg (pos (H i)) (T i)) := by
  have hin := hH i hi
  -- the parts do not meet
  have apart : ∀ u p, u < n → below H m u ≤ p → p < pos u → p ≠ pos (H i) := fun u p hu h1 h2 e => by
    have hu2 := h.at_ u hu
    have hi2 := h.at_ (H i) hin
    have c1 : cnt H u i ≤ cnt H u m := cnt_le (by omega)
    have c2 : cnt H (H i) (i + 1) ≤ cnt H (H i) m := cnt_le (by omega)
    rw [cnt_same rfl] at c2
    have e1 : below H m (u + 1) = below H m u + cnt H u m := rfl
    have e2 : below H m (H i + 1) = below H m (H i) + cnt H (H i) m := rfl
    rcases Nat.lt_trichotomy u (H i) with hl | hl | hl
    · have := below_mono (H := H) (m := m) (show u + 1 ≤ H i by omega)
      omega
    · subst hl; omega
    · have := below_mono (H := H) (m := m) (show H i + 1 ≤ u by omega)
      omega
  refine ⟨fun u hu => ?_, fun u p hu h1 h2 => ?_, fun j hj => ?_⟩
  · by_cases e : u = H i
    · subst e; rw [fup_same, h.at_ _ hin, cnt_same rfl]; omega
    · rw [fup_other _ _ e, h.at_ u hu, cnt_other (fun e' => e e'.symm)]
  · by_cases e : u = H i
    · subst e
      rw [fup_same] at h2
      by_cases e2 : p = pos (H i)
      · subst e2; exact ⟨i, by omega, rfl, fup_same _ _ _⟩
      · obtain ⟨j, q1, q2, q3⟩ := h.from_ (H i) p hu h1 (by omega)
        exact ⟨j, by omega, q2, by rw [fup_other _ _ e2]; exact q3⟩
    · rw [fup_other _ _ e] at h2
      obtain ⟨j, q1, q2, q3⟩ := h.from_ u p hu h1 h2
      exact ⟨j, by omega, q2, by rw [fup_other _ _ (apart u p hu h1 h2)]; exact q3⟩
  · by_cases e : j = i
    · subst e
      refine ⟨pos (H j), by have := h.at_ (H j) hin; omega, by rw [fup_same]; omega, fup_same _ _ _⟩
    · obtain ⟨p, q1, q2, q3⟩ := h.to_ j (by omega)
      refine ⟨p, q1, ?_, ?_⟩
      · by_cases e2 : H j = H i
        · rw [e2, fup_same]; rw [e2] at q2; omega
        · rw [fup_other _ _ e2]; exact q2
      · rw [fup_other _ _ (apart (H j) p (hH j (by omega)) q1 q2)]; exact q3

/-- The graph that is made. -/
def made (H : Nat → Nat) (m n : Nat) (tg : Nat → Int) : Graph := { n := n, first := below H m, tgt := tg }

theorem Placed.ok {H : Nat → Nat} {T : Nat → Int} {m n : Nat} {pos : Nat → Nat} {tg : Nat → Int} (h : Placed H T m n m pos tg) (hH : ∀ j, j < m → H j < n) (hT : ∀ (j v : Nat), j < m → T j = (v : Int) → v < n) : (made H m n tg).Ok := by
  refine ⟨fun i v hi hv => ?_, fun v hv => Nat.le_add_right _ _, fun v hv => below_mono hv⟩
  obtain ⟨u, h1, h2, h3⟩ := below_find (H := H) (m := m) (n := n) hi
  obtain ⟨j, q1, q2, q3⟩ := h.from_ u i h1 h2 (by rw [h.at_ u h1]; exact h3)
  exact hT j v q1 (by rw [← q3]; exact hv)

theorem Placed.edge {H : Nat → Nat} {T : Nat → Int} {m n : Nat} {pos : Nat → Nat} {tg : Nat → Int} (h : Placed H T m n m pos tg) (hH : ∀ j, j < m → H j < n) (u v : Nat) : (made H m n tg).E u v ↔ ∃ j, j < m ∧ H j = u ∧ T j = (v : Int) := by
  constructor
  · rintro ⟨hu, i, h1, h2, h3⟩
    obtain ⟨j, q1, q2, q3⟩ := h.from_ u i hu h1 (by rw [h.at_ u hu]; exact h2)
    exact ⟨j, q1, q2, by rw [← q3]; exact h3⟩
  · rintro ⟨j, h1, rfl, h3⟩
    obtain ⟨p, q1, q2, q3⟩ := h.to_ j h1
    refine ⟨hH j h1, p, q1, ?_, by show tg p = _; rw [q3]; exact h3⟩
    rw [h.at_ _ (hH j h1)] at q2
    exact q2

end Go.Proofs.YbulkeiwwDoor.Gr
