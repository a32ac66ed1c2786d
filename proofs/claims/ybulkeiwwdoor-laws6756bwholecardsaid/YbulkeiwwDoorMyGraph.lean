/-
  Plain facts on graphs over the numbers below n: reachability, Warshall's closure. No Go in sight.
-/
namespace Go.Proofs.YbulkeiwwDoor.Gr
set_option linter.unusedVariables false

/-- From u to v along the edges E, none allowed. -/
inductive Reach (E : Nat → Nat → Prop) : Nat → Nat → Prop
  | refl (v : Nat) : Reach E v v
  | step {u x v : Nat} : E u x → Reach E x v → Reach E u v

theorem Reach.trans {E : Nat → Nat → Prop} {a b c : Nat} (h : Reach E a b) (k : Reach E b c) : Reach E a c := by
  induction h with
  | refl => exact k
  | step e _ ih => exact .step e (ih k)

theorem Reach.one {E : Nat → Nat → Prop} {a b : Nat} (h : E a b) : Reach E a b := .step h (.refl _)

/-- From u to v along at least one edge. -/
def Plus (E : Nat → Nat → Prop) (u v : Nat) : Prop := ∃ x, E u x ∧ Reach E x v

theorem Plus.reach {E : Nat → Nat → Prop} {u v : Nat} (h : Plus E u v) : Reach E u v := by
  obtain ⟨x, e, r⟩ := h; exact .step e r

theorem Reach.plus {E : Nat → Nat → Prop} {u v : Nat} (h : Reach E u v) (hne : u ≠ v) : Plus E u v := by
  cases h with
  | refl => exact absurd rfl hne
  | step e r => exact ⟨_, e, r⟩

theorem Plus.trans {E : Nat → Nat → Prop} {a b c : Nat} (h : Plus E a b) (k : Plus E b c) : Plus E a c := by
  obtain ⟨x, e, r⟩ := h; exact ⟨x, e, r.trans k.reach⟩

/-! ### Warshall -/

/-- A way from i to j whose inner vertices all lie below k. -/
def Via (E : Nat → Nat → Prop) : Nat → Nat → Nat → Prop
  | 0, i, j => E i j
  | k + 1, i, j => Via E k i j ∨ (Via E k i k ∧ Via E k k j)

theorem Via.trans {E : Nat → Nat → Prop} : ∀ (k : Nat) {i m j : Nat}, m < k → Via E k i m → Via E k m j → Via E k i j
  | 0, _, _, _, h, _, _ => absurd h (Nat.not_lt_zero _)
  | k + 1, i, m, j, h, h1, h2 => by
    by_cases e : m = k
    · subst e
      have a : Via E m i m := h1.elim id (fun x => x.1)
      have b : Via E m m j := h2.elim id (fun x => x.2)
      exact Or.inr ⟨a, b⟩
    · have hm : m < k := by omega
      rcases h1 with h1 | ⟨h1, h1'⟩
      · rcases h2 with h2 | ⟨h2, h2'⟩
        · exact Or.inl (Via.trans k hm h1 h2)
        · exact Or.inr ⟨Via.trans k hm h1 h2, h2'⟩
      · rcases h2 with h2 | ⟨h2, h2'⟩
        · exact Or.inr ⟨h1, Via.trans k hm h1' h2⟩
        · exact Or.inr ⟨h1, h2'⟩

theorem Via.up {E : Nat → Nat → Prop} {i j : Nat} (h : E i j) : ∀ k, Via E k i j
  | 0 => h
  | k + 1 => Or.inl (Via.up h k)

theorem via_of_plus {E : Nat → Nat → Prop} {n : Nat} (hE : ∀ u v, E u v → v < n) {i j : Nat} (h : Plus E i j) : Via E n i j := by
  obtain ⟨x, e, r⟩ := h
  induction r generalizing i with
  | refl => exact Via.up e n
  | step e' _ ih => exact Via.trans n (hE _ _ e) (Via.up e n) (ih e')

/-- The state of Warshall's three loops ahead of the inner round (k, i, j). -/
structure War (E : Nat → Nat → Prop) (n k i j : Nat) (R : Nat → Nat → Bool) : Prop where
  sound : ∀ a b, R a b = true → Plus E a b
  base : ∀ a b, a < n → b < n → Via E k a b → R a b = true
  rows : ∀ a b, a < i → a < n → b < n → Via E (k + 1) a b → R a b = true
  row : ∀ b, i < n → b < j → b < n → Via E (k + 1) i b → R i b = true

def upd (R : Nat → Nat → Bool) (i j : Nat) (b : Bool) : Nat → Nat → Bool := fun x y => if x = i ∧ y = j then b else R x y

theorem upd_mono {R : Nat → Nat → Bool} {i j a b : Nat} (h : R a b = true) : upd R i j true a b = true := by
  unfold upd; split
  · rfl
  · exact h

theorem War.start {E : Nat → Nat → Prop} {n : Nat} {R : Nat → Nat → Bool} (h : ∀ a b, a < n → b < n → (R a b = true ↔ E a b)) (h' : ∀ a b, R a b = true → E a b) : War E n 0 0 0 R :=
  ⟨fun a b e => ⟨b, h' a b e, .refl _⟩, fun a b ha hb v => (h a b ha hb).2 v, fun a b h => absurd h (Nat.not_lt_zero _), fun b _ h => absurd h (Nat.not_lt_zero _)⟩

/-- The inner round sets. -/
theorem War.set {E : Nat → Nat → Prop} {n k i j : Nat} {R : Nat → Nat → Bool} (h : War E n k i j R) (h1 : R i k = true) (h2 : R k j = true) : War E n k i (j + 1) (upd R i j true) := by
  refine ⟨fun a b e => ?_, fun a b ha hb v => upd_mono (h.base a b ha hb v), fun a b hi ha hb v => upd_mono (h.rows a b hi ha hb v), fun b hi hj hb v => ?_⟩
  · unfold upd at e; split at e
    · rename_i hh; obtain ⟨rfl, rfl⟩ := hh; exact (h.sound _ _ h1).trans (h.sound _ _ h2)
    · exact h.sound a b e
  · by_cases e : b = j
    · subst e; simp [upd]
    · exact upd_mono (h.row b hi (by omega) hb v)

/-- The inner round does not set. -/
theorem War.pass {E : Nat → Nat → Prop} {n k i j : Nat} {R : Nat → Nat → Bool} (h : War E n k i j R) (hk : k < n) (hj' : j < n) (h2 : R k j = false) : War E n k i (j + 1) R := by
  refine ⟨h.sound, h.base, h.rows, fun b hi hj hb v => ?_⟩
  by_cases e : b = j
  · subst e
    rcases v with v | ⟨_, v⟩
    · exact h.base _ _ hi hb v
    · have := h.base _ _ hk hb v
      rw [h2] at this; cases this
  · exact h.row b hi (by omega) hb v

/-- The row is done. -/
theorem War.next {E : Nat → Nat → Prop} {n k i : Nat} {R : Nat → Nat → Bool} (h : War E n k i n R) : War E n k (i + 1) 0 R := by
  refine ⟨h.sound, h.base, fun a b hi ha hb v => ?_, fun b _ h => absurd h (Nat.not_lt_zero _)⟩
  by_cases e : a = i
  · subst e; exact h.row b ha hb hb v
  · exact h.rows a b (by omega) ha hb v

/-- The row is skipped. -/
theorem War.skip {E : Nat → Nat → Prop} {n k i : Nat} {R : Nat → Nat → Bool} (h : War E n k i 0 R) (hk : k < n) (h1 : R i k = false) : War E n k (i + 1) 0 R := by
  refine ⟨h.sound, h.base, fun a b hi ha hb v => ?_, fun b _ h => absurd h (Nat.not_lt_zero _)⟩
  by_cases e : a = i
  · subst e
    rcases v with v | ⟨v, _⟩
    · exact h.base _ _ ha hb v
    · have := h.base _ _ ha hk v
      rw [h1] at this; cases this
  · exact h.rows a b (by omega) ha hb v

/-- The round k is done. -/
theorem War.turn {E : Nat → Nat → Prop} {n k : Nat} {R : Nat → Nat → Bool} (h : War E n k n 0 R) : War E n (k + 1) 0 0 R :=
  ⟨h.sound, fun a b ha hb v => h.rows a b ha ha hb v, fun a b h => absurd h (Nat.not_lt_zero _), fun b _ h => absurd h (Nat.not_lt_zero _)⟩

/-- All is done. -/
theorem War.done {E : Nat → Nat → Prop} {n : Nat} {R : Nat → Nat → Bool} (h : War E n n 0 0 R) (hE : ∀ u v, E u v → v < n) {a b : Nat} (ha : a < n) (hb : b < n) : R a b = true ↔ Plus E a b :=
  ⟨h.sound a b, fun p => h.base a b ha hb (via_of_plus hE p)⟩

end Go.Proofs.YbulkeiwwDoor.Gr
