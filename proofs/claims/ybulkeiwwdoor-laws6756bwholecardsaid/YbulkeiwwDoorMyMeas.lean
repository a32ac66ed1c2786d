/-
  How many rounds of the search are still to come at most. No Go in sight.
-/
import Derived.Test.YbulkeiwwDoorMyTarjan2
namespace Go.Proofs.YbulkeiwwDoor.Gr
set_option linter.unusedVariables false

def sumTo (f : Nat → Nat) : Nat → Nat
  | 0 => 0
  | n + 1 => sumTo f n + f n

theorem sumTo_same {f f' : Nat → Nat} : ∀ {n : Nat}, (∀ v, v < n → f v = f' v) → sumTo f n = sumTo f' n
  | 0, _ => rfl
  | n + 1, h => by
    show sumTo f n + f n = sumTo f' n + f' n
    rw [sumTo_same (n := n) (fun v hv => h v (by omega)), h n (by omega)]

theorem sumTo_turn {f f' : Nat → Nat} {w : Nat} : ∀ {n : Nat}, w < n → (∀ v, v ≠ w → f v = f' v) → sumTo f' n + f w = sumTo f n + f' w
  | 0, h, _ => absurd h (Nat.not_lt_zero _)
  | n + 1, h, hf => by
    show sumTo f' n + f' n + f w = sumTo f n + f n + f' w
    by_cases e : w = n
    · subst e
      rw [sumTo_same (f := f') (f' := f) (n := w) (fun v hv => (hf v (by omega)).symm)]
      omega
    · have ih := sumTo_turn (f := f) (f' := f') (n := n) (w := w) (by omega) hf
      rw [hf n (fun e' => e e'.symm)]
      omega

def deg (g : Graph) (v : Nat) : Nat := g.first (v + 1) - g.first v
def white (g : Graph) (o : Nat → Nat) (v : Nat) : Nat := if o v = 0 then deg g v + 1 else 0
def onPath (g : Graph) : List (Nat × Nat) → Nat
  | [] => 0
  | p :: l => (g.first (p.1 + 1) - p.2 + 1) + onPath g l

def meas (g : Graph) (s : TS) : Nat := sumTo (white g s.order) g.n + onPath g s.path

theorem onPath_append (g : Graph) (a b : List (Nat × Nat)) : onPath g (a ++ b) = onPath g a + onPath g b := by
  induction a with
  | nil => simp [onPath]
  | cons p l ih => simp [onPath, ih]; omega

/-- One edge of a vertex on the path is done. -/
theorem meas_next {g : Graph} {s t : TS} {v k : Nat} {pre rest : List (Nat × Nat)} (hp : s.path = pre ++ (v, k) :: rest) (hk : k < g.first (v + 1)) (ho : t.order = s.order) (ht : t.path = pre ++ (v, k + 1) :: rest) : meas g t < meas g s := by
  unfold meas
  rw [hp, ht, ho, onPath_append, onPath_append]
  simp only [onPath]
  omega

/-- A vertex is entered. -/
theorem meas_enter {g : Graph} {s t : TS} {w : Nat} (hw : w < g.n) (h0 : s.order w = 0) {r : Nat} (ho : t.order = fup s.order w (r + 1)) (ht : t.path = (w, g.first w) :: s.path) : meas g t = meas g s := by
  unfold meas
  rw [ht, ho]
  have h1 := sumTo_turn (f := white g s.order) (f' := white g (fup s.order w (r + 1))) (n := g.n) hw (fun v hv => by unfold white; rw [fup_other _ _ hv])
  have h2 : white g s.order w = deg g w + 1 := by unfold white; rw [if_pos h0]
  have h3 : white g (fup s.order w (r + 1)) w = 0 := by unfold white; rw [fup_same, if_neg (by omega)]
  rw [h2, h3] at h1
  simp only [onPath]
  unfold deg at h1
  omega

/-- The path's last vertex is left. -/
theorem meas_leave {g : Graph} {s t : TS} {v k : Nat} {rest : List (Nat × Nat)} (hp : s.path = (v, k) :: rest) (ho : t.order = s.order) (ht : t.path = rest) : meas g t < meas g s := by
  unfold meas
  rw [hp, ht, ho]
  simp only [onPath]
  omega

theorem meas_same {g : Graph} {s t : TS} (ho : t.order = s.order) (ht : t.path = s.path) : meas g t = meas g s := by
  unfold meas; rw [ho, ht]


/-! ### how many vertices have been reached -/
def Cnt (g : Graph) (s : TS) : Prop := sumTo (fun v => if s.order v = 0 then 0 else 1) g.n = s.reached

theorem sumTo_le {f : Nat → Nat} (h : ∀ v, f v ≤ 1) : ∀ n, sumTo f n ≤ n
  | 0 => Nat.le_refl _
  | n + 1 => by
    show sumTo f n + f n ≤ n + 1
    have := sumTo_le h n
    have := h n
    omega

theorem Cnt.le {g : Graph} {s : TS} (h : Cnt g s) : s.reached ≤ g.n := by
  rw [← h]; exact sumTo_le (fun v => by split <;> omega) _

theorem Cnt.enter {g : Graph} {s t : TS} (h : Cnt g s) {w : Nat} (hw : w < g.n) (h0 : s.order w = 0) (ho : t.order = fup s.order w (s.reached + 1)) (hr : t.reached = s.reached + 1) : Cnt g t := by
  unfold Cnt at h ⊢
  rw [ho, hr]
  have h1 := sumTo_turn (f := fun v => if s.order v = 0 then 0 else 1) (f' := fun v => if fup s.order w (s.reached + 1) v = 0 then 0 else 1) (n := g.n) hw (fun v hv => by rw [fup_other _ _ hv])
  simp only [h0, fup_same] at h1
  simp at h1
  omega

theorem Cnt.same {g : Graph} {s t : TS} (h : Cnt g s) (ho : t.order = s.order) (hr : t.reached = s.reached) : Cnt g t := by
  unfold Cnt at h ⊢; rw [ho, hr]; exact h

theorem down_length {o : Nat → Nat} : ∀ {l : List Nat} {m : Nat}, l.Pairwise (fun a b => o b < o a) → (∀ x, x ∈ l → o x ≠ 0 ∧ o x ≤ m) → l.length ≤ m
  | [], _, _, _ => Nat.zero_le _
  | a :: l, m, h, hm => by
    obtain ⟨h1, h2⟩ := List.pairwise_cons.1 h
    have ha := hm a List.mem_cons_self
    have := down_length (m := m - 1) h2 (fun x hx => ⟨(hm x (List.mem_cons_of_mem _ hx)).1, by have := h1 x hx; omega⟩)
    simp; omega

theorem Inv.stack_len {g : Graph} {s : TS} (h : Inv g s) : s.stack.length ≤ s.reached := down_length h.stkO fun x hx => ⟨h.stk0 x hx, h.ordLe x⟩
theorem Inv.path_len {g : Graph} {s : TS} (h : Inv g s) : s.path.length ≤ s.reached := by
  have := down_length h.pthO fun x hx => by
    obtain ⟨p, hp, rfl⟩ := List.mem_map.1 hx
    exact ⟨h.stk0 _ (h.pthS p hp), h.ordLe _⟩
  simpa using this

/-- low falls to the order of an open vertex that is reached. -/
theorem Inv.lowerAny {g : Graph} {s : TS} (h : Inv g s) {v : Nat} {m : Nat} (hy : ∃ y, y ∈ s.stack ∧ s.order y = m ∧ Reach g.E v y) : Inv g { s with low := fup s.low v (min (s.low v) m) } := by
  have hle : ∀ x, fup s.low v (min (s.low v) m) x ≤ s.low x := fun x => by
    by_cases e : x = v
    · subst e; rw [fup_same]; omega
    · rw [fup_other _ _ e]; omega
  refine ⟨h.ordLe, h.ordLt, h.opn, h.stk0, h.stkO, h.pthS, h.pthO, h.down, h.shut, h.black, h.scan, fun p hh => ?_, fun x hx p hh ho hq i h1 h2 h3 w hw hws => ?_⟩
  · obtain ⟨a, y, hys, e1, e2⟩ := h.lowS p hh
    refine ⟨Nat.le_trans (hle _) a, ?_⟩
    by_cases e : p.1 = v
    · by_cases hm : s.low v ≤ m
      · refine ⟨y, hys, ?_, e2⟩
        show _ = fup _ _ _ _
        rw [e, fup_same, e1, e]; omega
      · obtain ⟨z, hz, ez, rz⟩ := hy
        refine ⟨z, hz, ?_, by rw [e]; exact rz⟩
        show _ = fup _ _ _ _
        rw [e, fup_same, ez]; omega
    · refine ⟨y, hys, ?_, e2⟩
      show _ = fup _ _ _ _
      rw [fup_other _ _ e, e1]
  · exact Nat.le_trans (hle _) (h.lowC x hx p hh ho hq i h1 h2 h3 w hw hws)

end Go.Proofs.YbulkeiwwDoor.Gr
