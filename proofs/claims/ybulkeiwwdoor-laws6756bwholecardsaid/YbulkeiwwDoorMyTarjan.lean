/-
  Tarjan's algorithm with a path of its own, step by step: what holds ahead of each round. No Go in sight.
-/
import Derived.Test.YbulkeiwwDoorMyGraph
namespace Go.Proofs.YbulkeiwwDoor.Gr
set_option linter.unusedVariables false

/-- The graph: vertex v < n holds the references first v ≤ i < first (v + 1); tgt i is the vertex named, or -1. -/
structure Graph where
  n : Nat
  first : Nat → Nat
  tgt : Nat → Int

def Graph.E (g : Graph) (u v : Nat) : Prop := u < g.n ∧ ∃ i, g.first u ≤ i ∧ i < g.first (u + 1) ∧ g.tgt i = (v : Int)

structure Graph.Ok (g : Graph) : Prop where
  lt : ∀ i v : Nat, i < g.first g.n → g.tgt i = (v : Int) → v < g.n
  mono : ∀ v, v < g.n → g.first v ≤ g.first (v + 1)
  top : ∀ v, v ≤ g.n → g.first v ≤ g.first g.n

theorem Graph.Ok.E_lt {g : Graph} (h : g.Ok) {u v : Nat} (e : g.E u v) : v < g.n := by
  obtain ⟨hu, i, h1, h2, h3⟩ := e
  exact h.lt i v (Nat.lt_of_lt_of_le h2 (h.top _ hu)) h3

structure TS where
  order : Nat → Nat
  low : Nat → Nat
  opn : Nat → Bool
  stack : List Nat
  path : List (Nat × Nat)
  reached : Nat
  groups : List (List Nat)

def fup {α : Type} (f : Nat → α) (i : Nat) (v : α) : Nat → α := fun x => if x = i then v else f x
theorem fup_same {α : Type} (f : Nat → α) (i : Nat) (v : α) : fup f i v i = v := if_pos rfl
theorem fup_other {α : Type} (f : Nat → α) {i x : Nat} (v : α) (h : x ≠ i) : fup f i v x = f x := if_neg h

/-- What holds of the search (all but the groups). -/
structure Inv (g : Graph) (s : TS) : Prop where
  ordLe : ∀ v, s.order v ≤ s.reached
  ordLt : ∀ v, s.order v ≠ 0 → v < g.n
  opn : ∀ v, s.opn v = true ↔ v ∈ s.stack
  stk0 : ∀ v, v ∈ s.stack → s.order v ≠ 0
  stkO : s.stack.Pairwise (fun a b => s.order b < s.order a)
  pthS : ∀ p, p ∈ s.path → p.1 ∈ s.stack
  pthO : (s.path.map (·.1)).Pairwise (fun a b => s.order b < s.order a)
  down : ∀ p, p ∈ s.path → ∀ x, x ∈ s.stack → s.order p.1 ≤ s.order x → Reach g.E p.1 x
  shut : ∀ v, s.order v ≠ 0 → v ∉ s.stack → ∀ w, g.E v w → s.order w ≠ 0 ∧ w ∉ s.stack
  black : ∀ x, x ∈ s.stack → (∀ p, p ∈ s.path → p.1 ≠ x) → (∀ w, g.E x w → s.order w ≠ 0) ∧ ∃ y, y ∈ s.stack ∧ s.order y < s.order x ∧ Reach g.E x y
  scan : ∀ p, p ∈ s.path → g.first p.1 ≤ p.2 ∧ p.2 ≤ g.first (p.1 + 1) ∧ ∀ i, g.first p.1 ≤ i → i < p.2 → ∀ w : Nat, g.tgt i = (w : Int) → s.order w ≠ 0
  lowS : ∀ p, p ∈ s.path → s.low p.1 ≤ s.order p.1 ∧ ∃ y, y ∈ s.stack ∧ s.order y = s.low p.1 ∧ Reach g.E p.1 y
  lowC : ∀ x, x ∈ s.stack → ∀ p, p ∈ s.path → s.order p.1 ≤ s.order x → (∀ q, q ∈ s.path → s.order q.1 ≤ s.order x → s.order q.1 ≤ s.order p.1) →
    ∀ i, g.first x ≤ i → i < g.first (x + 1) → (x = p.1 → i < p.2) → ∀ w : Nat, g.tgt i = (w : Int) → w ∈ s.stack → s.low p.1 ≤ s.order w

theorem Inv.stk_lt {g : Graph} {s : TS} (h : Inv g s) {v : Nat} (hv : v ∈ s.stack) : v < g.n := h.ordLt v (h.stk0 v hv)

/-- Open vertices of one order are one. -/
theorem Inv.inj {g : Graph} {s : TS} (h : Inv g s) {a b : Nat} (ha : a ∈ s.stack) (hb : b ∈ s.stack) (e : s.order a = s.order b) : a = b := by
  have key : ∀ (l : List Nat), l.Pairwise (fun a b => s.order b < s.order a) → a ∈ l → b ∈ l → a = b := by
    intro l hl
    induction hl with
    | nil => intro h; cases h
    | cons hx _ ih =>
      intro h1 h2
      rcases List.mem_cons.1 h1 with rfl | h1'
      · rcases List.mem_cons.1 h2 with rfl | h2'
        · rfl
        · have := hx _ h2'; omega
      · rcases List.mem_cons.1 h2 with rfl | h2'
        · have := hx _ h1'; omega
        · exact ih h1' h2'
  exact key _ h.stkO ha hb

/-- The round's edge names none, or a vertex that is shut, or an open one no earlier than low. -/
theorem Inv.next {g : Graph} {s : TS} (h : Inv g s) {v k : Nat} {pre rest : List (Nat × Nat)} (hp : s.path = pre ++ (v, k) :: rest) (hk : k < g.first (v + 1))
    (he : ∀ w : Nat, g.tgt k = (w : Int) → s.order w ≠ 0 ∧ (w ∈ s.stack → s.low v ≤ s.order w)) : Inv g { s with path := pre ++ (v, k + 1) :: rest } := by
  have hv : (v, k) ∈ s.path := by rw [hp]; simp
  have hmem : ∀ p, p ∈ pre ++ (v, k + 1) :: rest → ∃ q, q ∈ s.path ∧ q.1 = p.1 ∧ (p = (v, k + 1) ∧ q = (v, k) ∨ p = q) := fun p hh => by
    rw [List.mem_append, List.mem_cons] at hh
    rcases hh with hh | rfl | hh
    · exact ⟨p, by rw [hp]; simp [hh], rfl, Or.inr rfl⟩
    · exact ⟨(v, k), hv, rfl, Or.inl ⟨rfl, rfl⟩⟩
    · exact ⟨p, by rw [hp]; simp [hh], rfl, Or.inr rfl⟩
  have hback : ∀ q, q ∈ s.path → ∃ p, p ∈ pre ++ (v, k + 1) :: rest ∧ p.1 = q.1 := fun q hq => by
    rw [hp, List.mem_append, List.mem_cons] at hq
    rcases hq with hq | rfl | hq
    · exact ⟨q, by simp [hq], rfl⟩
    · exact ⟨(v, k + 1), by simp, rfl⟩
    · exact ⟨q, by simp [hq], rfl⟩
  have hO : ((pre ++ (v, k + 1) :: rest).map (·.1)).Pairwise (fun a b => s.order b < s.order a) := by
    have := h.pthO
    rw [hp] at this
    simpa using this
  refine ⟨h.ordLe, h.ordLt, h.opn, h.stk0, h.stkO, fun p hh => ?_, hO, fun p hh x hx ho => ?_, h.shut, fun x hx hn => ?_, fun p hh => ?_, fun p hh => ?_, fun x hx p hh ho hq i h1 h2 h3 w hw hws => ?_⟩
  · obtain ⟨q, hq, e, _⟩ := hmem p hh; rw [← e]; exact h.pthS q hq
  · obtain ⟨q, hq, e, _⟩ := hmem p hh; rw [← e] at ho ⊢; exact h.down q hq x hx ho
  · exact h.black x hx fun q hq => by obtain ⟨p, hh, e⟩ := hback q hq; rw [← e]; exact hn p hh
  · obtain ⟨q, hq, e, hc⟩ := hmem p hh
    rcases hc with ⟨rfl, rfl⟩ | rfl
    · obtain ⟨a, b, c⟩ := h.scan (v, k) hv
      refine ⟨Nat.le_succ_of_le a, hk, fun i h1 h2 w hw => ?_⟩
      by_cases e : i = k
      · subst e; exact (he w hw).1
      · exact c i h1 (by simp at h2 ⊢; omega) w hw
    · exact h.scan p hq
  · obtain ⟨q, hq, e, _⟩ := hmem p hh; rw [← e]; exact h.lowS q hq
  · obtain ⟨q, hq', e, hc⟩ := hmem p hh
    have ho' : s.order q.1 ≤ s.order x := by rw [e]; exact ho
    have hq'' : ∀ r, r ∈ s.path → s.order r.1 ≤ s.order x → s.order r.1 ≤ s.order q.1 := fun r hr hro => by
      obtain ⟨p', hp', e'⟩ := hback r hr
      rw [e, ← e']; exact hq p' hp' (by rw [e']; exact hro)
    rcases hc with ⟨rfl, rfl⟩ | rfl
    · by_cases ei : x = v ∧ i = k
      · obtain ⟨rfl, rfl⟩ := ei; exact (he w hw).2 hws
      · refine h.lowC x hx (v, k) hv ho' hq'' i h1 h2 (fun ex => ?_) w hw hws
        have := h3 ex
        simp at this ex ⊢; omega
    · exact h.lowC x hx p hq' ho' hq'' i h1 h2 h3 w hw hws

/-- low of the path's last vertex falls to the order of an open vertex that it reaches. -/
theorem Inv.lower {g : Graph} {s : TS} (h : Inv g s) {v k : Nat} {rest : List (Nat × Nat)} (hp : s.path = (v, k) :: rest) {m : Nat}
    (hy : ∃ y, y ∈ s.stack ∧ s.order y = m ∧ Reach g.E v y) : Inv g { s with low := fup s.low v (min (s.low v) m) } := by
  have hv : (v, k) ∈ s.path := by rw [hp]; exact List.mem_cons_self
  have hle : ∀ x, fup s.low v (min (s.low v) m) x ≤ s.low x := fun x => by
    by_cases e : x = v
    · subst e; rw [fup_same]; omega
    · rw [fup_other _ _ e]; omega
  refine ⟨h.ordLe, h.ordLt, h.opn, h.stk0, h.stkO, h.pthS, h.pthO, h.down, h.shut, h.black, h.scan, fun p hh => ?_, fun x hx p hh ho hq i h1 h2 h3 w hw hws => ?_⟩
  · obtain ⟨a, y, hys, e1, e2⟩ := h.lowS p hh
    refine ⟨Nat.le_trans (hle _) a, ?_⟩
    by_cases e : p.1 = v
    · by_cases hm : s.low v ≤ m
      · refine ⟨y, hys, ?_, e2⟩
        show _ = fup _ _ _ _
        rw [e, fup_same, e1, e]; omega
      · obtain ⟨z, hz, ez, rz⟩ := hy
        refine ⟨z, hz, ?_, by rw [e]; exact rz⟩
        show _ = fup _ _ _ _
        rw [e, fup_same, ez]; omega
    · refine ⟨y, hys, ?_, e2⟩
      show _ = fup _ _ _ _
      rw [fup_other _ _ e, e1]
  · exact Nat.le_trans (hle _) (h.lowC x hx p hh ho hq i h1 h2 h3 w hw hws)

/-- A vertex that was not reached is entered. -/
theorem Inv.enter {g : Graph} {s : TS} (h : Inv g s) (hg : g.Ok) {w : Nat} (hw : w < g.n) (h0 : s.order w = 0) (hr : ∀ p, p ∈ s.path → Reach g.E p.1 w) :
    Inv g { s with order := fup s.order w (s.reached + 1), low := fup s.low w (s.reached + 1), opn := fup s.opn w true, stack := w :: s.stack, path := (w, g.first w) :: s.path, reached := s.reached + 1 } := by
  have hns : w ∉ s.stack := fun hh => h.stk0 w hh h0
  have hne : ∀ x, x ∈ s.stack → x ≠ w := fun x hx e => hns (e ▸ hx)
  have ho : ∀ x, x ∈ s.stack → fup s.order w (s.reached + 1) x = s.order x := fun x hx => fup_other _ _ (hne x hx)
  have hop : ∀ p, p ∈ s.path → fup s.order w (s.reached + 1) p.1 = s.order p.1 := fun p hp => ho _ (h.pthS p hp)
  have hlp : ∀ p, p ∈ s.path → fup s.low w (s.reached + 1) p.1 = s.low p.1 := fun p hp => fup_other _ _ (hne _ (h.pthS p hp))
  have how : fup s.order w (s.reached + 1) w = s.reached + 1 := fup_same _ _ _
  have hlt : ∀ x, x ≠ w → fup s.order w (s.reached + 1) x ≤ s.reached := fun x hx => by rw [fup_other _ _ hx]; exact h.ordLe x
  have hnz : ∀ x, s.order x ≠ 0 → fup s.order w (s.reached + 1) x ≠ 0 := fun x hx => by
    by_cases e : x = w
    · rw [e, how]; omega
    · rwa [fup_other _ _ e]
  refine ⟨fun v => ?_, fun v hv => ?_, fun v => ?_, fun v hv => ?_, ?_, fun p hp => ?_, ?_, fun p hp x hx hle => ?_, fun v hv hvs u e => ?_, fun x hx hn => ?_, fun p hp => ?_, fun p hp => ?_, fun x hx p hp hle hq i h1 h2 h3 u hu hus => ?_⟩
  all_goals (try dsimp only at *)
  · by_cases e : v = w
    · subst e; rw [how]; exact Nat.le_refl _
    · exact Nat.le_succ_of_le (hlt v e)
  · by_cases e : v = w
    · rw [e]; exact hw
    · rw [fup_other _ _ e] at hv; exact h.ordLt v hv
  · by_cases e : v = w
    · subst e; simp [fup_same]
    · show fup s.opn w true v = true ↔ _
      rw [fup_other _ _ e, h.opn v]; simp [e]
  · rcases List.mem_cons.1 hv with rfl | hv
    · rw [how]; omega
    · exact hnz v (h.stk0 v hv)
  · refine List.pairwise_cons.2 ⟨fun x hx => ?_, ?_⟩
    · rw [how]; exact Nat.lt_succ_of_le (hlt x (hne x hx))
    · refine h.stkO.imp_of_mem fun ha hb hab => ?_
      rw [ho _ ha, ho _ hb]; exact hab
  · rcases List.mem_cons.1 hp with rfl | hp2
    · exact List.mem_cons_self
    · exact List.mem_cons_of_mem _ (h.pthS p hp2)
  · rw [List.map_cons]
    refine List.pairwise_cons.2 ⟨fun x hx => ?_, ?_⟩
    · obtain ⟨p, hp, rfl⟩ := List.mem_map.1 hx
      rw [how]; exact Nat.lt_succ_of_le (hlt _ (hne _ (h.pthS p hp)))
    · refine h.pthO.imp_of_mem fun ha hb hab => ?_
      obtain ⟨p, hp, rfl⟩ := List.mem_map.1 ha
      obtain ⟨q, hq, rfl⟩ := List.mem_map.1 hb
      rw [hop p hp, hop q hq]; exact hab
  · rcases List.mem_cons.1 hp with rfl | hp2
    · rcases List.mem_cons.1 hx with rfl | hx
      · exact .refl _
      · have := hlt x (hne x hx)
        simp only [how] at hle; omega
    · rcases List.mem_cons.1 hx with rfl | hx
      · exact hr p hp2
      · simp only [hop p hp2, ho x hx] at hle
        exact h.down p hp2 x hx hle
  · have hvw : v ≠ w := fun e => hvs (e ▸ List.mem_cons_self)
    have hv' : s.order v ≠ 0 := by simp only [fup_other _ _ hvw] at hv; exact hv
    obtain ⟨a, b⟩ := h.shut v hv' (fun hh => hvs (List.mem_cons_of_mem _ hh)) u e
    refine ⟨hnz u a, fun hh => ?_⟩
    rcases List.mem_cons.1 hh with rfl | hh
    · exact a h0
    · exact b hh
  · rcases List.mem_cons.1 hx with rfl | hx
    · exact absurd rfl (hn (x, g.first x) List.mem_cons_self)
    · obtain ⟨a, y, hy, hyo, hyr⟩ := h.black x hx (fun p hp => hn p (List.mem_cons_of_mem _ hp))
      refine ⟨fun u hu => hnz u (a u hu), y, List.mem_cons_of_mem _ hy, ?_, hyr⟩
      simp only [ho x hx, ho y hy]; exact hyo
  · rcases List.mem_cons.1 hp with rfl | hp2
    · exact ⟨Nat.le_refl _, hg.mono w hw, fun i h1 h2 => absurd h2 (Nat.not_lt.2 h1)⟩
    · obtain ⟨a, b, c⟩ := h.scan p hp2
      exact ⟨a, b, fun i h1 h2 u hu => hnz u (c i h1 h2 u hu)⟩
  · rcases List.mem_cons.1 hp with rfl | hp2
    · refine ⟨?_, w, List.mem_cons_self, ?_, .refl _⟩
      · simp only [how, fup_same]; exact Nat.le_refl _
      · simp only [how, fup_same]
    · obtain ⟨a, y, hy, e, r⟩ := h.lowS p hp2
      refine ⟨?_, y, List.mem_cons_of_mem _ hy, ?_, r⟩
      · simp only [hop p hp2, hlp p hp2]; exact a
      · simp only [ho y hy, hlp p hp2]; exact e
  · rcases List.mem_cons.1 hp with rfl | hp2
    · have hxw : x = w := by
        rcases List.mem_cons.1 hx with rfl | hx
        · rfl
        · have := hlt x (hne x hx)
          simp only [how] at hle; omega
      have := h3 hxw
      rw [hxw] at h1
      simp at this; omega
    · have hxs : x ∈ s.stack := by
        rcases List.mem_cons.1 hx with rfl | hx
        · have := hq (x, g.first x) List.mem_cons_self (Nat.le_refl _)
          simp only [how, hop p hp2] at this
          have := h.ordLe p.1
          omega
        · exact hx
      simp only [hop p hp2, ho x hxs] at hle
      have hq' : ∀ q, q ∈ s.path → s.order q.1 ≤ s.order x → s.order q.1 ≤ s.order p.1 := fun q hq1 hq2 => by
        have := hq q (List.mem_cons_of_mem _ hq1)
        simp only [hop q hq1, hop p hp2, ho x hxs] at this
        exact this hq2
      simp only [hlp p hp2]
      rcases List.mem_cons.1 hus with rfl | hus
      · rw [how]
        have := (h.lowS p hp2).1
        have := h.ordLe p.1
        omega
      · rw [ho u hus]
        exact h.lowC x hxs p hp2 hle hq' i h1 h2 h3 u hu hus

/-- The path's last vertex is left, and stays open. -/
theorem Inv.leave {g : Graph} {s : TS} (h : Inv g s) {v k : Nat} {rest : List (Nat × Nat)} (hp : s.path = (v, k) :: rest) (hk : g.first (v + 1) ≤ k) (hl : s.low v ≠ s.order v)
    (hu : ∀ u j rest', rest = (u, j) :: rest' → s.low u ≤ s.low v) : Inv g { s with path := rest } := by
  have hv : (v, k) ∈ s.path := by rw [hp]; exact List.mem_cons_self
  have hvs : v ∈ s.stack := h.pthS _ hv
  have hrest : ∀ p, p ∈ rest → p ∈ s.path := fun p hh => by rw [hp]; exact List.mem_cons_of_mem _ hh
  have hO := h.pthO
  rw [hp, List.map_cons] at hO
  obtain ⟨hO1, hO2⟩ := List.pairwise_cons.1 hO
  have hkeq : k = g.first (v + 1) := Nat.le_antisymm (h.scan _ hv).2.1 hk
  refine ⟨h.ordLe, h.ordLt, h.opn, h.stk0, h.stkO, fun p hh => h.pthS p (hrest p hh), hO2, fun p hh => h.down p (hrest p hh), h.shut, fun x hx hn => ?_, fun p hh => h.scan p (hrest p hh), fun p hh => h.lowS p (hrest p hh), fun x hx p hh ho hq i h1 h2 h3 w hw hws => ?_⟩
  · by_cases e : x = v
    · subst e
      refine ⟨fun w ⟨_, i, h1, h2, h3⟩ => (h.scan _ hv).2.2 i h1 (by show i < k; omega) w h3, ?_⟩
      obtain ⟨a, y, hy, e, r⟩ := h.lowS _ hv
      refine ⟨y, hy, ?_, r⟩
      have : s.low x ≤ s.order x := a
      rw [e]; exact Nat.lt_of_le_of_ne this hl
    · exact h.black x hx fun p hh => by
        rw [hp] at hh
        rcases List.mem_cons.1 hh with rfl | hh
        · exact fun e' => e e'.symm
        · exact hn p hh
  · by_cases hvx : s.order v ≤ s.order x
    · -- x was v's: now it is the next one's, whose low is no greater
      have hl1 : s.low v ≤ s.order w := h.lowC x hx (v, k) hv hvx (fun q hqp _ => by
        rw [hp] at hqp
        rcases List.mem_cons.1 hqp with rfl | hqp
        · exact Nat.le_refl _
        · exact Nat.le_of_lt (hO1 q.1 (List.mem_map.2 ⟨q, hqp, rfl⟩))) i h1 h2 (fun e => by subst e; show i < k; omega) w hw hws
      -- p is the first of rest
      cases rest with
      | nil => cases hh
      | cons q rest' =>
        have hq1 : s.order q.1 ≤ s.order p.1 := hq q List.mem_cons_self (Nat.le_trans (Nat.le_of_lt (hO1 q.1 (by simp))) hvx)
        have hpq : p = q := by
          rcases List.mem_cons.1 hh with e | hh
          · exact e
          · rw [List.map_cons] at hO2
            have := (List.pairwise_cons.1 hO2).1 p.1 (List.mem_map.2 ⟨p, hh, rfl⟩)
            omega
        subst hpq
        obtain ⟨u, j⟩ := p
        exact Nat.le_trans (hu u j rest' rfl) hl1
    · refine h.lowC x hx p (hrest p hh) ho (fun q hqp hqo => ?_) i h1 h2 h3 w hw hws
      rw [hp] at hqp
      rcases List.mem_cons.1 hqp with rfl | hqp
      · exact absurd hqo hvx
      · exact hq q hqp hqo

end Go.Proofs.YbulkeiwwDoor.Gr
