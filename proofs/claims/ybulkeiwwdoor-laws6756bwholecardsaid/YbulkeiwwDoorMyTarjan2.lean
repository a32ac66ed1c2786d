/-
  Tarjan's algorithm: a component is shut; the groups; what stands at the end. No Go in sight.
-/
import Derived.Test.YbulkeiwwDoorMyTarjan
namespace Go.Proofs.YbulkeiwwDoor.Gr
set_option linter.unusedVariables false

/-- All that is known where the path's last vertex v is left and low v = order v: the open part from v up is a component. -/
structure Comp (g : Graph) (s : TS) (v : Nat) (pre post : List Nat) : Prop where
  above : ∀ x, x ∈ pre → s.order v < s.order x
  below : ∀ x, x ∈ post → s.order x < s.order v
  edge : ∀ x, x = v ∨ x ∈ pre → ∀ w, g.E x w → (w = v ∨ w ∈ pre) ∨ (s.order w ≠ 0 ∧ w ∉ s.stack)
  up : ∀ x, x = v ∨ x ∈ pre → Reach g.E v x
  down : ∀ x, x = v ∨ x ∈ pre → Reach g.E x v

theorem shut_reach {g : Graph} {s : TS} (h : Inv g s) {x y : Nat} (r : Reach g.E x y) (h1 : s.order x ≠ 0) (h2 : x ∉ s.stack) : s.order y ≠ 0 ∧ y ∉ s.stack := by
  induction r with
  | refl => exact ⟨h1, h2⟩
  | step e _ ih => obtain ⟨a, b⟩ := h.shut _ h1 h2 _ e; exact ih a b

theorem comp_reach {g : Graph} {s : TS} (h : Inv g s) {v : Nat} {pre : List Nat} (he : ∀ x, x = v ∨ x ∈ pre → ∀ w, g.E x w → (w = v ∨ w ∈ pre) ∨ (s.order w ≠ 0 ∧ w ∉ s.stack)) {x y : Nat} (r : Reach g.E x y) (hx : x = v ∨ x ∈ pre) :
    (y = v ∨ y ∈ pre) ∨ (s.order y ≠ 0 ∧ y ∉ s.stack) := by
  induction r with
  | refl => exact Or.inl hx
  | step e r ih =>
    rcases he _ hx _ e with h1 | ⟨h1, h2⟩
    · exact ih h1
    · exact Or.inr (shut_reach h r h1 h2)

theorem Inv.comp {g : Graph} {s : TS} (h : Inv g s) {v k : Nat} {rest : List (Nat × Nat)} {pre post : List Nat} (hp : s.path = (v, k) :: rest) (hk : g.first (v + 1) ≤ k) (hl : s.low v = s.order v) (hs : s.stack = pre ++ v :: post) : Comp g s v pre post := by
  have hv : (v, k) ∈ s.path := by rw [hp]; exact List.mem_cons_self
  have hO := h.stkO
  rw [hs, List.pairwise_append] at hO
  obtain ⟨_, hO2, hO3⟩ := hO
  obtain ⟨hO4, _⟩ := List.pairwise_cons.1 hO2
  have hpre : ∀ x, x ∈ pre → s.order v < s.order x := fun x hx => hO3 x hx v List.mem_cons_self
  have hpost : ∀ x, x ∈ post → s.order x < s.order v := fun x hx => hO4 x hx
  have hin : ∀ x, x = v ∨ x ∈ pre → x ∈ s.stack := fun x hx => by
    rw [hs, List.mem_append, List.mem_cons]
    rcases hx with rfl | hx
    · exact Or.inr (Or.inl rfl)
    · exact Or.inl hx
  have hle : ∀ x, x = v ∨ x ∈ pre → s.order v ≤ s.order x := fun x hx => by
    rcases hx with rfl | hx
    · exact Nat.le_refl _
    · exact Nat.le_of_lt (hpre x hx)
  have hpO := h.pthO
  rw [hp, List.map_cons] at hpO
  obtain ⟨hpO1, _⟩ := List.pairwise_cons.1 hpO
  have hown : ∀ q, q ∈ s.path → s.order q.1 ≤ s.order v := fun q hq => by
    rw [hp] at hq
    rcases List.mem_cons.1 hq with rfl | hq
    · exact Nat.le_refl _
    · exact Nat.le_of_lt (hpO1 q.1 (List.mem_map.2 ⟨q, hq, rfl⟩))
  have hnp : ∀ x, x ∈ pre → ∀ p, p ∈ s.path → p.1 ≠ x := fun x hx p hpp e => by
    have := hown p hpp
    have := hpre x hx
    rw [e] at *; omega
  have hedge : ∀ x, x = v ∨ x ∈ pre → ∀ w, g.E x w → (w = v ∨ w ∈ pre) ∨ (s.order w ≠ 0 ∧ w ∉ s.stack) := fun x hx w e => by
    have hw0 : s.order w ≠ 0 := by
      rcases hx with rfl | hx
      · obtain ⟨_, i, h1, h2, h3⟩ := e
        exact (h.scan _ hv).2.2 i h1 (Nat.lt_of_lt_of_le h2 hk) w h3
      · exact (h.black x (hin x (Or.inr hx)) (hnp x hx)).1 w e
    by_cases hws : w ∈ s.stack
    · obtain ⟨_, i, h1, h2, h3⟩ := e
      have hlw : s.low v ≤ s.order w := h.lowC x (hin x hx) (v, k) hv (hle x hx) (fun q hq _ => hown q hq) i h1 h2 (fun e' => by
        have e'' : x = v := e'
        subst e''; exact Nat.lt_of_lt_of_le h2 hk) w h3 hws
      rw [hl] at hlw
      left
      rw [hs, List.mem_append, List.mem_cons] at hws
      rcases hws with hws | rfl | hws
      · exact Or.inr hws
      · exact Or.inl rfl
      · have := hpost w hws; omega
    · exact Or.inr ⟨hw0, hws⟩
  refine ⟨hpre, hpost, hedge, fun x hx => h.down _ hv x (hin x hx) (hle x hx), ?_⟩
  have key : ∀ m x, s.order x ≤ m → x = v ∨ x ∈ pre → Reach g.E x v := by
    intro m
    induction m with
    | zero => intro x hx hc; exact absurd (Nat.le_zero.1 hx) (h.stk0 x (hin x hc))
    | succ m ih =>
      intro x hx hc
      rcases hc with rfl | hc
      · exact .refl _
      · obtain ⟨_, y, hy, hyo, r⟩ := h.black x (hin x (Or.inr hc)) (hnp x hc)
        rcases comp_reach h hedge r (Or.inr hc) with hy' | ⟨_, hy'⟩
        · exact r.trans (ih y (by omega) hy')
        · exact absurd hy hy'
  exact fun x hx => key _ x (Nat.le_refl _) hx

/-- The members of the component are just those that reach v and are reached. -/
theorem Comp.mem {g : Graph} {s : TS} {v : Nat} {pre post : List Nat} (h : Inv g s) (hc : Comp g s v pre post) (hs : s.stack = pre ++ v :: post) {x : Nat} (hx : x = v ∨ x ∈ pre) (y : Nat) :
    (y = v ∨ y ∈ pre) ↔ (Reach g.E x y ∧ Reach g.E y x) := by
  constructor
  · exact fun hy => ⟨(hc.down x hx).trans (hc.up y hy), (hc.down y hy).trans (hc.up x hx)⟩
  · rintro ⟨r1, r2⟩
    rcases comp_reach h hc.edge r1 hx with hy | ⟨h1, h2⟩
    · exact hy
    · have := (shut_reach h r2 h1 h2).2
      rw [hs, List.mem_append, List.mem_cons] at this
      rcases hx with rfl | hx
      · exact absurd (Or.inr (Or.inl rfl)) this
      · exact absurd (Or.inl hx) this

theorem Comp.cyc {g : Graph} {s : TS} {v : Nat} {pre post : List Nat} (h : Inv g s) (hc : Comp g s v pre post) (hs : s.stack = pre ++ v :: post) :
    (pre ≠ [] ∨ g.E v v) ↔ Plus g.E v v := by
  constructor
  · rintro (hp | e)
    · cases pre with
      | nil => exact absurd rfl hp
      | cons x pre =>
        have hx : x = v ∨ x ∈ x :: pre := Or.inr List.mem_cons_self
        have hne : v ≠ x := fun e => by have := hc.above x List.mem_cons_self; rw [e] at this; omega
        obtain ⟨y, e, r⟩ := (hc.up x hx).plus hne
        exact ⟨y, e, r.trans (hc.down x hx)⟩
    · exact ⟨v, e, .refl _⟩
  · rintro ⟨x, e, r⟩
    have hx := (hc.mem h hs (x := v) (Or.inl rfl) x).2 ⟨.one e, r⟩
    rcases hx with rfl | hx
    · exact Or.inr e
    · exact Or.inl (fun e' => by rw [e'] at hx; cases hx)

theorem Comp.cyc_all {g : Graph} {s : TS} {v : Nat} {pre post : List Nat} (hc : Comp g s v pre post) {x : Nat} (hx : x = v ∨ x ∈ pre) : Plus g.E x x ↔ Plus g.E v v := by
  have aux : ∀ a b, Reach g.E a b → Reach g.E b a → Plus g.E a a → Plus g.E b b := fun a b r1 r2 p => by
    by_cases e : b = a
    · rw [e]; exact p
    · obtain ⟨y, e1, e2⟩ := r2.plus e
      exact ⟨y, e1, e2.trans r1⟩
  exact ⟨aux x v (hc.down x hx) (hc.up x hx), aux v x (hc.up x hx) (hc.down x hx)⟩

/-- The component is shut. -/
theorem Inv.close {g : Graph} {s : TS} (h : Inv g s) {v k : Nat} {rest : List (Nat × Nat)} {pre post : List Nat} (hp : s.path = (v, k) :: rest) (hc : Comp g s v pre post) (hs : s.stack = pre ++ v :: post)
    (op : Nat → Bool) (hop : ∀ x, op x = true ↔ x ∈ post) (gs : List (List Nat)) : Inv g { s with path := rest, stack := post, opn := op, groups := gs } := by
  have hrest : ∀ p, p ∈ rest → p ∈ s.path := fun p hh => by rw [hp]; exact List.mem_cons_of_mem _ hh
  have hsub : ∀ x, x ∈ post → x ∈ s.stack := fun x hx => by rw [hs]; simp [hx]
  have hO := h.pthO
  rw [hp, List.map_cons] at hO
  obtain ⟨hO1, hO2⟩ := List.pairwise_cons.1 hO
  have hlow : ∀ x, x ∈ s.stack → s.order x < s.order v → x ∈ post := fun x hx hlt => by
    rw [hs, List.mem_append, List.mem_cons] at hx
    rcases hx with hx | rfl | hx
    · have := hc.above x hx; omega
    · omega
    · exact hx
  have hpo : ∀ p, p ∈ rest → s.order p.1 < s.order v := fun p hh => hO1 p.1 (List.mem_map.2 ⟨p, hh, rfl⟩)
  have hnp : ∀ x, x = v ∨ x ∈ pre → x ∉ post := fun x hx hh => by
    have := hc.below x hh
    rcases hx with rfl | hx
    · omega
    · have := hc.above x hx; omega
  have hst := h.stkO
  rw [hs, List.pairwise_append] at hst
  refine ⟨h.ordLe, h.ordLt, hop, fun v hv => h.stk0 v (hsub v hv), (List.pairwise_cons.1 hst.2.1).2, fun p hh => hlow _ (h.pthS p (hrest p hh)) (hpo p hh), hO2, fun p hh x hx => h.down p (hrest p hh) x (hsub x hx), fun x hx hxs w e => ?_, fun x hx hn => ?_, fun p hh => h.scan p (hrest p hh), fun p hh => ?_, fun x hx p hh ho hq i h1 h2 h3 w hw hws => ?_⟩
  · by_cases hin : x ∈ s.stack
    · have hx' : x = v ∨ x ∈ pre := by
        rw [hs, List.mem_append, List.mem_cons] at hin
        rcases hin with hin | rfl | hin
        · exact Or.inr hin
        · exact Or.inl rfl
        · exact absurd hin hxs
      rcases hc.edge x hx' w e with hw | ⟨hw1, hw2⟩
      · refine ⟨h.stk0 w ?_, hnp w hw⟩
        rw [hs, List.mem_append, List.mem_cons]
        rcases hw with rfl | hw
        · exact Or.inr (Or.inl rfl)
        · exact Or.inl hw
      · exact ⟨hw1, fun hh => hw2 (hsub w hh)⟩
    · obtain ⟨a, b⟩ := h.shut x hx hin w e
      exact ⟨a, fun hh => b (hsub w hh)⟩
  · have hxv := hc.below x hx
    obtain ⟨a, y, hy, hyo, r⟩ := h.black x (hsub x hx) (fun p hh => by
      rw [hp] at hh
      rcases List.mem_cons.1 hh with rfl | hh
      · intro e; have e' : v = x := e; rw [e'] at hxv; omega
      · exact hn p hh)
    exact ⟨a, y, hlow y hy (by omega), hyo, r⟩
  · obtain ⟨a, y, hy, e, r⟩ := h.lowS p (hrest p hh)
    exact ⟨a, y, hlow y hy (by have := hpo p hh; omega), e, r⟩
  · refine h.lowC x (hsub x hx) p (hrest p hh) ho (fun q hqp hqo => ?_) i h1 h2 h3 w hw (hsub w hws)
    rw [hp] at hqp
    rcases List.mem_cons.1 hqp with rfl | hqp
    · have := hc.below x hx
      have hqo' : s.order v ≤ s.order x := hqo
      omega
    · exact hq q hqp hqo

/-- What holds of the groups. -/
structure GInv (g : Graph) (s : TS) : Prop where
  one : ∀ c, c ∈ s.groups → c ≠ [] ∧ c.Pairwise (· < ·) ∧ ∀ x, x ∈ c → (s.order x ≠ 0 ∧ x ∉ s.stack) ∧ Plus g.E x x ∧ ∀ y, y ∈ c ↔ (Reach g.E x y ∧ Reach g.E y x)
  all : ∀ v, s.order v ≠ 0 → v ∉ s.stack → Plus g.E v v → ∃ c, c ∈ s.groups ∧ v ∈ c
  apart : s.groups.Pairwise (fun a b => ∀ x, x ∈ a → x ∉ b)

theorem GInv.same {g : Graph} {s t : TS} (h : GInv g s) (h1 : t.order = s.order) (h2 : t.stack = s.stack) (h3 : t.groups = s.groups) : GInv g t := by
  obtain ⟨a, b, c⟩ := h
  exact ⟨by rw [h1, h2, h3]; exact a, by rw [h1, h2, h3]; exact b, by rw [h3]; exact c⟩

theorem GInv.enter {g : Graph} {s t : TS} (h : GInv g s) {w r : Nat} (h0 : s.order w = 0) (h1 : t.order = fup s.order w (r + 1)) (h2 : t.stack = w :: s.stack) (h3 : t.groups = s.groups) : GInv g t := by
  refine ⟨fun c hc => ?_, fun v hv hvs hp => ?_, by rw [h3]; exact h.apart⟩
  · rw [h3] at hc
    obtain ⟨a, b, d⟩ := h.one c hc
    refine ⟨a, b, fun x hx => ?_⟩
    obtain ⟨⟨d1, d2⟩, d3⟩ := d x hx
    have hne : x ≠ w := fun e => d1 (e ▸ h0)
    rw [h1, h2, fup_other _ _ hne]
    exact ⟨⟨d1, fun hh => (List.mem_cons.1 hh).elim hne d2⟩, d3⟩
  · rw [h1] at hv
    rw [h2] at hvs
    rw [h3]
    have hne : v ≠ w := fun e => hvs (e ▸ List.mem_cons_self)
    rw [fup_other _ _ hne] at hv
    exact h.all v hv (fun hh => hvs (List.mem_cons_of_mem _ hh)) hp

/-- The component is shut: it is one group more, where it holds a cycle. -/
theorem GInv.close {g : Graph} {s t : TS} (hi : Inv g s) (h : GInv g s) {v : Nat} {pre post : List Nat} (hc : Comp g s v pre post) (hs : s.stack = pre ++ v :: post) (h1 : t.order = s.order) (h2 : t.stack = post)
    (h3 : (¬ Plus g.E v v ∧ t.groups = s.groups) ∨ (Plus g.E v v ∧ ∃ c, t.groups = s.groups ++ [c] ∧ c.Pairwise (· < ·) ∧ ∀ x, x ∈ c ↔ (x = v ∨ x ∈ pre))) : GInv g t := by
  have hsub : ∀ x, x ∈ post → x ∈ s.stack := fun x hx => by rw [hs]; simp [hx]
  have hin : ∀ x, x = v ∨ x ∈ pre → x ∈ s.stack := fun x hx => by
    rw [hs, List.mem_append, List.mem_cons]
    rcases hx with rfl | hx
    · exact Or.inr (Or.inl rfl)
    · exact Or.inl hx
  have hnp : ∀ x, x = v ∨ x ∈ pre → x ∉ post := fun x hx hh => by
    have := hc.below x hh
    rcases hx with rfl | hx
    · omega
    · have := hc.above x hx; omega
  have hold : ∀ c, c ∈ s.groups → c ≠ [] ∧ c.Pairwise (· < ·) ∧ ∀ x, x ∈ c → (t.order x ≠ 0 ∧ x ∉ t.stack) ∧ Plus g.E x x ∧ ∀ y, y ∈ c ↔ (Reach g.E x y ∧ Reach g.E y x) := fun c hcg => by
    obtain ⟨a, b, d⟩ := h.one c hcg
    refine ⟨a, b, fun x hx => ?_⟩
    obtain ⟨⟨d1, d2⟩, d3⟩ := d x hx
    rw [h1, h2]
    exact ⟨⟨d1, fun hh => d2 (hsub x hh)⟩, d3⟩
  have hpart : ∀ x, s.order x ≠ 0 → x ∉ post → x ∉ s.stack ∨ (x = v ∨ x ∈ pre) := fun x _ hxp => by
    by_cases hxs : x ∈ s.stack
    · right
      rw [hs, List.mem_append, List.mem_cons] at hxs
      rcases hxs with hxs | rfl | hxs
      · exact Or.inr hxs
      · exact Or.inl rfl
      · exact absurd hxs hxp
    · exact Or.inl hxs
  rcases h3 with ⟨hno, h3⟩ | ⟨hyes, c, h3, hcs, hcm⟩
  · refine ⟨fun c hcg => hold c (h3 ▸ hcg), fun x hx hxs hp => ?_, by rw [h3]; exact h.apart⟩
    rw [h1] at hx
    rw [h2] at hxs
    rw [h3]
    rcases hpart x hx hxs with hxs' | hxc
    · exact h.all x hx hxs' hp
    · exact absurd ((hc.cyc_all hxc).1 hp) hno
  · refine ⟨fun c' hcg => ?_, fun x hx hxs hp => ?_, ?_⟩
    · rw [h3, List.mem_append, List.mem_singleton] at hcg
      rcases hcg with hcg | rfl
      · exact hold c' hcg
      · refine ⟨fun e => ?_, hcs, fun x hx => ?_⟩
        · have : v ∈ c' := (hcm v).2 (Or.inl rfl)
          rw [e] at this; cases this
        · have hx' := (hcm x).1 hx
          rw [h1, h2]
          exact ⟨⟨hi.stk0 x (hin x hx'), hnp x hx'⟩, (hc.cyc_all hx').2 hyes, fun y => by rw [hcm y]; exact hc.mem hi hs hx' y⟩
    · rw [h1] at hx
      rw [h2] at hxs
      rw [h3]
      rcases hpart x hx hxs with hxs' | hxc
      · obtain ⟨c', h4, h5⟩ := h.all x hx hxs' hp
        exact ⟨c', by simp [h4], h5⟩
      · exact ⟨c, by simp, (hcm x).2 hxc⟩
    · rw [h3, List.pairwise_append]
      refine ⟨h.apart, List.pairwise_singleton _ _, fun a ha b hb x hx hxb => ?_⟩
      rw [List.mem_singleton] at hb
      subst hb
      exact ((h.one a ha).2.2 x hx).1.2 (hin x ((hcm x).1 hxb))

/-- Where the path is empty, nothing is open. -/
theorem Inv.empty {g : Graph} {s : TS} (h : Inv g s) (hp : s.path = []) : s.stack = [] := by
  have key : ∀ m x, s.order x ≤ m → x ∉ s.stack := by
    intro m
    induction m with
    | zero => intro x hx hh; exact h.stk0 x hh (Nat.le_zero.1 hx)
    | succ m ih =>
      intro x hx hh
      obtain ⟨_, y, hy, hyo, _⟩ := h.black x hh (fun p hh => by rw [hp] at hh; cases hh)
      exact ih y (by omega) hy
  cases hs : s.stack with
  | nil => rfl
  | cons x l => exact absurd (by rw [hs]; exact List.mem_cons_self) (key _ x (Nat.le_refl _))

end Go.Proofs.YbulkeiwwDoor.Gr
