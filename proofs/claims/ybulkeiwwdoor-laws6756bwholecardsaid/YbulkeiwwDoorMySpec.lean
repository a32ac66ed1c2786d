/-
  What the model of the law lists, and that the groups, sorted, are that list. No Go in sight.
-/
import Derived.Test.YbulkeiwwDoorMyTarjan2
namespace Go.Proofs.YbulkeiwwDoor.Gr
set_option linter.unusedVariables false

/-- v is the first vertex of a group. -/
def isHead (R : Nat → Nat → Bool) (v : Nat) : Bool := R v v && (List.range v).all (fun u => !(R u v && R v u))
/-- w is of the group of v (w is at least v). -/
def isMem (R : Nat → Nat → Bool) (v w : Nat) : Bool := decide (v ≤ w) && (decide (w = v) || (R v w && R w v))
def members (R : Nat → Nat → Bool) (n v : Nat) : List Nat := (List.range n).filter (isMem R v)
def spec (R : Nat → Nat → Bool) (n : Nat) : List (List Nat) := ((List.range n).filter (isHead R)).map (members R n)

theorem pairwise_filter {α : Type} {r : α → α → Prop} {l : List α} (p : α → Bool) (h : l.Pairwise r) : (l.filter p).Pairwise r := h.sublist List.filter_sublist

theorem range_lt (n : Nat) : (List.range n).Pairwise (· < ·) := List.pairwise_lt_range

/-- Two lists in strict order with the same members are one. -/
theorem eq_of_sorted {α : Type} {r : α → α → Prop} (irr : ∀ a, ¬ r a a) (tr : ∀ a b c, r a b → r b c → r a c) : ∀ {l l' : List α}, l.Pairwise r → l'.Pairwise r → (∀ x, x ∈ l ↔ x ∈ l') → l = l'
  | [], [], _, _, _ => rfl
  | [], b :: l', _, _, h => by have := (h b).2 List.mem_cons_self; cases this
  | a :: l, [], _, _, h => by have := (h a).1 List.mem_cons_self; cases this
  | a :: l, b :: l', h1, h2, h => by
    obtain ⟨h1a, h1b⟩ := List.pairwise_cons.1 h1
    obtain ⟨h2a, h2b⟩ := List.pairwise_cons.1 h2
    have hab : a = b := by
      rcases List.mem_cons.1 ((h a).1 List.mem_cons_self) with e | ha
      · exact e
      · rcases List.mem_cons.1 ((h b).2 List.mem_cons_self) with e | hb
        · exact e.symm
        · exact absurd (tr _ _ _ (h1a b hb) (h2a a ha)) (irr a)
    subst hab
    have ht : l = l' := eq_of_sorted irr tr h1b h2b fun x => by
      constructor
      · intro hx
        rcases List.mem_cons.1 ((h x).1 (List.mem_cons_of_mem _ hx)) with e | hx'
        · subst e; exact absurd (h1a _ hx) (irr _)
        · exact hx'
      · intro hx
        rcases List.mem_cons.1 ((h x).2 (List.mem_cons_of_mem _ hx)) with e | hx'
        · subst e; exact absurd (h2a _ hx) (irr _)
        · exact hx'
    rw [ht]

theorem mem_members {R : Nat → Nat → Bool} {n v w : Nat} : w ∈ members R n v ↔ w < n ∧ v ≤ w ∧ (w = v ∨ (R v w = true ∧ R w v = true)) := by
  simp [members, isMem]

/-- What a group is, told by its first vertex. -/
theorem group_members {g : Graph} {R : Nat → Nat → Bool} (hR : ∀ a b, a < g.n → b < g.n → (R a b = true ↔ Plus g.E a b)) {c : List Nat} {v : Nat} {c' : List Nat} (hc : c = v :: c') (hs : c.Pairwise (· < ·)) (hlt : ∀ x, x ∈ c → x < g.n)
    (hp : Plus g.E v v) (hm : ∀ y, y ∈ c ↔ (Reach g.E v y ∧ Reach g.E y v)) : c = members R g.n v ∧ isHead R v = true := by
  have hv : v ∈ c := by rw [hc]; exact List.mem_cons_self
  have hvn := hlt v hv
  have hle : ∀ x, x ∈ c → v ≤ x := fun x hx => by
    rw [hc] at hx hs
    rcases List.mem_cons.1 hx with rfl | hx
    · exact Nat.le_refl _
    · exact Nat.le_of_lt ((List.pairwise_cons.1 hs).1 x hx)
  have hmut : ∀ y, y < g.n → ((R v y = true ∧ R y v = true) ↔ y ∈ c) := fun y hy => by
    rw [hR v y hvn hy, hR y v hy hvn, hm]
    constructor
    · exact fun ⟨a, b⟩ => ⟨a.reach, b.reach⟩
    · rintro ⟨a, b⟩
      by_cases e : y = v
      · subst e; exact ⟨hp, hp⟩
      · exact ⟨a.plus (fun e' => e e'.symm), b.plus e⟩
  constructor
  · refine eq_of_sorted (r := (· < ·)) (fun a => Nat.lt_irrefl a) (fun _ _ _ h1 h2 => Nat.lt_trans h1 h2) hs (pairwise_filter _ (range_lt _)) fun x => ?_
    show x ∈ c ↔ x ∈ members R g.n v
    rw [mem_members]
    constructor
    · exact fun hx => ⟨hlt x hx, hle x hx, Or.inr ((hmut x (hlt x hx)).2 hx)⟩
    · rintro ⟨h1, h2, rfl | h3⟩
      · exact hv
      · exact (hmut x h1).1 h3
  · simp only [isHead, Bool.and_eq_true, List.all_eq_true, List.mem_range]
    refine ⟨(hR v v hvn hvn).2 hp, fun u hu => ?_⟩
    cases h1 : R u v && R v u with
    | false => rfl
    | true =>
      rw [Bool.and_eq_true] at h1
      have := hle u ((hmut u (by omega)).1 ⟨h1.2, h1.1⟩)
      omega

theorem members_cons {R : Nat → Nat → Bool} {n v : Nat} (hv : v < n) : ∃ c, members R n v = v :: c := by
  have hmem : v ∈ members R n v := mem_members.2 ⟨hv, Nat.le_refl _, Or.inl rfl⟩
  have hs : (members R n v).Pairwise (· < ·) := pairwise_filter _ (range_lt _)
  cases h : members R n v with
  | nil => rw [h] at hmem; cases hmem
  | cons a c =>
    have ha : a ∈ members R n v := by rw [h]; exact List.mem_cons_self
    have h1 := (mem_members.1 ha).2.1
    rw [h] at hmem hs
    rcases List.mem_cons.1 hmem with e | hm
    · exact ⟨c, by rw [e]⟩
    · have := (List.pairwise_cons.1 hs).1 v hm
      omega

/-- The order of the groups: by the first vertex. -/
def hlt (a b : List Nat) : Prop := a.headD 0 < b.headD 0

/-- At the end the groups, in the order of their first vertices, are what the model lists. -/
theorem groups_spec {g : Graph} (hg : g.Ok) {s : TS} (hi : Inv g s) (hG : GInv g s) (hp : s.path = []) (hall : ∀ v, v < g.n → s.order v ≠ 0) {R : Nat → Nat → Bool} (hR : ∀ a b, a < g.n → b < g.n → (R a b = true ↔ Plus g.E a b))
    {L : List (List Nat)} (hperm : L.Perm s.groups) (hsort : L.Pairwise (fun a b => ¬ hlt b a)) : L = spec R g.n := by
  have hst := hi.empty hp
  have hcl : ∀ c, c ∈ s.groups → ∃ v c', c = v :: c' ∧ v < g.n ∧ c = members R g.n v ∧ isHead R v = true := fun c hc => by
    obtain ⟨h1, h2, h3⟩ := hG.one c hc
    cases hcc : c with
    | nil => exact absurd hcc h1
    | cons v c' =>
      have hv : v ∈ c := by rw [hcc]; exact List.mem_cons_self
      obtain ⟨⟨h4, h5⟩, h6, h7⟩ := h3 v hv
      have hm := group_members hR hcc h2 (fun x hx => hi.ordLt x (h3 x hx).1.1) h6 h7
      exact ⟨v, c', rfl, hi.ordLt v h4, by rw [← hcc]; exact hm.1, hm.2⟩
  refine eq_of_sorted (r := hlt) (fun a => Nat.lt_irrefl _) (fun _ _ _ h1 h2 => Nat.lt_trans h1 h2) ?_ ?_ fun c => ?_
  · -- the heads part
    have hap : L.Pairwise (fun a b => ∀ x, x ∈ a → x ∉ b) := hperm.symm.pairwise hG.apart (fun h x hx hx' => h x hx' hx)
    have hboth := hsort.and hap
    refine List.Pairwise.imp_of_mem (fun {a b} ha hb h => ?_) hboth
    obtain ⟨va, ca, ea, _⟩ := hcl a (hperm.mem_iff.1 ha)
    obtain ⟨vb, cb, eb, _⟩ := hcl b (hperm.mem_iff.1 hb)
    obtain ⟨h1, h2⟩ := h
    subst ea eb
    have h3 : va ≠ vb := fun e => h2 va List.mem_cons_self (e ▸ List.mem_cons_self)
    simp only [hlt, List.headD_cons] at h1 ⊢
    omega
  · refine List.pairwise_map.2 (List.Pairwise.imp_of_mem (fun {a b} ha hb h => ?_) (pairwise_filter _ (range_lt _)))
    rw [List.mem_filter, List.mem_range] at ha hb
    obtain ⟨ca, ea⟩ := members_cons (R := R) ha.1
    obtain ⟨cb, eb⟩ := members_cons (R := R) hb.1
    simp only [hlt, ea, eb, List.headD_cons]
    exact h
  · rw [hperm.mem_iff]
    constructor
    · intro hc
      obtain ⟨v, c', e, h1, h2, h3⟩ := hcl c hc
      rw [h2]
      exact List.mem_map.2 ⟨v, by rw [List.mem_filter, List.mem_range]; exact ⟨h1, h3⟩, rfl⟩
    · intro hc
      obtain ⟨v, hv, rfl⟩ := List.mem_map.1 hc
      rw [List.mem_filter, List.mem_range] at hv
      obtain ⟨hvn, hh⟩ := hv
      have hh' := hh
      simp only [isHead, Bool.and_eq_true, List.all_eq_true, List.mem_range] at hh
      obtain ⟨hvv, hno⟩ := hh
      obtain ⟨c, hcg, hvc⟩ := hG.all v (hall v hvn) (by rw [hst]; exact List.not_mem_nil) ((hR v v hvn hvn).1 hvv)
      obtain ⟨u, c', e, hun, hm, hu⟩ := hcl c hcg
      -- u is v
      have huv : u ∈ c := by rw [e]; exact List.mem_cons_self
      have hle : u ≤ v := by rw [hm] at hvc; exact (mem_members.1 hvc).2.1
      have : u = v := by
        by_cases e' : u = v
        · exact e'
        · have h1 := hno u (by omega)
          rw [hm] at hvc
          have h2 := (mem_members.1 hvc).2.2
          rcases h2 with h2 | ⟨h2, h3⟩
          · exact absurd h2.symm e'
          · rw [h2, h3] at h1; cases h1
      subst this
      rw [← hm]; exact hcg

/-! ### The groups take their turn -/

theorem inv_start (g : Graph) (low : Nat → Nat) : Inv g { order := fun _ => 0, low := low, opn := fun _ => false, stack := [], path := [], reached := 0, groups := [] } :=
  ⟨fun _ => Nat.le_refl _, fun v h => absurd rfl h, fun v => by simp, fun v h => absurd h List.not_mem_nil, List.Pairwise.nil, fun p h => absurd h List.not_mem_nil, List.Pairwise.nil, fun p h => absurd h List.not_mem_nil, fun v h => absurd rfl h,
    fun x h => absurd h List.not_mem_nil, fun p h => absurd h List.not_mem_nil, fun p h => absurd h List.not_mem_nil, fun x h => absurd h List.not_mem_nil⟩

theorem ginv_start (g : Graph) (low : Nat → Nat) : GInv g { order := fun _ => 0, low := low, opn := fun _ => false, stack := [], path := [], reached := 0, groups := [] } :=
  ⟨fun c h => absurd h List.not_mem_nil, fun v h => absurd rfl h, List.Pairwise.nil⟩

end Go.Proofs.YbulkeiwwDoor.Gr
