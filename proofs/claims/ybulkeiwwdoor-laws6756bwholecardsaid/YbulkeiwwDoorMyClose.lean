/-
  graph.cycles: what a component's closing does to memory.
-/
import Derived.Test.YbulkeiwwDoorMyGMem
namespace Go.Proofs.YbulkeiwwDoor
open Go.RowKit Go.ChangeMaps Gr
set_option linter.unusedVariables false

theorem wrap64_nat {n : Nat} (h : n ≤ 1000000) : wrap64 (n : Int) = (n : Int) := by unfold wrap64; omega

theorem Gr.Inv.top_le {g : Graph} {s : TS} (h : Inv g s) {v k : Nat} {rest : List (Nat × Nat)} (hp : s.path = (v, k) :: rest) {p : Nat × Nat} (hpp : p ∈ s.path) : s.order p.1 ≤ s.order v := by
  have hO := h.pthO
  rw [hp, List.map_cons] at hO
  rw [hp] at hpp
  rcases List.mem_cons.1 hpp with rfl | hpp
  · exact Nat.le_refl _
  · exact Nat.le_of_lt ((List.pairwise_cons.1 hO).1 p.1 (List.mem_map.2 ⟨p, hpp, rfl⟩))

theorem Gr.Inv.under_ne {g : Graph} {s : TS} (h : Inv g s) {v k u j : Nat} {rest : List (Nat × Nat)} (hp : s.path = (v, k) :: (u, j) :: rest) : u ≠ v ∧ s.order u < s.order v := by
  have hO := h.pthO
  rw [hp, List.map_cons, List.map_cons] at hO
  have := (List.pairwise_cons.1 hO).1 u List.mem_cons_self
  exact ⟨fun e => by subst e; exact absurd this (Nat.lt_irrefl _), this⟩

theorem cnt_start (g : Graph) : Cnt g ts0 := by
  have : ∀ n, sumTo (fun v => if ts0.order v = 0 then 0 else 1) n = 0 := by
    intro n
    induction n with
    | zero => rfl
    | succ n ih => show sumTo _ n + _ = 0; rw [ih]; rfl
  exact this g.n

theorem Gr.Inv.split {g : Graph} {s : TS} (h : Inv g s) {v : Nat} (hv : v ∈ s.stack) : ∃ pre post, s.stack = pre ++ v :: post ∧ (∀ x, x ∈ pre → x ≠ v) ∧ (∀ x, x ∈ post → x ∉ v :: pre.reverse) := by
  obtain ⟨pre, post, e⟩ := List.append_of_mem hv
  have hO := h.stkO
  rw [e, List.pairwise_append] at hO
  obtain ⟨_, h2, h3⟩ := hO
  obtain ⟨h4, _⟩ := List.pairwise_cons.1 h2
  refine ⟨pre, post, e, fun x hx e' => ?_, fun x hx hx' => ?_⟩
  · subst e'; exact absurd (h3 x hx x List.mem_cons_self) (Nat.lt_irrefl _)
  · rcases List.mem_cons.1 hx' with e' | hx'
    · subst e'; exact absurd (h4 x hx) (Nat.lt_irrefl _)
    · exact absurd (h3 x (List.mem_reverse.1 hx') x (List.mem_cons_of_mem _ hx)) (Nat.lt_irrefl _)

section
variable {N : Nat} {g : Graph} {tv fv : Value} {w0 w : World} {s : TS} {sv pv : Value}

theorem Mem.beside (h : Mem N g tv fv w0 s sv pv w) {w' : World} (q : Option Nat) (hB : Below N w w') (hb : ∀ k, k < w.heap.size → q ≠ some k → w'.heap[k]? = w.heap[k]?)
    (hq : ∀ k, q = some k → N + 10 ≤ k ∧ sv.ownBlock ≠ some k ∧ pv.ownBlock ≠ some k) : Mem N g tv fv w0 s sv pv w' := by
  have hs := lt_of_heap h.b9
  have o : ∀ j, j < N + 10 → w'.heap[j]? = w.heap[j]? := fun j hj => hb j (by omega) (fun e => by have := (hq j e).1; omega)
  exact ⟨h.below.trans hB, (o _ (by omega)).trans h.b0, (o _ (by omega)).trans h.b1, (o _ (by omega)).trans h.b2, (o _ (by omega)).trans h.b3, (o _ (by omega)).trans h.b4, (o _ (by omega)).trans h.b5, (o _ (by omega)).trans h.b6, (o _ (by omega)).trans h.b7, (o _ (by omega)).trans h.b8, (o _ (by omega)).trans h.b9,
    ownsRow_kept h.stk fun k hk => hb k (own_ge h.stk hk).2 (fun e => (hq k e).2.1 hk), ownsRow_kept h.pth fun k hk => hb k (own_ge h.pth hk).2 (fun e => (hq k e).2.2 hk), h.dis⟩

theorem Mem.later (h : Mem N g tv fv w0 s sv pv w) {w' : World} (hb : Below w.heap.size w w') : Mem N g tv fv w0 s sv pv w' :=
  h.beside none (hb.mono (by have := lt_of_heap h.b9; omega)) (fun k hk _ => hb.block k hk) (fun k e => by cases e)

theorem GMem.later {gs : List (List Nat)} {gv : Value} {vs : List Value} (h : GMem N gs gv vs sv pv w) {w' : World} (hb : Below w.heap.size w w') : GMem N gs gv vs sv pv w' :=
  h.kept (fun k _ h2 _ _ => hb.block k h2) (Or.inl rfl) (Or.inl rfl)

theorem ints_get {l : List Nat} {j x : Nat} (h : l[j]? = some x) : (ints l)[j]? = some (.int .i64 (x : Int)) := by simp [ints, h]

/-- The component lies on the stack. -/
theorem Mem.comp (h : Mem N g tv fv w0 s sv pv w) {v : Nat} {pre post : List Nat} (hs : s.stack = pre ++ v :: post) :
    ∃ gb cap, sv = .slice (some ⟨gb, 0, none⟩) (post.length + pre.length + 1) cap ∧ N + 10 ≤ gb ∧ gb < w.heap.size ∧ post.length + pre.length + 1 ≤ cap ∧ cap ≤ maxLen ∧ ∀ j x : Nat, (v :: pre.reverse)[j]? = some x → w.cell? ⟨gb, post.length + j, none⟩ = some (.int .i64 (x : Int)) := by
  have hr := h.stk
  rw [hs] at hr
  have hl : (pre ++ v :: post).length = post.length + pre.length + 1 := by simp; omega
  rw [hl] at hr
  have e : (pre ++ v :: post).reverse = post.reverse ++ (v :: pre.reverse) := by simp
  rw [e] at hr
  rcases hr.2 with ⟨_, h0⟩ | ⟨gb, cap, cur, rfl, h1, h2, h3, h4, _⟩
  · omega
  · refine ⟨gb, cap, rfl, h1, lt_of_heap h2, h3, h4, fun j x hj => ownsRow_cell hr (ints_get ?_)⟩
    rw [List.getElem?_append_right (by simp)]
    simpa using hj

/-- stack = stack[:i] -/
theorem Mem.cutS (h : Mem N g tv fv w0 s sv pv w) {v : Nat} {pre post : List Nat} (hs : s.stack = pre ++ v :: post) {gb cap : Nat} (hsv : sv = .slice (some ⟨gb, 0, none⟩) (post.length + pre.length + 1) cap) :
    Mem N g tv fv w0 { s with stack := post } (.slice (some ⟨gb, 0, none⟩) post.length cap) pv (w.setCell ⟨N + 7, 0, none⟩ (.slice (some ⟨gb, 0, none⟩) post.length cap)) := by
  subst hsv
  have hr := h.stk
  rw [hs] at hr
  have hl : (pre ++ v :: post).length = post.length + pre.length + 1 := by simp; omega
  rw [hl] at hr
  have o : ∀ j, j ≠ N + 7 → (w.setCell ⟨N + 7, 0, none⟩ (.slice (some ⟨gb, 0, none⟩) post.length cap)).heap[j]? = w.heap[j]? := fun j hj => heap_set_ne _ _ hj
  refine ⟨h.below.setCell (by show N ≤ N + 7; omega) _, (o _ (by omega)).trans h.b0, (o _ (by omega)).trans h.b1, (o _ (by omega)).trans h.b2, (o _ (by omega)).trans h.b3, (o _ (by omega)).trans h.b4, (o _ (by omega)).trans h.b5, (o _ (by omega)).trans h.b6, heap_set_at _ h.b7, (o _ (by omega)).trans h.b8,
    (o _ (by omega)).trans h.b9, ?_, ownsRow_kept h.pth fun j hj => o j (by have := (own_ge h.pth hj).1; omega), fun k hk => h.dis k hk⟩
  have ht := ownsRow_take hr (m := post.length) (by omega)
  have e : (ints (pre ++ v :: post).reverse).take (post.length * 1) = ints post.reverse := by
    simp only [List.reverse_append, List.reverse_cons, List.append_assoc, ints_append]
    rw [Nat.mul_one, List.take_left' (by rw [ints_length]; simp)]
  rw [e] at ht
  exact ownsRow_kept ht fun j hj => o j (by have := (own_ge ht hj).1; omega)

/-- A new group. -/
theorem GMem.push {gs : List (List Nat)} {gv : Value} {vs : List Value} (h : GMem N gs gv vs sv pv w) (hM : Mem N g tv fv w0 s sv pv w) {w1 w2 : World} (hb1 : Below w.heap.size w w1) {c : List Nat} {x : Value} {k0 : Nat} (hx : w1.ownsRow w.heap.size 3 1 x c.length (ints c)) (hk : x.ownBlock = some k0)
    {gb cap : Nat} (hown : w2.ownsRow (N + 10) 24 1 (.slice (some ⟨gb, 0, none⟩) (vs.length + 1) cap) (vs.length + 1) (vs ++ [x])) (hgr : w1.grownBy w2 gv.ownBlock) (hat : gv.ownBlock = some gb ∨ gb = w1.heap.size) :
    GMem N (gs ++ [c]) (.slice (some ⟨gb, 0, none⟩) (vs.length + 1) cap) (vs ++ [x]) sv pv w2 ∧ Mem N g tv fv w0 s sv pv w2 := by
  have hz := lt_of_heap hM.b9
  have hg1 := hb1.size
  have hb2 : ∀ k, k < w.heap.size → gv.ownBlock ≠ some k → w2.heap[k]? = w.heap[k]? := fun k h1 h2 => (hgr.block k (by omega) (Ne.symm h2)).trans (hb1.block k h1)
  have hBN : Below N w w2 := (hb1.mono (by omega)).trans ⟨hgr.os, hgr.tape, hgr.output, hgr.size, fun k hk => hgr.block k (by omega) (fun e => by have := (own_ge h.row e.symm).1; omega)⟩
  refine ⟨⟨by simp [h.len], by simpa using hown, fun i c' v' hc hv => ?_, fun v' hv k hk' => ?_, fun k hk' => ?_⟩, hM.beside gv.ownBlock hBN hb2 (fun k e => ⟨(own_ge h.row e).1, h.gapart k e⟩)⟩
  · by_cases hi : i < gs.length
    · rw [List.getElem?_append_left hi] at hc
      rw [List.getElem?_append_left (by rw [h.len]; exact hi)] at hv
      obtain ⟨h1, h2⟩ := h.each i c' v' hc hv
      exact ⟨ownsRow_kept h1 fun k hk' => hb2 k (own_ge h1 hk').2 (h.apart v' (List.mem_of_getElem? hv) k hk').1, h2⟩
    · rw [List.getElem?_append_right (by omega)] at hc
      rw [List.getElem?_append_right (by rw [h.len]; omega)] at hv
      obtain ⟨hc1, hc2⟩ : gs.length ≤ i ∧ i - gs.length = 0 := by
        refine ⟨by omega, ?_⟩
        cases hq : i - gs.length with
        | zero => rfl
        | succ m => rw [hq] at hc; simp at hc
      rw [hc2] at hc
      rw [h.len, hc2] at hv
      simp at hc hv
      subst hc hv
      refine ⟨?_, k0, hk⟩
      have h1 : w1.ownsRow (N + 10) 3 1 x c.length (ints c) := by
        obtain ⟨q1, q2⟩ := hx
        refine ⟨q1, ?_⟩
        rcases q2 with q2 | ⟨a, b, cc, q3, q4, q5⟩
        · exact Or.inl q2
        · exact Or.inr ⟨a, b, cc, q3, by omega, q5⟩
      exact ownsRow_kept h1 fun k hk' => hgr.block k (own_ge h1 hk').2 (fun e => by have h5 := (own_ge h.row e.symm).2; have h6 := (own_ge hx hk').1; omega)
  · rw [List.mem_append, List.mem_singleton] at hv
    rcases hv with hv | rfl
    · have hbk := h.block_of hv hk'
      have ha := h.apart v' hv k hk'
      refine ⟨fun e => ?_, ha.2⟩
      have e : gb = k := Option.some.inj e
      subst e
      rcases hat with hat | hat
      · exact ha.1 hat
      · omega
    · have hge := own_ge hx hk'
      refine ⟨fun e => ?_, fun e => ?_, fun e => ?_⟩
      · have e : gb = k := Option.some.inj e
        subst e
        rcases hat with hat | hat
        · have := (own_ge h.row hat).2; omega
        · omega
      · have := (own_ge hM.stk e).2; omega
      · have := (own_ge hM.pth e).2; omega
  · have e : gb = k := Option.some.inj hk'
    subst e
    rcases hat with hat | hat
    · exact h.gapart _ hat
    · exact ⟨fun e => by have := (own_ge hM.stk e).2; omega, fun e => by have := (own_ge hM.pth e).2; omega⟩
end

/-! ### the open marks -/
def shutAll (op : Nat → Bool) (l : List Nat) : Nat → Bool := l.foldl (fun o x => fup o x false) op
theorem shutAll_snoc (op : Nat → Bool) (l : List Nat) (x : Nat) : shutAll op (l ++ [x]) = fup (shutAll op l) x false := by simp [shutAll]
theorem shutAll_iff (op : Nat → Bool) (l : List Nat) (x : Nat) : shutAll op l x = true ↔ op x = true ∧ x ∉ l := by
  induction l generalizing op with
  | nil => simp [shutAll]
  | cons a l ih =>
    show shutAll (fup op a false) l x = true ↔ _
    rw [ih]
    by_cases e : x = a
    · subst e; rw [fup_same]; simp
    · rw [fup_other _ _ e]; simp [e]

theorem take_succ_get {l : List Nat} {j x : Nat} (h : l[j]? = some x) : l.take (j + 1) = l.take j ++ [x] := by
  rw [List.take_add_one, h]; rfl

theorem Gr.Inv.shutAll {g : Graph} {s : TS} (h : Inv g s) {v : Nat} {pre post : List Nat} (hs : s.stack = pre ++ v :: post) (hd : ∀ x, x ∈ post → x ∉ v :: pre.reverse) (x : Nat) : YbulkeiwwDoor.shutAll s.opn (v :: pre.reverse) x = true ↔ x ∈ post := by
  rw [shutAll_iff, h.opn, hs]
  constructor
  · rintro ⟨h1, h2⟩
    rw [List.mem_append, List.mem_cons] at h1
    rw [List.mem_cons, List.mem_reverse] at h2
    rcases h1 with h1 | h1 | h1
    · exact absurd (Or.inr h1) h2
    · exact absurd (Or.inl h1) h2
    · exact h1
  · exact fun hx => ⟨by simp [hx], hd x hx⟩

/-! ### the sorted component -/
theorem sorted_comp {g : Graph} {s : TS} (h : Inv g s) {v : Nat} {pre post : List Nat} (hs : s.stack = pre ++ v :: post) :
    ∃ c : List Nat, c.Pairwise (· < ·) ∧ (∀ x, x ∈ c ↔ (x = v ∨ x ∈ pre)) ∧ c.length = pre.length + 1 ∧ ((((v :: pre.reverse).map fun (x : Nat) => (x : Int)).mergeSort (fun x y => decide (x ≤ y))).map (Value.int .i64)) = ints c := by
  have hO := h.stkO
  rw [hs, List.pairwise_append] at hO
  obtain ⟨h1, h2, h3⟩ := hO
  have hnd : (v :: pre.reverse).Nodup := by
    rw [List.nodup_cons, List.mem_reverse]
    refine ⟨fun hx => absurd (h3 v hx v List.mem_cons_self) (Nat.lt_irrefl _), ?_⟩
    rw [List.Nodup, List.pairwise_reverse]
    exact h1.imp (fun {a b} hab e => by subst e; exact absurd hab (Nat.lt_irrefl _))
  have hps : ∀ l : List Nat, (l.mergeSort (fun x y => decide (x ≤ y))).map (fun (x : Nat) => (x : Int)) = (l.map fun (x : Nat) => (x : Int)).mergeSort (fun x y => decide (x ≤ y)) := fun l => by
    rw [List.map_mergeSort (r := fun (x y : Nat) => decide (x ≤ y)) (s := fun (x y : Int) => decide (x ≤ y))]
    intro a _ b _
    simp
  have hperm := List.mergeSort_perm (v :: pre.reverse) (fun x y => decide (x ≤ y))
  refine ⟨(v :: pre.reverse).mergeSort (fun x y => decide (x ≤ y)), ?_, fun x => ?_, ?_, ?_⟩
  · have hs1 : ((v :: pre.reverse).mergeSort (fun x y => decide (x ≤ y))).Pairwise (fun x y => decide (x ≤ y) = true) := List.pairwise_mergeSort (fun a b c h1 h2 => by simp at *; omega) (fun a b => by simp; omega) _
    have hn1 : ((v :: pre.reverse).mergeSort (fun x y => decide (x ≤ y))).Nodup := hperm.nodup_iff.2 hnd
    exact (hs1.and hn1).imp (fun {a b} hab => by
      obtain ⟨q1, q2⟩ := hab
      simp at q1
      omega)
  · rw [hperm.mem_iff]; simp
  · rw [hperm.length_eq]; simp
  · rw [← hps, List.map_map]; rfl

/-! ### how many groups -/
theorem nodup_lt_length : ∀ (n : Nat) (l : List Nat), l.Nodup → (∀ x, x ∈ l → x < n) → l.length ≤ n
  | 0, l, _, h => by
    cases l with
    | nil => exact Nat.le_refl _
    | cons a l => exact absurd (h a List.mem_cons_self) (Nat.not_lt_zero _)
  | n + 1, l, hn, h => by
    have h1 := nodup_lt_length n (l.erase n) (hn.erase n) (fun x hx => by
      have h2 := h x (List.mem_of_mem_erase hx)
      have h3 : x ≠ n := fun e => by subst e; exact hn.not_mem_erase hx
      omega)
    have h4 := List.length_erase (a := n) (l := l)
    split at h4 <;> omega

theorem Gr.GInv.head {g : Graph} {s : TS} (hi : Inv g s) (h : GInv g s) {c : List Nat} (hc : c ∈ s.groups) : c ≠ [] ∧ c.headD 0 ∈ c ∧ c.headD 0 < g.n := by
  obtain ⟨h1, _, h3⟩ := h.one c hc
  cases c with
  | nil => exact absurd rfl h1
  | cons a l => exact ⟨h1, List.mem_cons_self, hi.ordLt a (h3 a List.mem_cons_self).1.1⟩

theorem Gr.GInv.len {g : Graph} {s : TS} (hi : Inv g s) (h : GInv g s) : s.groups.length ≤ g.n := by
  have h1 := nodup_lt_length g.n (s.groups.map (·.headD 0)) ?_ ?_
  · simpa using h1
  · rw [List.Nodup, List.pairwise_map]
    refine List.Pairwise.imp_of_mem (fun {a b} ha hb hab e => ?_) h.apart
    have h2 := (h.head hi ha).2.1
    rw [e] at h2
    exact hab _ h2 (h.head hi hb).2.1
  · intro x hx
    obtain ⟨c, hc, rfl⟩ := List.mem_map.1 hx
    exact (h.head hi hc).2.2

theorem own_mono {w : World} {B B' e size n : Nat} {v : Value} {xs : List Value} (h : w.ownsRow B e size v n xs) (hB : B' ≤ B) : w.ownsRow B' e size v n xs := by
  obtain ⟨q1, q2⟩ := h
  refine ⟨q1, ?_⟩
  rcases q2 with q2 | ⟨a, b, cc, q3, q4, q5⟩
  · exact Or.inl q2
  · exact Or.inr ⟨a, b, cc, q3, by omega, q5⟩

end Go.Proofs.YbulkeiwwDoor
