/-
  The rows that the law lays in its sixth loop: how they lie.
-/
import Derived.Test.YbulkeiwwDoorMyChecks
import Derived.Test.YbulkeiwwDoorMyBuf
namespace Go.Proofs.YbulkeiwwDoor
open Go.RowKit Go.ChangeMaps Go.Lib Gr
set_option linter.unusedVariables false

/-- Rows of other types lie in other blocks. -/
theorem own_apart {w : World} {B B' e e' s s' n n' : Nat} {v v' : Value} {xs xs' : List Value} (h : w.ownsRow B e s v n xs) (h' : w.ownsRow B' e' s' v' n' xs') (hne : e ≠ e') {k : Nat} (hk : v.ownBlock = some k) : v'.ownBlock ≠ some k := by
  intro hk'
  obtain ⟨_, h1 | ⟨g, c, cs, rfl, _, hg, _⟩⟩ := h
  · rw [h1.1] at hk; cases hk
  · obtain ⟨_, h2 | ⟨g', c', cs', rfl, _, hg', _⟩⟩ := h'
    · rw [h2.1] at hk'; cases hk'
    · have e1 : g = k := Option.some.inj hk
      have e2 : g' = k := Option.some.inj hk'
      subst e1
      subst e2
      rw [hg] at hg'
      injection Option.some.inj hg' with _ e3
      exact hne e3
theorem own_not {w : World} {B e s n b : Nat} {v : Value} {xs : List Value} {cs : Array Value} {t : TypeId} (h : w.ownsRow B e s v n xs) (hb : w.heap[b]? = some (.cells cs t)) (hne : e ≠ t) : v.ownBlock ≠ some b := by
  intro hk
  obtain ⟨_, h1 | ⟨g, c, cs', rfl, _, hg, _⟩⟩ := h
  · rw [h1.1] at hk; cases hk
  · have e1 : g = b := Option.some.inj hk
    subst e1
    rw [hg] at hb
    injection Option.some.inj hb with _ e3
    exact hne e3
theorem keep_row {w w1 : World} {B B' e e' s s' n n' : Nat} {v q : Value} {xs ys : List Value} (h : w.ownsRow B e s v n xs) (hq : w.ownsRow B' e' s' q n' ys) (hne : e ≠ e') (hg : w.grownBy w1 q.ownBlock) : w1.ownsRow B e s v n xs :=
  ownsRow_kept h fun k hk => hg.block k (own_ge h hk).2 (fun e1 => own_apart h hq hne hk e1.symm)

def strs (l : List (List UInt8)) : List Value := l.map fun s => Value.string ⟨s.toArray⟩
theorem strs_length (l : List (List UInt8)) : (strs l).length = l.length := by simp [strs]

/-- The places of the keys ahead of key i. -/
def pairs (K : Nat → List UInt8) : Nat → List Value
  | 0 => []
  | i + 1 => pairs K i ++ [.int .i64 ((bufAt K i).length : Int), .int .i64 (endAt K i)]
theorem pairs_length (K : Nat → List UInt8) : ∀ i, (pairs K i).length = i * 2
  | 0 => rfl
  | i + 1 => by rw [pairs, List.length_append, pairs_length K i]; simp; omega
theorem pairs_get (K : Nat → List UInt8) {n v : Nat} : v < n → (pairs K n)[v * 2]? = some (.int .i64 ((bufAt K v).length : Int)) ∧ (pairs K n)[v * 2 + 1]? = some (.int .i64 (endAt K v)) := by
  induction n with
  | zero => intro h; omega
  | succ n ih =>
    intro h
    rw [pairs]
    by_cases e : v = n
    · subst e
      rw [List.getElem?_append_right (by rw [pairs_length]; omega), List.getElem?_append_right (by rw [pairs_length]; omega), pairs_length, Nat.sub_self, show v * 2 + 1 - v * 2 = 1 by omega]
      exact ⟨rfl, rfl⟩
    · obtain ⟨h1, h2⟩ := ih (by omega)
      rw [List.getElem?_append_left (by rw [pairs_length]; omega), List.getElem?_append_left (by rw [pairs_length]; omega)]
      exact ⟨h1, h2⟩
theorem pairs_one (K : Nat → List UInt8) : ∀ i, ∀ u ∈ pairs K i, u.oneCell' = true
  | 0, u, h => by cases h
  | i + 1, u, h => by
    rw [pairs, List.mem_append] at h
    rcases h with h | h
    · exact pairs_one K i u h
    · simp at h; rcases h with rfl | rfl <;> rfl

structure Rows3 (B : Nat) (w0 : World) (bl : List UInt8) (ol : List (List UInt8)) (i : Nat) (pl : List Value) (arr : Array Value) (bv ov pv : Value) (w : World) : Prop where
  b : w.ownsRow B 5 1 bv bl.length (byteCells bl)
  o : w.ownsRow B 9 1 ov ol.length (strs ol)
  p : w.ownsRow B 35 2 pv i pl
  a : w.heap[B + 1]? = some (.cells arr 3)
  bel : Below B w0 w
  le : B ≤ w.heap.size
  np : pv ≠ .slice none 0 0

section
variable {B i : Nat} {w0 w w1 : World} {bl : List UInt8} {ol : List (List UInt8)} {pl : List Value} {arr : Array Value} {bv ov pv : Value}
theorem Rows3.alloc (h : Rows3 B w0 bl ol i pl arr bv ov pv w) (ob : Obj) : Rows3 B w0 bl ol i pl arr bv ov pv (w.alloc ob) :=
  ⟨own_alloc h.b _, own_alloc h.o _, own_alloc h.p _, (heap_alloc_lt _ _ (lt_of_heap h.a)).trans h.a, h.bel.alloc h.le _, by have := h.le; simp; omega, h.np⟩
theorem Rows3.drew (h : Rows3 B w0 bl ol i pl arr bv ov pv w) : Rows3 B w0 bl ol i pl arr bv ov pv w.drew :=
  ⟨h.b, h.o, h.p, h.a, h.bel.drew, h.le, h.np⟩
theorem Rows3.setAt (h : Rows3 B w0 bl ol i pl arr bv ov pv w) (j : Nat) (v : Value) : Rows3 B w0 bl ol i pl (arr.setIfInBounds j v) bv ov pv (w.setCell ⟨B + 1, j, none⟩ v) :=
  ⟨ownsRow_kept h.b fun k hk => heap_set_ne _ _ (fun e => own_not h.b h.a (by decide) (e ▸ hk)), ownsRow_kept h.o fun k hk => heap_set_ne _ _ (fun e => own_not h.o h.a (by decide) (e ▸ hk)), ownsRow_kept h.p fun k hk => heap_set_ne _ _ (fun e => own_not h.p h.a (by decide) (e ▸ hk)), heap_set_at _ h.a, h.bel.setCell (by show B ≤ B + 1; omega) _, by have := h.le; simpa using this, h.np⟩
theorem Rows3.growB (h : Rows3 B w0 bl ol i pl arr bv ov pv w) {bv' : Value} {n' : Nat} {xs' : List Value} (hr : w1.ownsRow B 5 1 bv' n' xs') (hg : w.grownBy w1 bv.ownBlock) (bl' : List UInt8) (hn : n' = bl'.length) (hx : xs' = byteCells bl') : Rows3 B w0 bl' ol i pl arr bv' ov pv w1 := by
  subst hn
  subst hx
  exact ⟨hr, keep_row h.o h.b (by decide) hg, keep_row h.p h.b (by decide) hg, (hg.block _ (lt_of_heap h.a) (fun e => own_not h.b h.a (by decide) e.symm)).trans h.a, below_grown h.bel h.b h.le hg, Nat.le_trans h.le hg.size, h.np⟩
theorem Rows3.growO (h : Rows3 B w0 bl ol i pl arr bv ov pv w) {ov' : Value} {n' : Nat} {xs' : List Value} (hr : w1.ownsRow B 9 1 ov' n' xs') (hg : w.grownBy w1 ov.ownBlock) (ol' : List (List UInt8)) (hn : n' = ol'.length) (hx : xs' = strs ol') : Rows3 B w0 bl ol' i pl arr bv ov' pv w1 := by
  subst hn
  subst hx
  exact ⟨keep_row h.b h.o (by decide) hg, hr, keep_row h.p h.o (by decide) hg, (hg.block _ (lt_of_heap h.a) (fun e => own_not h.o h.a (by decide) e.symm)).trans h.a, below_grown h.bel h.o h.le hg, Nat.le_trans h.le hg.size, h.np⟩
theorem Rows3.growP (h : Rows3 B w0 bl ol i pl arr bv ov pv w) {pv' : Value} {n' : Nat} {xs' : List Value} (hr : w1.ownsRow B 35 2 pv' n' xs') (hg : w.grownBy w1 pv.ownBlock) (hn : pv' ≠ .slice none 0 0) : Rows3 B w0 bl ol n' xs' arr bv ov pv' w1 :=
  ⟨keep_row h.b h.p (by decide) hg, keep_row h.o h.p (by decide) hg, hr, (hg.block _ (lt_of_heap h.a) (fun e => own_not h.p h.a (by decide) e.symm)).trans h.a, below_grown h.bel h.p h.le hg, Nat.le_trans h.le hg.size, hn⟩
end

theorem at_step (kl : Nat) (A : Nat → Int) (i : Nat) : (arrI kl (fun j => if j < i then A j else 0)).setIfInBounds i (.int .i64 (A i)) = arrI kl (fun j => if j < i + 1 then A j else 0) := by
  rw [arrI_set]
  congr 1
  funext j
  by_cases e : j = i
  · subst e; rw [fup_same, if_pos (by omega)]
  · rw [fup_other _ _ e]
    by_cases h : j < i
    · rw [if_pos h, if_pos (by omega)]
    · rw [if_neg h, if_neg (by omega)]

def totLen (K : Nat → List UInt8) : Nat → Nat
  | 0 => 0
  | k + 1 => totLen K k + (K k).length
theorem buf_len (K : Nat → List UInt8) : ∀ i, (bufAt K i).length ≤ totLen K i + 3 * i
  | 0 => by simp [bufAt]
  | i + 1 => by
    have ih := buf_len K i
    by_cases h : i % 2 = 0
    · rw [buf_even h]; simp [totLen]; omega
    · rw [buf_odd h]; simp [totLen]; omega
theorem tot_mono (K : Nat → List UInt8) : ∀ {i n : Nat}, i ≤ n → totLen K i ≤ totLen K n
  | i, 0, h => by rw [Nat.le_zero.1 h]; exact Nat.le_refl _
  | i, n + 1, h => by
    by_cases e : i = n + 1
    · rw [e]; exact Nat.le_refl _
    · have := tot_mono K (show i ≤ n by omega); simp [totLen]; omega
theorem key_len {K : Nat → List UInt8} {i n : Nat} (h : i < n) : (K i).length ≤ totLen K n := by
  have := tot_mono K (show i + 1 ≤ n by omega)
  simp [totLen] at this
  omega
theorem info35 : (Ybad.prog.info? 35).map (fun i => (i.zero, i.size, i.bytes)) = some (some (.agg #[.int .i64 0, .int .i64 0]), 2, 16) := by kernel_rfl
def rowN (f : Nat → Int) (m : Nat) : List Value := (List.range m).map fun i => Value.int .i64 (f i)
theorem rowN_succ (f : Nat → Int) (m : Nat) : rowN f (m + 1) = rowN f m ++ [.int .i64 (f m)] := by simp [rowN, List.range_succ]
theorem rowN_get {f : Nat → Int} {m j : Nat} (h : j < m) : (rowN f m)[j]? = some (.int .i64 (f j)) := by simp [rowN, h]
theorem rowN_len (f : Nat → Int) (n : Nat) : (rowN f n).length = n := by simp [rowN]
/-- Loop 6. -/
def Rel6 (kl : Nat) (K : Nat → List UInt8) (B : Nat) (w0 : World) (k : Nat) (bv ov pv x : Value) (wr : World) : Prop :=
  ∃ i : Nat, i + k = kl ∧ x = .int .i64 (i : Int) ∧ Rows3 B w0 (bufAt K i) (oddAt K i) i (pairs K i) (arrI kl (fun j => if j < i then ((bufAt K j).length : Int) else 0)) bv ov pv wr
end Go.Proofs.YbulkeiwwDoor
