/-
  What lies in memory while graph.cycles runs.
-/
import Derived.Test.YbulkeiwwDoorMyBlocks
namespace Go.Proofs.YbulkeiwwDoor
open Go.RowKit Go.ChangeMaps Gr
set_option linter.unusedVariables false

def ints (l : List Nat) : List Value := l.map fun (v : Nat) => Value.int .i64 (v : Int)
def frames : List (Nat × Nat) → List Value
  | [] => []
  | p :: l => .int .i64 (p.1 : Int) :: .int .i64 (p.2 : Int) :: frames l

theorem frames_append (a b : List (Nat × Nat)) : frames (a ++ b) = frames a ++ frames b := by
  induction a with
  | nil => rfl
  | cons p l ih => simp [frames, ih]
theorem frames_length (a : List (Nat × Nat)) : (frames a).length = a.length * 2 := by
  induction a with
  | nil => rfl
  | cons p l ih => simp [frames, ih]; omega
theorem ints_append (a b : List Nat) : ints (a ++ b) = ints a ++ ints b := by simp [ints]
theorem ints_length (a : List Nat) : (ints a).length = a.length := by simp [ints]

structure Mem (N : Nat) (g : Graph) (tv fv : Value) (w0 : World) (s : TS) (sv pv : Value) (w : World) : Prop where
  below : Below N w0 w
  b0 : w.heap[N]? = some (.cells #[tv, fv] 30)
  b1 : w.heap[N + 1]? = some (.cells (arrI g.n fun i => (s.order i : Int)) 3)
  b2 : w.heap[N + 2]? = some (.cells #[.slice (some ⟨N + 1, 0, none⟩) g.n g.n] 24)
  b3 : w.heap[N + 3]? = some (.cells (arrI g.n fun i => (s.low i : Int)) 3)
  b4 : w.heap[N + 4]? = some (.cells #[.slice (some ⟨N + 3, 0, none⟩) g.n g.n] 24)
  b5 : w.heap[N + 5]? = some (.cells (arrB g.n s.opn) 4)
  b6 : w.heap[N + 6]? = some (.cells #[.slice (some ⟨N + 5, 0, none⟩) g.n g.n] 76)
  b7 : w.heap[N + 7]? = some (.cells #[sv] 24)
  b8 : w.heap[N + 8]? = some (.cells #[pv] 93)
  b9 : w.heap[N + 9]? = some (.cells #[.int .i64 (s.reached : Int)] 3)
  stk : w.ownsRow (N + 10) 3 1 sv s.stack.length (ints s.stack.reverse)
  pth : w.ownsRow (N + 10) 95 2 pv s.path.length (frames s.path.reverse)
  dis : ∀ k, sv.ownBlock = some k → pv.ownBlock ≠ some k

/-- All but the ten blocks and the two rows is as it was. -/
structure Fr (N : Nat) (sv pv sv' pv' : Value) (w w' : World) : Prop where
  size : w.heap.size ≤ w'.heap.size
  block : ∀ k, N + 10 ≤ k → k < w.heap.size → sv.ownBlock ≠ some k → pv.ownBlock ≠ some k → w'.heap[k]? = w.heap[k]?
  sOwn : sv'.ownBlock = sv.ownBlock ∨ ∃ k, sv'.ownBlock = some k ∧ w.heap.size ≤ k
  pOwn : pv'.ownBlock = pv.ownBlock ∨ ∃ k, pv'.ownBlock = some k ∧ w.heap.size ≤ k

theorem info3 : (Ybad.prog.info? 3).map (fun i => (i.zero, i.size, i.bytes)) = some (some (.int .i64 0), 1, 8) := by kernel_rfl
theorem info95 : (Ybad.prog.info? 95).map (fun i => (i.zero, i.size, i.bytes)) = some (some (.agg #[.int .i64 0, .int .i64 0]), 2, 16) := by kernel_rfl
theorem info24 : (Ybad.prog.info? 24).map (fun i => (i.zero, i.size, i.bytes)) = some (some (.slice none 0 0), 1, 24) := by kernel_rfl
theorem info4 : (Ybad.prog.info? 4).map (fun i => (i.zero, i.size, i.bytes)) = some (some (.bool false), 1, 1) := by kernel_rfl


section
variable {N : Nat} {g : Graph} {tv fv : Value} {w0 w : World} {s : TS} {sv pv : Value}

theorem heap_set_ne (w : World) {b o : Nat} (v : Value) {j : Nat} (h : j ≠ b) : (w.setCell ⟨b, o, none⟩ v).heap[j]? = w.heap[j]? := Below.heap_setCell _ _ _ _ (by simpa using h)
theorem heap_set_at {w : World} {b o : Nat} {ca : Array Value} {ta : TypeId} (v : Value) (h : w.heap[b]? = some (.cells ca ta)) : (w.setCell ⟨b, o, none⟩ v).heap[b]? = some (.cells (ca.setIfInBounds o v) ta) := by
  rw [setCell_cells h]; exact heap_setBlock_at _ (lt_of_heap h)

theorem own_ge {w : World} {base e size n : Nat} {v : Value} {xs : List Value} (h : w.ownsRow base e size v n xs) {k : Nat} (hk : v.ownBlock = some k) : base ≤ k ∧ k < w.heap.size := h.lt k hk

theorem Mem.drew (h : Mem N g tv fv w0 s sv pv w) : Mem N g tv fv w0 s sv pv w.drew :=
  ⟨h.below.drew, h.b0, h.b1, h.b2, h.b3, h.b4, h.b5, h.b6, h.b7, h.b8, h.b9, h.stk, h.pth, h.dis⟩

theorem Mem.reach (h : Mem N g tv fv w0 s sv pv w) (r : Nat) : Mem N g tv fv w0 { s with reached := r } sv pv (w.setCell ⟨N + 9, 0, none⟩ (.int .i64 (r : Int))) := by
  have o : ∀ j, j ≠ N + 9 → (w.setCell ⟨N + 9, 0, none⟩ (.int .i64 (r : Int))).heap[j]? = w.heap[j]? := fun j hj => heap_set_ne _ _ hj
  exact ⟨h.below.setCell (by show N ≤ N + 9; omega) _, (o _ (by omega)).trans h.b0, (o _ (by omega)).trans h.b1, (o _ (by omega)).trans h.b2, (o _ (by omega)).trans h.b3, (o _ (by omega)).trans h.b4, (o _ (by omega)).trans h.b5, (o _ (by omega)).trans h.b6, (o _ (by omega)).trans h.b7, (o _ (by omega)).trans h.b8,
    heap_set_at _ h.b9, ownsRow_kept h.stk fun k hk => o k (by have := (own_ge h.stk hk).1; omega), ownsRow_kept h.pth fun k hk => o k (by have := (own_ge h.pth hk).1; omega), h.dis⟩

theorem fup_cast (f : Nat → Nat) (v x : Nat) : (fun i => ((fup f v x i : Nat) : Int)) = fup (fun i => (f i : Int)) v (x : Int) := by
  funext i; unfold fup; split <;> rfl

theorem Mem.ord (h : Mem N g tv fv w0 s sv pv w) (v x : Nat) : Mem N g tv fv w0 { s with order := fup s.order v x } sv pv (w.setCell ⟨N + 1, v, none⟩ (.int .i64 (x : Int))) := by
  have o : ∀ j, j ≠ N + 1 → (w.setCell ⟨N + 1, v, none⟩ (.int .i64 (x : Int))).heap[j]? = w.heap[j]? := fun j hj => heap_set_ne _ _ hj
  refine ⟨h.below.setCell (by show N ≤ N + 1; omega) _, (o _ (by omega)).trans h.b0, ?_, (o _ (by omega)).trans h.b2, (o _ (by omega)).trans h.b3, (o _ (by omega)).trans h.b4, (o _ (by omega)).trans h.b5, (o _ (by omega)).trans h.b6, (o _ (by omega)).trans h.b7, (o _ (by omega)).trans h.b8,
    (o _ (by omega)).trans h.b9, ownsRow_kept h.stk fun k hk => o k (by have := (own_ge h.stk hk).1; omega), ownsRow_kept h.pth fun k hk => o k (by have := (own_ge h.pth hk).1; omega), h.dis⟩
  rw [heap_set_at _ h.b1, arrI_set, ← fup_cast]

theorem Mem.lw (h : Mem N g tv fv w0 s sv pv w) (v x : Nat) : Mem N g tv fv w0 { s with low := fup s.low v x } sv pv (w.setCell ⟨N + 3, v, none⟩ (.int .i64 (x : Int))) := by
  have o : ∀ j, j ≠ N + 3 → (w.setCell ⟨N + 3, v, none⟩ (.int .i64 (x : Int))).heap[j]? = w.heap[j]? := fun j hj => heap_set_ne _ _ hj
  refine ⟨h.below.setCell (by show N ≤ N + 3; omega) _, (o _ (by omega)).trans h.b0, (o _ (by omega)).trans h.b1, (o _ (by omega)).trans h.b2, ?_, (o _ (by omega)).trans h.b4, (o _ (by omega)).trans h.b5, (o _ (by omega)).trans h.b6, (o _ (by omega)).trans h.b7, (o _ (by omega)).trans h.b8,
    (o _ (by omega)).trans h.b9, ownsRow_kept h.stk fun k hk => o k (by have := (own_ge h.stk hk).1; omega), ownsRow_kept h.pth fun k hk => o k (by have := (own_ge h.pth hk).1; omega), h.dis⟩
  rw [heap_set_at _ h.b3, arrI_set, ← fup_cast]

theorem Mem.op (h : Mem N g tv fv w0 s sv pv w) (v : Nat) (x : Bool) : Mem N g tv fv w0 { s with opn := fup s.opn v x } sv pv (w.setCell ⟨N + 5, v, none⟩ (.bool x)) := by
  have o : ∀ j, j ≠ N + 5 → (w.setCell ⟨N + 5, v, none⟩ (.bool x)).heap[j]? = w.heap[j]? := fun j hj => heap_set_ne _ _ hj
  refine ⟨h.below.setCell (by show N ≤ N + 5; omega) _, (o _ (by omega)).trans h.b0, (o _ (by omega)).trans h.b1, (o _ (by omega)).trans h.b2, (o _ (by omega)).trans h.b3, (o _ (by omega)).trans h.b4, ?_, (o _ (by omega)).trans h.b6, (o _ (by omega)).trans h.b7, (o _ (by omega)).trans h.b8,
    (o _ (by omega)).trans h.b9, ownsRow_kept h.stk fun k hk => o k (by have := (own_ge h.stk hk).1; omega), ownsRow_kept h.pth fun k hk => o k (by have := (own_ge h.pth hk).1; omega), h.dis⟩
  rw [heap_set_at _ h.b5, arrB_set]

/-- A new block beside. -/
theorem Mem.alloc (h : Mem N g tv fv w0 s sv pv w) (ob : Obj) : Mem N g tv fv w0 s sv pv (w.alloc ob) := by
  have hs := lt_of_heap h.b9
  have o : ∀ j, j < w.heap.size → (w.alloc ob).heap[j]? = w.heap[j]? := fun j hj => heap_alloc_lt _ _ hj
  exact ⟨h.below.alloc (by omega) _, (o _ (by omega)).trans h.b0, (o _ (by omega)).trans h.b1, (o _ (by omega)).trans h.b2, (o _ (by omega)).trans h.b3, (o _ (by omega)).trans h.b4, (o _ (by omega)).trans h.b5, (o _ (by omega)).trans h.b6, (o _ (by omega)).trans h.b7, (o _ (by omega)).trans h.b8, (o _ (by omega)).trans h.b9,
    ownsRow_kept h.stk fun k hk => o k (own_ge h.stk hk).2, ownsRow_kept h.pth fun k hk => o k (own_ge h.pth hk).2, h.dis⟩

/-- The stack has grown by append: ahead of the store into the variable. -/
theorem Mem.push (h : Mem N g tv fv w0 s sv pv w) {w1 : World} {gb cap v : Nat} (hown : w1.ownsRow (N + 10) 3 1 (.slice (some ⟨gb, 0, none⟩) (s.stack.length + 1) cap) (s.stack.length + 1) (ints s.stack.reverse ++ [.int .i64 (v : Int)]))
    (hgr : w.grownBy w1 sv.ownBlock) (hat : sv.ownBlock = some gb ∨ gb = w.heap.size) :
    Mem N g tv fv w0 { s with stack := v :: s.stack } (.slice (some ⟨gb, 0, none⟩) (s.stack.length + 1) cap) pv (w1.setCell ⟨N + 7, 0, none⟩ (.slice (some ⟨gb, 0, none⟩) (s.stack.length + 1) cap)) := by
  have hs := lt_of_heap h.b9
  have hgb : N + 10 ≤ gb := (own_ge hown rfl).1
  have o1 : ∀ j, j < w.heap.size → sv.ownBlock ≠ some j → w1.heap[j]? = w.heap[j]? := fun j hj hn => hgr.block j hj (Ne.symm hn)
  have hno : ∀ j, j < N + 10 → sv.ownBlock ≠ some j := fun j hj e => by have := (own_ge h.stk e).1; omega
  have o : ∀ j, j < N + 10 → j ≠ N + 7 → (w1.setCell ⟨N + 7, 0, none⟩ (.slice (some ⟨gb, 0, none⟩) (s.stack.length + 1) cap)).heap[j]? = w.heap[j]? := fun j hj hn => (heap_set_ne _ _ hn).trans (o1 j (by omega) (hno j hj))
  have hb : Below N w0 w1 := h.below.trans ⟨hgr.os, hgr.tape, hgr.output, hgr.size, fun k hk => o1 k (by omega) (hno k (by omega))⟩
  refine ⟨hb.setCell (by show N ≤ N + 7; omega) _, (o _ (by omega) (by omega)).trans h.b0, (o _ (by omega) (by omega)).trans h.b1, (o _ (by omega) (by omega)).trans h.b2, (o _ (by omega) (by omega)).trans h.b3, (o _ (by omega) (by omega)).trans h.b4, (o _ (by omega) (by omega)).trans h.b5, (o _ (by omega) (by omega)).trans h.b6, ?_, (o _ (by omega) (by omega)).trans h.b8,
    (o _ (by omega) (by omega)).trans h.b9, ?_, ?_, ?_⟩
  · exact heap_set_at _ ((o1 (N + 7) (by omega) (hno _ (by omega))).trans h.b7)
  · have := ownsRow_kept (w' := w1.setCell ⟨N + 7, 0, none⟩ (.slice (some ⟨gb, 0, none⟩) (s.stack.length + 1) cap)) hown (fun k hk => heap_set_ne _ _ (by have := (own_ge hown hk).1; omega))
    simpa [ints] using this
  · refine ownsRow_kept h.pth fun k hk => ?_
    have := own_ge h.pth hk
    exact (heap_set_ne _ _ (by omega)).trans (o1 k this.2 (fun e => h.dis k e hk))
  · intro k hk e
    cases hk
    rcases hat with hat | rfl
    · exact h.dis _ hat e
    · exact absurd (own_ge h.pth e).2 (Nat.lt_irrefl _)

/-- The path has grown by append. -/
theorem Mem.pushP (h : Mem N g tv fv w0 s sv pv w) {w1 : World} {gb cap v k0 : Nat} (hown : w1.ownsRow (N + 10) 95 2 (.slice (some ⟨gb, 0, none⟩) (s.path.length + 1) cap) (s.path.length + 1) (frames s.path.reverse ++ [.int .i64 (v : Int), .int .i64 (k0 : Int)]))
    (hgr : w.grownBy w1 pv.ownBlock) (hat : pv.ownBlock = some gb ∨ gb = w.heap.size) :
    Mem N g tv fv w0 { s with path := (v, k0) :: s.path } sv (.slice (some ⟨gb, 0, none⟩) (s.path.length + 1) cap) (w1.setCell ⟨N + 8, 0, none⟩ (.slice (some ⟨gb, 0, none⟩) (s.path.length + 1) cap)) := by
  have hs := lt_of_heap h.b9
  have hgb : N + 10 ≤ gb := (own_ge hown rfl).1
  have o1 : ∀ j, j < w.heap.size → pv.ownBlock ≠ some j → w1.heap[j]? = w.heap[j]? := fun j hj hn => hgr.block j hj (Ne.symm hn)
  have hno : ∀ j, j < N + 10 → pv.ownBlock ≠ some j := fun j hj e => by have := (own_ge h.pth e).1; omega
  have o : ∀ j, j < N + 10 → j ≠ N + 8 → (w1.setCell ⟨N + 8, 0, none⟩ (.slice (some ⟨gb, 0, none⟩) (s.path.length + 1) cap)).heap[j]? = w.heap[j]? := fun j hj hn => (heap_set_ne _ _ hn).trans (o1 j (by omega) (hno j hj))
  have hb : Below N w0 w1 := h.below.trans ⟨hgr.os, hgr.tape, hgr.output, hgr.size, fun k hk => o1 k (by omega) (hno k (by omega))⟩
  refine ⟨hb.setCell (by show N ≤ N + 8; omega) _, (o _ (by omega) (by omega)).trans h.b0, (o _ (by omega) (by omega)).trans h.b1, (o _ (by omega) (by omega)).trans h.b2, (o _ (by omega) (by omega)).trans h.b3, (o _ (by omega) (by omega)).trans h.b4, (o _ (by omega) (by omega)).trans h.b5, (o _ (by omega) (by omega)).trans h.b6, (o _ (by omega) (by omega)).trans h.b7, ?_,
    (o _ (by omega) (by omega)).trans h.b9, ?_, ?_, ?_⟩
  · exact heap_set_at _ ((o1 (N + 8) (by omega) (hno _ (by omega))).trans h.b8)
  · refine ownsRow_kept h.stk fun k hk => ?_
    have := own_ge h.stk hk
    exact (heap_set_ne _ _ (by omega)).trans (o1 k this.2 (fun e => h.dis k hk e))
  · have := ownsRow_kept (w' := w1.setCell ⟨N + 8, 0, none⟩ (.slice (some ⟨gb, 0, none⟩) (s.path.length + 1) cap)) hown (fun k hk => heap_set_ne _ _ (by have := (own_ge hown hk).1; omega))
    simpa [frames_append, frames] using this
  · intro k hk e
    cases e
    rcases hat with hat | rfl
    · exact h.dis _ hk hat
    · exact absurd (own_ge h.stk hk).2 (Nat.lt_irrefl _)

theorem row_form {w : World} {base e size n : Nat} {v : Value} {xs : List Value} (h : w.ownsRow base e size v n xs) : ∃ a c, v = .slice a n c := by
  rcases h.2 with ⟨rfl, rfl⟩ | ⟨gb, cap, cur, rfl, _⟩
  · exact ⟨_, _, rfl⟩
  · exact ⟨_, _, rfl⟩

theorem row_some {w : World} {base e size n : Nat} {v : Value} {xs : List Value} (h : w.ownsRow base e size v n xs) (hn : 0 < n) : ∃ gb cap, v = .slice (some ⟨gb, 0, none⟩) n cap ∧ base ≤ gb ∧ gb < w.heap.size ∧ n ≤ cap := by
  rcases h.2 with ⟨_, rfl⟩ | ⟨gb, cap, cur, rfl, hb, hg, hc, _⟩
  · omega
  · exact ⟨gb, cap, rfl, hb, lt_of_heap hg, hc⟩

/-- The last frame of the path. -/
theorem Mem.last (h : Mem N g tv fv w0 s sv pv w) {v k : Nat} {rest : List (Nat × Nat)} (hp : s.path = (v, k) :: rest) :
    ∃ pb pc, pv = .slice (some ⟨pb, 0, none⟩) (rest.length + 1) pc ∧ N + 10 ≤ pb ∧ pb < w.heap.size ∧ rest.length + 1 ≤ pc ∧ w.cell? ⟨pb, rest.length * 2, none⟩ = some (.int .i64 (v : Int)) ∧ w.cell? ⟨pb, rest.length * 2 + 1, none⟩ = some (.int .i64 (k : Int)) ∧ w.frozen? ⟨pb, rest.length * 2 + 1, none⟩ = false := by
  have hr := h.pth
  rw [hp] at hr
  obtain ⟨pb, pc, rfl, h1, h2, h3⟩ := row_some hr (by simp)
  simp only [List.length_cons] at hr h3 ⊢
  have hl : (frames rest.reverse).length = rest.length * 2 := by rw [frames_length]; simp
  refine ⟨pb, pc, rfl, h1, h2, h3, ownsRow_cell hr ?_, ownsRow_cell hr ?_, ownsRow_frozen hr _⟩
  · simp only [List.reverse_cons, frames_append, frames]
    rw [List.getElem?_append_right (by omega), hl]; simp
  · simp only [List.reverse_cons, frames_append, frames]
    rw [List.getElem?_append_right (by omega), hl]; simp

/-- f.next++ -/
theorem Mem.nextP (h : Mem N g tv fv w0 s sv pv w) {v k pb pc : Nat} {rest : List (Nat × Nat)} (hp : s.path = (v, k) :: rest) (hpv : pv = .slice (some ⟨pb, 0, none⟩) (rest.length + 1) pc) :
    Mem N g tv fv w0 { s with path := (v, k + 1) :: rest } sv pv (w.setCell ⟨pb, rest.length * 2 + 1, none⟩ (.int .i64 ((k + 1 : Nat) : Int))) := by
  subst hpv
  have hr := h.pth
  rw [hp] at hr
  have hg := own_ge hr rfl
  have o : ∀ j, j ≠ pb → (w.setCell ⟨pb, rest.length * 2 + 1, none⟩ (.int .i64 ((k + 1 : Nat) : Int))).heap[j]? = w.heap[j]? := fun j hj => heap_set_ne _ _ hj
  have hg1 : N + 10 ≤ pb := hg.1
  refine ⟨h.below.setCell (by show N ≤ pb; omega) _, (o _ (by omega)).trans h.b0, (o _ (by omega)).trans h.b1, (o _ (by omega)).trans h.b2, (o _ (by omega)).trans h.b3, (o _ (by omega)).trans h.b4, (o _ (by omega)).trans h.b5, (o _ (by omega)).trans h.b6, (o _ (by omega)).trans h.b7, (o _ (by omega)).trans h.b8,
    (o _ (by omega)).trans h.b9, ownsRow_kept h.stk fun j hj => o j (fun e => h.dis j hj (by rw [e]; rfl)), ?_, h.dis⟩
  have hl : (frames rest.reverse).length = rest.length * 2 := by rw [frames_length]; simp
  have := ownsRow_set hr (j := rest.length * 2 + 1) (.int .i64 ((k + 1 : Nat) : Int)) (by rw [frames_length]; simp; omega)
  have e : (frames ((v, k) :: rest).reverse).set (rest.length * 2 + 1) (.int .i64 ((k + 1 : Nat) : Int)) = frames ((v, k + 1) :: rest).reverse := by
    simp only [List.reverse_cons, frames_append, frames]
    rw [List.set_append_right _ _ (by omega), hl, show rest.length * 2 + 1 - rest.length * 2 = 1 by omega]
    rfl
  rw [e] at this
  exact this

/-- path = path[:len(path)-1] -/
theorem Mem.popP (h : Mem N g tv fv w0 s sv pv w) {v k pb pc : Nat} {rest : List (Nat × Nat)} (hp : s.path = (v, k) :: rest) (hpv : pv = .slice (some ⟨pb, 0, none⟩) (rest.length + 1) pc) :
    Mem N g tv fv w0 { s with path := rest } sv (.slice (some ⟨pb, 0, none⟩) rest.length pc) (w.setCell ⟨N + 8, 0, none⟩ (.slice (some ⟨pb, 0, none⟩) rest.length pc)) := by
  subst hpv
  have hr := h.pth
  rw [hp] at hr
  have o : ∀ j, j ≠ N + 8 → (w.setCell ⟨N + 8, 0, none⟩ (.slice (some ⟨pb, 0, none⟩) rest.length pc)).heap[j]? = w.heap[j]? := fun j hj => heap_set_ne _ _ hj
  refine ⟨h.below.setCell (by show N ≤ N + 8; omega) _, (o _ (by omega)).trans h.b0, (o _ (by omega)).trans h.b1, (o _ (by omega)).trans h.b2, (o _ (by omega)).trans h.b3, (o _ (by omega)).trans h.b4, (o _ (by omega)).trans h.b5, (o _ (by omega)).trans h.b6, (o _ (by omega)).trans h.b7, heap_set_at _ h.b8,
    (o _ (by omega)).trans h.b9, ownsRow_kept h.stk fun j hj => o j (by have := (own_ge h.stk hj).1; omega), ?_, fun k hk => h.dis k hk⟩
  have ht := ownsRow_take hr (m := rest.length) (by simp)
  have e : (frames ((v, k) :: rest).reverse).take (rest.length * 2) = frames rest.reverse := by
    simp only [List.reverse_cons, frames_append]
    rw [List.take_left' (by rw [frames_length]; simp)]
  rw [e] at ht
  exact ownsRow_kept ht fun j hj => o j (by have := (own_ge ht hj).1; omega)

theorem Mem.grown7 (h : Mem N g tv fv w0 s sv pv w) {w1 : World} (hgr : w.grownBy w1 sv.ownBlock) : w1.cell? ⟨N + 7, 0, none⟩ = some sv ∧ w1.frozen? ⟨N + 7, 0, none⟩ = false := by
  have hs := lt_of_heap h.b9
  have hb : w1.heap[N + 7]? = some (.cells #[sv] 24) := (hgr.block _ (by omega) (fun e => by have := (own_ge h.stk e.symm).1; omega)).trans h.b7
  exact ⟨cell_of_heap hb rfl, frozen_of_heap hb⟩
theorem Mem.grown8 (h : Mem N g tv fv w0 s sv pv w) {w1 : World} (hgr : w.grownBy w1 pv.ownBlock) : w1.cell? ⟨N + 8, 0, none⟩ = some pv ∧ w1.frozen? ⟨N + 8, 0, none⟩ = false := by
  have hs := lt_of_heap h.b9
  have hb : w1.heap[N + 8]? = some (.cells #[pv] 93) := (hgr.block _ (by omega) (fun e => by have := (own_ge h.pth e.symm).1; omega)).trans h.b8
  exact ⟨cell_of_heap hb rfl, frozen_of_heap hb⟩
end

end Go.Proofs.YbulkeiwwDoor
