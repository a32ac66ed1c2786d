/-
  Blocks of the heap; arrays of ints and of bools as functions; rows that the walk owns. No walk here.
-/
import Derived.Test.YbulkeiwwDoorRows
import Derived.Test.YbulkeiwwDoorMySpec
import Derived.ChangeMaps5
import Derived.Laws.CopyRow
import Derived.Laws.MakeOwn
import Derived.Laws.AppendOwn
import Derived.Deep.AppendLies
import Derived.WalkKit
import Derived.Below
namespace Go.Proofs.YbulkeiwwDoor
open Go.RowKit Go.ChangeMaps Gr
set_option linter.unusedVariables false

theorem heap_setBlock_at {w : World} {b : Nat} (o : Obj) (h : b < w.heap.size) : (setBlock w b o).heap[b]? = some o := by
  simp [setBlock, h]
theorem heap_setBlock_ne {w : World} {b i : Nat} (o : Obj) (h : i ≠ b) : (setBlock w b o).heap[i]? = w.heap[i]? := by
  simp only [setBlock]; rw [Array.getElem?_setIfInBounds_ne (Ne.symm h)]
theorem lt_of_heap {w : World} {b : Nat} {o : Obj} (h : w.heap[b]? = some o) : b < w.heap.size := (Array.getElem?_eq_some_iff.1 h).1
theorem world_ext {w w' : World} (h1 : w.heap = w'.heap) (h2 : w.tape = w'.tape) (h3 : w.drawn = w'.drawn) (h4 : w.os = w'.os) (h5 : w.output = w'.output) : w = w' := by
  cases w; cases w'; simp_all
theorem setCell_cells {w : World} {b o : Nat} {ca : Array Value} {ta : TypeId} {v : Value} (h : w.heap[b]? = some (.cells ca ta)) : w.setCell ⟨b, o, none⟩ v = setBlock w b (.cells (ca.setIfInBounds o v) ta) := by
  refine world_ext ?_ rfl rfl rfl rfl
  apply Array.ext_getElem?
  intro i
  by_cases e : i = b
  · subst e
    rw [heap_setBlock_at _ (lt_of_heap h)]
    simp [World.setCell, Array.getElem?_modify, h]
  · rw [heap_setBlock_ne _ e, Below.heap_setCell _ _ _ _ (by simpa using e)]
theorem setRow_cells {w : World} {b : Nat} {ca cb : Array Value} {ta : TypeId} (h : w.heap[b]? = some (.cells ca ta)) : w.setRow b cb = setBlock w b (.cells cb ta) := by
  refine world_ext ?_ rfl rfl rfl rfl
  apply Array.ext_getElem?
  intro i
  by_cases e : i = b
  · subst e
    rw [heap_setBlock_at _ (lt_of_heap h)]
    simp [World.setRow, Array.getElem?_modify, h]
  · rw [heap_setBlock_ne _ e]
    simp [World.setRow, Array.getElem?_modify, Ne.symm e]
theorem setBlock_setBlock (w : World) (b : Nat) (o o' : Obj) : setBlock (setBlock w b o) b o' = setBlock w b o' := by
  simp [setBlock]
theorem cell_of_heap {w : World} {b o : Nat} {ca : Array Value} {ta : TypeId} {v : Value} (h : w.heap[b]? = some (.cells ca ta)) (hv : ca[o]? = some v) : w.cell? ⟨b, o, none⟩ = some v := by
  simp [World.cell?, h, hv]
theorem frozen_of_heap {w : World} {b o : Nat} {ca : Array Value} {ta : TypeId} (h : w.heap[b]? = some (.cells ca ta)) : w.frozen? ⟨b, o, none⟩ = false := by
  simp [World.frozen?, h]
theorem heap_alloc_at (w : World) (o : Obj) {b : Nat} (h : b = w.heap.size) : (w.alloc o).heap[b]? = some o := by
  subst h; exact (MapKept.heap_alloc w o).1
theorem heap_alloc_lt (w : World) (o : Obj) {b : Nat} (h : b < w.heap.size) : (w.alloc o).heap[b]? = w.heap[b]? := Below.heap_alloc w o b h
theorem size_setBlock (w : World) (b : Nat) (o : Obj) : (setBlock w b o).heap.size = w.heap.size := by simp [setBlock]
theorem below_setBlock {B : Nat} {a w : World} (h : Below B a w) {b : Nat} (hb : B ≤ b) (o : Obj) : Below B a (setBlock w b o) :=
  h.trans ⟨rfl, rfl, rfl, by simp [setBlock], fun k hk => heap_setBlock_ne _ (by omega)⟩
theorem hideIt {q : Prop} (h : q) : Hid q := h


/-! ### arrays -/
def arrI (n : Nat) (f : Nat → Int) : Array Value := Array.ofFn (n := n) fun j => .int .i64 (f j.val)
def arrB (n : Nat) (f : Nat → Bool) : Array Value := Array.ofFn (n := n) fun j => .bool (f j.val)

theorem arrI_size {n : Nat} {f : Nat → Int} : (arrI n f).size = n := by simp [arrI]
theorem arrB_size {n : Nat} {f : Nat → Bool} : (arrB n f).size = n := by simp [arrB]
theorem arrI_get {n : Nat} {f : Nat → Int} {i : Nat} (h : i < n) : (arrI n f)[i]? = some (.int .i64 (f i)) := by simp [arrI, h]
theorem arrB_get {n : Nat} {f : Nat → Bool} {i : Nat} (h : i < n) : (arrB n f)[i]? = some (.bool (f i)) := by simp [arrB, h]
theorem arrI_set {n : Nat} {f : Nat → Int} {i : Nat} {x : Int} : (arrI n f).setIfInBounds i (.int .i64 x) = arrI n (fup f i x) := by
  apply Array.ext_getElem?
  intro j
  rw [Array.getElem?_setIfInBounds, arrI_size]
  by_cases hj : j < n
  · rw [arrI_get hj, arrI_get hj]
    by_cases e : i = j
    · subst e; simp [hj, fup]
    · rw [if_neg e, fup_other _ _ (Ne.symm e)]
  · rw [Array.getElem?_eq_none (by rw [arrI_size]; omega), Array.getElem?_eq_none (by rw [arrI_size]; omega)]
    split
    · rename_i e; rw [if_neg (by omega)]
    · rfl
theorem arrB_set {n : Nat} {f : Nat → Bool} {i : Nat} {x : Bool} : (arrB n f).setIfInBounds i (.bool x) = arrB n (fup f i x) := by
  apply Array.ext_getElem?
  intro j
  rw [Array.getElem?_setIfInBounds, arrB_size]
  by_cases hj : j < n
  · rw [arrB_get hj, arrB_get hj]
    by_cases e : i = j
    · subst e; simp [hj, fup]
    · rw [if_neg e, fup_other _ _ (Ne.symm e)]
  · rw [Array.getElem?_eq_none (by rw [arrB_size]; omega), Array.getElem?_eq_none (by rw [arrB_size]; omega)]
    split
    · rename_i e; rw [if_neg (by omega)]
    · rfl
theorem arrI_one {n : Nat} {f : Nat → Int} : ∀ v ∈ (arrI n f).toList, v.oneCell' = true := by
  intro v hv
  simp only [arrI, Array.toList_ofFn, List.mem_ofFn] at hv
  obtain ⟨i, rfl⟩ := hv
  rfl
theorem madeI (n : Nat) : madeCells #[.int .i64 0] (n * 1) = arrI n (fun _ => 0) := by
  apply Array.ext
  · simp [arrI, size_madeCells]
  · intro i h1 h2
    simp [arrI, madeCells, Array.getElem_map, Array.getElem_ofFn, Nat.mod_one]
theorem madeB (n : Nat) : madeCells #[.bool false] (n * 1) = arrB n (fun _ => false) := by
  apply Array.ext
  · simp [arrB, size_madeCells]
  · intro i h1 h2
    simp [arrB, madeCells, Array.getElem_map, Array.getElem_ofFn, Nat.mod_one]

/-! ### rows -/
theorem ownsRow_kept {w w' : World} {base e size n : Nat} {v : Value} {xs : List Value} (h : w.ownsRow base e size v n xs) (hk : ∀ k, v.ownBlock = some k → w'.heap[k]? = w.heap[k]?) : w'.ownsRow base e size v n xs := by
  obtain ⟨h1, h2⟩ := h
  refine ⟨h1, ?_⟩
  rcases h2 with h2 | ⟨g, cap, cur, rfl, hb, hg, rest⟩
  · exact Or.inl h2
  · exact Or.inr ⟨g, cap, cur, rfl, hb, (hk g rfl).trans hg, rest⟩

theorem ownsRow_take {w : World} {base e size n : Nat} {g cap : Nat} {xs : List Value} (h : w.ownsRow base e size (.slice (some ⟨g, 0, none⟩) n cap) n xs) {m : Nat} (hm : m ≤ n) :
    w.ownsRow base e size (.slice (some ⟨g, 0, none⟩) m cap) m (xs.take (m * size)) := by
  obtain ⟨h1, h2⟩ := h
  have hle : m * size ≤ n * size := Nat.mul_le_mul_right _ hm
  refine ⟨by rw [List.length_take, h1]; omega, ?_⟩
  rcases h2 with ⟨h2, _⟩ | ⟨g', cap', cur, e, hb, hg, r1, r2, r3, r4⟩
  · cases h2
  · cases e
    exact Or.inr ⟨g, cap, cur, rfl, hb, hg, by omega, r2, r3, by rw [← r4, List.take_take, Nat.min_eq_left hle]⟩

theorem ownsRow_cell {w : World} {base e size n : Nat} {g cap : Nat} {xs : List Value} (h : w.ownsRow base e size (.slice (some ⟨g, 0, none⟩) n cap) n xs) {j : Nat} {u : Value} (hj : xs[j]? = some u) : w.cell? ⟨g, j, none⟩ = some u := by
  obtain ⟨h1, h2⟩ := h
  rcases h2 with ⟨h2, _⟩ | ⟨g', cap', cur, e, hb, hg, r1, r2, r3, r4⟩
  · cases h2
  · cases e
    refine cell_of_heap hg ?_
    rw [← r4, List.getElem?_take] at hj
    split at hj
    · rw [← Array.getElem?_toList]; exact hj
    · cases hj

theorem ownsRow_frozen {w : World} {base e size n : Nat} {g cap : Nat} {xs : List Value} (h : w.ownsRow base e size (.slice (some ⟨g, 0, none⟩) n cap) n xs) (j : Nat) : w.frozen? ⟨g, j, none⟩ = false := by
  obtain ⟨h1, h2⟩ := h
  rcases h2 with ⟨h2, _⟩ | ⟨g', cap', cur, e, hb, hg, r1, r2, r3, r4⟩
  · cases h2
  · cases e
    exact frozen_of_heap hg

/-- A store into a row that the walk owns. -/
theorem ownsRow_set {w : World} {base e size n : Nat} {g cap : Nat} {xs : List Value} (h : w.ownsRow base e size (.slice (some ⟨g, 0, none⟩) n cap) n xs) {j : Nat} (v : Value) (hj : j < xs.length) :
    (w.setCell ⟨g, j, none⟩ v).ownsRow base e size (.slice (some ⟨g, 0, none⟩) n cap) n (xs.set j v) := by
  obtain ⟨h1, h2⟩ := h
  refine ⟨by rw [List.length_set]; exact h1, ?_⟩
  rcases h2 with ⟨h2, _⟩ | ⟨g', cap', cur, e, hb, hg, r1, r2, r3, r4⟩
  · cases h2
  · cases e
    refine Or.inr ⟨g, cap, cur.setIfInBounds j v, rfl, hb, ?_, r1, r2, by rw [Array.size_setIfInBounds]; exact r3, ?_⟩
    · rw [setCell_cells hg]; exact heap_setBlock_at _ (lt_of_heap hg)
    · rw [Array.toList_setIfInBounds, List.take_set, r4]

end Go.Proofs.YbulkeiwwDoor
