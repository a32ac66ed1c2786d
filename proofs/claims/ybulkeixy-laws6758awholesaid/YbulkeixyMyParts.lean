/-
  Blocks of the heap; the array of allocations behind k rounds; copy; '!=' on two equal Allocations; the plain law. No walk here.
-/
import Derived.Test.YbulkeixyMyCalls
import Derived.ChangeMaps5
import Derived.Laws.CopyRow
import Derived.Laws.MakeOwn
namespace Go.Proofs.Ybulkeixy
open Go.RowKit Go.ChangeMaps

theorem heap_setBlock_at {w : World} {b : Nat} (o : Obj) (h : b < w.heap.size) : (setBlock w b o).heap[b]? = some o := by
  simp [setBlock, h]
theorem heap_setBlock_ne {w : World} {b i : Nat} (o : Obj) (h : i ≠ b) : (setBlock w b o).heap[i]? = w.heap[i]? := by
  simp only [setBlock]; rw [Array.getElem?_setIfInBounds_ne (Ne.symm h)]
theorem lt_of_heap {w : World} {b : Nat} {o : Obj} (h : w.heap[b]? = some o) : b < w.heap.size := (Array.getElem?_eq_some_iff.1 h).1
theorem world_ext {w w' : World} (h1 : w.heap = w'.heap) (h2 : w.tape = w'.tape) (h3 : w.drawn = w'.drawn) (h4 : w.os = w'.os) (h5 : w.output = w'.output) : w = w' := by
  cases w; cases w'; simp_all
theorem setCell_cells {w : World} {b o : Nat} {ca : Array Value} {ta : TypeId} {v : Value} (h : w.heap[b]? = some (.cells ca ta)) : w.setCell ⟨b, o, none⟩ v = setBlock w b (.cells (ca.setIfInBounds o v) ta) := by
  refine world_ext ?_ rfl rfl rfl rfl
  apply Array.ext_getElem?
  intro i
  by_cases e : i = b
  · subst e
    rw [heap_setBlock_at _ (lt_of_heap h)]
    simp [World.setCell, Array.getElem?_modify, h]
  · rw [heap_setBlock_ne _ e, Below.heap_setCell _ _ _ _ (by simpa using e)]
theorem setRow_cells {w : World} {b : Nat} {ca cb : Array Value} {ta : TypeId} (h : w.heap[b]? = some (.cells ca ta)) : w.setRow b cb = setBlock w b (.cells cb ta) := by
  refine world_ext ?_ rfl rfl rfl rfl
  apply Array.ext_getElem?
  intro i
  by_cases e : i = b
  · subst e
    rw [heap_setBlock_at _ (lt_of_heap h)]
    simp [World.setRow, Array.getElem?_modify, h]
  · rw [heap_setBlock_ne _ e]
    simp [World.setRow, Array.getElem?_modify, Ne.symm e]
theorem setBlock_setBlock (w : World) (b : Nat) (o o' : Obj) : setBlock (setBlock w b o) b o' = setBlock w b o' := by
  simp [setBlock]
theorem cell_of_heap {w : World} {b o : Nat} {ca : Array Value} {ta : TypeId} {v : Value} (h : w.heap[b]? = some (.cells ca ta)) (hv : ca[o]? = some v) : w.cell? ⟨b, o, none⟩ = some v := by
  simp [World.cell?, h, hv]
theorem frozen_of_heap {w : World} {b o : Nat} {ca : Array Value} {ta : TypeId} (h : w.heap[b]? = some (.cells ca ta)) : w.frozen? ⟨b, o, none⟩ = false := by
  simp [World.frozen?, h]
theorem heap_alloc_at (w : World) (o : Obj) {b : Nat} (h : b = w.heap.size) : (w.alloc o).heap[b]? = some o := by
  subst h; exact (MapKept.heap_alloc w o).1
theorem heap_alloc_lt (w : World) (o : Obj) {b : Nat} (h : b < w.heap.size) : (w.alloc o).heap[b]? = w.heap[b]? := Below.heap_alloc w o b h
theorem size_setBlock (w : World) (b : Nat) (o : Obj) : (setBlock w b o).heap.size = w.heap.size := by simp [setBlock]
theorem below_setBlock {B : Nat} {a w : World} (h : Below B a w) {b : Nat} (hb : B ≤ b) (o : Obj) : Below B a (setBlock w b o) :=
  h.trans ⟨rfl, rfl, rfl, by simp [setBlock], fun k hk => heap_setBlock_ne _ (by omega)⟩
theorem hideIt {q : Prop} (h : q) : Hid q := h

/-! ### the array -/
def asV (S T M : Nat → ByteArray) (P D : Nat → Int) (j : Nat) : Nat → Value
  | 0 => .string (S j) | 1 => .string (T j) | 2 => .int .u64 (P j) | 3 => .string (M j) | _ => .int .u64 (D j)
def zV : Nat → Value
  | 0 => .string ⟨#[]⟩ | 1 => .string ⟨#[]⟩ | 2 => .int .u64 0 | 3 => .string ⟨#[]⟩ | _ => .int .u64 0
def asArr (S T M : Nat → ByteArray) (P D : Nat → Int) (n k : Nat) : Array Value := Array.ofFn (n := n * 5) fun j => if j.val / 5 < k then asV S T M P D (j.val / 5) (j.val % 5) else zV (j.val % 5)

section
variable {S T M : Nat → ByteArray} {P D : Nat → Int}

theorem asArr_size {n k : Nat} : (asArr S T M P D n k).size = n * 5 := by simp [asArr]
theorem asArr_get {n k j r : Nat} (hj : j < n) (hr : r < 5) : (asArr S T M P D n k)[j * 5 + r]? = some (if j < k then asV S T M P D j r else zV r) := by
  have h1 : (j * 5 + r) / 5 = j := by omega
  have h2 : (j * 5 + r) % 5 = r := by omega
  have h3 : j * 5 + r < n * 5 := by omega
  simp [asArr, h1, h2, h3]
theorem asArr_one {n k : Nat} : ∀ v ∈ (asArr S T M P D n k).toList, v.oneCell' = true := by
  intro v hv
  simp only [asArr, Array.toList_ofFn, List.mem_ofFn] at hv
  obtain ⟨i, rfl⟩ := hv
  split
  · unfold asV; split <;> rfl
  · unfold zV; split <;> rfl
theorem madeZ (n : Nat) : madeCells #[.string ⟨#[]⟩, .string ⟨#[]⟩, .int .u64 0, .string ⟨#[]⟩, .int .u64 0] (n * 5) = asArr S T M P D n 0 := by
  apply Array.ext
  · simp [asArr, size_madeCells]
  · intro i h1 h2
    simp only [asArr, madeCells, Array.getElem_map, Array.getElem_range, Array.getElem_ofFn, Nat.not_lt_zero, if_false]
    have h5 : i % 5 = 0 ∨ i % 5 = 1 ∨ i % 5 = 2 ∨ i % 5 = 3 ∨ i % 5 = 4 := by omega
    rcases h5 with h | h | h | h | h <;> simp [h, zV]
theorem asArr_set {n k : Nat} (hk : k < n) : (((((asArr S T M P D n k).setIfInBounds (k * 5) (.string (S k))).setIfInBounds (k * 5 + 1) (.string (T k))).setIfInBounds (k * 5 + 2) (.int .u64 (P k))).setIfInBounds (k * 5 + 3) (.string (M k))).setIfInBounds (k * 5 + 4) (.int .u64 (D k)) = asArr S T M P D n (k + 1) := by
  apply Array.ext_getElem?
  intro i
  simp only [Array.getElem?_setIfInBounds, Array.size_setIfInBounds, asArr_size]
  by_cases hi : i < n * 5
  · obtain ⟨j, r, hr, rfl⟩ : ∃ j r, r < 5 ∧ i = j * 5 + r := ⟨i / 5, i % 5, by omega, by omega⟩
    have hj : j < n := by omega
    rw [asArr_get hj hr, asArr_get hj hr]
    by_cases e : j = k
    · subst e
      have h5 : r = 0 ∨ r = 1 ∨ r = 2 ∨ r = 3 ∨ r = 4 := by omega
      rcases h5 with rfl | rfl | rfl | rfl | rfl
      · simp [asV, show j * 5 < n * 5 by omega]
      · simp [asV, show j * 5 + 1 < n * 5 by omega]
      · simp [asV, show j * 5 + 2 < n * 5 by omega]
      · simp [asV, show j * 5 + 3 < n * 5 by omega]
      · simp [asV, show j * 5 + 4 < n * 5 by omega]
    · have h1 : j < k + 1 ↔ j < k := by omega
      rw [if_neg (by omega), if_neg (by omega), if_neg (by omega), if_neg (by omega), if_neg (by omega)]
      simp [h1]
  · rw [if_neg (by omega), if_neg (by omega), if_neg (by omega), if_neg (by omega), if_neg (by omega), Array.getElem?_eq_none (by rw [asArr_size]; omega), Array.getElem?_eq_none (by rw [asArr_size]; omega)]
end

theorem size29 : (Yba.prog.info? 29).map (·.size) = some 5 := by kernel_rfl

/-- copy(saved, as), whole. -/
theorem run_copy_al (w : World) (ty : TypeId) (A G n c1 c2 : Nat) (ca cur : Array Value) (hA : w.heap[A]? = some (.cells ca 29)) (hG : w.heap[G]? = some (.cells cur 29))
    (h1 : ca.size = n * 5) (h2 : cur.size = n * 5) (ho : ∀ v ∈ ca.toList, v.oneCell' = true) :
    (Builtin.copy_ #[24, 24] ty #[.slice (some ⟨G, 0, none⟩) n c1, .slice (some ⟨A, 0, none⟩) n c2]).run Yba.prog w = .ok (.int .i64 n) (setBlock w G (.cells ca 29)) := by
  have hlen : ca.toList.length = n * 5 := by simpa using h1
  have hl := run_loadCells_list (P := Yba.prog) w ⟨A, 0, none⟩ ca.toList (fun j v hj => by
    have : (⟨A, 0, none⟩ : Addr).add j = ⟨A, j, none⟩ := by unfold Addr.add; split <;> simp_all
    rw [this]
    exact cell_of_heap hA (by simpa using hj))
  have hst := run_storeCells_at Yba.prog G 0 29 ca.toList 0 cur w hG (by simp; omega) ho
  obtain ⟨i, hi, hs⟩ := Option.map_eq_some_iff.1 size29
  rw [setRow_cells hG] at hst
  have e : (cur.toList.take (0 + 0) ++ ca.toList ++ cur.toList.drop (0 + 0 + ca.toList.length)).toArray = ca := by
    rw [List.drop_eq_nil_of_le (by simp; omega)]
    simp
  rw [e] at hst
  rw [hlen] at hl
  simp [Builtin.copy_, run_underlying Yba.underlying24, Builtin.lenOf, Builtin.firstCells, sizeOf, typeInfo, hi, hs, hl, hst, goInt]

theorem run_neq_al (w : World) (s t m : ByteArray) (p d0 : Int) :
    (binOp .neq 29 (.agg #[.string s, .string t, .int .u64 p, .string m, .int .u64 d0]) (.agg #[.string s, .string t, .int .u64 p, .string m, .int .u64 d0])).run Yba.prog w = .ok (.bool false) w := by
  simp [go_sem]

/-! ### the plain law -/
def anyFrom (f : Nat → Bool) (k n : Nat) : Bool := (List.range n).any fun j => decide (k ≤ j) && f j
theorem anyFrom_end (f : Nat → Bool) (n : Nat) : anyFrom f n n = false := by
  unfold anyFrom
  refine any_none fun j hj => ?_
  have : ¬ n ≤ j := by omega
  simp [this]
theorem anyFrom_step (f : Nat → Bool) {k n : Nat} (hk : k < n) : anyFrom f k n = (f k || anyFrom f (k + 1) n) := by
  unfold anyFrom
  rw [Bool.eq_iff_iff]
  simp only [List.any_eq_true, List.mem_range, Bool.and_eq_true, decide_eq_true_eq, Bool.or_eq_true]
  constructor
  · rintro ⟨j, h1, h2, h3⟩
    by_cases e : j = k
    · subst e; exact Or.inl h3
    · exact Or.inr ⟨j, h1, by omega, h3⟩
  · rintro (h | ⟨j, h1, h2, h3⟩)
    · exact ⟨k, hk, Nat.le_refl _, h⟩
    · exact ⟨j, h1, by omega, h3⟩
theorem anyFrom_zero (f : Nat → Bool) (n : Nat) : anyFrom f 0 n = (List.range n).any f := by
  unfold anyFrom; simp

end Go.Proofs.Ybulkeixy
