/-
  The relations of the three loops of LawS6755CWhole, and what each round does to them. No walk here.
-/
import Derived.Test.YbulkeiwiMyCalls
import Derived.Deep.OwnRows
namespace Go.Proofs.Ybulkeiwi
open Go.RowKit Go.ChangeMaps

/-- The array of closers behind k rounds. -/
def csArr (B n k : Nat) : Array Value := Array.ofFn (n := n) fun i => if i.val < k then .pointer (some ⟨B + 1 + i.val, 0, none⟩) else .pointer none
/-- The array 'on' behind k rounds. -/
def onArr (trk : Nat → Bool) (n k : Nat) : Array Value := Array.ofFn (n := n) fun i => .bool (decide (i.val < k) && trk i.val)

theorem csArr_get {B n k j : Nat} (h : j < n) : (csArr B n k)[j]? = some (if j < k then .pointer (some ⟨B + 1 + j, 0, none⟩) else .pointer none) := by
  simp [csArr, h]
theorem onArr_get {trk : Nat → Bool} {n k j : Nat} (h : j < n) : (onArr trk n k)[j]? = some (.bool (decide (j < k) && trk j)) := by
  simp [onArr, h]
theorem csArr_zero (B n : Nat) : madeCells #[.pointer none] n = csArr B n 0 := by
  apply Array.ext
  · simp [csArr, size_madeCells]
  · intro i h1 h2
    simp [csArr, madeCells, Nat.mod_one]
theorem onArr_zero (trk : Nat → Bool) (n : Nat) : madeCells #[.bool false] n = onArr trk n 0 := by
  apply Array.ext
  · simp [onArr, size_madeCells]
  · intro i h1 h2
    simp [onArr, madeCells, Nat.mod_one]
theorem csArr_set {B n k : Nat} : (csArr B n k).setIfInBounds k (.pointer (some ⟨B + 1 + k, 0, none⟩)) = csArr B n (k + 1) := by
  apply Array.ext_getElem?
  intro i
  rw [Array.getElem?_setIfInBounds]
  have hsz : (csArr B n k).size = n := by simp [csArr]
  by_cases hi : i < n
  · rw [csArr_get hi, csArr_get hi, hsz]
    by_cases e : k = i
    · subst e; simp [hi]
    · have : i < k + 1 ↔ i < k := by omega
      simp [e, this]
  · rw [Array.getElem?_eq_none (xs := csArr B n (k + 1)) (by simp [csArr]; omega), Array.getElem?_eq_none (xs := csArr B n k) (by rw [hsz]; omega), hsz]
    by_cases e : k = i
    · subst e; simp [hi]
    · simp [e]
theorem onArr_set {trk : Nat → Bool} {n k : Nat} (ht : trk k = true) : (onArr trk n k).setIfInBounds k (.bool true) = onArr trk n (k + 1) := by
  apply Array.ext_getElem?
  intro i
  rw [Array.getElem?_setIfInBounds]
  have hsz : (onArr trk n k).size = n := by simp [onArr]
  by_cases hi : i < n
  · rw [onArr_get hi, onArr_get hi, hsz]
    by_cases e : k = i
    · subst e; simp [hi, ht]
    · have : i < k + 1 ↔ i < k := by omega
      simp [e, this]
  · rw [Array.getElem?_eq_none (xs := onArr trk n (k + 1)) (by simp [onArr]; omega), Array.getElem?_eq_none (xs := onArr trk n k) (by rw [hsz]; omega), hsz]
    by_cases e : k = i
    · subst e; simp [hi]
    · simp [e]
theorem onArr_skip {trk : Nat → Bool} {n k : Nat} (ht : trk k = false) : onArr trk n k = onArr trk n (k + 1) := by
  apply Array.ext
  · simp [onArr]
  · intro i h1 h2
    simp only [onArr, Array.getElem_ofFn]
    by_cases e : k = i
    · subst e; simp [ht]
    · have : i < k + 1 ↔ i < k := by omega
      simp [this]

/-- A store into a block of cells. -/
theorem setCell_cells {w : World} {b o : Nat} {ca : Array Value} {ta : TypeId} {v : Value} (h : w.heap[b]? = some (.cells ca ta)) : w.setCell ⟨b, o, none⟩ v = setBlock w b (.cells (ca.setIfInBounds o v) ta) := by
  refine world_ext ?_ rfl rfl rfl rfl
  apply Array.ext_getElem?
  intro i
  by_cases e : i = b
  · subst e
    rw [heap_setBlock_at _ (lt_of_heap h)]
    simp [World.setCell, Array.getElem?_modify, h]
  · rw [heap_setBlock_ne _ e, Below.heap_setCell _ _ _ _ (by simpa using e)]
theorem cell_of_heap {w : World} {b o : Nat} {ca : Array Value} {ta : TypeId} {v : Value} (h : w.heap[b]? = some (.cells ca ta)) (hv : ca[o]? = some v) : w.cell? ⟨b, o, none⟩ = some v := by
  simp [World.cell?, h, hv]
theorem frozen_of_heap {w : World} {b o : Nat} {ca : Array Value} {ta : TypeId} (h : w.heap[b]? = some (.cells ca ta)) : w.frozen? ⟨b, o, none⟩ = false := by
  simp [World.frozen?, h]
theorem heap_alloc_at (w : World) (o : Obj) {b : Nat} (h : b = w.heap.size) : (w.alloc o).heap[b]? = some o := by
  subst h; exact (MapKept.heap_alloc w o).1
theorem heap_alloc_lt (w : World) (o : Obj) {b : Nat} (h : b < w.heap.size) : (w.alloc o).heap[b]? = w.heap[b]? := Below.heap_alloc w o b h
theorem size_setBlock (w : World) (b : Nat) (o : Obj) : (setBlock w b o).heap.size = w.heap.size := by simp [setBlock]
theorem below_setBlock {B : Nat} {a w : World} (h : Below B a w) {b : Nat} (hb : B ≤ b) (o : Obj) : Below B a (setBlock w b o) :=
  h.trans ⟨rfl, rfl, rfl, by simp [setBlock], fun k hk => heap_setBlock_ne _ (by omega)⟩

/-! ### the first loop -/
structure R1 (w : World) (B n k : Nat) (wr : World) : Prop where
  below : Below B w wr
  size : wr.heap.size = B + 1 + k
  cs : wr.heap[B]? = some (.cells (csArr B n k) 25)
  clos : ∀ j, j < k → wr.heap[B + 1 + j]? = some (clo j 0)

theorem R1.start (w : World) (n : Nat) : R1 w w.heap.size n 0 (w.alloc (.cells (madeCells #[.pointer none] n) 25)) :=
  ⟨(Below.refl _ _).alloc (Nat.le_refl _) _, by simp, by rw [heap_alloc_at _ _ rfl, csArr_zero w.heap.size], fun j hj => absurd hj (by omega)⟩

theorem R1.cell {w wr : World} {B n k : Nat} (h : R1 w B n k wr) (hk : k < n) : wr.cell? ⟨B, k, none⟩ = some (.pointer none) :=
  cell_of_heap h.cs (by rw [csArr_get hk]; simp)
theorem R1.frozen {w wr : World} {B n k : Nat} (h : R1 w B n k wr) : wr.frozen? ⟨B, k, none⟩ = false := frozen_of_heap h.cs

theorem R1.cell' {w wr : World} {B n k : Nat} (h : R1 w B n k wr) (hk : k < n) (o : Obj) : (wr.alloc o).cell? ⟨B, k, none⟩ = some (.pointer none) := by
  have hs := h.size
  exact cell_of_heap ((heap_alloc_lt _ _ (by omega)).trans h.cs) (by rw [csArr_get hk]; simp)
theorem R1.frozen' {w wr : World} {B n k : Nat} (h : R1 w B n k wr) (o : Obj) : (wr.alloc o).frozen? ⟨B, k, none⟩ = false := by
  have hs := h.size
  exact frozen_of_heap ((heap_alloc_lt _ _ (by omega)).trans h.cs)

theorem R1.step {w wr : World} {B n k : Nat} (h : R1 w B n k wr) :
    R1 w B n (k + 1) ((wr.alloc (clo k 0)).setCell ⟨B, k, none⟩ (.pointer (some ⟨B + 1 + k, 0, none⟩))) := by
  have hs := h.size
  have hcs : (wr.alloc (clo k 0)).heap[B]? = some (.cells (csArr B n k) 25) := (heap_alloc_lt _ _ (by omega)).trans h.cs
  rw [setCell_cells hcs, csArr_set]
  refine ⟨below_setBlock (h.below.alloc (by omega) _) (Nat.le_refl _) _, by rw [size_setBlock]; simp; omega, heap_setBlock_at _ (by simp; omega), fun j hj => ?_⟩
  rw [heap_setBlock_ne _ (by omega)]
  by_cases e : j = k
  · subst e; exact heap_alloc_at _ _ hs.symm
  · rw [heap_alloc_lt _ _ (by omega)]; exact h.clos j (by omega)

/-! ### the second loop -/
structure R2 (w : World) (B n : Nat) (trk : Nat → Bool) (k : Nat) (L : List (Nat × Nat)) (wr : World) : Prop where
  below : Below B w wr
  size : wr.heap.size = B + n + 6
  cs : wr.heap[B]? = some (.cells (csArr B n n) 25)
  clos : ∀ j, j < n → wr.heap[B + 1 + j]? = some (clo j 0)
  services : wr.heap[B + 1 + n]? = some (.map #[] 0)
  opn : wr.heap[B + 1 + n + 1]? = some (.map (ent L) L.length)
  chan : wr.heap[B + 1 + n + 2]? = some (.chan 0 #[] false 0 0 false)
  serv : wr.heap[B + 1 + n + 3]? = some (srv (B + 1 + n) 0)
  on : wr.heap[B + 1 + n + 1 + 1 + 1 + 1]? = some (.cells (onArr trk n k) 4)
  keys : L.map Prod.fst = ((List.range k).filter trk).map (fun i => B + 1 + i)

theorem R2.start {w wr : World} {B n : Nat} (trk : Nat → Bool) (h : R1 w B n n wr) :
    R2 w B n trk 0 [] (((((wr.alloc (.map #[] 0)).alloc (.map #[] 0)).alloc (.chan 0 #[] false 0 0 false)).alloc (srv (B + 1 + n) 0)).alloc (.cells (madeCells #[.bool false] n) 4)) := by
  have hs := h.size
  refine ⟨((((h.below.alloc (by omega) _).alloc (by simp; omega) _).alloc (by simp; omega) _).alloc (by simp; omega) _).alloc (by simp; omega) _, by simp; omega, ?_, fun j hj => ?_, ?_, ?_, ?_, ?_, ?_, by simp⟩
  · rw [heap_alloc_lt _ _ (by simp; omega), heap_alloc_lt _ _ (by simp; omega), heap_alloc_lt _ _ (by simp; omega), heap_alloc_lt _ _ (by simp; omega), heap_alloc_lt _ _ (by omega)]; exact h.cs
  · rw [heap_alloc_lt _ _ (by simp; omega), heap_alloc_lt _ _ (by simp; omega), heap_alloc_lt _ _ (by simp; omega), heap_alloc_lt _ _ (by simp; omega), heap_alloc_lt _ _ (by omega)]; exact h.clos j hj
  · rw [heap_alloc_lt _ _ (by simp; omega), heap_alloc_lt _ _ (by simp; omega), heap_alloc_lt _ _ (by simp; omega), heap_alloc_lt _ _ (by simp; omega), heap_alloc_at _ _ (by omega)]
  · rw [heap_alloc_lt _ _ (by simp; omega), heap_alloc_lt _ _ (by simp; omega), heap_alloc_lt _ _ (by simp; omega), heap_alloc_at _ _ (by simp; omega)]; rfl
  · rw [heap_alloc_lt _ _ (by simp; omega), heap_alloc_lt _ _ (by simp; omega), heap_alloc_at _ _ (by simp; omega)]
  · rw [heap_alloc_lt _ _ (by simp; omega), heap_alloc_at _ _ (by simp; omega)]
  · rw [heap_alloc_at _ _ (by simp; omega), onArr_zero trk]

theorem R2.isC {w wr : World} {B n k : Nat} {trk : Nat → Bool} {L : List (Nat × Nat)} (h : R2 w B n trk k L wr) {j : Nat} (hj : j < n) : isC wr (B + 1 + j) := ⟨_, _, h.clos j hj⟩
theorem R2.mem {w wr : World} {B n k : Nat} {trk : Nat → Bool} {L : List (Nat × Nat)} (h : R2 w B n trk k L wr) {x : Nat × Nat} (hx : x ∈ L) : ∃ j, j < k ∧ trk j = true ∧ x.1 = B + 1 + j := by
  have : x.1 ∈ L.map Prod.fst := List.mem_map_of_mem hx
  rw [h.keys] at this
  simp only [List.mem_map, List.mem_filter, List.mem_range] at this
  obtain ⟨j, ⟨h1, h2⟩, h3⟩ := this
  exact ⟨j, h1, h2, h3.symm⟩
theorem R2.isCs {w wr : World} {B n k : Nat} {trk : Nat → Bool} {L : List (Nat × Nat)} (h : R2 w B n trk k L wr) (hk : k ≤ n) : ∀ x ∈ L, Ybulkeiwi.isC wr x.1 := fun x hx => by
  obtain ⟨j, h1, _, h3⟩ := h.mem hx
  rw [h3]; exact h.isC (by omega)
theorem R2.fresh {w wr : World} {B n k : Nat} {trk : Nat → Bool} {L : List (Nat × Nat)} (h : R2 w B n trk k L wr) : L.any (fun x => x.1 == B + 1 + k) = false := by
  rw [List.any_eq_false]
  intro x hx
  obtain ⟨j, h1, _, h3⟩ := h.mem hx
  simp; omega
theorem R2.len {w wr : World} {B n k : Nat} {trk : Nat → Bool} {L : List (Nat × Nat)} (h : R2 w B n trk k L wr) : L.length ≤ k := by
  have := congrArg List.length h.keys
  simp only [List.length_map] at this
  rw [this]
  have := List.length_filter_le trk (List.range k)
  simpa using this
theorem R2.csCell {w wr : World} {B n k : Nat} {trk : Nat → Bool} {L : List (Nat × Nat)} (h : R2 w B n trk k L wr) {j : Nat} (hj : j < n) : wr.cell? ⟨B, j, none⟩ = some (.pointer (some ⟨B + 1 + j, 0, none⟩)) :=
  cell_of_heap h.cs (by rw [csArr_get hj]; simp [hj])
theorem R2.onCell {w wr : World} {B n k : Nat} {trk : Nat → Bool} {L : List (Nat × Nat)} (h : R2 w B n trk k L wr) {j : Nat} (hj : j < n) : wr.cell? ⟨B + 1 + n + 1 + 1 + 1 + 1, j, none⟩ = some (.bool (decide (j < k) && trk j)) :=
  cell_of_heap h.on (onArr_get hj)

theorem R2.onCell' {w wr : World} {B n k : Nat} {trk : Nat → Bool} {L : List (Nat × Nat)} (h : R2 w B n trk k L wr) (hk : k < n) (o : Obj) : (setBlock wr (B + 1 + n + 1) o).cell? ⟨B + 1 + n + 1 + 1 + 1 + 1, k, none⟩ = some (.bool false) :=
  cell_of_heap ((heap_setBlock_ne _ (by omega)).trans h.on) (by rw [onArr_get hk]; simp)
theorem R2.onFrozen' {w wr : World} {B n k : Nat} {trk : Nat → Bool} {L : List (Nat × Nat)} (h : R2 w B n trk k L wr) (o : Obj) : (setBlock wr (B + 1 + n + 1) o).frozen? ⟨B + 1 + n + 1 + 1 + 1 + 1, k, none⟩ = false :=
  frozen_of_heap ((heap_setBlock_ne _ (by omega)).trans h.on)

theorem R2.miss {w wr : World} {B n k : Nat} {trk : Nat → Bool} {L : List (Nat × Nat)} (h : R2 w B n trk k L wr) (ht : trk k = false) : R2 w B n trk (k + 1) L wr :=
  ⟨h.below, h.size, h.cs, h.clos, h.services, h.opn, h.chan, h.serv, by rw [← onArr_skip ht]; exact h.on, by rw [h.keys, List.range_succ, List.filter_append]; simp [ht]⟩

theorem R2.hit {w wr : World} {B n k : Nat} {trk : Nat → Bool} {L : List (Nat × Nat)} (h : R2 w B n trk k L wr) (ht : trk k = true) :
    R2 w B n trk (k + 1) (L ++ [(B + 1 + k, L.length)]) ((setBlock wr (B + 1 + n + 1) (.map (ent (L ++ [(B + 1 + k, L.length)])) (L.length + 1))).setCell ⟨B + 1 + n + 1 + 1 + 1 + 1, k, none⟩ (.bool true)) := by
  have hon : (setBlock wr (B + 1 + n + 1) (.map (ent (L ++ [(B + 1 + k, L.length)])) (L.length + 1))).heap[B + 1 + n + 1 + 1 + 1 + 1]? = some (.cells (onArr trk n k) 4) := (heap_setBlock_ne _ (by omega)).trans h.on
  have hs := h.size
  rw [setCell_cells hon, onArr_set ht]
  refine ⟨below_setBlock (below_setBlock h.below (by omega) _) (by omega) _, by rw [size_setBlock, size_setBlock]; exact hs, ?_, fun j hj => ?_, ?_, ?_, ?_, ?_, ?_, ?_⟩
  · rw [heap_setBlock_ne _ (by omega), heap_setBlock_ne _ (by omega)]; exact h.cs
  · rw [heap_setBlock_ne _ (by omega), heap_setBlock_ne _ (by omega)]; exact h.clos j hj
  · rw [heap_setBlock_ne _ (by omega), heap_setBlock_ne _ (by omega)]; exact h.services
  · rw [heap_setBlock_ne _ (by omega), heap_setBlock_at _ (by omega)]; simp
  · rw [heap_setBlock_ne _ (by omega), heap_setBlock_ne _ (by omega)]; exact h.chan
  · rw [heap_setBlock_ne _ (by omega), heap_setBlock_ne _ (by omega)]; exact h.serv
  · exact heap_setBlock_at _ (by rw [size_setBlock]; omega)
  · rw [List.map_append, h.keys, List.range_succ, List.filter_append]; simp [ht]

/-! ### the third loop -/
structure R3 (w : World) (B n : Nat) (trk : Nat → Bool) (p : Nat) (L : List (Nat × Nat)) (c : Nat) (wr : World) : Prop where
  below : Below B w wr
  size : B + n + 6 ≤ wr.heap.size
  cs : wr.heap[B]? = some (.cells (csArr B n n) 25)
  clos : ∀ j : Nat, j < n → wr.heap[B + 1 + j]? = some (clo j (if j = p then 1 else 0))
  services : wr.heap[B + 1 + n]? = some (.map #[] 0)
  opn : wr.heap[B + 1 + n + 1]? = some (.map (ent L) c)
  serv : wr.heap[B + 1 + n + 3]? = some (srv (B + 1 + n) 0)
  on : wr.heap[B + 1 + n + 1 + 1 + 1 + 1]? = some (.cells (onArr trk n n) 4)
  keys : L.map Prod.fst = (((List.range n).filter trk).map (fun i => B + 1 + i)).erase (B + 1 + p)

theorem map_eraseP_fst (c : Nat) : ∀ L : List (Nat × Nat), (L.eraseP (fun x => x.1 == c)).map Prod.fst = (L.map Prod.fst).erase c
  | [] => rfl
  | x :: L => by
    by_cases e : x.1 = c
    · simp [e]
    · simp [e, map_eraseP_fst c L]

theorem R3.start {w wr : World} {B n p : Nat} {trk : Nat → Bool} {L : List (Nat × Nat)} (h : R2 w B n trk n L wr) (hp : p < n) :
    R3 w B n trk p (L.eraseP (fun x => x.1 == B + 1 + p)) L.length (setBlock (setBlock wr (B + 1 + p) (clo p (0 + 1))) (B + 1 + n + 1) (.map (ent (L.eraseP (fun x => x.1 == B + 1 + p))) L.length)) := by
  have hs := h.size
  refine ⟨below_setBlock (below_setBlock h.below (by omega) _) (by omega) _, by rw [size_setBlock, size_setBlock]; omega, ?_, fun j hj => ?_, ?_, ?_, ?_, ?_, ?_⟩
  · rw [heap_setBlock_ne _ (by omega), heap_setBlock_ne _ (by omega)]; exact h.cs
  · rw [heap_setBlock_ne _ (by omega)]
    by_cases e : j = p
    · subst e; rw [heap_setBlock_at _ (by omega)]; simp
    · rw [heap_setBlock_ne _ (by omega), h.clos j hj]; simp [e]
  · rw [heap_setBlock_ne _ (by omega), heap_setBlock_ne _ (by omega)]; exact h.services
  · rw [heap_setBlock_at _ (by rw [size_setBlock]; omega)]
  · rw [heap_setBlock_ne _ (by omega), heap_setBlock_ne _ (by omega)]; exact h.serv
  · rw [heap_setBlock_ne _ (by omega), heap_setBlock_ne _ (by omega)]; exact h.on
  · rw [map_eraseP_fst, h.keys]

theorem nodup_keys (B n : Nat) (trk : Nat → Bool) : (((List.range n).filter trk).map (fun i => B + 1 + i)).Nodup :=
  List.pairwise_map.2 ((List.Pairwise.filter _ List.nodup_range).imp (fun h e => h (by omega)))

theorem any_keys (L : List (Nat × Nat)) (c : Nat) : L.any (fun x => x.1 == c) = decide (c ∈ L.map Prod.fst) := by
  rw [Bool.eq_iff_iff]
  simp

theorem R3.any {w wr : World} {B n p c : Nat} {trk : Nat → Bool} {L : List (Nat × Nat)} (h : R3 w B n trk p L c wr) {j : Nat} (hj : j < n) : L.any (fun x => x.1 == B + 1 + j) = (trk j && decide (j ≠ p)) := by
  rw [any_keys, h.keys, Bool.eq_iff_iff]
  simp only [decide_eq_true_eq, List.Nodup.mem_erase_iff (nodup_keys B n trk), Bool.and_eq_true, List.mem_map, List.mem_filter, List.mem_range]
  constructor
  · rintro ⟨h1, i, ⟨h2, h3⟩, h4⟩
    have e : i = j := by omega
    subst e
    exact ⟨h3, fun e => h1 (by rw [e])⟩
  · rintro ⟨h1, h2⟩
    exact ⟨by omega, j, ⟨hj, h1⟩, rfl⟩

theorem len_hit {w wr : World} {B n p : Nat} {trk : Nat → Bool} {L : List (Nat × Nat)} (h : R2 w B n trk n L wr) (hp : p < n) (ht : trk p = true) :
    ((L.eraseP (fun x => x.1 == B + 1 + p)).length : Int) = (L.length : Int) - 1 ∧ 1 ≤ L.length := by
  have hm : B + 1 + p ∈ L.map Prod.fst := by
    rw [h.keys]; exact List.mem_map.2 ⟨p, List.mem_filter.2 ⟨List.mem_range.2 hp, ht⟩, rfl⟩
  have h1 := congrArg List.length (map_eraseP_fst (B + 1 + p) L)
  rw [List.length_erase_of_mem hm] at h1
  simp only [List.length_map] at h1
  have h2 : 0 < (L.map Prod.fst).length := List.length_pos_of_mem hm
  simp only [List.length_map] at h2
  omega

theorem len_miss {w wr : World} {B n p : Nat} {trk : Nat → Bool} {L : List (Nat × Nat)} (h : R2 w B n trk n L wr) (ht : trk p = false) :
    (L.eraseP (fun x => x.1 == B + 1 + p)).length = L.length := by
  have hm : B + 1 + p ∉ L.map Prod.fst := by
    rw [h.keys]
    simp only [List.mem_map, List.mem_filter, not_exists, not_and]
    rintro i ⟨h1, h2⟩ h3
    have e : i = p := by omega
    subst e
    rw [ht] at h2
    cases h2
  have h1 := congrArg List.length (map_eraseP_fst (B + 1 + p) L)
  rw [List.erase_of_not_mem hm] at h1
  simpa using h1

theorem R3.csCell {w wr : World} {B n p c : Nat} {trk : Nat → Bool} {L : List (Nat × Nat)} (h : R3 w B n trk p L c wr) {j : Nat} (hj : j < n) : wr.cell? ⟨B, j, none⟩ = some (.pointer (some ⟨B + 1 + j, 0, none⟩)) :=
  cell_of_heap h.cs (by rw [csArr_get hj]; simp [hj])
theorem R3.onCell {w wr : World} {B n p c : Nat} {trk : Nat → Bool} {L : List (Nat × Nat)} (h : R3 w B n trk p L c wr) {j : Nat} (hj : j < n) : wr.cell? ⟨B + 1 + n + 1 + 1 + 1 + 1, j, none⟩ = some (.bool (trk j)) :=
  cell_of_heap h.on (by rw [onArr_get hj]; simp [hj])
theorem R3.isCs {w wr : World} {B n p c : Nat} {trk : Nat → Bool} {L : List (Nat × Nat)} (h : R3 w B n trk p L c wr) : ∀ x ∈ L, Ybulkeiwi.isC wr x.1 := fun x hx => by
  have : x.1 ∈ L.map Prod.fst := List.mem_map_of_mem hx
  rw [h.keys] at this
  have := List.mem_of_mem_erase this
  simp only [List.mem_map, List.mem_filter, List.mem_range] at this
  obtain ⟨j, ⟨h1, _⟩, h3⟩ := this
  rw [← h3]
  exact ⟨_, _, h.clos j h1⟩
theorem R3.alloc {w wr : World} {B n p c : Nat} {trk : Nat → Bool} {L : List (Nat × Nat)} (h : R3 w B n trk p L c wr) (o : Obj) : R3 w B n trk p L c (wr.alloc o) := by
  have hs := h.size
  refine ⟨h.below.alloc (by omega) _, by simp; omega, ?_, fun j hj => ?_, ?_, ?_, ?_, ?_, h.keys⟩
  · rw [heap_alloc_lt _ _ (by omega)]; exact h.cs
  · rw [heap_alloc_lt _ _ (by omega)]; exact h.clos j hj
  · rw [heap_alloc_lt _ _ (by omega)]; exact h.services
  · rw [heap_alloc_lt _ _ (by omega)]; exact h.opn
  · rw [heap_alloc_lt _ _ (by omega)]; exact h.serv
  · rw [heap_alloc_lt _ _ (by omega)]; exact h.on
theorem R3.drew {w wr : World} {B n p c : Nat} {trk : Nat → Bool} {L : List (Nat × Nat)} (h : R3 w B n trk p L c wr) : R3 w B n trk p L c wr.drew :=
  ⟨h.below.drew, h.size, h.cs, h.clos, h.services, h.opn, h.serv, h.on, h.keys⟩

end Go.Proofs.Ybulkeiwi
