/-
  How the groups lie in memory while graph.cycles runs; 'make'.
-/
import Derived.Test.YbulkeiwwDoorMyEnter
import Derived.Test.YbulkeiwwDoorMyMeas
namespace Go.Proofs.YbulkeiwwDoor
open Go.RowKit Go.ChangeMaps Gr
set_option linter.unusedVariables false

structure GMem (N : Nat) (gs : List (List Nat)) (gv : Value) (vs : List Value) (sv pv : Value) (w : World) : Prop where
  len : vs.length = gs.length
  row : w.ownsRow (N + 10) 24 1 gv vs.length vs
  each : ∀ (i : Nat) c v, gs[i]? = some c → vs[i]? = some v → w.ownsRow (N + 10) 3 1 v c.length (ints c) ∧ ∃ k, v.ownBlock = some k
  apart : ∀ v, v ∈ vs → ∀ k, v.ownBlock = some k → gv.ownBlock ≠ some k ∧ sv.ownBlock ≠ some k ∧ pv.ownBlock ≠ some k
  gapart : ∀ k, gv.ownBlock = some k → sv.ownBlock ≠ some k ∧ pv.ownBlock ≠ some k

theorem gmem_start (N : Nat) (sv pv : Value) (w : World) : GMem N [] (.slice none 0 0) [] sv pv w :=
  ⟨rfl, World.ownsRow_nil _ _ _ _, fun i c v h => by simp at h, fun v h => absurd h List.not_mem_nil, fun k h => by cases h⟩

theorem GMem.block_of {N : Nat} {gs : List (List Nat)} {gv : Value} {vs : List Value} {sv pv : Value} {w : World} (h : GMem N gs gv vs sv pv w) {v : Value} (hv : v ∈ vs) {k : Nat} (hk : v.ownBlock = some k) : N + 10 ≤ k ∧ k < w.heap.size := by
  obtain ⟨i, hi, rfl⟩ := List.getElem_of_mem hv
  have hl := h.len
  obtain ⟨c, hc⟩ : ∃ c, gs[i]? = some c := ⟨gs[i]'(by omega), List.getElem?_eq_getElem (by omega)⟩
  exact own_ge (h.each i c _ hc (List.getElem?_eq_getElem hi)).1 hk

/-- Where every block beside the two rows is kept. -/
theorem GMem.kept {N : Nat} {gs : List (List Nat)} {gv : Value} {vs : List Value} {sv pv sv' pv' : Value} {w w' : World} (h : GMem N gs gv vs sv pv w)
    (hb : ∀ k, N + 10 ≤ k → k < w.heap.size → sv.ownBlock ≠ some k → pv.ownBlock ≠ some k → w'.heap[k]? = w.heap[k]?)
    (hs : sv'.ownBlock = sv.ownBlock ∨ ∃ k, sv'.ownBlock = some k ∧ w.heap.size ≤ k) (hp : pv'.ownBlock = pv.ownBlock ∨ ∃ k, pv'.ownBlock = some k ∧ w.heap.size ≤ k) : GMem N gs gv vs sv' pv' w' := by
  have hns : ∀ k, k < w.heap.size → sv.ownBlock ≠ some k → sv'.ownBlock ≠ some k := fun k hk hn e => by
    rcases hs with hs | ⟨j, hj, hj'⟩
    · exact hn (hs ▸ e)
    · rw [hj] at e; cases e; omega
  have hnp : ∀ k, k < w.heap.size → pv.ownBlock ≠ some k → pv'.ownBlock ≠ some k := fun k hk hn e => by
    rcases hp with hs | ⟨j, hj, hj'⟩
    · exact hn (hs ▸ e)
    · rw [hj] at e; cases e; omega
  refine ⟨h.len, ownsRow_kept h.row fun k hk => ?_, fun i c v hc hv => ?_, fun v hv k hk => ?_, fun k hk => ?_⟩
  · have := own_ge h.row hk
    exact hb k this.1 this.2 (h.gapart k hk).1 (h.gapart k hk).2
  · obtain ⟨h1, h2⟩ := h.each i c v hc hv
    refine ⟨ownsRow_kept h1 fun k hk => ?_, h2⟩
    have := own_ge h1 hk
    have ha := h.apart v (List.mem_of_getElem? hv) k hk
    exact hb k this.1 this.2 ha.2.1 ha.2.2
  · have := h.block_of hv hk
    have ha := h.apart v hv k hk
    exact ⟨ha.1, hns k this.2 ha.2.1, hnp k this.2 ha.2.2⟩
  · have := own_ge h.row hk
    have ha := h.gapart k hk
    exact ⟨hns k this.2 ha.1, hnp k this.2 ha.2⟩

theorem GMem.fr {N : Nat} {gs : List (List Nat)} {gv : Value} {vs : List Value} {sv pv sv' pv' : Value} {w w' : World} (h : GMem N gs gv vs sv pv w) (hf : Fr N sv pv sv' pv' w w') : GMem N gs gv vs sv' pv' w' :=
  h.kept hf.block hf.sOwn hf.pOwn

/-- A store into one of the ten blocks, or into the rows. -/
theorem GMem.set {N : Nat} {gs : List (List Nat)} {gv : Value} {vs : List Value} {sv pv : Value} {w : World} (h : GMem N gs gv vs sv pv w) {b o : Nat} (x : Value) (hb : b < N + 10 ∨ sv.ownBlock = some b ∨ pv.ownBlock = some b) :
    GMem N gs gv vs sv pv (w.setCell ⟨b, o, none⟩ x) :=
  h.kept (fun k h1 h2 h3 h4 => heap_set_ne _ _ (fun e => by subst e; rcases hb with hb | hb | hb; omega; exact h3 hb; exact h4 hb)) (Or.inl rfl) (Or.inl rfl)

theorem GMem.drew {N : Nat} {gs : List (List Nat)} {gv : Value} {vs : List Value} {sv pv : Value} {w : World} (h : GMem N gs gv vs sv pv w) : GMem N gs gv vs sv pv w.drew :=
  h.kept (fun k _ _ _ _ => rfl) (Or.inl rfl) (Or.inl rfl)

/-- The two rows' values are cut: the blocks stay. -/
theorem GMem.own {N : Nat} {gs : List (List Nat)} {gv : Value} {vs : List Value} {sv pv sv' pv' : Value} {w : World} (h : GMem N gs gv vs sv pv w) (hs : sv'.ownBlock = sv.ownBlock) (hp : pv'.ownBlock = pv.ownBlock) : GMem N gs gv vs sv' pv' w :=
  h.kept (fun k _ _ _ _ => rfl) (Or.inl hs) (Or.inl hp)

theorem make24 (w : World) (n : Nat) (hn : n ≤ 1048576) :
    (Instr.makeSlice 24 (.int .i64 (n : Int)) (.int .i64 (n : Int))).run Ybad.prog w = .ok (.slice (some ⟨w.heap.size, 0, none⟩) n n) (w.alloc (.cells (arrI n fun _ => 0) 3)) := by
  obtain ⟨i, hi, hz, hs, hb⟩ := info_parts info3
  have := run_make (P := Ybad.prog) w 24 3 i _ Ybad.underlying24 hi hz .i64 .i64 n n (by omega) (Int.le_refl _) (by rw [hb]; omega) (by omega)
  simp only [Int.toNat_natCast, hs] at this
  rw [← madeI]
  exact this

theorem make76 (w : World) (n : Nat) (hn : n ≤ 1048576) :
    (Instr.makeSlice 76 (.int .i64 (n : Int)) (.int .i64 (n : Int))).run Ybad.prog w = .ok (.slice (some ⟨w.heap.size, 0, none⟩) n n) (w.alloc (.cells (arrB n fun _ => false) 4)) := by
  obtain ⟨i, hi, hz, hs, hb⟩ := info_parts info4
  have := run_make (P := Ybad.prog) w 76 4 i _ Ybad.underlying76 hi hz .i64 .i64 n n (by omega) (Int.le_refl _) (by rw [hb]; omega) (by omega)
  simp only [Int.toNat_natCast, hs] at this
  rw [← madeB]
  exact this

theorem ten_at (w : World) (o0 o1 o2 o3 o4 o5 o6 o7 o8 o9 : Obj) (W : World) (hW : W = (((((((((w.alloc o0).alloc o1).alloc o2).alloc o3).alloc o4).alloc o5).alloc o6).alloc o7).alloc o8).alloc o9) :
    Below w.heap.size w W ∧ W.heap[w.heap.size]? = some o0 ∧ W.heap[w.heap.size + 1]? = some o1 ∧ W.heap[w.heap.size + 2]? = some o2 ∧ W.heap[w.heap.size + 3]? = some o3 ∧ W.heap[w.heap.size + 4]? = some o4 ∧ W.heap[w.heap.size + 5]? = some o5 ∧ W.heap[w.heap.size + 6]? = some o6 ∧ W.heap[w.heap.size + 7]? = some o7 ∧ W.heap[w.heap.size + 8]? = some o8 ∧ W.heap[w.heap.size + 9]? = some o9 := by
  subst hW
  refine ⟨?_, ?_, ?_, ?_, ?_, ?_, ?_, ?_, ?_, ?_, ?_⟩
  · repeat (first | exact Below.refl _ _ | refine Below.alloc ?_ (by simp; try omega) _)
  all_goals
    simp only [World.alloc, Array.getElem?_push, Array.size_push]
    repeat (first | rw [if_neg (by omega)] | exact if_pos trivial | exact if_pos (by omega))

def ts0 : TS := { order := fun _ => 0, low := fun _ => 0, opn := fun _ => false, stack := [], path := [], reached := 0, groups := [] }

theorem mem_start (g : Graph) (tv fv : Value) (w W : World) (hW : W = (((((((((w.alloc (.cells #[tv, fv] 30)).alloc (.cells (arrI g.n fun _ => 0) 3)).alloc (.cells #[.slice (some ⟨w.heap.size + 1, 0, none⟩) g.n g.n] 24)).alloc (.cells (arrI g.n fun _ => 0) 3)).alloc (.cells #[.slice (some ⟨w.heap.size + 3, 0, none⟩) g.n g.n] 24)).alloc (.cells (arrB g.n fun _ => false) 4)).alloc (.cells #[.slice (some ⟨w.heap.size + 5, 0, none⟩) g.n g.n] 76)).alloc (.cells #[.slice none 0 0] 24)).alloc (.cells #[.slice none 0 0] 93)).alloc (.cells #[.int .i64 0] 3)) :
    Mem w.heap.size g tv fv w ts0 (.slice none 0 0) (.slice none 0 0) W := by
  obtain ⟨h, h0, h1, h2, h3, h4, h5, h6, h7, h8, h9⟩ := ten_at w _ _ _ _ _ _ _ _ _ _ W hW
  exact ⟨h, h0, h1, h2, h3, h4, h5, h6, h7, h8, h9, World.ownsRow_nil _ _ _ _, World.ownsRow_nil _ _ _ _, fun k h => by cases h⟩

end Go.Proofs.YbulkeiwwDoor
