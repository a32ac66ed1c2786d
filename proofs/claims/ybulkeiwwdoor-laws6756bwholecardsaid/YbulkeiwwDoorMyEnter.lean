/-
  The contract of the closure 'enter' of graph.cycles.
-/
import Derived.Test.YbulkeiwwDoorMyMem
import Derived.Deep.RegionHeld3
import Derived.Deep.DrawnRows
import Derived.RegionTactic
import Derived.Deep.RegionLaw
import Derived.OwnWalk
import Derived.Deep.DeepMust
namespace Go.Proofs.YbulkeiwwDoor
open Go.RowKit Go.ChangeMaps Gr
attribute [local go_sem ↓] Go.wp_at_zero Go.wp_at_succ
set_option linter.unusedVariables false

def entered (g : Graph) (s : TS) (w : Nat) : TS := { s with order := fup s.order w (s.reached + 1), low := fup s.low w (s.reached + 1), opn := fup s.opn w true, stack := w :: s.stack, path := (w, g.first w) :: s.path, reached := s.reached + 1 }

set_option maxHeartbeats 1000000 in
set_option maxRecDepth 100000 in
theorem enter_any (N : Nat) (g : Graph) (tv : Value) (fb fc : Nat) (w0 w : World) (s : TS) (sv pv : Value) (v : Nat) (hM : Mem N g tv (.slice (some ⟨fb, 0, none⟩) (g.n + 1) fc) w0 s sv pv w) (hv : v < g.n)
    (hf : w0.cell? ⟨fb, v, none⟩ = some (.int .i64 (g.first v : Int))) (hfb : fb < N) (hr : s.reached < 4611686018427387904) (hsl : s.stack.length ≤ 1000000) (hpl : s.path.length ≤ 1000000) :
    Calls Ybad.prog 19 #[.int .i64 (v : Int), .pointer (some ⟨N + 9, 0, none⟩), .pointer (some ⟨N + 2, 0, none⟩), .pointer (some ⟨N + 4, 0, none⟩), .pointer (some ⟨N + 6, 0, none⟩), .pointer (some ⟨N + 7, 0, none⟩), .pointer (some ⟨N + 8, 0, none⟩), .pointer (some ⟨N, 0, none⟩)] w
      fun e w' => e = .returned (.tuple #[]) ∧ ∃ sv' pv', Mem N g tv (.slice (some ⟨fb, 0, none⟩) (g.n + 1) fc) w0 (entered g s v) sv' pv' w' ∧ Fr N sv pv sv' pv' w w' := by
  have c9 : w.cell? ⟨N + 9, 0, none⟩ = some (.int .i64 (s.reached : Int)) := cell_of_heap hM.b9 rfl
  have f9 : w.frozen? ⟨N + 9, 0, none⟩ = false := frozen_of_heap hM.b9
  have c2 : w.cell? ⟨N + 2, 0, none⟩ = some (.slice (some ⟨N + 1, 0, none⟩) g.n g.n) := cell_of_heap hM.b2 rfl
  have c4 : w.cell? ⟨N + 4, 0, none⟩ = some (.slice (some ⟨N + 3, 0, none⟩) g.n g.n) := cell_of_heap hM.b4 rfl
  have c1 := cell_of_heap hM.b1 (arrI_get hv)
  have c3 := cell_of_heap hM.b3 (arrI_get hv)
  have f1 : w.frozen? ⟨N + 1, v, none⟩ = false := frozen_of_heap hM.b1
  have f3 : w.frozen? ⟨N + 3, v, none⟩ = false := frozen_of_heap hM.b3
  have c6 : w.cell? ⟨N + 6, 0, none⟩ = some (.slice (some ⟨N + 5, 0, none⟩) g.n g.n) := cell_of_heap hM.b6 rfl
  have c5 := cell_of_heap hM.b5 (arrB_get hv)
  have f5 : w.frozen? ⟨N + 5, v, none⟩ = false := frozen_of_heap hM.b5
  have c7 : w.cell? ⟨N + 7, 0, none⟩ = some sv := cell_of_heap hM.b7 rfl
  have i0 : (0 : Int) ≤ (v : Int) := by omega
  have i1 : (v : Int) < (g.n : Int) := by omega
  have hw : wrap64 ((s.reached : Int) + 1) = ((s.reached + 1 : Nat) : Int) := by unfold wrap64; omega
  go_enter Ybad.func19, Ybad.ntmps19
  go_wp2
  go_region
  have hM1 := (((hM.reach (s.reached + 1)).ord v (s.reached + 1)).lw v (s.reached + 1)).drew
  rw [show ((s.reached + 1 : Nat) : Int) = (s.reached : Int) + 1 from rfl] at hM1
  have hF1 : ∀ k, N + 10 ≤ k → ((((w.setCell ⟨N + 9, 0, none⟩ (.int .i64 ((s.reached : Int) + 1))).setCell ⟨N + 1, v, none⟩ (.int .i64 ((s.reached : Int) + 1))).setCell ⟨N + 3, v, none⟩ (.int .i64 ((s.reached : Int) + 1))).drew).heap[k]? = w.heap[k]? := fun k hk =>
    (heap_set_ne _ _ (by omega)).trans ((heap_set_ne _ _ (by omega)).trans (heap_set_ne _ _ (by omega)))
  have hZ1 : Hid (((((w.setCell ⟨N + 9, 0, none⟩ (.int .i64 ((s.reached : Int) + 1))).setCell ⟨N + 1, v, none⟩ (.int .i64 ((s.reached : Int) + 1))).setCell ⟨N + 3, v, none⟩ (.int .i64 ((s.reached : Int) + 1))).drew).heap.size = w.heap.size) := hideIt (by simp)
  generalize ((((w.setCell ⟨N + 9, 0, none⟩ (.int .i64 ((s.reached : Int) + 1))).setCell ⟨N + 1, v, none⟩ (.int .i64 ((s.reached : Int) + 1))).setCell ⟨N + 3, v, none⟩ (.int .i64 ((s.reached : Int) + 1))).drew) = w1 at *
  clear c9 f9 c2 c4 c1 c3 f1 f3 c6 c5 f5 c7 hw
  have c6 : w1.cell? ⟨N + 6, 0, none⟩ = some (.slice (some ⟨N + 5, 0, none⟩) g.n g.n) := cell_of_heap hM1.b6 rfl
  have c5 := cell_of_heap hM1.b5 (arrB_get hv)
  have f5 : w1.frozen? ⟨N + 5, v, none⟩ = false := frozen_of_heap hM1.b5
  have c7 : w1.cell? ⟨N + 7, 0, none⟩ = some sv := cell_of_heap hM1.b7 rfl
  have hM2 := (hM1.op v true).alloc (.cells #[.int .i64 (v : Int)] 3)
  have hZ2 := lt_of_heap hM1.b9
  obtain ⟨i0, hi0, hz0, hz1, hz2⟩ := info_parts info3
  go_wp2_with (at_builtin; go_must (refine wpList_append_lies _ rfl _ _ 24 rfl (N + 10) 3 i0 (.int .i64 0) 1 8 Ybad.underlying24 hi0 hz0 hz1 hz2 rfl (by decide) sv s.stack.length (ints s.stack.reverse) rfl hM2.stk ⟨w1.heap.size, 0, none⟩ 1 1 [.int .i64 (v : Int)] rfl rfl (World.news_of_block (cs := #[.int .i64 (v : Int)]) (t := 3) (fr := (0, 0)) (heap_alloc_at _ _ (by simp))) (by simp [Value.oneCell']) (by omega) (by unfold maxLen; omega) (by omega) (by simp; omega) (w1.heap.size + 1) (by simp) ?_; intro gb cap w2 hown2 hgr2 hat2 hgl2; obtain ⟨c72, f72⟩ := hM2.grown7 hgr2))
  have hM3 := hM2.push hown2 hgr2 (by rcases hat2 with h | h; exact Or.inl h; exact Or.inr (by simpa using h))
  have hF3 : ∀ k, N + 10 ≤ k → k < w.heap.size → sv.ownBlock ≠ some k → (w2.setCell ⟨N + 7, 0, none⟩ (.slice (some ⟨gb, 0, none⟩) (s.stack.length + 1) cap)).heap[k]? = w.heap[k]? := fun k h1 h2 h3 => by
    rw [heap_set_ne _ _ (by omega), hgr2.block k (by simp; have := hZ1.out; omega) (Ne.symm h3), heap_alloc_lt _ _ (by simp; have := hZ1.out; omega), heap_set_ne _ _ (by omega)]
    exact hF1 k h1
  have hO3 := hat2
  clear c72 f72 c6 c5 f5 c7
  have hZ3 : w1.heap.size < (w2.setCell ⟨N + 7, 0, none⟩ (.slice (some ⟨gb, 0, none⟩) (s.stack.length + 1) cap)).heap.size := by have := hgr2.size; simp at this ⊢; omega
  have HZ3 := hideIt hZ3
  clear hZ3
  generalize w2.setCell ⟨N + 7, 0, none⟩ (.slice (some ⟨gb, 0, none⟩) (s.stack.length + 1) cap) = w3 at *
  have c8 : w3.cell? ⟨N + 8, 0, none⟩ = some pv := cell_of_heap hM3.b8 rfl
  have c01 : w3.cell? ⟨N, 1, none⟩ = some (.slice (some ⟨fb, 0, none⟩) (g.n + 1) fc) := cell_of_heap hM3.b0 rfl
  have cf : w3.cell? ⟨fb, v, none⟩ = some (.int .i64 (g.first v : Int)) := (hM3.below.cell (p := ⟨fb, v, none⟩) hfb).trans hf
  have hZ4 := lt_of_heap hM3.b9
  have i2 : (v : Int) < (g.n : Int) + 1 := by omega
  have i3 : (v : Int) < ((g.n + 1 : Nat) : Int) := by omega
  have hM4 := hM3.alloc (.cells #[.int .i64 (v : Int), .int .i64 (g.first v : Int)] 95)
  obtain ⟨i5, hi5, hy0, hy1, hy2⟩ := info_parts info95
  have l1 : fb < w3.heap.size := by omega
  have l2 : N < w3.heap.size := by omega
  have l3 : N + 8 < w3.heap.size := by omega
  go_region_law ((refine step_append_lies _ (by rfl) _ _ _ (by rfl) (N + 10) 95 i5 _ 2 16 Ybad.underlying93 hi5 hy0 hy1 hy2 rfl (by omega) pv s.path.length (frames s.path.reverse) (by rfl) hM4.drew.pth ⟨w3.heap.size, 0, none⟩ 1 1 [.int .i64 (v : Int), .int .i64 (g.first v : Int)] (by rfl) (by rfl) (World.news_of_block (cs := #[.int .i64 (v : Int), .int .i64 (g.first v : Int)]) (t := 95) (fr := (0, 0)) (heap_alloc_at _ _ rfl)) (by simp [Value.oneCell']) (by omega) (by unfold maxLen; omega) (by omega) (by simp; omega) (w3.heap.size + 1) (by simp) ?_; intro gp capp w4 hown4 hgr4 hat4 hgl4; obtain ⟨c84, f84⟩ := hM4.drew.grown8 hgr4))
  all_goals
    go_end0
    have hM5 := hM4.drew.pushP hown4 hgr4 (by rcases hat4 with h | h; exact Or.inl h; exact Or.inr (by simpa using h))
    have hz4 := hgr4.size
    simp at hz4
    have hz1 := hZ1.out
    have hz3 := HZ3.out
    refine ⟨rfl, _, _, hM5, ⟨by simp; omega, fun k h1 h2 h3 h4 => ?_, ?_, ?_⟩⟩
    · rw [heap_set_ne _ _ (by omega), hgr4.block k (by simp; omega) (Ne.symm h4)]
      exact (heap_alloc_lt _ _ (by omega)).trans (hF3 k h1 h2 h3)
    · rcases hO3 with h | h
      · exact Or.inl h.symm
      · exact Or.inr ⟨gb, rfl, by omega⟩
    · rcases hat4 with h | h
      · exact Or.inl h.symm
      · exact Or.inr ⟨gp, rfl, by omega⟩
end Go.Proofs.YbulkeiwwDoor
