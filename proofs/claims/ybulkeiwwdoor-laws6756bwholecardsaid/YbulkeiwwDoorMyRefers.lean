/-
  The contracts of graph.edges and graph.refersTo.
-/
import Derived.Test.YbulkeiwwDoorMyMem
import Derived.Test.YbulkeiwwDoorMyShelf
import Derived.RegionTactic
import Derived.BigQuiet
import Derived.Deep.DrawnRows
namespace Go.Proofs.YbulkeiwwDoor
open Go.RowKit Go.ChangeMaps Gr
attribute [local go_sem ↓] Go.wp_at_zero Go.wp_at_succ
set_option linter.unusedVariables false

set_option maxHeartbeats 1000000 in
set_option maxRecDepth 100000 in
theorem edges_some (n tb tl tc fb fc v a b : Nat) (w : World) (hv : v < n) (hn : n ≤ 1000000) (hab : a ≤ b) (hbl : b ≤ tl) (htl : tl ≤ tc) (htc : tc ≤ 1000000) (hne : ¬ tc = a) (hfb : fb < w.heap.size) (ha : w.cell? ⟨fb, v, none⟩ = some (.int .i64 (a : Int))) (hb : w.cell? ⟨fb, v + 1, none⟩ = some (.int .i64 (b : Int))) :
    Calls Ybad.prog 31 #[.agg #[.slice (some ⟨tb, 0, none⟩) tl tc, .slice (some ⟨fb, 0, none⟩) (n + 1) fc], .int .i64 (v : Int)] w fun e w' => e = .returned (.slice (some ⟨tb, a, none⟩) (b - a) (tc - a)) ∧ Below w.heap.size w w' := by
  have i0 : (0 : Int) ≤ (v : Int) := by omega
  have i1 : (v : Int) < (n : Int) + 1 := by omega
  have i2 : (0 : Int) ≤ (v : Int) + 1 := by omega
  have i3 : (v : Int) + 1 < (n : Int) + 1 := by omega
  have i4 : (v : Int) + 1 ≤ 9223372036854775807 := by omega
  have j0 : (0 : Int) ≤ (a : Int) := by omega
  have j1 : (a : Int) ≤ (b : Int) := by omega
  have j2 : (b : Int) ≤ (tc : Int) := by omega
  have e1 : ((v : Int) + 1).toNat = v + 1 := by omega
  go_enter Ybad.func31, Ybad.ntmps31
  go_wp2
  go_region
  clear i0 i1 i2 i3 i4 j0 j1 j2 e1 ha hb
  go_wp2
  go_ret
  exact ⟨rfl, ((Below.refl w.heap.size w).alloc (Nat.le_refl _) _).drew⟩

set_option maxHeartbeats 1000000 in
set_option maxRecDepth 100000 in
theorem edges_none (n tb tc fb fc v : Nat) (w : World) (hv : v < n) (hn : n ≤ 1000000) (htc : tc ≤ 1000000) (hfb : fb < w.heap.size) (ha : w.cell? ⟨fb, v, none⟩ = some (.int .i64 (tc : Int))) (hb : w.cell? ⟨fb, v + 1, none⟩ = some (.int .i64 (tc : Int))) :
    Calls Ybad.prog 31 #[.agg #[.slice (some ⟨tb, 0, none⟩) tc tc, .slice (some ⟨fb, 0, none⟩) (n + 1) fc], .int .i64 (v : Int)] w fun e w' => e = .returned (.slice (some ⟨tb, 0, none⟩) 0 0) ∧ Below w.heap.size w w' := by
  have i0 : (0 : Int) ≤ (v : Int) := by omega
  have i1 : (v : Int) < (n : Int) + 1 := by omega
  have i2 : (0 : Int) ≤ (v : Int) + 1 := by omega
  have i3 : (v : Int) + 1 < (n : Int) + 1 := by omega
  have i4 : (v : Int) + 1 ≤ 9223372036854775807 := by omega
  have j0 : (0 : Int) ≤ (tc : Int) := by omega
  have e1 : ((v : Int) + 1).toNat = v + 1 := by omega
  go_enter Ybad.func31, Ybad.ntmps31
  go_wp2
  go_region
  clear i0 i1 i2 i3 i4 j0 e1 ha hb
  go_wp2
  go_ret
  exact ⟨rfl, ((Below.refl w.heap.size w).alloc (Nat.le_refl _) _).drew⟩

def upto' {α : Type} (f : Nat → α) (k : Nat) : List α := (List.range k).map f

set_option maxHeartbeats 1000000 in
set_option maxRecDepth 100000 in
/-- v holds a reference to itself. -/
theorem refers_any (g : Graph) (tb tc fb fc v : Nat) (w : World) (hv : v < g.n) (hn : g.n ≤ 1000000) (hab : g.first v ≤ g.first (v + 1)) (hbl : g.first (v + 1) ≤ tc) (htc : tc ≤ 1000000) (hfb : fb < w.heap.size) (htb : tb < w.heap.size)
    (hf : ∀ i, i ≤ g.n → w.cell? ⟨fb, i, none⟩ = some (.int .i64 (g.first i : Int))) (ht : ∀ i, i < tc → w.cell? ⟨tb, i, none⟩ = some (.int .i64 (g.tgt i))) (q : Bool) (hq : q = true ↔ g.E v v) :
    Calls Ybad.prog 20 #[.agg #[.slice (some ⟨tb, 0, none⟩) tc tc, .slice (some ⟨fb, 0, none⟩) (g.n + 1) fc], .int .i64 (v : Int), .int .i64 (v : Int)] w fun e w' => e = .returned (.bool q) ∧ Below w.heap.size w w' := by
  have hE : q = ((upto' (fun j => g.tgt (g.first v + j)) (g.first (v + 1) - g.first v)).contains (v : Int)) := by
    rw [Bool.eq_iff_iff, hq]
    simp only [upto', List.contains_eq_mem, List.mem_map, List.mem_range, decide_eq_true_eq, Graph.E]
    constructor
    · rintro ⟨_, i, h1, h2, h3⟩
      exact ⟨i - g.first v, by omega, by rw [show g.first v + (i - g.first v) = i by omega]; exact h3⟩
    · rintro ⟨j, h1, h2⟩
      exact ⟨hv, g.first v + j, by omega, by omega, h2⟩
  have hfa := hf v (by omega)
  have hfb' := hf (v + 1) (by omega)
  clear hf hq
  by_cases hta : tc = g.first v
  · have e2 : g.first (v + 1) = tc := by omega
    have hq0 : q = false := by rw [hE, e2, hta]; simp [upto']
    rw [e2] at hfb'
    rw [← hta] at hfa
    subst hq0
    clear hE hta
    have cE := fun w' (hB : Below w.heap.size w w') => edges_none g.n tb tc fb fc v w' hv hn htc (by have := hB.size; omega) ((hB.cell (p := ⟨fb, v, none⟩) hfb).trans hfa) ((hB.cell (p := ⟨fb, v + 1, none⟩) hfb).trans hfb')
    have hB0 : Below w.heap.size w (w.alloc (.cells #[.slice (some ⟨tb, 0, none⟩) tc tc, .slice (some ⟨fb, 0, none⟩) (g.n + 1) fc] 30)) := (Below.refl w.heap.size w).alloc (Nat.le_refl _) _
    have HB0 := hideIt hB0
    clear hB0 hfa hfb' ht
    go_enter Ybad.func20, Ybad.ntmps20
    go_wp2_with (first | (go_at_call 31; refine (cE _ HB0.out).mono ?_; rintro e w1 ⟨rfl, hb1⟩) | (go_at_call 30; refine (Ybad.slices_Contains_int_empty _ _ _ _).mono ?_; rintro e w2 ⟨rfl, rfl⟩))
    go_ret
    exact ⟨rfl, HB0.out.trans (hb1.mono (by simp))⟩
  · have cE := fun w' (hB : Below w.heap.size w w') => edges_some g.n tb tc tc fb fc v _ _ w' hv hn hab hbl (Nat.le_refl _) htc hta (by have := hB.size; omega) ((hB.cell (p := ⟨fb, v, none⟩) hfb).trans hfa) ((hB.cell (p := ⟨fb, v + 1, none⟩) hfb).trans hfb')
    have hlz : (upto' (fun j => g.tgt (g.first v + j)) (g.first (v + 1) - g.first v)).length = g.first (v + 1) - g.first v := by simp [upto']
    have cC := fun w' c (hB : Below w.heap.size w w') => Ybad.slices_Contains_int tb (g.first v) (g.first (v + 1) - g.first v) c (upto' (fun j => g.tgt (g.first v + j)) (g.first (v + 1) - g.first v)) (v : Int) w' (by omega) (by omega) (fun j hj => by
      rw [hlz] at hj
      rw [(hB.cell (p := ⟨tb, g.first v + j, none⟩) htb), ht _ (by omega)]
      simp [upto', hj])
    rw [List.take_of_length_le (by omega), ← hE] at cC
    have hB0 : Below w.heap.size w (w.alloc (.cells #[.slice (some ⟨tb, 0, none⟩) tc tc, .slice (some ⟨fb, 0, none⟩) (g.n + 1) fc] 30)) := (Below.refl w.heap.size w).alloc (Nat.le_refl _) _
    have HB0 := hideIt hB0
    clear hB0 hfa hfb' ht hE
    go_enter Ybad.func20, Ybad.ntmps20
    go_wp2_with (first | (go_at_call 31; refine (cE _ HB0.out).mono ?_; rintro e w1 ⟨rfl, hb1⟩; have HB1 := hideIt (HB0.out.trans (hb1.mono (by simp)))) | (go_at_call 30; refine (cC _ _ HB1.out).mono ?_; rintro e w2 ⟨rfl, rfl⟩))
    go_ret
    exact ⟨rfl, HB1.out⟩
end Go.Proofs.YbulkeiwwDoor
