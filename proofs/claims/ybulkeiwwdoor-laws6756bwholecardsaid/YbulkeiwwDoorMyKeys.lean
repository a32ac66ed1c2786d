/-
  keyIndex.key, keyIndex.offset, checker.reportOf, report.problem, report.add.
-/
import Derived.Test.YbulkeiwwDoorMyQuoteC
import Derived.Laws.Cover3
namespace Go.Proofs.YbulkeiwwDoor
open Go.RowKit Go.ChangeMaps Go.Lib
attribute [local go_sem ↓] Go.wp_at_zero Go.wp_at_succ
set_option linter.unusedVariables false

set_option maxHeartbeats 1000000 in
theorem offset_any (Rb Pb pc n v a : Nat) (w : World) (c1 : w.cell? ⟨Rb, 1, none⟩ = some (.slice (some ⟨Pb, 0, none⟩) n pc)) (ca : w.cell? ⟨Pb, v * 2, none⟩ = some (.int .i64 (a : Int))) (hv : v < n) :
    Calls Ybad.prog 17 #[.pointer (some ⟨Rb, 0, none⟩), .int .i64 (v : Int)] w fun e w' => e = .returned (.int .i64 (a : Int)) ∧ w' = w := by
  have i1 : (0 : Int) ≤ (v : Int) := by omega
  have i2 : (v : Int) < (n : Int) := by omega
  go_enter Ybad.func17, Ybad.ntmps17
  go_wp2
  go_ret
  exact ⟨rfl, rfl⟩

set_option maxHeartbeats 1000000 in
set_option maxRecDepth 100000 in
theorem reportOf_any (C v : Nat) (q : Value) (w : World) (c4 : w.cell? ⟨C, 4, none⟩ = some (.slice none 0 0)) (c0 : w.cell? ⟨C, 0, none⟩ = some q) :
    Calls Ybad.prog 15 #[.pointer (some ⟨C, 0, none⟩), .int .i64 (v : Int)] w fun e w' => e = .returned q ∧ w' = w := by
  have he : ∀ w', (binOp .eql 62 (.slice none 0 0) (.slice none 0 0)).run Ybad.prog w' = .ok (.bool true) w' := fun w' => by
    simp only [binOp]
    simp [run_equal_slice_nil (P := Ybad.prog) w' 62 _ none 0 0 Ybad.underlying62]
  go_enter Ybad.func15, Ybad.ntmps15
  go_wp2
  go_ret
  exact ⟨rfl, rfl⟩

set_option maxHeartbeats 1000000 in
theorem problem_any (q : Value) (a : Int) (k m : ByteArray) (w : World) :
    Calls Ybad.prog 26 #[q, .int .i64 a, .string k, .string m] w fun e w' => e = .returned (.agg #[.int .i64 a, .int .i64 0, .int .i64 0, .string k, .string m]) ∧ Below w.heap.size w w' := by
  go_enter Ybad.func26, Ybad.ntmps26
  go_wp2
  (try simp only [Exit.inBlock, Exit.then])
  refine bodyPost_ret (results_cell_row rfl _ _ w.heap.size 79 #[.int .i64 a, .int .i64 0, .int .i64 0, .string k, .string m] (0, 0) _ rfl (heap_alloc_at _ _ rfl) Ybad.underlying79 rfl (by kernel_rfl)) rfl ?_
  exact ⟨rfl, (Below.refl w.heap.size w).alloc (Nat.le_refl _) _⟩

set_option maxHeartbeats 1000000 in
theorem key_text (Rb Pb pc n v a : Nat) (T k : List UInt8) (w : World) (hRb : Rb < w.heap.size) (hPb : Pb < w.heap.size) (c0 : w.cell? ⟨Rb, 0, none⟩ = some (.string ⟨T.toArray⟩)) (c1 : w.cell? ⟨Rb, 1, none⟩ = some (.slice (some ⟨Pb, 0, none⟩) n pc))
    (ca : w.cell? ⟨Pb, v * 2, none⟩ = some (.int .i64 (a : Int))) (ce : w.cell? ⟨Pb, v * 2 + 1, none⟩ = some (.int .i64 ((a : Int) + 1 + (k.length : Int)))) (hv : v < n) (hT : (T.take (a + 1 + k.length)).drop (a + 1) = k) (hle : a + 1 + k.length ≤ T.length) (hlim : T.length ≤ 100000000) :
    Calls Ybad.prog 14 #[.pointer (some ⟨Rb, 0, none⟩), .int .i64 (v : Int)] w fun e w' => e = .returned (.string ⟨k.toArray⟩) ∧ Below w.heap.size w w' := by
  have i1 : (0 : Int) ≤ (v : Int) := by omega
  have i2 : (v : Int) < (n : Int) := by omega
  have i3 : ¬ ((a : Int) + 1 + (k.length : Int) < 0) := by omega
  have i4 : (a : Int) + 1 ≤ 9223372036854775807 := by omega
  have i5 : (0 : Int) ≤ (a : Int) + 1 := by omega
  have i6 : (a : Int) + 1 ≤ (a : Int) + 1 + (k.length : Int) := by omega
  have i7 : (a : Int) + 1 + (k.length : Int) ≤ (T.length : Int) := by omega
  have i8 : ((a : Int) + 1).toNat = a + 1 := by omega
  have i9 : ((a : Int) + 1 + (k.length : Int)).toNat = a + 1 + k.length := by omega
  have hsz : (ByteArray.mk T.toArray).size = T.length := by simp [ByteArray.size]
  have hx : (ByteArray.mk T.toArray).extract (a + 1) (a + 1 + k.length) = ⟨k.toArray⟩ := by rw [ba_extract, hT]
  clear hT hle hlim hv
  go_enter Ybad.func14, Ybad.ntmps14
  go_wp2
  go_region
  go_wp2
  go_ret
  exact ⟨rfl, ((Below.refl w.heap.size w).alloc (Nat.le_refl _) _).drew⟩

set_option maxHeartbeats 1000000 in
theorem key_odd (Rb Pb pc Ob ol oc n v a j : Nat) (k : List UInt8) (w : World) (hRb : Rb < w.heap.size) (hPb : Pb < w.heap.size) (hOb : Ob < w.heap.size) (c2 : w.cell? ⟨Rb, 2, none⟩ = some (.slice (some ⟨Ob, 0, none⟩) ol oc)) (c1 : w.cell? ⟨Rb, 1, none⟩ = some (.slice (some ⟨Pb, 0, none⟩) n pc))
    (ca : w.cell? ⟨Pb, v * 2, none⟩ = some (.int .i64 (a : Int))) (ce : w.cell? ⟨Pb, v * 2 + 1, none⟩ = some (.int .i64 (-(j : Int) - 1))) (hv : v < n) (ho : w.cell? ⟨Ob, j, none⟩ = some (.string ⟨k.toArray⟩)) (hj : j < ol) (hol : ol ≤ 1000000) :
    Calls Ybad.prog 14 #[.pointer (some ⟨Rb, 0, none⟩), .int .i64 (v : Int)] w fun e w' => e = .returned (.string ⟨k.toArray⟩) ∧ Below w.heap.size w w' := by
  have i1 : (0 : Int) ≤ (v : Int) := by omega
  have i2 : (v : Int) < (n : Int) := by omega
  have i3 : -(j : Int) - 1 < 0 := by omega
  have i4 : (-1 : Int) - (-(j : Int) - 1) = (j : Int) := by omega
  have i5 : (0 : Int) ≤ (j : Int) := by omega
  have i6 : (j : Int) < (ol : Int) := by omega
  have i7 : (j : Int) ≤ 9223372036854775807 := by omega
  clear hv hj hol
  go_enter Ybad.func14, Ybad.ntmps14
  go_wp2
  go_region
  go_wp2
  go_ret
  exact ⟨rfl, ((Below.refl w.heap.size w).alloc (Nat.le_refl _) _).drew⟩

theorem info79 : (Ybad.prog.info? 79).map (fun i => (i.zero, i.size, i.bytes)) = some (some (.agg #[.int .i64 0, .int .i64 0, .int .i64 0, .string ⟨#[]⟩, .string ⟨#[]⟩]), 5, 56) := by kernel_rfl

/-- The row lies, and below B nothing has turned. -/
structure RowB (B N : Nat) (pv : Value) (xs : List Value) (w w' : World) : Prop where
  row : w'.ownsRow B 79 5 pv N xs
  bel : Below B w w'
  le : B ≤ w'.heap.size
theorem cell_alloc {w : World} {C : Nat} {v : Value} (h : w.cell? ⟨C, 2, none⟩ = some v) (hC : C < w.heap.size) (o : Obj) : (w.alloc o).cell? ⟨C, 2, none⟩ = some v := (World.cell?_of_block (heap_alloc_lt _ _ hC)).trans h
theorem frozen_alloc {w : World} {C : Nat} (h : w.frozen? ⟨C, 2, none⟩ = false) (hC : C < w.heap.size) (o : Obj) : (w.alloc o).frozen? ⟨C, 2, none⟩ = false := (World.frozen?_of_block (heap_alloc_lt _ _ hC)).trans h
theorem RowB.drew {B N : Nat} {pv : Value} {xs : List Value} {w w' : World} (h : RowB B N pv xs w w') : RowB B N pv xs w w'.drew := ⟨h.row, h.bel.drew, h.le⟩
theorem RowB.alloc {B N : Nat} {pv : Value} {xs : List Value} {w w' : World} (h : RowB B N pv xs w w') (o : Obj) : RowB B N pv xs w (w'.alloc o) := ⟨own_alloc h.row _, h.bel.alloc h.le _, by have := h.le; simp; omega⟩
theorem RowB.later {B N : Nat} {pv : Value} {xs : List Value} {w w' w2 : World} (h : RowB B N pv xs w w') (hb : Below w'.heap.size w' w2) : RowB B N pv xs w w2 := ⟨ownsRow_kept h.row (fun k hk => hb.block k (own_ge h.row hk).2), h.bel.trans (hb.mono h.le), by have := h.le; have := hb.size; omega⟩
theorem RowB.start {B N : Nat} {pv : Value} {xs : List Value} {w : World} (h : w.ownsRow B 79 5 pv N xs) (hB : B ≤ w.heap.size) : RowB B N pv xs w w.drew := ⟨h, (Below.refl _ _).drew, hB⟩

/-- A call of a Go function at a step of a region that draws. -/
theorem step_call {P : Program} {ops : Array Oper} {o : Oper} {a : Act} {w : World} {K : Act → World → Prop} {Q : Exit → Act → World → Prop} {E : Prop} (hgd : o.guard = none) (f : FuncId) (args : Array Value) (hex : (execOp a.eval o).run P w = .ok (.enter f args) w)
    (hc : Calls P f args w fun e w' => ∃ v, e = .returned v ∧ K (a.put o.dst v) w') : if Region.wanted o (yielded ops a.tmps) = true then Oper.wp P o a w K Q else E := by
  have hw : Region.wanted o (yielded ops a.tmps) = true := by simp [Region.wanted, hgd]
  rw [if_pos hw]
  unfold Oper.wp
  rw [hex, Oper.upon_enter]
  refine hc.mono ?_
  rintro e w' ⟨v, rfl, h⟩
  exact h

/-- A problem's five cells. -/
def probCells (a : Nat) (m : List UInt8) : List Value := [.int .i64 (a : Int), .int .i64 0, .int .i64 0, .string ⟨#[99, 121, 99, 108, 101]⟩, .string ⟨m.toArray⟩]

set_option maxHeartbeats 2000000 in
set_option maxRecDepth 100000 in
theorem add_any (C B N a : Nat) (m : List UInt8) (pv : Value) (xs : List Value) (w : World) (hC : C < B) (hB : B ≤ w.heap.size) (c2 : w.cell? ⟨C, 2, none⟩ = some pv) (f2 : w.frozen? ⟨C, 2, none⟩ = false) (hown : w.ownsRow B 79 5 pv N xs) (hN : N ≤ 100000) :
    Calls Ybad.prog 16 #[.pointer (some ⟨C, 1, none⟩), .int .i64 (a : Int), .string ⟨#[99, 121, 99, 108, 101]⟩, .string ⟨m.toArray⟩] w fun e w' => e = .returned (.tuple #[]) ∧ ∃ pv' w1, w' = w1.setCell ⟨C, 2, none⟩ pv' ∧ w'.ownsRow B 79 5 pv' (N + 1) (xs ++ probCells a m) ∧ Below B w w1 := by
  obtain ⟨i79, hi79, hz79, hs79, hy79⟩ := info_parts info79
  have cP := fun w' => problem_any (.pointer (some ⟨C, 1, none⟩)) (a : Int) ⟨#[99, 121, 99, 108, 101]⟩ ⟨m.toArray⟩ w'
  go_enter Ybad.func16, Ybad.ntmps16
  go_wp2
  have hCw : C < w.heap.size := by omega
  go_region_law (first | (refine step_call rfl 26 #[.pointer (some ⟨C, 1, none⟩), .int .i64 (a : Int), .string ⟨#[99, 121, 99, 108, 101]⟩, .string ⟨m.toArray⟩] ?_ ((cP _).mono ?_); (first | rfl | go_simp); rintro e w2 ⟨rfl, hb2⟩; refine ⟨_, rfl, ?_⟩; have c2' : w2.cell? ⟨C, 2, none⟩ = some pv := (hb2.cell (p := ⟨C, 2, none⟩) hCw).trans c2; have f2' : w2.frozen? ⟨C, 2, none⟩ = false := (hb2.frozen (p := ⟨C, 2, none⟩) hCw).trans f2; have hs2 : w.heap.size ≤ w2.heap.size := hb2.size; have hC2 : C < w2.heap.size := (by omega); have hr2 : RowB B N pv xs w w2 := (RowB.start hown hB).later hb2) | (refine step_append_lies _ (by rfl) _ _ _ (by rfl) B 79 i79 _ 5 56 Ybad.underlying59 hi79 hz79 hs79 hy79 rfl (by omega) pv N xs (by rfl) (own_alloc hr2.row _) ⟨w2.heap.size, 0, none⟩ 1 1 (probCells a m) (by rfl) (by rfl) (World.news_of_block (cs := (probCells a m).toArray) (t := 79) (fr := (0, 0)) (heap_alloc_at _ _ rfl)) (by simp [Value.oneCell', probCells]) (by omega) (by unfold maxLen; omega) (by omega) (by simp; omega) (w2.heap.size + 1) (by simp) ?_; intro gp capp w4 hown4 hgr4 hat4 hgl4; have c4 : w4.cell? ⟨C, 2, none⟩ = some pv := (World.cell?_of_block (hgr4.block C (by simp; omega) (fun e => by have := (own_ge hown e.symm).1; omega))).trans ((World.cell?_of_block (heap_alloc_lt _ _ (by show C < _; omega))).trans c2'); have f4 : w4.frozen? ⟨C, 2, none⟩ = false := (World.frozen?_of_block (hgr4.block C (by simp; omega) (fun e => by have := (own_ge hown e.symm).1; omega))).trans ((World.frozen?_of_block (heap_alloc_lt _ _ (by show C < _; omega))).trans f2')))
  all_goals
    go_end0
    exact ⟨rfl, _, w4, rfl, ownsRow_kept hown4 (fun k hk => heap_set_ne _ _ (by have := (own_ge hown4 hk).1; omega)), below_grown (hr2.bel.alloc hr2.le _) (own_alloc hr2.row _) (by have := hr2.le; simp; omega) hgr4⟩
end Go.Proofs.YbulkeiwwDoor
