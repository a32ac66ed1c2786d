/-
  The contract of (*clientConn).requestBy.
-/
import Derived.Test.YbulkeiymMySet
import Derived.Deep.RegionWith
import Derived.Deep.DrawnRows
namespace Go.Proofs.Ybulkeiym
open Go.RowKit Go.MuLone
attribute [local go_sem ↓] Go.wp_at_zero Go.wp_at_succ
attribute [local go_sem] Go.undef
set_option linter.unusedVariables false

theorem method_set (a : Addr) (w : World) : (method 208 28 (.pointer (some a)) "SetReadDeadline").run Yba.prog w = .ok (56, .pointer (some a)) w := by kernel_rfl

/-- What requestBy leaves: the field 'by' and the log have turned; all else below is as it was. -/
structure Req (w w' : World) (bC bS : Nat) (tn td : Int) (lg : Value) : Prop where
  os : w'.os = w.os
  tape : w'.tape = w.tape
  output : w'.output = w.output
  size : w.heap.size ≤ w'.heap.size
  c12 : w'.cell? ⟨bC, 12, none⟩ = some (.int .u64 tn)
  c13 : w'.cell? ⟨bC, 13, none⟩ = some (.int .i64 td)
  c14 : w'.cell? ⟨bC, 14, none⟩ = some (.pointer none)
  c16 : w'.cell? ⟨bS, 16, none⟩ = some lg
  rest : ∀ b o, b < w.heap.size → ¬ (b = bC ∧ 12 ≤ o ∧ o ≤ 14) → ¬ (b = bS ∧ o = 16) → w'.cell? ⟨b, o, none⟩ = w.cell? ⟨b, o, none⟩
  frz : ∀ b o, b < w.heap.size → w'.frozen? ⟨b, o, none⟩ = w.frozen? ⟨b, o, none⟩
  block : ∀ b, b < w.heap.size → b ≠ bC → b ≠ bS → w'.heap[b]? = w.heap[b]?

/-- The world behind the lock and 'c.by = t'. -/
abbrev W0 (w : World) (bC : Nat) (tn td : Int) : World := ((((w.setCell ⟨bC, 7, none⟩ (.int .i32 1)).setCell ⟨bC, 12, none⟩ (.int .u64 tn)).setCell ⟨bC, 13, none⟩ (.int .i64 td)).setCell ⟨bC, 14, none⟩ (.pointer none)).alloc (.cells (tm tn td) 25)

/-- Of the world behind the lock and the store. -/
structure Mid (w w' : World) (bC bS : Nat) (tn td : Int) : Prop where
  os : w'.os = w.os
  tape : w'.tape = w.tape
  output : w'.output = w.output
  size : w.heap.size + 1 = w'.heap.size
  c7 : w'.cell? ⟨bC, 7, none⟩ = some (.int .i32 1)
  c12 : w'.cell? ⟨bC, 12, none⟩ = some (.int .u64 tn)
  c13 : w'.cell? ⟨bC, 13, none⟩ = some (.int .i64 td)
  c14 : w'.cell? ⟨bC, 14, none⟩ = some (.pointer none)
  rest : ∀ b o, b < w.heap.size → ¬ (b = bC ∧ 12 ≤ o ∧ o ≤ 14) → ¬ (b = bC ∧ o = 7) → w'.cell? ⟨b, o, none⟩ = w.cell? ⟨b, o, none⟩
  frz : ∀ b o, b < w.heap.size → w'.frozen? ⟨b, o, none⟩ = w.frozen? ⟨b, o, none⟩
  block : ∀ b, b < w.heap.size → b ≠ bC → w'.heap[b]? = w.heap[b]?

theorem cell_alloc_lt (w : World) (o : Obj) {b i : Nat} (h : b < w.heap.size) : (w.alloc o).cell? ⟨b, i, none⟩ = w.cell? ⟨b, i, none⟩ :=
  ((Below.refl w.heap.size w).alloc (Nat.le_refl _) o).cell (p := ⟨b, i, none⟩) h
theorem frozen_alloc_lt (w : World) (o : Obj) {b i : Nat} (h : b < w.heap.size) : (w.alloc o).frozen? ⟨b, i, none⟩ = w.frozen? ⟨b, i, none⟩ :=
  ((Below.refl w.heap.size w).alloc (Nat.le_refl _) o).frozen (p := ⟨b, i, none⟩) h

theorem mid_mk (w : World) (bC bS : Nat) (tn td : Int) (x12 x13 x14 : Value) (hlt : bC < w.heap.size)
    (h7 : w.cell? ⟨bC, 7, none⟩ = some (.int .i32 0)) (h12 : w.cell? ⟨bC, 12, none⟩ = some x12) (h13 : w.cell? ⟨bC, 13, none⟩ = some x13) (h14 : w.cell? ⟨bC, 14, none⟩ = some x14) : Mid w (W0 w bC tn td) bC bS tn td := by
  refine ⟨rfl, rfl, rfl, by simp, ?_, ?_, ?_, ?_, fun b o hb h1 h2 => ?_, fun b o hb => ?_, fun b hb hne => ?_⟩
  · rw [cell_alloc_lt _ _ (by simpa using hlt), World.cell?_setCell_other _ _ _ _ (by simp), World.cell?_setCell_other _ _ _ _ (by simp), World.cell?_setCell_other _ _ _ _ (by simp), World.cell?_setCell_same _ _ _ h7]
  · rw [cell_alloc_lt _ _ (by simpa using hlt), World.cell?_setCell_other _ _ _ _ (by simp), World.cell?_setCell_other _ _ _ _ (by simp), World.cell?_setCell_same _ _ _ ((World.cell?_setCell_other _ _ _ _ (by simp)).trans h12)]
  · rw [cell_alloc_lt _ _ (by simpa using hlt), World.cell?_setCell_other _ _ _ _ (by simp), World.cell?_setCell_same _ _ _ ((World.cell?_setCell_other _ _ _ _ (by simp)).trans ((World.cell?_setCell_other _ _ _ _ (by simp)).trans h13))]
  · rw [cell_alloc_lt _ _ (by simpa using hlt), World.cell?_setCell_same _ _ _ ((World.cell?_setCell_other _ _ _ _ (by simp)).trans ((World.cell?_setCell_other _ _ _ _ (by simp)).trans ((World.cell?_setCell_other _ _ _ _ (by simp)).trans h14)))]
  · rw [cell_alloc_lt _ _ (by simpa using hb)]
    rw [World.cell?_setCell_other _ _ _ _ (by simp; omega), World.cell?_setCell_other _ _ _ _ (by simp; omega), World.cell?_setCell_other _ _ _ _ (by simp; omega), World.cell?_setCell_other _ _ _ _ (by simp; omega)]
  · rw [frozen_alloc_lt _ _ (by simpa using hb)]; simp
  · rw [Below.heap_alloc _ _ _ (by simpa using hb), Below.heap_setCell _ _ _ _ (by simpa using hne), Below.heap_setCell _ _ _ _ (by simpa using hne), Below.heap_setCell _ _ _ _ (by simpa using hne), Below.heap_setCell _ _ _ _ (by simpa using hne)]

theorem req_begun {w w0 : World} {bC bS : Nat} {tn td : Int} {lg : Value} (hm : Mid w w0 bC bS tn td) (hlt : bC < w.heap.size) (hls : bS < w.heap.size) (hne : bS ≠ bC) (h7 : w.cell? ⟨bC, 7, none⟩ = some (.int .i32 0)) (h16 : w.cell? ⟨bS, 16, none⟩ = some lg) :
    Req w (w0.setCell ⟨bC, 7, none⟩ (.int .i32 0)) bC bS tn td lg := by
  refine ⟨hm.os, hm.tape, hm.output, by simp; have := hm.size; omega, ?_, ?_, ?_, ?_, fun b o hb h1 h2 => ?_, fun b o hb => ?_, fun b hb h1 h2 => ?_⟩
  · rw [World.cell?_setCell_other _ _ _ _ (by simp)]; exact hm.c12
  · rw [World.cell?_setCell_other _ _ _ _ (by simp)]; exact hm.c13
  · rw [World.cell?_setCell_other _ _ _ _ (by simp)]; exact hm.c14
  · rw [World.cell?_setCell_other _ _ _ _ (by simp), hm.rest bS 16 hls (by omega) (by omega)]; exact h16
  · by_cases e : b = bC ∧ o = 7
    · obtain ⟨rfl, rfl⟩ := e
      rw [World.cell?_setCell_same _ _ _ hm.c7, h7]
    · rw [World.cell?_setCell_other _ _ _ _ (by simp; omega)]; exact hm.rest b o hb h1 e
  · rw [World.frozen?_setCell]; exact hm.frz b o hb
  · rw [Below.heap_setCell _ _ _ _ (by simpa using h1)]; exact hm.block b hb h1

set_option maxHeartbeats 1000000 in
set_option maxRecDepth 100000 in
theorem request_begun (bC bS : Nat) (tn td : Int) (lg x12 x13 x14 : Value) (w : World) (hlt : bC < w.heap.size) (hls : bS < w.heap.size) (hne : bS ≠ bC)
    (h7 : w.cell? ⟨bC, 7, none⟩ = some (.int .i32 0)) (h12 : w.cell? ⟨bC, 12, none⟩ = some x12) (h13 : w.cell? ⟨bC, 13, none⟩ = some x13) (h14 : w.cell? ⟨bC, 14, none⟩ = some x14) (h15 : w.cell? ⟨bC, 15, none⟩ = some (.bool true))
    (hf : ∀ o, w.frozen? ⟨bC, o, none⟩ = false) (h16 : w.cell? ⟨bS, 16, none⟩ = some lg) :
    Calls Yba.prog 5 #[.pointer (some ⟨bC, 0, none⟩), .agg (tm tn td)] w fun e w' => e = .returned (.tuple #[]) ∧ Req w w' bC bS tn td lg := by
  have hn : ¬ bC = w.heap.size := by omega
  have f7 := hf 7
  have f12 := hf 12
  have f13 := hf 13
  have f14 := hf 14
  have hm := mid_mk w bC bS tn td x12 x13 x14 hlt h7 h12 h13 h14
  have hr := req_begun hm hlt hls hne h7 h16
  have f7' : (W0 w bC tn td).frozen? ⟨bC, 7, none⟩ = false := (hm.frz bC 7 hlt).trans f7
  have c7' := hm.c7
  clear hf hm
  have Hr : Hid (Req w ((W0 w bC tn td).setCell ⟨bC, 7, none⟩ (.int .i32 0)) bC bS tn td lg) := hr
  have Hf : Hid ((W0 w bC tn td).frozen? ⟨bC, 7, none⟩ = false) := f7'
  have Hc : Hid ((W0 w bC tn td).cell? ⟨bC, 7, none⟩ = some (.int .i32 1)) := c7'
  clear hr f7' c7' h16
  go_enter_defers Yba.func5, Yba.ntmps5
  go_wp2_with fail
  refine (lock_free muLib ⟨bC, 7, none⟩ _ (by go_simp) (by go_simp)).mono ?_
  rintro e w' ⟨rfl, rfl⟩
  go_wp2
  refine leaves_cons (f := 9) (args := #[.pointer (some ⟨bC, 7, none⟩)]) (by simp) (by simp [go_sem]) ?_
  refine (unlock_deferred muLib ⟨bC, 7, none⟩ .returning _ Hc.out Hf.out).mono ?_
  rintro e u' w'' ⟨rfl, rfl, rfl⟩
  exact ⟨_, results_none rfl _ _ _, rfl, Hr.out⟩

end Go.Proofs.Ybulkeiym
