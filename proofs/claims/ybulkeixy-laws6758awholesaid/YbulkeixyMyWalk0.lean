/-
  The walk of LawS6758AWhole at a slice of no elements, at a nil slice, at a slice that is too long.
-/
import Derived.Test.YbulkeixyMyWalk
namespace Go.Proofs.Ybulkeixy
open Go.RowKit Go.ChangeMaps

theorem law_big (id : Int) (owner sec : ByteArray) (ao : Option Addr) (len cap : Nat) (w : World) (hlen : 1048576 < len) :
    Calls Yba.prog 3 #[.int .u64 id, .string owner, .string sec, .slice ao len cap] w fun e w' => e = .returned (.bool true) ∧ Below w.heap.size w w' := by
  go_enter Yba.func3, Yba.ntmps3
  go_wp2
  go_ret
  exact ⟨rfl, Below.refl _ _⟩

theorem hasPending_nil (sec : ByteArray) (w : World) (id : Int) (owner : ByteArray) :
    Calls Yba.prog 5 #[.agg (fileV id owner (.slice none 0 0)), .string sec] w fun e w' =>
      e = .returned (.bool false) ∧ Below w.heap.size w w' := by
  go_enter Yba.func5, Yba.ntmps5
  go_wp2
  refine wp_loop_rounds 1 ?_
  rw [rounds_succ]
  go_wp2
  go_ret
  exact ⟨rfl, (Below.refl _ _).alloc (Nat.le_refl _) _⟩

set_option maxRecDepth 100000 in
set_option maxHeartbeats 1000000 in
theorem law_nil (id : Int) (owner sec : ByteArray) (w : World) :
    Calls Yba.prog 3 #[.int .u64 id, .string owner, .string sec, .slice none 0 0] w fun e w' => e = .returned (.bool true) ∧ Below w.heap.size w w' := by
  have hn1 := fun w a n c => run_neq_slice_nil_any (P := Yba.prog) w 23 26 a n c 0 0 Yba.underlying23
  have hn2 := fun w a n c => run_neq_slice_nil_any (P := Yba.prog) w 24 29 a n c 0 0 Yba.underlying24
  have hn3 := fun w a n c => Lib.run_eql_slice_nil (P := Yba.prog) w 24 29 a n c 0 0 Yba.underlying24
  have hld : (w.alloc (.cells (fileV id owner (.slice none 0 0)) 33)).heap[w.heap.size]? = some (.cells (fileV id owner (.slice none 0 0)) 33) := heap_alloc_at _ _ rfl
  go_enter Yba.func3, Yba.ntmps3
  go_wp2
  refine wp_loop_rounds 1 ?_
  rw [rounds_succ]
  go_wp2_with (first | (refine wpList_store_new rfl 33 33 (.tmp 13) (.tmp 88) rfl w.heap.size rfl _ (fileV id owner (.slice none 0 0)) (by rfl) (by rfl) (by rfl) size33 (file_one _ _ _ _ _) ?_) | (refine wpList_load_row rfl 33 (.tmp 13) rfl w.heap.size (by rfl) 33 _ (0, 0) _ hld Yba.underlying33 rfl size33 ?_))
  refine (hasPending_nil sec _ id owner).mono ?_
  rintro e w4 ⟨rfl, hb4⟩
  have hB4 := ((Below.refl w.heap.size w).alloc (Nat.le_refl _) (.cells (fileV id owner (.slice none 0 0)) 33)).trans (hb4.mono (by simp))
  clear hb4
  go_wp2
  refine wp_loop_rounds 1 ?_
  rw [rounds_succ]
  go_wp2
  refine wp_loop_rounds 1 ?_
  rw [rounds_succ]
  go_wp2
  go_ret
  exact ⟨rfl, hB4⟩

set_option maxRecDepth 100000 in
set_option maxHeartbeats 1000000 in
theorem law_empty (id : Int) (owner sec : ByteArray) (a : Addr) (cap : Nat) (w : World) :
    Calls Yba.prog 3 #[.int .u64 id, .string owner, .string sec, .slice (some a) 0 cap] w fun e w' => e = .returned (.bool true) ∧ Below w.heap.size w w' := by
  have hn1 := fun w a n c => run_neq_slice_nil_any (P := Yba.prog) w 23 26 a n c 0 0 Yba.underlying23
  have hn2 := fun w a n c => run_neq_slice_nil_any (P := Yba.prog) w 24 29 a n c 0 0 Yba.underlying24
  have hn3 := fun w a n c => Lib.run_eql_slice_nil (P := Yba.prog) w 24 29 a n c 0 0 Yba.underlying24
  have hmk : ∀ w : World, (Instr.makeSlice 24 (.int .i64 0) (.int .i64 0)).run Yba.prog w = .ok (.slice (some ⟨w.heap.size, 0, none⟩) 0 0) (w.alloc (.cells #[] 29)) := fun w => by
    have := make29 w 0 (by omega)
    have e : madeCells #[.string ⟨#[]⟩, .string ⟨#[]⟩, .int .u64 0, .string ⟨#[]⟩, .int .u64 0] (0 * 5) = #[] := Array.eq_empty_of_size_eq_zero (by rw [size_madeCells])
    rw [e] at this
    exact this
  have hcp : ∀ ty, (Builtin.copy_ #[24, 24] ty #[.slice (some ⟨w.heap.size + 1, 0, none⟩) 0 0, .slice (some ⟨w.heap.size, 0, none⟩) 0 0]).run Yba.prog ((w.alloc (.cells #[] 29)).alloc (.cells #[] 29)) = .ok (.int .i64 0) (setBlock ((w.alloc (.cells #[] 29)).alloc (.cells #[] 29)) (w.heap.size + 1) (.cells #[] 29)) := fun ty => by
    have := run_copy_al ((w.alloc (.cells #[] 29)).alloc (.cells #[] 29)) ty w.heap.size (w.heap.size + 1) 0 0 0 #[] #[] ((heap_alloc_lt _ _ (by simp)).trans (heap_alloc_at _ _ rfl)) (heap_alloc_at _ _ (by simp)) rfl rfl (by simp)
    simpa using this
  have hB2 : Below w.heap.size w (setBlock ((w.alloc (.cells #[] 29)).alloc (.cells #[] 29)) (w.heap.size + 1) (.cells #[] 29)) := below_setBlock (((Below.refl _ _).alloc (Nat.le_refl _) _).alloc (by simp) _) (by omega) _
  have hs2 : (setBlock ((w.alloc (.cells #[] 29)).alloc (.cells #[] 29)) (w.heap.size + 1) (.cells #[] 29)).heap.size = w.heap.size + 2 := by rw [size_setBlock]; simp
  generalize setBlock ((w.alloc (.cells #[] 29)).alloc (.cells #[] 29)) (w.heap.size + 1) (.cells #[] 29) = w2 at hcp hB2 hs2
  have hld : (w2.alloc (.cells (fileV id owner (.slice (some ⟨w.heap.size, 0, none⟩) 0 0)) 33)).heap[w.heap.size + 2]? = some (.cells (fileV id owner (.slice (some ⟨w.heap.size, 0, none⟩) 0 0)) 33) := heap_alloc_at _ _ hs2.symm
  have hB3 : Below w.heap.size w (w2.alloc (.cells (fileV id owner (.slice (some ⟨w.heap.size, 0, none⟩) 0 0)) 33)) := hB2.alloc (by omega) _
  go_enter Yba.func3, Yba.ntmps3
  go_wp2
  refine wp_loop_rounds 1 ?_
  rw [rounds_succ]
  go_wp2_with (first | (refine wpList_store_new rfl 33 33 (.tmp 13) (.tmp 88) rfl (w.heap.size + 2) hs2.symm _ (fileV id owner (.slice (some ⟨w.heap.size, 0, none⟩) 0 0)) (by rfl) (by rfl) (by rfl) size33 (file_one _ _ _ _ _) ?_) | (refine wpList_load_row rfl 33 (.tmp 13) rfl (w.heap.size + 2) (by rfl) 33 _ (0, 0) _ hld Yba.underlying33 rfl size33 ?_))
  refine (hasPending_any w.heap.size 0 (fun _ => ⟨#[]⟩) (fun _ => ⟨#[]⟩) (fun _ => ⟨#[]⟩) (fun _ => 0) (fun _ => 0) sec _ id owner (by simp; omega) (by omega) (fun j hj => absurd hj (by omega)) (fun j hj => absurd hj (by omega)) (fun j hj => absurd hj (by omega)) (fun j hj => absurd hj (by omega)) (fun j hj => absurd hj (by omega))).mono ?_
  rintro e w4 ⟨rfl, hb4⟩
  have hB4 := hB3.trans (hb4.mono (by simp; omega))
  have e0 : ((List.range 0).any (hit (fun _ => ⟨#[]⟩) (fun _ => ⟨#[]⟩) sec)) = false := rfl
  rw [e0]
  clear hb4 hB3 hB2 hld hcp hmk e0
  go_wp2
  refine wp_loop_rounds 1 ?_
  rw [rounds_succ]
  go_wp2
  refine wp_loop_rounds 1 ?_
  rw [rounds_succ]
  go_wp2
  go_ret
  exact ⟨rfl, hB4⟩

end Go.Proofs.Ybulkeixy
