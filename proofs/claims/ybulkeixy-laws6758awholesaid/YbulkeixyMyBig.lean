/-
  A whole struct of many cells stored into a variable that is new: one law, no unrolling.
-/
import Derived.Test.YbulkeixyMyParts
import Derived.Laws.Rows
import Derived.Deep.MidRow
namespace Go.Proofs.Ybulkeixy
open Go.RowKit Go.ChangeMaps

theorem setBlock_alloc (w : World) (o o' : Obj) : setBlock (w.alloc o) w.heap.size o' = w.alloc o' := by
  refine world_ext ?_ rfl rfl rfl rfl
  apply Array.ext_getElem?
  intro i
  by_cases e : i = w.heap.size
  · subst e
    rw [heap_setBlock_at _ (by simp), heap_alloc_at _ _ rfl]
  · rw [heap_setBlock_ne _ e]
    by_cases h : i < w.heap.size
    · rw [heap_alloc_lt _ _ h, heap_alloc_lt _ _ h]
    · rw [Array.getElem?_eq_none (by simp; omega), Array.getElem?_eq_none (by simp; omega)]

theorem run_storeVar_new {P : Program} (w : World) (t ty : TypeId) (zs cells : Array Value) (hz : zs.size = cells.size) (hi : (P.info? ty).map (·.size) = some cells.size) (h1 : ∀ v ∈ cells.toList, v.oneCell' = true) :
    (storeVar ty ⟨w.heap.size, 0, none⟩ (.agg cells)).run P (w.alloc (.cells zs t)) = .ok () (w.alloc (.cells cells t)) := by
  have hst := run_storeCells_at P w.heap.size 0 t cells.toList 0 zs (w.alloc (.cells zs t)) (heap_alloc_at _ _ rfl) (by simp; omega) h1
  rw [setRow_cells (heap_alloc_at _ _ rfl), setBlock_alloc] at hst
  have e : (zs.toList.take (0 + 0) ++ cells.toList ++ zs.toList.drop (0 + 0 + cells.toList.length)).toArray = cells := by
    rw [List.drop_eq_nil_of_le (by simp; omega)]
    simp
  rw [e] at hst
  cases hq : P.info? ty with
  | none => simp [hq] at hi
  | some i =>
    have hs : cells.size = i.size := by simp [hq] at hi; omega
    simp [storeVar, sizeOf, typeInfo, hq, Value.cells, hs, hst]

theorem wpList_store_new {P : Program} {ops : Array Oper} {rest : List Oper} {op : Oper} {a : Act} {w : World} {Q : Exit → Act → World → Prop} (hgd : op.guard = none) (ty t : TypeId) (x y : Operand) (ho : op.op = .store ty x y)
    (g : Nat) (hg : g = w.heap.size) (zs cells : Array Value) (hx : a.eval x = .pointer (some ⟨g, 0, none⟩)) (hy : a.eval y = .agg cells)
    (hz : zs.size = cells.size) (hi : (P.info? ty).map (·.size) = some cells.size) (h1 : ∀ v ∈ cells.toList, v.oneCell' = true)
    (h : wpList P ops Q rest (a.put op.dst undef) (w.alloc (.cells cells t))) : wpList P ops Q (op :: rest) a (w.alloc (.cells zs t)) := by
  subst hg
  refine wpList_plain hgd fun _ hK => ?_
  unfold Oper.wp execOp
  simp only [ho, hx, hy, Instr.storeAt, Instr.sureAddr, Sem.run_bind, Sem.run_pure, Result.andThen_ok, run_storeVar_new w t ty zs cells hz hi h1]
  exact hK _ _ h

theorem file_one (id : Int) (owner : ByteArray) (a : Option Addr) (n c : Nat) : ∀ v ∈ (fileV id owner (.slice a n c)).toList, v.oneCell' = true := by
  intro v hv
  have h : (fileV id owner (.slice a n c)).toList.all (·.oneCell') = true := by simp [Value.oneCell']
  exact List.all_eq_true.1 h v hv

theorem size33 : (Yba.prog.info? 33).map (·.size) = some 44 := by kernel_rfl

/-! ### the second loop's ways -/
theorem hit_of {S T Se Rw : Nat → ByteArray} {Sm : Nat → Bool} {St : Nat → Int} {sec : ByteArray} {j : Nat} (hS : Hid (S j = if Sm j then sec else Se j)) (hT : Hid (T j = stF (St j) (Rw j))) :
    hit S T sec j = ((Sm j || ((Se j).toList == sec.toList)) && (decide (St j % 7 = 0) || (decide (St j % 7 = 5) && ((Rw j).toList == [112, 101, 110, 100, 105, 110, 103])))) := by
  have hS := hS.out
  have hT := hT.out
  unfold hit
  congr 1
  · rw [hS]
    cases Sm j
    · simp only [Bool.false_eq_true, if_false, Bool.false_or]
      rw [Bool.eq_iff_iff]; simp
    · simp
  · rw [hT]
    unfold stF
    by_cases h0 : St j % 7 = 0
    · simp [h0, ByteArray.toList_eq]
    · by_cases h5 : St j % 7 = 5
      · simp [h5]
      · simp only [h0, h5, if_false, decide_false, Bool.false_or, Bool.false_and]
        by_cases h1 : St j % 7 = 1
        · simp [h1, ByteArray.toList_eq]
        · by_cases h2 : St j % 7 = 2
          · simp [h2, ByteArray.toList_eq]
          · by_cases h3 : St j % 7 = 3
            · simp [h3, ByteArray.toList_eq]
            · by_cases h4 : St j % 7 = 4
              · simp [h4, ByteArray.toList_eq]
              · simp [h1, h2, h3, h4, ByteArray.toList_eq]

section
variable {S T Se Rw : Nat → ByteArray} {Sm : Nat → Bool} {St : Nat → Int} {sec : ByteArray} {j : Nat} {q : Bool}

theorem way_t1 (hS : Hid (S j = if Sm j then sec else Se j)) (hT : Hid (T j = stF (St j) (Rw j))) (h1 : St j % 7 = 0) (h2 : Sm j = true) : true = (hit S T sec j || q) := by
  have := hit_of (sec := sec) hS hT; rw [this]; simp [h1, h2]
theorem way_t2 (hS : Hid (S j = if Sm j then sec else Se j)) (hT : Hid (T j = stF (St j) (Rw j))) (h1 : St j % 7 = 0) (h2 : ((Se j).toList == sec.toList) = true) : true = (hit S T sec j || q) := by
  have := hit_of (sec := sec) hS hT; rw [this]; simp [h1, h2]
theorem way_t3 (hS : Hid (S j = if Sm j then sec else Se j)) (hT : Hid (T j = stF (St j) (Rw j))) (h1 : St j % 7 = 5) (h2 : (Rw j).toList = [112, 101, 110, 100, 105, 110, 103]) (h3 : Sm j = true) : true = (hit S T sec j || q) := by
  have := hit_of (sec := sec) hS hT; rw [this]; simp [h1, h2, h3]
theorem way_t4 (hS : Hid (S j = if Sm j then sec else Se j)) (hT : Hid (T j = stF (St j) (Rw j))) (h1 : St j % 7 = 5) (h2 : (Rw j).toList = [112, 101, 110, 100, 105, 110, 103]) (h3 : ((Se j).toList == sec.toList) = true) : true = (hit S T sec j || q) := by
  have := hit_of (sec := sec) hS hT; rw [this]; simp [h1, h2, h3]
theorem way_f1 (hS : Hid (S j = if Sm j then sec else Se j)) (hT : Hid (T j = stF (St j) (Rw j))) (h1 : ¬Sm j = true) (h2 : ((Se j).toList == sec.toList) = false) : q = (hit S T sec j || q) := by
  have := hit_of (sec := sec) hS hT; rw [this]; simp [h1, h2]
theorem way_f2 (hS : Hid (S j = if Sm j then sec else Se j)) (hT : Hid (T j = stF (St j) (Rw j))) (h1 : ¬St j % 7 = 0) (h2 : ¬(Rw j).toList = [112, 101, 110, 100, 105, 110, 103]) : q = (hit S T sec j || q) := by
  have := hit_of (sec := sec) hS hT; rw [this]; simp [h1, h2]
theorem way_f3 (hS : Hid (S j = if Sm j then sec else Se j)) (hT : Hid (T j = stF (St j) (Rw j))) (h1 : ¬St j % 7 = 0) (h2 : ¬St j % 7 = 5) : q = (hit S T sec j || q) := by
  have := hit_of (sec := sec) hS hT; rw [this]; simp [h1, h2]
end

theorem rel2 {f : Nat → Bool} {len j : Nat} {q q' : Bool} (hj : j < len) (hq : Hid (q = anyFrom f (j + 1) len)) (h : q' = (f j || q)) :
    ∃ q'' : Bool, Value.bool q' = .bool q'' ∧ ((∃ j1 : Nat, j1 < len ∧ Value.int .i64 ((j : Int) - 1) = .int .i64 j1 ∧ Hid (q'' = anyFrom f (j1 + 1) len)) ∨ (Value.int .i64 ((j : Int) - 1) = .int .i64 (-1) ∧ Hid (q'' = anyFrom f 0 len))) := by
  have hq' : q' = anyFrom f j len := by rw [h, hq.out, ← anyFrom_step f hj]
  refine ⟨q', rfl, ?_⟩
  by_cases h0 : j = 0
  · subst h0; exact Or.inr ⟨rfl, hq'⟩
  · refine Or.inl ⟨j - 1, by omega, by congr 1; omega, ?_⟩
    rw [show j - 1 + 1 = j by omega]
    exact hq'

end Go.Proofs.Ybulkeixy
