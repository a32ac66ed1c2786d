/-
  The stand-in's SetReadDeadline; the locks.
-/
import Derived.Test.YbulkeiymMyDeadline
import Derived.Deep.RegionLaw
import Derived.Deep.DrawnRows
import Derived.Deep.AppendLies
import Derived.OwnWalk
import Derived.Conc.MuLone
import Derived.Defers
namespace Go.Proofs.Ybulkeiym
open Go.RowKit
attribute [local go_sem ↓] Go.wp_at_zero Go.wp_at_succ

/-- The locks of this dump. -/
abbrev muLink : Go.Conc.Locks.MuLink := { lock := 15, unlock := 9, ilock := 20, iunlock := 19, lockSlow := 28, unlockSlow := 27, disable := 21, enable := 22, acquire := 24, relMerge := 25, cas32 := 23, add32 := 26, tMutex := 41, tIMutex := 39, tPMutex := 61, tPIMutex := 64, tPI32 := 66, tUP := 68, tNoCopy := 33, tU32 := 35 }
theorem muLib : Go.Conc.Locks.MuLib Yba.prog muLink :=
  ⟨Yba.func15, Yba.func9, Yba.func20, Yba.func19, Yba.func21, Yba.func22, Yba.func24, Yba.func25, Yba.func23, Yba.func26, Yba.underlying39, Yba.runUnderlying39, Yba.sizeOf39, Yba.isAgg39, Yba.zeroValue39, Yba.underlying41, Yba.runUnderlying41, Yba.sizeOf41, Yba.isAgg41, Yba.zeroValue41, Yba.underlying61, Yba.runUnderlying61, Yba.sizeOf61, Yba.isAgg61, Yba.zeroValue61, Yba.underlying64, Yba.runUnderlying64, Yba.sizeOf64, Yba.isAgg64, Yba.zeroValue64, Yba.underlying66, Yba.runUnderlying66, Yba.sizeOf66, Yba.isAgg66, Yba.zeroValue66, Yba.underlying68, Yba.runUnderlying68, Yba.sizeOf68, Yba.isAgg68, Yba.zeroValue68, Yba.underlying33, Yba.runUnderlying33, Yba.sizeOf33, Yba.isAgg33, Yba.zeroValue33, Yba.underlying21, Yba.runUnderlying21, Yba.sizeOf21, Yba.isAgg21, Yba.zeroValue21, (by kernel_rfl)⟩

theorem info25 : (Yba.prog.info? 25).map (fun i => (i.zero, i.size, i.bytes)) = some (some (.agg (tm 0 0)), 3, 24) := by kernel_rfl

/- SetReadDeadline of the stand-in: one entry more in an empty log. -/
theorem newsAt (w : World) (A B : Obj) : ((w.alloc A).alloc B).drew.heap[w.heap.size + 1]? = some B := by
  have := (MapKept.heap_alloc (w.alloc A) B).1
  rw [World.size_alloc] at this
  exact this
theorem belowAt {w w1 : World} {A B : Obj} (h : ((w.alloc A).alloc B).drew.grownBy w1 (Value.slice none 0 0).ownBlock) : Below w.heap.size w w1 :=
  ((((Below.refl w.heap.size w).alloc (Nat.le_refl _) A).alloc (by simp) B).drew).grown h (by simp; omega) (fun k hk => by cases hk)

theorem logAt {w1 : World} {B g cap : Nat} {ns ds : Int} (h : w1.ownsRow B 25 3 (.slice (some ⟨g, 0, none⟩) (0 + 1) cap) (0 + 1) ([] ++ [.int .u64 ns, .int .i64 ds, .pointer none])) :
    B ≤ g ∧ w1.cell? ⟨g, 0, none⟩ = some (.int .u64 ns) ∧ w1.cell? ⟨g, 1, none⟩ = some (.int .i64 ds) ∧ w1.cell? ⟨g, 2, none⟩ = some (.pointer none) := by
  refine ⟨?_, h.cellAt 0 (by omega), h.cellAt 1 (by omega), h.cellAt 2 (by omega)⟩
  obtain ⟨g', cap', e, hb, _⟩ := h.form (by omega)
  simp at e
  omega

set_option maxHeartbeats 1000000 in
set_option maxRecDepth 100000 in
theorem setRead_any (bS : Nat) (ns ds : Int) (w : World) (hlt : bS < w.heap.size) (hc : w.cell? ⟨bS, 16, none⟩ = some (.slice none 0 0)) (hf : w.frozen? ⟨bS, 16, none⟩ = false) :
    Calls Yba.prog 56 #[.pointer (some ⟨bS, 0, none⟩), .agg (tm ns ds)] w fun e w' => e = .returned .nilIface ∧
      ∃ g cap w1, w' = w1.setCell ⟨bS, 16, none⟩ (.slice (some ⟨g, 0, none⟩) 1 cap) ∧ Below w.heap.size w w1 ∧ w.heap.size ≤ g ∧ g < w1.heap.size ∧ w1.cell? ⟨g, 0, none⟩ = some (.int .u64 ns) ∧ w1.cell? ⟨g, 1, none⟩ = some (.int .i64 ds) ∧ w1.cell? ⟨g, 2, none⟩ = some (.pointer none) := by
  obtain ⟨i0, hi0, hz0, hz1, hz2⟩ := info_parts info25
  have hl1 : bS < w.heap.size + 1 := by omega
  have hl2 : bS < w.heap.size + 1 + 1 := by omega
  go_enter Yba.func56, Yba.ntmps56
  go_wp2
  go_region_law ((refine step_append_lies _ (by rfl) _ _ _ (by rfl) w.heap.size 25 i0 _ 3 24 Yba.underlying48 hi0 hz0 hz1 hz2 rfl (by omega) (.slice none 0 0) 0 [] (by rfl) (World.ownsRow_nil _ _ _ _) ⟨w.heap.size + 1, 0, none⟩ 1 1 [.int .u64 ns, .int .i64 ds, .pointer none] (by rfl) (by rfl) (World.news_of_block (cs := tm ns ds) (t := 25) (fr := (0, 0)) (newsAt w _ _)) (by simp [Value.oneCell']) (by omega) (by unfold maxLen; omega) (by omega) (by simp; omega) (w.heap.size + 2) (by simp) ?_; intro g cap w1 hown1 hgrow hat hgl; have hbel := belowAt hgrow; have hc1 := (hbel.cell (p := ⟨bS, 16, none⟩) hlt).trans hc; have hf1 := (hbel.frozen (p := ⟨bS, 16, none⟩) hlt).trans hf))
  all_goals
    go_wp2
    go_ret
    have hL := logAt hown1
    exact ⟨rfl, g, cap, w1, rfl, hbel, hL.1, hgl, hL.2⟩
end Go.Proofs.Ybulkeiym
