/-
  (*sync.Mutex).TryLock on a free lock.
-/
import Derived.Test.YbulkeiymMyReq2
namespace Go.Proofs.Ybulkeiym
open Go.RowKit Go.MuLone

set_option maxHeartbeats 800000 in
theorem itry_free (a : Addr) (w : World) (hc : w.cell? a = some (.int .i32 0)) (hz : w.frozen? a = false) :
    Calls Yba.prog 18 #[.pointer (some a)] w fun e w' => e = .returned (.bool true) ∧ w' = w.setCell a (.int .i32 1) := by
  have hd : ∀ w, (callFunc 21 #[]).run Yba.prog w = .ok (.value (.tuple #[])) w := disable muLib
  have he : ∀ w, (callFunc 22 #[]).run Yba.prog w = .ok (.value (.tuple #[])) w := enable muLib
  have ha : ∀ a w, (callFunc 24 #[.pointer (some a)]).run Yba.prog w = .ok (.value (.tuple #[])) w := acquire muLib
  have hcas := run_call_cas_hit (P := Yba.prog) Yba.func23 (by kernel_rfl) (by kernel_rfl) (by kernel_rfl) .i32 (by kernel_rfl) (y := 1) hc hz
  have hc' : (w.setCell a (.int .i32 1)).cell? a = some (.int .i32 1) := by simp [go_sem, hc]
  have hcv := run_convert_to_unsafe (P := Yba.prog) (src := 64) (dst := 68) Yba.underlying64 Yba.underlying68 (by kernel_rfl) hc'
  have hb1 : bits .and .i32 0 5 = 0 := by decide
  have hb2 : bits .or .i32 0 1 = 1 := by decide
  go_enter Yba.func18, Yba.ntmps18
  go_wp2
  go_ret
  exact ⟨rfl, rfl⟩

theorem try_free (a : Addr) (w : World) (hc : w.cell? a = some (.int .i32 0)) (hz : w.frozen? a = false) :
    Calls Yba.prog 8 #[.pointer (some a)] w fun e w' => e = .returned (.bool true) ∧ w' = w.setCell a (.int .i32 1) := by
  go_enter Yba.func8, Yba.ntmps8
  go_wp2_with fail
  refine (itry_free a _ hc hz).mono ?_
  rintro e w' ⟨rfl, rfl⟩
  go_wp2
  go_ret
  exact ⟨rfl, rfl⟩

end Go.Proofs.Ybulkeiym
