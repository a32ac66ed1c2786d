/-
  The numbers under which this dump holds the library's locks' functions and types, and that it holds them (after the guide's RegLocks.lean); and that 'isClosed' answers false on an open, empty channel.
-/
import Derived.Test.YbulkeiwiRows
import Derived.Conc.RwLib
import Derived.Conc.MuLone
import Derived.Conc.LoneCalls
import Derived.KernelRfl
namespace Go.Proofs.Ybulkeiwi
open Go.Conc Go.RowKit
abbrev muLink : Go.Conc.Locks.MuLink := { lock := 7, unlock := 8, ilock := 10, iunlock := 11, lockSlow := 16, unlockSlow := 19, disable := 12, enable := 14, acquire := 15, relMerge := 17, cas32 := 13, add32 := 18, tMutex := 39, tIMutex := 37, tPMutex := 52, tPIMutex := 53, tPI32 := 55, tUP := 57, tNoCopy := 34, tU32 := 35 }
theorem muLib : Go.Conc.Locks.MuLib Yba.prog muLink :=
  ⟨Yba.func7, Yba.func8, Yba.func10, Yba.func11, Yba.func12, Yba.func14, Yba.func15, Yba.func17, Yba.func13, Yba.func18, Yba.underlying37, Yba.runUnderlying37, Yba.sizeOf37, Yba.isAgg37, Yba.zeroValue37, Yba.underlying39, Yba.runUnderlying39, Yba.sizeOf39, Yba.isAgg39, Yba.zeroValue39, Yba.underlying52, Yba.runUnderlying52, Yba.sizeOf52, Yba.isAgg52, Yba.zeroValue52, Yba.underlying53, Yba.runUnderlying53, Yba.sizeOf53, Yba.isAgg53, Yba.zeroValue53, Yba.underlying55, Yba.runUnderlying55, Yba.sizeOf55, Yba.isAgg55, Yba.zeroValue55, Yba.underlying57, Yba.runUnderlying57, Yba.sizeOf57, Yba.isAgg57, Yba.zeroValue57, Yba.underlying34, Yba.runUnderlying34, Yba.sizeOf34, Yba.isAgg34, Yba.zeroValue34, Yba.underlying21, Yba.runUnderlying21, Yba.sizeOf21, Yba.isAgg21, Yba.zeroValue21, (by kernel_rfl)⟩

set_option maxRecDepth 100000 in
theorem isClosed_open (sb cb cap s r : Nat) (tm : Bool) (w : World) (h1 : w.cell? ⟨sb, 1, none⟩ = some (.chan (some cb))) (hc : w.heap[cb]? = some (.chan cap #[] false s r tm)) :
    Calls Yba.prog 9 #[.pointer (some ⟨sb, 0, none⟩)] w fun e w' => e = .returned (.bool false) ∧ w = w' := by
  refine calls_of_loneTo fun cs => ?_
  have e : Frame.enter Yba.prog 9 #[.pointer (some ⟨sb, 0, none⟩)] .normal = (base 9).at ⟨#[.pointer (some ⟨sb, 0, none⟩), undef, undef, undef, undef, undef, undef, undef, undef, undef], []⟩ [.code (Yba.f9.body.getD .skip)] := by
    simp [Frame.enter, Frame.at, Yba.func9, base, Yba.f9]
  rw [e]
  refine LoneTo.goes (n := 13) ?_
  simp only [Yba.f9, Option.getD_some]
  s_c stepG_seq
  s_reg
  s_op
  s_c stepG_region_end
  s_c stepG_seq
  s_reg
  s_op
  s_op
  s_op
  s_op
  s_c stepG_region_end
  s_c stepG_seq
  s_reg
  s_stop
  refine LoneTo.step (step_lone_select_default (c := cb) (z := .agg #[]) (cap := cap) (s := s) (r := r) (tm := tm) (stepG_comm (cases := #[rcase cb (.agg #[])]) (blocking := false) (shape := .select) (w' := w) rfl rfl (by decide) (by simp [go_sem, execOp, rcase, Act.eval])) hc) ?_
  rw [Frame.finish_at]
  walk_nrm
  refine LoneTo.goes (n := 10) ?_
  s_op
  s_op
  s_c stepG_region_end
  s_c stepG_block
  s_cond false
  s_c stepG_seq
  s_reg
  s_op
  s_c stepG_region_end
  s_c stepG_ret'
  s_stop
  exact LoneTo.done ⟨.returned (.bool false), _, rfl, ⟨rfl, rfl⟩, rfl, rfl, rfl, rfl, _, Yba.func9, by simp [results, Yba.f9, Frame.at]⟩
end Go.Proofs.Ybulkeiwi
