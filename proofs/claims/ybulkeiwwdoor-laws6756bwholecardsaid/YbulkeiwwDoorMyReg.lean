import Derived.Test.YbulkeiwwDoorMyChecks
import Derived.Test.YbulkeiwwDoorMyWant
import Derived.Deep.CutBlock
import Derived.Laws.CopyOwn
/-! Region 109 of the law by itself: 'want = append(want, problem{at[v], "cycle", string(msg)})': what it does to the frame (a letter) and to memory. -/
namespace Go.Proofs.YbulkeiwwDoor
open Go.RowKit Go.ChangeMaps Go.Lib Gr
attribute [local go_sem ↓] Go.wp_at_zero Go.wp_at_succ
set_option linter.unusedVariables false
set_option linter.unusedSimpArgs false
def onNormal (P : Act → World → Prop) : Exit → Act → World → Prop
  | .normal, a, w => P a w
  | _, _, _ => False
/-- The frame behind region 109: its ten letters, and the row. -/
def put109 (a : Act) (x0 x1 x2 x3 x4 x5 x6 x7 x8 x9 r : Value) : Act :=
  { tmps := ((((((((((a.tmps.setIfInBounds 416 x0).setIfInBounds 417 x1).setIfInBounds 418 x2).setIfInBounds 419 x3).setIfInBounds 420 x4).setIfInBounds 421 x5).setIfInBounds 422 x6).setIfInBounds 423 x7).setIfInBounds 424 x8).setIfInBounds 425 x9).setIfInBounds 44 r, defers := a.defers }
theorem put109_list (l : List Value) (d : List Deferred) (x0 x1 x2 x3 x4 x5 x6 x7 x8 x9 r : Value) : put109 ⟨l.toArray, d⟩ x0 x1 x2 x3 x4 x5 x6 x7 x8 x9 r = ⟨(((((((((((l.set 416 x0).set 417 x1).set 418 x2).set 419 x3).set 420 x4).set 421 x5).set 422 x6).set 423 x7).set 424 x8).set 425 x9).set 44 r).toArray, d⟩ := by
  unfold put109; simp only [List.setIfInBounds_toArray]
/-- The two orders of the region's operations. -/
theorem ex_put109a (a : Act) (x0 x1 x2 x3 x4 x5 x6 x7 x8 x9 r : Value) : ∃ y0 y1 y2 y3 y4 y5 y6 y7 y8 y9, ({ tmps := ((((((((((a.tmps.setIfInBounds 416 x0).setIfInBounds 417 x1).setIfInBounds 418 x2).setIfInBounds 419 x3).setIfInBounds 421 x5).setIfInBounds 420 x4).setIfInBounds 422 x6).setIfInBounds 423 x7).setIfInBounds 424 x8).setIfInBounds 425 x9).setIfInBounds 44 r, defers := a.defers } : Act) = put109 a y0 y1 y2 y3 y4 y5 y6 y7 y8 y9 r :=
  ⟨x0, x1, x2, x3, x4, x5, x6, x7, x8, x9, by unfold put109; rw [Array.setIfInBounds_comm _ _ (show (421 : Nat) ≠ 420 by decide)]⟩
theorem ex_put109b (a : Act) (x0 x1 x2 x3 x4 x5 x6 x7 x8 x9 r : Value) : ∃ y0 y1 y2 y3 y4 y5 y6 y7 y8 y9, ({ tmps := ((((((((((a.tmps.setIfInBounds 416 x0).setIfInBounds 417 x1).setIfInBounds 418 x2).setIfInBounds 419 x3).setIfInBounds 421 x5).setIfInBounds 422 x6).setIfInBounds 420 x4).setIfInBounds 423 x7).setIfInBounds 424 x8).setIfInBounds 425 x9).setIfInBounds 44 r, defers := a.defers } : Act) = put109 a y0 y1 y2 y3 y4 y5 y6 y7 y8 y9 r :=
  ⟨x0, x1, x2, x3, x4, x5, x6, x7, x8, x9, by unfold put109; rw [Array.setIfInBounds_comm _ _ (show (422 : Nat) ≠ 420 by decide), Array.setIfInBounds_comm _ _ (show (421 : Nat) ≠ 420 by decide)]⟩
set_option maxHeartbeats 80000000 in
set_option maxRecDepth 100000 in
theorem reg109 {w : World} {B n Ab kl v at_ M : Nat} {wa ma : Option Addr} {wcp mc : Nat} {xs : List Value} {l : List UInt8} {a0 : Act}
    (hcv : (convert 32 9 (.slice ma M mc)).run Ybad.prog w = .ok (.string ⟨l.toArray⟩) w)
    (hcv' : (convert 32 9 (.slice ma M mc)).run Ybad.prog w.drew = .ok (.string ⟨l.toArray⟩) w.drew)
    (hat : w.cell? ⟨Ab, v, none⟩ = some (.int .i64 (at_ : Int))) (hat' : w.drew.cell? ⟨Ab, v, none⟩ = some (.int .i64 (at_ : Int)))
    (t1 : (v : Int) < (kl : Int)) (t3 : (0 : Int) ≤ (v : Int))
    (hro : w.drew.ownsRow B 79 5 (.slice wa n wcp) n xs) (hn : n + 1 ≤ maxLen) (hn2 : (n + 1) * 56 ≤ 140737488355328) (hB : B ≤ w.heap.size)
    (es : a0.tmps.size = 529) (f44 : ∀ h : 44 < a0.tmps.size, a0.tmps[44]'h = .slice wa n wcp)
    (f29 : ∀ h : 29 < a0.tmps.size, a0.tmps[29]'h = .slice (some ⟨Ab, 0, none⟩) kl kl)
    (f45 : ∀ h : 45 < a0.tmps.size, a0.tmps[45]'h = .int .i64 (v : Int))
    (f48 : ∀ h : 48 < a0.tmps.size, a0.tmps[48]'h = .slice ma M mc) :
    Code.wp Ybad.prog (Go.Code.region 109 #[{ dst := some 416, op := Go.Op.move (Go.Operand.tmp 44), type := 59, pos := "zz_law_s6756b.go:149", after := #[], guard := none }, { dst := some 417, op := Go.Op.move (Go.Operand.tmp 29), type := 24, pos := "zz_law_s6756b.go:149", after := #[], guard := none }, { dst := some 418, op := Go.Op.move (Go.Operand.tmp 45), type := 3, pos := "zz_law_s6756b.go:149", after := #[], guard := none }, { dst := some 419, op := Go.Op.indexAddr 24 (Go.Operand.tmp 417) (Go.Operand.tmp 418), type := 0, pos := "zz_law_s6756b.go:149", after := #[{ on := 1, ground := Go.Ground.data }, { on := 2, ground := Go.Ground.data }], guard := none }, { dst := some 420, op := Go.Op.load 3 (Go.Operand.tmp 419), type := 3, pos := "zz_law_s6756b.go:149", after := #[{ on := 3, ground := Go.Ground.data }], guard := none }, { dst := some 421, op := Go.Op.move (Go.Operand.tmp 48), type := 32, pos := "zz_law_s6756b.go:149", after := #[], guard := none }, { dst := some 422, op := Go.Op.convert 32 9 (Go.Operand.tmp 421), type := 9, pos := "zz_law_s6756b.go:149", after := #[{ on := 5, ground := Go.Ground.data }], guard := none }, { dst := some 423, op := Go.Op.build 79 #[(0, Go.Operand.tmp 420), (3, Go.Operand.const (Go.Value.string { data := #[99, 121, 99, 108, 101] })), (4, Go.Operand.tmp 422)], type := 79, pos := "zz_law_s6756b.go:149", after := #[{ on := 4, ground := Go.Ground.data }, { on := 6, ground := Go.Ground.data }], guard := none }, { dst := some 424, op := Go.Op.buildSlice 59 1 #[(0, Go.Operand.tmp 423)], type := 59, pos := "zz_law_s6756b.go:149", after := #[{ on := 7, ground := Go.Ground.data }], guard := none }, { dst := some 425, op := Go.Op.call { callee := Go.Callee.builtin Go.Builtin.append, args := #[Go.Operand.tmp 416, Go.Operand.tmp 424], argTypes := #[59, 59] }, type := 59, pos := "zz_law_s6756b.go:149", after := #[{ on := 0, ground := Go.Ground.data }, { on := 8, ground := Go.Ground.data }], guard := none }, { dst := some 44, op := Go.Op.assign (Go.Operand.tmp 425), type := 59, pos := "zz_law_s6756b.go:149", after := #[{ on := 9, ground := Go.Ground.data }, { on := 9, ground := Go.Ground.chain }, { on := 0, ground := Go.Ground.phase }, { on := 1, ground := Go.Ground.phase }, { on := 2, ground := Go.Ground.phase }, { on := 3, ground := Go.Ground.phase }, { on := 4, ground := Go.Ground.phase }, { on := 5, ground := Go.Ground.phase }, { on := 6, ground := Go.Ground.phase }, { on := 7, ground := Go.Ground.phase }, { on := 8, ground := Go.Ground.phase }, { on := 9, ground := Go.Ground.phase }], guard := none }] true) (onNormal fun a1 w4 => ∃ gp capp, (w4.ownsRow B 79 5 (.slice (some ⟨gp, 0, none⟩) (n + 1) capp) (n + 1) (xs ++ probCells at_ l) ∧ ∀ wI, Below B wI w.drew → Below B wI w4) ∧ ∃ x0 x1 x2 x3 x4 x5 x6 x7 x8 x9, a1 = put109 a0 x0 x1 x2 x3 x4 x5 x6 x7 x8 x9 (.slice (some ⟨gp, 0, none⟩) (n + 1) capp)) a0 w := by
  obtain ⟨i79, hi79, hz79, hs79, hy79⟩ := info_parts info79
  have HRO := hideIt hro
  have HN1 := hideIt hn
  have HN2 := hideIt hn2
  have HB := hideIt hB
  clear hro hn hn2 hB
  go_region_law (refine step_append_lies _ (by rfl) _ _ _ (by rfl) B 79 i79 _ 5 56 Ybad.underlying59 hi79 hz79 hs79 hy79 rfl (by decide) (.slice wa n wcp) n xs (by first | (simp [Act.eval, Act.put, getD_set_same, getD_set_other, es, f44, f29, f45, f48]; done) | (go_simp; done) | rfl) (own_alloc HRO.out _) ⟨w.heap.size, 0, none⟩ 1 1 (probCells at_ l) (by first | (simp [Act.eval, Act.put, getD_set_same, getD_set_other, es, f44, f29, f45, f48]; done) | (go_simp; done) | rfl) (by rfl) (World.news_of_block (cs := (probCells at_ l).toArray) (t := 79) (fr := (0, 0)) (heap_alloc_at _ _ rfl)) (by simp [Value.oneCell', probCells]) (by decide) HN1.out HN2.out (le_alloc HB.out _) (w.heap.size + 1) (by simp) ?_; intro gp capp w4 hown4 hgr4 hat4 hgl4)
  all_goals
    refine ⟨gp, capp, ⟨hown4, fun wI hbd => below_grown (hbd.alloc HB.out _) (own_alloc HRO.out _) (le_alloc HB.out _) hgr4⟩, ?_⟩
    simp only [Act.put, List.getElem_toArray, List.getElem_cons_succ, List.getElem_cons_zero]
  · exact ex_put109a _ _ _ _ _ _ _ _ _ _ _ _
  · exact ex_put109b _ _ _ _ _ _ _ _ _ _ _ _
end Go.Proofs.YbulkeiwwDoor
