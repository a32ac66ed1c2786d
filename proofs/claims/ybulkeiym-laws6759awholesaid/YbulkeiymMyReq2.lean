/-
  The contract of (*clientConn).requestBy while no request has begun.
-/
import Derived.Test.YbulkeiymMyReq
import Derived.Deep.RegionHeld3
namespace Go.Proofs.Ybulkeiym
open Go.RowKit Go.MuLone
attribute [local go_sem ↓] Go.wp_at_zero Go.wp_at_succ
attribute [local go_sem] Go.undef
set_option linter.unusedVariables false

theorem hideIt {q : Prop} (h : q) : Hid q := h

theorem afterDeadline {w0 w1 : World} {bC bS : Nat} {v0 v9 v10 v11 v16 : Value} (hb1 : Below w0.drew.heap.size w0.drew w1) (k0 : w0.cell? ⟨bC, 0, none⟩ = some v0) (k9 : w0.cell? ⟨bC, 9, none⟩ = some v9) (k10 : w0.cell? ⟨bC, 10, none⟩ = some v10) (k11 : w0.cell? ⟨bC, 11, none⟩ = some v11)
    (k16 : w0.cell? ⟨bS, 16, none⟩ = some v16) (g16 : w0.frozen? ⟨bS, 16, none⟩ = false) (h1 : bC < w0.heap.size) (h2 : bS < w0.heap.size) :
    w1.cell? ⟨bC, 0, none⟩ = some v0 ∧ w1.cell? ⟨bC, 9, none⟩ = some v9 ∧ w1.cell? ⟨bC, 10, none⟩ = some v10 ∧ w1.cell? ⟨bC, 11, none⟩ = some v11 ∧ w1.cell? ⟨bS, 16, none⟩ = some v16 ∧ w1.frozen? ⟨bS, 16, none⟩ = false ∧ bS < w1.heap.size ∧ Hid (Below w0.heap.size w0 w1) := by
  have hb : Below w0.heap.size w0 w1 := (Below.refl w0.heap.size w0).drew.trans hb1
  have hs := hb.size
  exact ⟨(hb.cell (p := ⟨bC, 0, none⟩) h1).trans k0, (hb.cell (p := ⟨bC, 9, none⟩) h1).trans k9, (hb.cell (p := ⟨bC, 10, none⟩) h1).trans k10, (hb.cell (p := ⟨bC, 11, none⟩) h1).trans k11, (hb.cell (p := ⟨bS, 16, none⟩) h2).trans k16, (hb.frozen (p := ⟨bS, 16, none⟩) h2).trans g16, by omega, hb⟩

theorem afterSet {w0 w1 w3 : World} {bC bS : Nat} {v v0 v9 v10 v11 : Value} (hb3 : Below w1.heap.size w1 w3) (k0 : w1.cell? ⟨bC, 0, none⟩ = some v0) (k9 : w1.cell? ⟨bC, 9, none⟩ = some v9) (k10 : w1.cell? ⟨bC, 10, none⟩ = some v10) (k11 : w1.cell? ⟨bC, 11, none⟩ = some v11)
    (Hb1 : Hid (Below w0.heap.size w0 w1)) (h1 : bC < w0.heap.size) (hne : bS ≠ bC) :
    (w3.setCell ⟨bS, 16, none⟩ v).cell? ⟨bC, 0, none⟩ = some v0 ∧ (w3.setCell ⟨bS, 16, none⟩ v).cell? ⟨bC, 9, none⟩ = some v9 ∧ (w3.setCell ⟨bS, 16, none⟩ v).cell? ⟨bC, 10, none⟩ = some v10 ∧ (w3.setCell ⟨bS, 16, none⟩ v).cell? ⟨bC, 11, none⟩ = some v11 := by
  have hs := Hb1.out.size
  have h2 : bC < w1.heap.size := by omega
  refine ⟨?_, ?_, ?_, ?_⟩
  · rw [World.cell?_setCell_other _ _ _ _ (by simp)]; exact (hb3.cell (p := ⟨bC, 0, none⟩) h2).trans k0
  · rw [World.cell?_setCell_other _ _ _ _ (by simp)]; exact (hb3.cell (p := ⟨bC, 9, none⟩) h2).trans k9
  · rw [World.cell?_setCell_other _ _ _ _ (by simp)]; exact (hb3.cell (p := ⟨bC, 10, none⟩) h2).trans k10
  · rw [World.cell?_setCell_other _ _ _ _ (by simp)]; exact (hb3.cell (p := ⟨bC, 11, none⟩) h2).trans k11

theorem req_free {w w0 w1 w3 : World} {bC bS : Nat} {tn td : Int} {lg : Value} (hm : Mid w w0 bC bS tn td) (hb1 : Below w0.heap.size w0 w1) (hb3 : Below w1.heap.size w1 w3) (hlt : bC < w.heap.size) (hls : bS < w.heap.size) (hne : bS ≠ bC)
    (h7 : w.cell? ⟨bC, 7, none⟩ = some (.int .i32 0)) {x16 : Value} (h16 : w.cell? ⟨bS, 16, none⟩ = some x16) :
    (w3.setCell ⟨bS, 16, none⟩ lg).cell? ⟨bC, 7, none⟩ = some (.int .i32 1) ∧ (∀ b o, b < w.heap.size → (w3.setCell ⟨bS, 16, none⟩ lg).frozen? ⟨b, o, none⟩ = w.frozen? ⟨b, o, none⟩) ∧
    Req w ((w3.setCell ⟨bS, 16, none⟩ lg).setCell ⟨bC, 7, none⟩ (.int .i32 0)) bC bS tn td lg := by
  have hs0 := hm.size
  have hs1 := hb1.size
  have hs3 := hb3.size
  have hb : Below w0.heap.size w0 w3 := hb1.trans (hb3.mono hs1)
  have e1 : bC < w0.heap.size := by omega
  have e2 : bS < w0.heap.size := by omega
  have hne' : bC ≠ bS := fun e => hne e.symm
  have k7 : (w3.setCell ⟨bS, 16, none⟩ lg).cell? ⟨bC, 7, none⟩ = some (.int .i32 1) := by
    rw [World.cell?_setCell_other _ _ _ _ (by simp)]; exact (hb.cell (p := ⟨bC, 7, none⟩) e1).trans hm.c7
  have hfz : ∀ b o, b < w.heap.size → (w3.setCell ⟨bS, 16, none⟩ lg).frozen? ⟨b, o, none⟩ = w.frozen? ⟨b, o, none⟩ := fun b o hb' => by
    rw [World.frozen?_setCell]; exact (hb.frozen (p := ⟨b, o, none⟩) (by show b < _; omega)).trans (hm.frz b o hb')
  refine ⟨k7, hfz, ⟨hb.os.trans hm.os, hb.tape.trans hm.tape, hb.output.trans hm.output, by simp; omega, ?_, ?_, ?_, ?_, fun b o hb' h1 h2 => ?_, fun b o hb' => ?_, fun b hb' h1 h2 => ?_⟩⟩
  · rw [World.cell?_setCell_other _ _ _ _ (by simp), World.cell?_setCell_other _ _ _ _ (by simp)]; exact (hb.cell (p := ⟨bC, 12, none⟩) e1).trans hm.c12
  · rw [World.cell?_setCell_other _ _ _ _ (by simp), World.cell?_setCell_other _ _ _ _ (by simp)]; exact (hb.cell (p := ⟨bC, 13, none⟩) e1).trans hm.c13
  · rw [World.cell?_setCell_other _ _ _ _ (by simp), World.cell?_setCell_other _ _ _ _ (by simp)]; exact (hb.cell (p := ⟨bC, 14, none⟩) e1).trans hm.c14
  · rw [World.cell?_setCell_other _ _ _ _ (by simp)]
    exact World.cell?_setCell_same _ _ _ ((hb.cell (p := ⟨bS, 16, none⟩) e2).trans ((hm.rest bS 16 hls (by omega) (by omega)).trans h16))
  · by_cases e : b = bC ∧ o = 7
    · obtain ⟨rfl, rfl⟩ := e
      rw [World.cell?_setCell_same _ _ _ k7, h7]
    · rw [World.cell?_setCell_other _ _ _ _ (by simp; omega), World.cell?_setCell_other _ _ _ _ (by simp; omega)]
      exact (hb.cell (p := ⟨b, o, none⟩) (by show b < _; omega)).trans (hm.rest b o hb' h1 e)
  · rw [World.frozen?_setCell]; exact hfz b o hb'
  · rw [Below.heap_setCell _ _ _ _ (by simpa using h1), Below.heap_setCell _ _ _ _ (by simpa using h2), hb.block b (by omega)]; exact hm.block b hb' h1

set_option maxHeartbeats 2000000 in
set_option maxRecDepth 100000 in
theorem request_free (bC bS : Nat) (tn td en ed : Int) (x12 x13 x14 : Value) (w : World) (hlt : bC < w.heap.size) (hls : bS < w.heap.size) (hne : bS ≠ bC)
    (t0 : 0 ≤ tn) (t1 : tn < 1000000000) (e0 : 0 ≤ en) (e1 : en < 1000000000)
    (h0 : w.cell? ⟨bC, 0, none⟩ = some (.iface 28 (.pointer (some ⟨bS, 0, none⟩)))) (h7 : w.cell? ⟨bC, 7, none⟩ = some (.int .i32 0))
    (h9 : w.cell? ⟨bC, 9, none⟩ = some (.int .u64 en)) (h10 : w.cell? ⟨bC, 10, none⟩ = some (.int .i64 ed)) (h11 : w.cell? ⟨bC, 11, none⟩ = some (.pointer none))
    (h12 : w.cell? ⟨bC, 12, none⟩ = some x12) (h13 : w.cell? ⟨bC, 13, none⟩ = some x13) (h14 : w.cell? ⟨bC, 14, none⟩ = some x14) (h15 : w.cell? ⟨bC, 15, none⟩ = some (.bool false))
    (hf : ∀ o, w.frozen? ⟨bC, o, none⟩ = false) (h16 : w.cell? ⟨bS, 16, none⟩ = some (.slice none 0 0)) (hf16 : w.frozen? ⟨bS, 16, none⟩ = false) :
    Calls Yba.prog 5 #[.pointer (some ⟨bC, 0, none⟩), .agg (tm tn td)] w fun e w' => e = .returned (.tuple #[]) ∧
      ∃ g cap, Req w w' bC bS tn td (.slice (some ⟨g, 0, none⟩) 1 cap) ∧ w.heap.size ≤ g ∧ g < w'.heap.size ∧
        w'.cell? ⟨g, 0, none⟩ = some (.int .u64 (dl en ed tn td).1) ∧ w'.cell? ⟨g, 1, none⟩ = some (.int .i64 (dl en ed tn td).2) ∧ w'.cell? ⟨g, 2, none⟩ = some (.pointer none) := by
  have hn : ¬ bC = w.heap.size := by omega
  have f7 := hf 7
  have f12 := hf 12
  have f13 := hf 13
  have f14 := hf 14
  have hm := mid_mk w bC bS tn td x12 x13 x14 hlt h7 h12 h13 h14
  go_enter_defers Yba.func5, Yba.ntmps5
  go_wp2_with fail
  refine (lock_free muLib ⟨bC, 7, none⟩ _ (by go_simp) (by go_simp)).mono ?_
  rintro e w' ⟨rfl, rfl⟩
  go_wp2
  have k0 := (hm.rest bC 0 hlt (by omega) (by omega)).trans h0
  have k9 := (hm.rest bC 9 hlt (by omega) (by omega)).trans h9
  have k10 := (hm.rest bC 10 hlt (by omega) (by omega)).trans h10
  have k11 := (hm.rest bC 11 hlt (by omega) (by omega)).trans h11
  have k15 := (hm.rest bC 15 hlt (by omega) (by omega)).trans h15
  have k16 := (hm.rest bS 16 hls (by omega) (by omega)).trans h16
  have g16 := (hm.frz bS 16 hls).trans hf16
  have g7 := (hm.frz bC 7 hlt).trans f7
  have k7 := hm.c7
  have k12 := hm.c12
  have k13 := hm.c13
  have k14 := hm.c14
  have hs := hm.size
  have Hm : Hid (Mid w (W0 w bC tn td) bC bS tn td) := hm
  have H7 : Hid (w.cell? ⟨bC, 7, none⟩ = some (.int .i32 0)) := h7
  have H16 : Hid (w.cell? ⟨bS, 16, none⟩ = some (.slice none 0 0)) := h16
  have F7 : Hid (w.frozen? ⟨bC, 7, none⟩ = false) := f7
  clear hm h0 h7 h9 h10 h11 h12 h13 h14 h15 h16 hf hf16 f7 f12 f13 f14
  unfold W0 at *
  generalize ((((w.setCell ⟨bC, 7, none⟩ (.int .i32 1)).setCell ⟨bC, 12, none⟩ (.int .u64 tn)).setCell ⟨bC, 13, none⟩ (.int .i64 td)).setCell ⟨bC, 14, none⟩ (.pointer none)).alloc (.cells (tm tn td) 25) = w0 at *
  have hq1 : bC < w0.heap.size := by omega
  have hq2 : bS < w0.heap.size := by omega
  have hmt := method_set
  go_region_held3 (fun w' => w'.cell? ⟨bC, 0, none⟩ = some (.iface 28 (.pointer (some ⟨bS, 0, none⟩))) ∧ w'.cell? ⟨bC, 9, none⟩ = some (.int .u64 en) ∧ w'.cell? ⟨bC, 10, none⟩ = some (.int .i64 ed) ∧ w'.cell? ⟨bC, 11, none⟩ = some (.pointer none)) (first | (refine ⟨?_, ?_, ?_, ?_⟩ <;> assumption) | go_keep) (first | (go_at_call 16; refine (deadline_any bC en ed tn td _ (by simp; omega) e0 e1 t0 t1 (by simpa using k15) (by simpa using k12) (by simpa using k13) (by simpa using k14)).mono ?_; rintro e w1 ⟨rfl, hb1⟩; obtain ⟨q0, q9, q10, q11, q16, p16, hr2, Hb1⟩ := afterDeadline hb1 k0 k9 k10 k11 k16 g16 hq1 hq2) | (go_at_call 56; refine (setRead_any bS _ _ _ hr2 q16 p16).mono ?_; rintro e w2 ⟨rfl, g, cap, w3, rfl, hb3, hg1, hg2, hl0, hl1, hl2⟩; obtain ⟨r0, r9, r10, r11⟩ := afterSet (v := .slice (some ⟨g, 0, none⟩) 1 cap) hb3 q0 q9 q10 q11 Hb1 hq1 hne))
  obtain ⟨z7, zf, zr⟩ := req_free (lg := .slice (some ⟨g, 0, none⟩) 1 cap) Hm.out Hb1.out hb3 hlt hls hne H7.out H16.out
  have z7f := (zf bC 7 hlt).trans F7.out
  have Zr := hideIt zr
  have hsz1 := Hb1.out.size
  have hgs := hb3.size
  have y0 : ((w3.setCell ⟨bS, 16, none⟩ (.slice (some ⟨g, 0, none⟩) 1 cap)).setCell ⟨bC, 7, none⟩ (.int .i32 0)).cell? ⟨g, 0, none⟩ = some (.int .u64 (dl en ed tn td).1) := by
    rw [World.cell?_setCell_other _ _ _ _ (by simp), World.cell?_setCell_other _ _ _ _ (by simp)]; exact hl0
  have y1 : ((w3.setCell ⟨bS, 16, none⟩ (.slice (some ⟨g, 0, none⟩) 1 cap)).setCell ⟨bC, 7, none⟩ (.int .i32 0)).cell? ⟨g, 1, none⟩ = some (.int .i64 (dl en ed tn td).2) := by
    rw [World.cell?_setCell_other _ _ _ _ (by simp), World.cell?_setCell_other _ _ _ _ (by simp)]; exact hl1
  have y2 : ((w3.setCell ⟨bS, 16, none⟩ (.slice (some ⟨g, 0, none⟩) 1 cap)).setCell ⟨bC, 7, none⟩ (.int .i32 0)).cell? ⟨g, 2, none⟩ = some (.pointer none) := by
    rw [World.cell?_setCell_other _ _ _ _ (by simp), World.cell?_setCell_other _ _ _ _ (by simp)]; exact hl2
  have Y := hideIt (And.intro y0 (And.intro y1 y2))
  clear y0 y1 y2 zr zf hl0 hl1 hl2 q0 q9 q10 q11 q16 p16 r0 r9 r10 r11
  go_wp2
  refine leaves_cons (f := 9) (args := #[.pointer (some ⟨bC, 7, none⟩)]) (by simp) (by simp [go_sem]) ?_
  refine (unlock_deferred muLib ⟨bC, 7, none⟩ .returning _ z7 z7f).mono ?_
  rintro e u' w'' ⟨rfl, rfl, rfl⟩
  exact ⟨_, results_none rfl _ _ _, rfl, g, cap, Zr.out, by omega, by simp; omega, Y.out⟩

end Go.Proofs.Ybulkeiym
