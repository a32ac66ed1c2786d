/-
  The contract of (*clientConn).deadline while no request has begun.
-/
import Derived.Test.YbulkeiymMyTime
import Derived.Deep.RegionWith
import Derived.Deep.DrawnRows
namespace Go.Proofs.Ybulkeiym
open Go.RowKit
attribute [local go_sem ↓] Go.wp_at_zero Go.wp_at_succ
attribute [local go_sem] Go.undef
set_option linter.unusedVariables false

def zT (ns ds : Int) : Bool := decide (ns = 0) && decide (ds = 0)
def bT (ns ds ms es : Int) : Bool := decide (ds < es) || (decide (ds = es) && decide (ns < ms))

theorem isZero_b (ns ds : Int) (q : Bool) (w : World) (h : zT ns ds = q) : Calls Yba.prog 7 #[.agg (tm ns ds)] w fun e w' => e = .returned (.bool q) ∧ Below w.heap.size w w' := by
  subst h; exact isZero_any ns ds w
theorem before_b (ns ds ms es : Int) (q : Bool) (w : World) (h0 : 0 ≤ ns) (h1 : ns < 1000000000) (h2 : 0 ≤ ms) (h3 : ms < 1000000000) (h : bT ns ds ms es = q) :
    Calls Yba.prog 10 #[.agg (tm ns ds), .agg (tm ms es)] w fun e w' => e = .returned (.bool q) ∧ Below w.heap.size w w' := by
  subst h; exact before_any ns ds ms es w h0 h1 h2 h3
theorem equal_b (ns ds : Int) (w : World) (h0 : 0 ≤ ns) (h1 : ns < 1000000000) :
    Calls Yba.prog 6 #[.agg (tm ns ds), .agg (tm ns ds)] w fun e w' => e = .returned (.bool true) ∧ Below w.heap.size w w' := by
  have := equal_any ns ds ns ds w h0 h1 h0 h1
  simpa using this

theorem bcell {W w1 : World} (hb : Below W.heap.size W w1) : (∀ b o, b < W.heap.size → w1.cell? ⟨b, o, none⟩ = W.cell? ⟨b, o, none⟩) ∧ (∀ b o, b < W.heap.size → w1.frozen? ⟨b, o, none⟩ = W.frozen? ⟨b, o, none⟩) :=
  ⟨fun b o h => hb.cell (p := ⟨b, o, none⟩) h, fun b o h => hb.frozen (p := ⟨b, o, none⟩) h⟩

set_option maxHeartbeats 1000000 in
set_option maxRecDepth 100000 in
/-- by is zero: t. -/
theorem deadline_a (bC : Nat) (en ed : Int) (w : World) (hlt : bC < w.heap.size)
    (h15 : w.cell? ⟨bC, 15, none⟩ = some (.bool false)) (h12 : w.cell? ⟨bC, 12, none⟩ = some (.int .u64 0)) (h13 : w.cell? ⟨bC, 13, none⟩ = some (.int .i64 0)) (h14 : w.cell? ⟨bC, 14, none⟩ = some (.pointer none)) :
    Calls Yba.prog 16 #[.pointer (some ⟨bC, 0, none⟩), .agg (tm en ed)] w fun e w' => e = .returned (.agg (tm en ed)) ∧ Below w.heap.size w w' := by
  have hl1 : bC < w.heap.size + 1 := by omega
  have hl2 : bC < w.heap.size + 1 + 1 := by omega
  go_enter Yba.func16, Yba.ntmps16
  go_wp2
  first | (go_region_with (go_at_call 7; refine (isZero_b 0 0 true _ rfl).mono ?_; rintro e w' ⟨rfl, hb⟩; obtain ⟨hc, hf⟩ := bcell hb; have hz := hb.size; simp at hz)) | fail
  all_goals
    go_wp2
    have hB := (((((Below.refl w.heap.size w).alloc (Nat.le_refl _) (.cells (tm en ed) 25)).alloc (by simp) (.cells (tm 0 0) 25)).drew).trans (hb.mono (by simp; omega)))
    exact bodyPost_ret (v := .agg (tm en ed)) (by simp [results, Yba.results16, go_sem, hc]) rfl ⟨rfl, ((hB.setCell (by simp) _).setCell (by simp) _).setCell (by simp) _⟩

set_option maxHeartbeats 2000000 in
set_option maxRecDepth 100000 in
/-- by is not zero, t is zero: by. -/
theorem deadline_b (bC : Nat) (en ed on od : Int) (w : World) (hlt : bC < w.heap.size) (h0 : 0 ≤ en) (h1 : en < 1000000000) (h2 : 0 ≤ on) (h3 : on < 1000000000)
    (h15 : w.cell? ⟨bC, 15, none⟩ = some (.bool false)) (h12 : w.cell? ⟨bC, 12, none⟩ = some (.int .u64 on)) (h13 : w.cell? ⟨bC, 13, none⟩ = some (.int .i64 od)) (h14 : w.cell? ⟨bC, 14, none⟩ = some (.pointer none))
    (Hz1 : Hid (zT on od = false)) (Hz2 : Hid (zT en ed = true)) :
    Calls Yba.prog 16 #[.pointer (some ⟨bC, 0, none⟩), .agg (tm en ed)] w fun e w' => e = .returned (.agg (tm on od)) ∧ Below w.heap.size w w' := by
  have hl1 : bC < w.heap.size + 1 := by omega
  have hl2 : bC < w.heap.size + 1 + 1 := by omega
  clear h0 h1 h2 h3
  have hB0 := (((Below.refl w.heap.size w).alloc (Nat.le_refl _) (.cells (tm en ed) 25)).alloc (by simp) (.cells (tm 0 0) 25)).drew
  go_enter Yba.func16, Yba.ntmps16
  go_wp2
  first | (go_region_with (first | (go_at_call_of 7 (Value.int IntKind.u64 on); refine (isZero_b on od false _ Hz1.out).mono ?_; rintro e w' ⟨rfl, hb⟩; obtain ⟨hc, hf⟩ := bcell hb; have hz := hb.size; (try simp at hz); have hq1 : bC < w'.heap.size := (by omega); have hq2 : w.heap.size < w'.heap.size := (by omega); have hq3 : w.heap.size + 1 < w'.heap.size := (by omega); have hB1 := hB0.trans (hb.mono (by have := hb.size; have := hB0.size; first | omega | (simp; omega) | simp)); clear hB0; have hB0 := hB1; clear hB1) | (go_at_call_of 7 (Value.int IntKind.u64 en); refine (isZero_b en ed true _ Hz2.out).mono ?_; rintro e w' ⟨rfl, hb⟩; obtain ⟨hc, hf⟩ := bcell hb; have hz := hb.size; (try simp at hz); have hq1 : bC < w'.heap.size := (by omega); have hq2 : w.heap.size < w'.heap.size := (by omega); have hq3 : w.heap.size + 1 < w'.heap.size := (by omega); have hB1 := hB0.trans (hb.mono (by have := hb.size; have := hB0.size; first | omega | (simp; omega) | simp)); clear hB0; have hB0 := hB1; clear hB1))) | fail
  all_goals
    go_wp2
    exact bodyPost_ret (v := .agg (tm on od)) (by simp [results, Yba.results16, go_sem, *]) rfl ⟨rfl, ((hB0.setCell (by simp) _).setCell (by simp) _).setCell (by simp) _⟩

set_option maxHeartbeats 2000000 in
set_option maxRecDepth 100000 in
/-- neither is zero, t is before by: t. -/
theorem deadline_c (bC : Nat) (en ed on od : Int) (w : World) (hlt : bC < w.heap.size) (h0 : 0 ≤ en) (h1 : en < 1000000000) (h2 : 0 ≤ on) (h3 : on < 1000000000)
    (h15 : w.cell? ⟨bC, 15, none⟩ = some (.bool false)) (h12 : w.cell? ⟨bC, 12, none⟩ = some (.int .u64 on)) (h13 : w.cell? ⟨bC, 13, none⟩ = some (.int .i64 od)) (h14 : w.cell? ⟨bC, 14, none⟩ = some (.pointer none))
    (Hz1 : Hid (zT on od = false)) (Hz2 : Hid (zT en ed = false)) (Hb3 : Hid (bT en ed on od = true)) :
    Calls Yba.prog 16 #[.pointer (some ⟨bC, 0, none⟩), .agg (tm en ed)] w fun e w' => e = .returned (.agg (tm en ed)) ∧ Below w.heap.size w w' := by
  have hl1 : bC < w.heap.size + 1 := by omega
  have hl2 : bC < w.heap.size + 1 + 1 := by omega

  have hB0 := (((Below.refl w.heap.size w).alloc (Nat.le_refl _) (.cells (tm en ed) 25)).alloc (by simp) (.cells (tm 0 0) 25)).drew
  go_enter Yba.func16, Yba.ntmps16
  go_wp2
  first | (go_region_with (first | (go_at_call_of 7 (Value.int IntKind.u64 on); refine (isZero_b on od false _ Hz1.out).mono ?_; rintro e w' ⟨rfl, hb⟩; obtain ⟨hc, hf⟩ := bcell hb; have hz := hb.size; (try simp at hz); have hq1 : bC < w'.heap.size := (by omega); have hq2 : w.heap.size < w'.heap.size := (by omega); have hq3 : w.heap.size + 1 < w'.heap.size := (by omega); have hB1 := hB0.trans (hb.mono (by have := hb.size; have := hB0.size; first | omega | (simp; omega) | simp)); clear hB0; have hB0 := hB1; clear hB1) | (go_at_call_of 7 (Value.int IntKind.u64 en); refine (isZero_b en ed false _ Hz2.out).mono ?_; rintro e w' ⟨rfl, hb⟩; obtain ⟨hc, hf⟩ := bcell hb; have hz := hb.size; (try simp at hz); have hq1 : bC < w'.heap.size := (by omega); have hq2 : w.heap.size < w'.heap.size := (by omega); have hq3 : w.heap.size + 1 < w'.heap.size := (by omega); have hB1 := hB0.trans (hb.mono (by have := hb.size; have := hB0.size; first | omega | (simp; omega) | simp)); clear hB0; have hB0 := hB1; clear hB1) | (go_at_call 10; refine (before_b en ed on od true _ h0 h1 h2 h3 Hb3.out).mono ?_; rintro e w' ⟨rfl, hb⟩; obtain ⟨hc, hf⟩ := bcell hb; have hz := hb.size; (try simp at hz); have hq1 : bC < w'.heap.size := (by omega); have hq2 : w.heap.size < w'.heap.size := (by omega); have hq3 : w.heap.size + 1 < w'.heap.size := (by omega); have hB1 := hB0.trans (hb.mono (by have := hb.size; have := hB0.size; first | omega | (simp; omega) | simp)); clear hB0; have hB0 := hB1; clear hB1))) | fail
  all_goals
    go_wp2
    exact bodyPost_ret (v := .agg (tm en ed)) (by simp [results, Yba.results16, go_sem, *]) rfl ⟨rfl, ((hB0.setCell (by simp) _).setCell (by simp) _).setCell (by simp) _⟩

set_option maxHeartbeats 2000000 in
set_option maxRecDepth 100000 in
/-- neither is zero, t is not before by: by. -/
theorem deadline_d (bC : Nat) (en ed on od : Int) (w : World) (hlt : bC < w.heap.size) (h0 : 0 ≤ en) (h1 : en < 1000000000) (h2 : 0 ≤ on) (h3 : on < 1000000000)
    (h15 : w.cell? ⟨bC, 15, none⟩ = some (.bool false)) (h12 : w.cell? ⟨bC, 12, none⟩ = some (.int .u64 on)) (h13 : w.cell? ⟨bC, 13, none⟩ = some (.int .i64 od)) (h14 : w.cell? ⟨bC, 14, none⟩ = some (.pointer none))
    (Hz1 : Hid (zT on od = false)) (Hz2 : Hid (zT en ed = false)) (Hb3 : Hid (bT en ed on od = false)) :
    Calls Yba.prog 16 #[.pointer (some ⟨bC, 0, none⟩), .agg (tm en ed)] w fun e w' => e = .returned (.agg (tm on od)) ∧ Below w.heap.size w w' := by
  have hl1 : bC < w.heap.size + 1 := by omega
  have hl2 : bC < w.heap.size + 1 + 1 := by omega

  have hB0 := (((Below.refl w.heap.size w).alloc (Nat.le_refl _) (.cells (tm en ed) 25)).alloc (by simp) (.cells (tm 0 0) 25)).drew
  go_enter Yba.func16, Yba.ntmps16
  go_wp2
  first | (go_region_with (first | (go_at_call_of 7 (Value.int IntKind.u64 on); refine (isZero_b on od false _ Hz1.out).mono ?_; rintro e w' ⟨rfl, hb⟩; obtain ⟨hc, hf⟩ := bcell hb; have hz := hb.size; (try simp at hz); have hq1 : bC < w'.heap.size := (by omega); have hq2 : w.heap.size < w'.heap.size := (by omega); have hq3 : w.heap.size + 1 < w'.heap.size := (by omega); have hB1 := hB0.trans (hb.mono (by have := hb.size; have := hB0.size; first | omega | (simp; omega) | simp)); clear hB0; have hB0 := hB1; clear hB1) | (go_at_call_of 7 (Value.int IntKind.u64 en); refine (isZero_b en ed false _ Hz2.out).mono ?_; rintro e w' ⟨rfl, hb⟩; obtain ⟨hc, hf⟩ := bcell hb; have hz := hb.size; (try simp at hz); have hq1 : bC < w'.heap.size := (by omega); have hq2 : w.heap.size < w'.heap.size := (by omega); have hq3 : w.heap.size + 1 < w'.heap.size := (by omega); have hB1 := hB0.trans (hb.mono (by have := hb.size; have := hB0.size; first | omega | (simp; omega) | simp)); clear hB0; have hB0 := hB1; clear hB1) | (go_at_call 10; refine (before_b en ed on od false _ h0 h1 h2 h3 Hb3.out).mono ?_; rintro e w' ⟨rfl, hb⟩; obtain ⟨hc, hf⟩ := bcell hb; have hz := hb.size; (try simp at hz); have hq1 : bC < w'.heap.size := (by omega); have hq2 : w.heap.size < w'.heap.size := (by omega); have hq3 : w.heap.size + 1 < w'.heap.size := (by omega); have hB1 := hB0.trans (hb.mono (by have := hb.size; have := hB0.size; first | omega | (simp; omega) | simp)); clear hB0; have hB0 := hB1; clear hB1))) | fail
  all_goals
    go_wp2
    exact bodyPost_ret (v := .agg (tm on od)) (by simp [results, Yba.results16, go_sem, *]) rfl ⟨rfl, ((hB0.setCell (by simp) _).setCell (by simp) _).setCell (by simp) _⟩

/-- deadline, as a plain function: (t) and (by). -/
def dl (en ed on od : Int) : Int × Int := if (zT on od || (!zT en ed && bT en ed on od)) = true then (en, ed) else (on, od)

theorem zT_zero {ns ds : Int} (h : zT ns ds = true) : ns = 0 ∧ ds = 0 := by simpa [zT] using h

theorem deadline_any (bC : Nat) (en ed on od : Int) (w : World) (hlt : bC < w.heap.size) (h0 : 0 ≤ en) (h1 : en < 1000000000) (h2 : 0 ≤ on) (h3 : on < 1000000000)
    (h15 : w.cell? ⟨bC, 15, none⟩ = some (.bool false)) (h12 : w.cell? ⟨bC, 12, none⟩ = some (.int .u64 on)) (h13 : w.cell? ⟨bC, 13, none⟩ = some (.int .i64 od)) (h14 : w.cell? ⟨bC, 14, none⟩ = some (.pointer none)) :
    Calls Yba.prog 16 #[.pointer (some ⟨bC, 0, none⟩), .agg (tm en ed)] w fun e w' => e = .returned (.agg (tm (dl en ed on od).1 (dl en ed on od).2)) ∧ Below w.heap.size w w' := by
  cases hz1 : zT on od
  · cases hz2 : zT en ed
    · cases hb3 : bT en ed on od
      · simp only [dl, hz1, hz2, hb3]
        exact deadline_d bC en ed on od w hlt h0 h1 h2 h3 h15 h12 h13 h14 hz1 hz2 hb3
      · simp only [dl, hz1, hz2, hb3]
        exact deadline_c bC en ed on od w hlt h0 h1 h2 h3 h15 h12 h13 h14 hz1 hz2 hb3
    · simp only [dl, hz1, hz2]
      exact deadline_b bC en ed on od w hlt h0 h1 h2 h3 h15 h12 h13 h14 hz1 hz2
  · simp only [dl, hz1]
    obtain ⟨rfl, rfl⟩ := zT_zero hz1
    exact deadline_a bC en ed w hlt h15 h12 h13 h14

end Go.Proofs.Ybulkeiym
