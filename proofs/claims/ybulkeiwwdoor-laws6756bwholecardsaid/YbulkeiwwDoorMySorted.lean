/-
  slices.Sorted(slices.Values(s)) at this program (turned from the guide's worked iterator examples).
-/
import Derived.Test.YbulkeiwwDoorMyMem
import Derived.Test.YbulkeiwwDoorMyShelf
import Derived.RangeFuncBox
import Derived.RangeFuncLeaves
import Derived.Shelf.Abstract
import Derived.Shelf.SlIterI.Sorted
import Derived.WalkKit
import Derived.OwnWalkIn
import Derived.TacticsInMore
import Derived.LoopNIn
import Derived.LoopIn
import Derived.Maps.AppendAt
import Derived.Sort.OwnSorted
namespace Go.Proofs.YbulkeiwwDoor
open Go.RowKit Go.Shelf Go.Sort Go.Maps

attribute [local go_sem] Oper.semAt_some
set_option linter.unusedVariables false

def upto {α : Type} (f : Nat → α) (k : Nat) : List α := (List.range k).map f
theorem upto_succ {α : Type} (f : Nat → α) (k : Nat) : upto f (k + 1) = upto f k ++ [f k] := by simp [upto, List.range_succ]
theorem upto_length {α : Type} (f : Nat → α) (k : Nat) : (upto f k).length = k := by simp [upto]
theorem upto_all (zs : List Int) : upto (fun j => zs[j]?.getD 0) zs.length = zs := by
  apply List.ext_getElem
  · simp [upto]
  · intro i h1 h2
    simp [upto, h2]
theorem upto_take (zs : List Int) {k : Nat} (hk : k ≤ zs.length) : upto (fun j => zs[j]?.getD 0) k = zs.take k := by
  apply List.ext_getElem
  · simp [upto, hk]
  · intro i h1 h2
    have : i < zs.length := by simp [upto] at h1; omega
    simp [upto, this]

set_option maxRecDepth 100000 in
set_option maxHeartbeats 2000000 in
theorem values1_in (F : Fence) (n : Nat) (h7 : F.fn 34) (hro : F.round = none) (hn : 1 ≤ n) (l Bs n₀ b off len cap : Nat) (zs : List Int) (hreach : len * 8 ≤ 140737488351232) (hb : b < n₀) (J Jx : List Int → World → Prop)
    (hY : ∀ pre x W, J pre W → pre.length < len → YieldAt F (n - 1) Ybad.prog l #[.int .i64 x] W fun e W' =>
      (e = .returned (.bool true) ∧ J (pre ++ [x]) W' ∧ Below n₀ W W') ∨ (e = .returned (.bool false) ∧ Jx (pre ++ [x]) W'))
    (W : World) (hBs : W.cell? ⟨Bs, 0, none⟩ = some (.slice (some ⟨b, off, none⟩) len cap)) (hc : ∀ j, j < len → W.cell? ⟨b, off + j, none⟩ = some (.int .i64 (zs[j]?.getD 0))) (h0 : J [] W) :
    CallsIn F n Ybad.prog 34 #[.func (.yield l) #[] #[], .pointer (some ⟨Bs, 0, none⟩)] W fun e W' => (∃ v, e = .returned v) ∧
      ((∃ ys, ys = upto (fun j => zs[j]?.getD 0) len ∧ J ys W') ∨ (∃ pre, (∃ k, k ≤ len ∧ pre = upto (fun j => zs[j]?.getD 0) k) ∧ Jx pre W')) := by
  refine callsIn_of_wp Ybad.func34 rfl h7 ?_ hro
  simp only [Ybad.ntmps34, List.size_toArray, List.length_cons, List.length_nil, Nat.reduceAdd, Nat.reduceSub, Array.replicate_succ, Array.replicate_zero, List.push_toArray, List.append_toArray, List.nil_append, List.cons_append]
  gi_wp2
  gi_loopw [7] (fun i wr => ∃ k : Nat, k ≤ len ∧ i = .int .i64 k ∧ J (upto (fun j => zs[j]?.getD 0) k) wr ∧ Below n₀ W wr)
    (fun i _ => len - (intOf i).toNat)
  case atStart => exact ⟨0, Nat.zero_le _, rfl, h0, Below.refl _ _⟩
  case round =>
    obtain ⟨k, hk, rfl, hJs, hnx⟩ := hrel
    have hcx : k < len → wr.cell? ⟨b, off + k, none⟩ = some (.int .i64 (zs[k]?.getD 0)) := fun h => (hnx.cell (p := ⟨b, off + k, none⟩) hb).trans (hc k h)
    by_cases hlt : k < len
    · obtain ⟨fn, tmps, assign, body, hy, hR⟩ := hY _ (zs[k]?.getD 0) wr hJs (by rw [upto_length]; exact hlt)
      have hcx' := hcx hlt
      gi_wp2
      refine hR.mono ?_
      rintro e W3 (⟨rfl, hJ3, hk3⟩ | ⟨rfl, hJx3⟩)
      · gi_wp2
        go_roundw
        case rel => exact ⟨k + 1, by omega, by simp, by rw [upto_succ]; exact hJ3, hnx.trans hk3⟩
        case measure => simp [intOf]; omega
      · gi_wp2
        refine bodyPost_ret (results_none rfl _ _ _) rfl ?_
        exact ⟨⟨_, rfl⟩, .inr ⟨_, ⟨k + 1, by omega, (upto_succ _ _).symm⟩, hJx3⟩⟩
    · obtain rfl : k = len := by omega
      gi_wp2
      go_end0
      exact ⟨⟨_, rfl⟩, .inl ⟨_, rfl, hJs⟩⟩

/-- The iterator of slices.Values over the ints zs, in a block below n₀. -/
theorem values_stops (F : Fence) (n : Nat) (h7 : F.fn 34) (hro : F.round = none) (hn : 1 ≤ n) (Bs n₀ b off cap : Nat) (zs : List Int) (hreach : zs.length * 8 ≤ 140737488351232) (w : World) (hBs : Bs < w.heap.size) (hn₀ : n₀ ≤ w.heap.size)
    (hc : w.cell? ⟨Bs, 0, none⟩ = some (.slice (some ⟨b, off, none⟩) zs.length cap)) (hb : b < n₀) (hcs : ∀ j, j < zs.length → w.cell? ⟨b, off + j, none⟩ = some (.int .i64 (zs[j]?.getD 0))) :
    SeqStopsK F n Ybad.prog 34 #[.pointer (some ⟨Bs, 0, none⟩)] (fun x : Int => #[Value.int .i64 x]) (Below n₀) (fun ys => ys = zs) (fun pre => pre <+: zs) zs.length w := fun l J Jx W hW _ _ hY h0 => by
  have hc' := (hW.cell (p := ⟨Bs, 0, none⟩) hBs).trans hc
  refine (values1_in F n h7 hro hn l Bs n₀ b off zs.length cap zs hreach hb J Jx hY W hc' (fun j hj => (hW.cell (p := ⟨b, off + j, none⟩) (by show b < _; omega)).trans (hcs j hj)) h0).mono ?_
  rintro e W' ⟨he, ⟨ys, rfl, hj⟩ | ⟨pre, ⟨k, hk, rfl⟩, hj⟩⟩
  · exact ⟨he, .inl ⟨_, upto_all zs, hj⟩⟩
  · exact ⟨he, .inr ⟨_, by rw [upto_take zs hk]; exact List.take_prefix _ _, hj⟩⟩

set_option maxRecDepth 100000 in
set_option maxHeartbeats 2000000 in
/-- slices.AppendSeq(nil, slices.Values(s)). -/
theorem appendSeq_in (F : Fence) (n : Nat) (h3 : F.fn 41) (h5 : F.fn 34) (hro : F.round = none) (hn : 3 ≤ n) (Bs b off cap : Nat) (zs : List Int) (hlen : zs.length ≤ maxLen) (hbytes : zs.length * 8 ≤ 140737488351232) (w : World) (hBs : Bs < w.heap.size)
    (hc : w.cell? ⟨Bs, 0, none⟩ = some (.slice (some ⟨b, off, none⟩) zs.length cap)) (hb : b < w.heap.size) (hcs : ∀ j, j < zs.length → w.cell? ⟨b, off + j, none⟩ = some (.int .i64 (zs[j]?.getD 0))) :
    CallsIn F n Ybad.prog 41 #[.slice none 0 0, .func (.func 34) #[] #[.pointer (some ⟨Bs, 0, none⟩)]] w fun e W' => ∃ v, e = .returned v ∧ W'.ownsRow w.heap.size 3 1 v zs.length (zs.map (Value.int .i64)) ∧ (v = .slice none 0 0 ↔ zs = []) ∧ Below w.heap.size w W' := by
  have h1 : 1 ≤ n := by omega
  obtain ⟨i0, hi, hz0, hz1, hz2⟩ := info_parts info3
  refine callsIn_of_wp_marks Ybad.func41 rfl h3 ?_ hro
  simp only [Ybad.ntmps41, List.size_toArray, List.length_cons, List.length_nil, Nat.reduceAdd, Nat.reduceSub, Array.replicate_succ, Array.replicate_zero, List.push_toArray, List.append_toArray, List.nil_append, List.cons_append]
  gi_wp2
  have bO := Boxed.new w 24 (.slice none 0 0)
  have hB0 : Below w.heap.size w (w.alloc (.cells #[.slice none 0 0] 24)) := (Below.refl _ w).alloc (Nat.le_refl _) _
  refine wpIn_rangeFunc_ownG hro h1 (gf := 34) (lb := #[.pointer (some ⟨Bs, 0, none⟩)]) rfl h5 (enters_of Ybad.func34 (by kernel_rfl) rfl)
    (values_stops F (n - 1) h5 hro (by omega) Bs w.heap.size b off cap zs hbytes _ (by simp; omega) (by simp) ((hB0.cell (p := ⟨Bs, 0, none⟩) hBs).trans hc) hb (fun j hj => (hB0.cell (p := ⟨b, off + j, none⟩) hb).trans (hcs j hj))) belowK_t (belowK_b (by simp)) (Below.refl _ _) (fun _ => rfl)
    (fun pre W => (∃ v, Boxed W w.heap.size 24 v ∧ W.ownsRow w.heap.size 3 1 v pre.length (pre.map (Value.int .i64)) ∧ (v = .slice none 0 0 ↔ pre = [])) ∧ Below w.heap.size w W)
    (fun _ _ _ => False)
    (OwnFrom.and (Own.from (holdsRow_own w.heap.size w.heap.size 24 3 1 (fun pre => pre.length) (fun pre => pre.map (Value.int .i64)) (fun pre v => v = .slice none 0 0 ↔ pre = [])) _) (ownFrom_below (Nat.le_refl _) (by simp)))
    (fun _ _ _ _ _ hs _ _ => hs)
    ⟨⟨_, bO, World.ownsRow_nil _ _ _ _, by simp⟩, hB0⟩
    (fun x => { tmps := #[.slice none 0 0, .func (.func 34) #[] #[.pointer (some ⟨Bs, 0, none⟩)], .pointer (some ⟨w.heap.size, 0, none⟩), undef, .slice none 0 0, .int .i64 x, .func (.func 34) #[] #[.pointer (some ⟨Bs, 0, none⟩)], .int .i64 x, undef, undef, undef, undef, undef], defers := [] }) ?assign ?body ?done ?stop
  case assign =>
    intro l x W K hK
    gi_wp2
    exact hK
  case body =>
    rintro l pre x W ⟨⟨v, hv, hrow, hnil⟩, hB⟩ hlt
    have hc := hv.cell
    gi_wp2_with (gi_at_builtin; refine wpListIn_append_own _ rfl _ _ 24 rfl w.heap.size 3 i0 (.int .i64 0) 1 8 Ybad.underlying24 hi hz0 hz1 hz2 rfl (by decide) _ _ _ rfl (hrow.alloc _) ⟨W.heap.size, 0, none⟩ 1 1 [.int .i64 x] rfl rfl (cell_one_new _ _ _) (by simp [Value.oneCell']) (by omega) (by omega) (by have := hB.size; simp; omega) ?_; intro v' w1 hown' hgrow _; obtain ⟨g', cap', rfl⟩ := ownsRow_succ hown'; obtain ⟨hv1, hv2, hr2, hk2, hb2⟩ := hv.appended (by decide) hrow hB.size (Nat.le_refl _) hown' hgrow; have hc1 := hv1.cell; have hf1 := hv1.frozen)
    exact ⟨hk2.from _, hb2, ⟨_, hv2, by simpa using hr2, by simp⟩, hB.trans hb2⟩
  case done =>
    rintro D ys W hD rfl ⟨⟨v, hv, hrow, hnil⟩, hB⟩ hK
    have hc := hv.cell
    gi_wp2
    refine ⟨by simp, .inl ⟨_, _, rfl, run_takeDeferred hK, ?_⟩⟩
    exact ⟨_, results_tmp rfl _ _ _, v, rfl, ownsRow_putObj hrow _ hK rfl, hnil, hB.trans (belowK_b (w := w) (Nat.le_refl _) W D _ _ (by simp at hD; omega) hK rfl rfl)⟩
  case stop =>
    rintro D c pre W _ _ h _
    exact h.elim

set_option maxHeartbeats 1000000 in
set_option maxRecDepth 100000 in
/-- slices.Sorted(slices.Values(s)): a new slice that holds the ints of s, sorted. -/
theorem sorted_values (Bs b off cap : Nat) (zs : List Int) (hlen : zs.length ≤ maxLen) (hbytes : zs.length * 8 ≤ 140737488351232) (w : World) (hBs : Bs < w.heap.size)
    (hc : w.cell? ⟨Bs, 0, none⟩ = some (.slice (some ⟨b, off, none⟩) zs.length cap)) (hb : b < w.heap.size) (hcs : ∀ j, j < zs.length → w.cell? ⟨b, off + j, none⟩ = some (.int .i64 (zs[j]?.getD 0))) :
    Calls Ybad.prog 21 #[.func (.func 34) #[] #[.pointer (some ⟨Bs, 0, none⟩)]] w fun e w' => ∃ v, e = .returned v ∧
      w'.ownsRow w.heap.size 3 1 v zs.length ((zs.mergeSort (fun x y => decide (x ≤ y))).map (Value.int .i64)) ∧ (v = .slice none 0 0 ↔ zs = []) ∧ Below w.heap.size w w' := by
  refine (callsIn_wide (n := 6)).1 ?_
  have cA := appendSeq_in Fence.wide 4 trivial trivial rfl (by omega) Bs b off cap zs hlen hbytes w hBs hc hb hcs
  have cC : CallsIn Fence.wide 5 Ybad.prog 32 #[.func (.func 34) #[] #[.pointer (some ⟨Bs, 0, none⟩)]] w fun e W' => ∃ v, e = .returned v ∧ W'.ownsRow w.heap.size 3 1 v zs.length (zs.map (Value.int .i64)) ∧ (v = .slice none 0 0 ↔ zs = []) ∧ Below w.heap.size w W' := by
    have hfA : Fence.wide.fn 41 := trivial
    refine callsIn_of_wp Ybad.func32 rfl trivial ?_ rfl
    simp only [Ybad.ntmps32, List.size_toArray, List.length_cons, List.length_nil, Nat.reduceAdd, Nat.reduceSub, Array.replicate_succ, Array.replicate_zero, List.push_toArray, List.append_toArray, List.nil_append, List.cons_append]
    gi_wp2_with (gi_at_call 41; refine cA.mono ?_; rintro e w' ⟨v, rfl, hrow, hnil, hb'⟩)
    go_ret
    exact ⟨v, rfl, hrow, hnil, hb'⟩
  have hfC : Fence.wide.fn 32 := trivial
  have hfS : Fence.wide.fn 33 := trivial
  refine callsIn_of_wp Ybad.func21 rfl trivial ?_ rfl
  simp only [Ybad.ntmps21, List.size_toArray, List.length_cons, List.length_nil, Nat.reduceAdd, Nat.reduceSub, Array.replicate_succ, Array.replicate_zero, List.push_toArray, List.append_toArray, List.nil_append, List.cons_append]
  gi_wp2_with (gi_at_call 32; refine cC.mono ?_; rintro e W ⟨v, rfl, hrow, hnil, hb'⟩)
  rcases hrow.2 with ⟨rfl, hz⟩ | ⟨gb, cap', cur, rfl, hbase, hgb, r1, r2, r3, r4⟩
  · have hss : zs = [] := List.eq_nil_of_length_eq_zero hz
    subst hss
    gi_wp2_with (gi_at_call 33; refine (callsIn_wide.2 (Ybad.slices_Sort_int_none none 0 W)).mono ?_; rintro e w' ⟨rfl, rfl⟩)
    go_ret
    exact ⟨.slice none 0 0, rfl, by simpa using hrow, by simp, hb'⟩
  · have hH : Holds encZ W gb 0 zs.toArray := holds_of_block_i hgb (by simpa using r4)
    have hgl : gb < W.heap.size := (Array.getElem?_eq_some_iff.1 hgb).1
    have hsz : zs.length < 4611686018427387904 := by omega
    have cS := Ybad.slices_Sort_int gb 0 cap' zs W hH hgl hsz
    gi_wp2_with (gi_at_call 33; refine (callsIn_wide.2 cS).mono ?_; rintro e w' ⟨rfl, nn, os, rfl⟩)
    go_ret
    exact ⟨_, rfl, ownsRow_sorted_i (by simp) hbase hgb r1 r2 r3, hnil, hb'.grown (grownBy_sorted_i _) hb'.size (fun j hj => by cases hj; exact hbase)⟩

theorem values_call (a : Option Addr) (len cap : Nat) (w : World) :
    Calls Ybad.prog 22 #[.slice a len cap] w fun e w' => e = .returned (.func (.func 34) #[] #[.pointer (some ⟨w.heap.size, 0, none⟩)]) ∧ w' = w.alloc (.cells #[.slice a len cap] 24) := by
  go_enter Ybad.func22, Ybad.ntmps22
  go_wp2
  go_ret
  exact ⟨rfl, rfl⟩

end Go.Proofs.YbulkeiwwDoor
