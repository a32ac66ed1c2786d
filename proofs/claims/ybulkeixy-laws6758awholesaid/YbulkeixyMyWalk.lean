/-
  The walk of LawS6758AWhole.
-/
import Derived.Test.YbulkeixyMyBig
import Derived.Deep.RegionHeld3
import Derived.Deep.DrawnRows
import Derived.BigQuiet
import Derived.WalkSmall
import Derived.Deep.QuietTactic
namespace Go.Proofs.Ybulkeixy
open Go.RowKit Go.ChangeMaps
attribute [local go_sem ↓] Go.wp_at_zero Go.wp_at_succ

theorem make29 (w : World) (n : Nat) (hn : n ≤ 1048576) :
    (Instr.makeSlice 24 (.int .i64 (n : Int)) (.int .i64 (n : Int))).run Yba.prog w = .ok (.slice (some ⟨w.heap.size, 0, none⟩) n n) (w.alloc (.cells (madeCells #[.string ⟨#[]⟩, .string ⟨#[]⟩, .int .u64 0, .string ⟨#[]⟩, .int .u64 0] (n * 5)) 29)) := by
  have hinfo : (Yba.prog.info? 29).map (fun i => (i.zero, i.size, i.bytes)) = some (some (.agg #[.string ⟨#[]⟩, .string ⟨#[]⟩, .int .u64 0, .string ⟨#[]⟩, .int .u64 0]), 5, 64) := by kernel_rfl
  obtain ⟨i, hi, hz, hs, hb⟩ := info_parts hinfo
  have := run_make (P := Yba.prog) w 24 29 i _ Yba.underlying24 hi hz .i64 .i64 n n (by omega) (Int.le_refl _) (by rw [hb]; omega) (by omega)
  simp only [Int.toNat_natCast, hs] at this
  exact this

theorem step1 {w wr : World} {S T M : Nat → ByteArray} {P D : Nat → Int} {n k : Nat} {s t : ByteArray} (hk : k < n) (hB : Below w.heap.size w wr) (hsz : wr.heap.size = w.heap.size + 1)
    (hA : wr.heap[w.heap.size]? = some (.cells (asArr S T M P D n k) 29)) (hs : S k = s) (ht : T k = t) :
    Below w.heap.size w (((((wr.setCell ⟨w.heap.size, k * 5, none⟩ (.string s)).setCell ⟨w.heap.size, k * 5 + 1, none⟩ (.string t)).setCell ⟨w.heap.size, k * 5 + 2, none⟩ (.int .u64 (P k))).setCell ⟨w.heap.size, k * 5 + 3, none⟩ (.string (M k))).setCell ⟨w.heap.size, k * 5 + 4, none⟩ (.int .u64 (D k))).drew ∧
    (((((wr.setCell ⟨w.heap.size, k * 5, none⟩ (.string s)).setCell ⟨w.heap.size, k * 5 + 1, none⟩ (.string t)).setCell ⟨w.heap.size, k * 5 + 2, none⟩ (.int .u64 (P k))).setCell ⟨w.heap.size, k * 5 + 3, none⟩ (.string (M k))).setCell ⟨w.heap.size, k * 5 + 4, none⟩ (.int .u64 (D k))).drew.heap.size = w.heap.size + 1 ∧
    (((((wr.setCell ⟨w.heap.size, k * 5, none⟩ (.string s)).setCell ⟨w.heap.size, k * 5 + 1, none⟩ (.string t)).setCell ⟨w.heap.size, k * 5 + 2, none⟩ (.int .u64 (P k))).setCell ⟨w.heap.size, k * 5 + 3, none⟩ (.string (M k))).setCell ⟨w.heap.size, k * 5 + 4, none⟩ (.int .u64 (D k))).drew.heap[w.heap.size]? = some (.cells (asArr S T M P D n (k + 1)) 29) := by
  subst hs ht
  have hlt := lt_of_heap hA
  refine ⟨(((((hB.setCell (Nat.le_refl _) _).setCell (Nat.le_refl _) _).setCell (Nat.le_refl _) _).setCell (Nat.le_refl _) _).setCell (Nat.le_refl _) _).drew, by simp [hsz], ?_⟩
  rw [setCell_cells hA, setCell_cells (heap_setBlock_at _ hlt), setBlock_setBlock, setCell_cells (heap_setBlock_at _ hlt), setBlock_setBlock, setCell_cells (heap_setBlock_at _ hlt), setBlock_setBlock, setCell_cells (heap_setBlock_at _ hlt), setBlock_setBlock, asArr_set hk]
  exact heap_setBlock_at _ hlt

set_option maxRecDepth 100000 in
set_option maxHeartbeats 2000000 in
theorem law_some (id : Int) (owner sec : ByteArray) (b off len cap : Nat) (Sm : Nat → Bool) (Se Rw Mt : Nat → ByteArray) (St Lp Md : Nat → Int) (w : World)
    (hlen : len ≤ 1048576) (hb : b < w.heap.size)
    (c0 : ∀ k, k < len → w.cell? ⟨b, off + k * 7, none⟩ = some (.bool (Sm k)))
    (c1 : ∀ k, k < len → w.cell? ⟨b, off + k * 7 + 1, none⟩ = some (.string (Se k)))
    (c2 : ∀ k, k < len → w.cell? ⟨b, off + k * 7 + 2, none⟩ = some (.int .u8 (St k)))
    (c3 : ∀ k, k < len → w.cell? ⟨b, off + k * 7 + 3, none⟩ = some (.string (Rw k)))
    (c4 : ∀ k, k < len → w.cell? ⟨b, off + k * 7 + 4, none⟩ = some (.int .u64 (Lp k)))
    (c5 : ∀ k, k < len → w.cell? ⟨b, off + k * 7 + 5, none⟩ = some (.string (Mt k)))
    (c6 : ∀ k, k < len → w.cell? ⟨b, off + k * 7 + 6, none⟩ = some (.int .u64 (Md k)))
    (hst : ∀ k, k < len → 0 ≤ St k ∧ St k ≤ 255) :
    Calls Yba.prog 3 #[.int .u64 id, .string owner, .string sec, .slice (some ⟨b, off, none⟩) len cap] w fun e w' => e = .returned (.bool true) ∧ Below w.heap.size w w' := by
  obtain ⟨S, hS⟩ : ∃ S : Nat → ByteArray, S = fun k => if Sm k then sec else Se k := ⟨_, rfl⟩
  obtain ⟨T, hT⟩ : ∃ T : Nat → ByteArray, T = fun k => stF (St k) (Rw k) := ⟨_, rfl⟩
  have HS : ∀ k, Hid (S k = if Sm k then sec else Se k) := fun k => by rw [hS]; rfl
  have HT : ∀ k, Hid (T k = stF (St k) (Rw k)) := fun k => by rw [hT]; rfl
  clear hS hT
  have hmk := fun w => make29 w len hlen
  rw [madeZ (S := S) (T := T) (M := Mt) (P := Lp) (D := Md)] at hmk
  have hn1 := fun w a n c => run_neq_slice_nil_any (P := Yba.prog) w 23 26 a n c 0 0 Yba.underlying23
  have hn2 := fun w a n c => run_neq_slice_nil_any (P := Yba.prog) w 24 29 a n c 0 0 Yba.underlying24
  have hn3 := fun w a n c => Lib.run_eql_slice_nil (P := Yba.prog) w 24 29 a n c 0 0 Yba.underlying24
  go_enter Yba.func3, Yba.ntmps3
  go_wp2
  go_loopw [10] (fun i wr => ∃ k : Nat, k ≤ len ∧ i = .int .i64 k ∧ Below w.heap.size w wr ∧ wr.heap.size = w.heap.size + 1 ∧ wr.heap[w.heap.size]? = some (.cells (asArr S T Mt Lp Md len k) 29)) (fun i _ => len - (intOf i).toNat)
  case atStart => exact ⟨0, Nat.zero_le _, rfl, (Below.refl _ _).alloc (Nat.le_refl _) _, by simp, heap_alloc_at _ _ rfl⟩
  case round =>
    obtain ⟨k, hk, rfl, hB, hsz, hA⟩ := hrel
    by_cases hlt : k < len
    · have d0 := (hB.cell (p := ⟨b, off + k * 7, none⟩) hb).trans (c0 k hlt)
      have d1 := (hB.cell (p := ⟨b, off + k * 7 + 1, none⟩) hb).trans (c1 k hlt)
      have d2 := (hB.cell (p := ⟨b, off + k * 7 + 2, none⟩) hb).trans (c2 k hlt)
      have d3 := (hB.cell (p := ⟨b, off + k * 7 + 3, none⟩) hb).trans (c3 k hlt)
      have d4 := (hB.cell (p := ⟨b, off + k * 7 + 4, none⟩) hb).trans (c4 k hlt)
      have d5 := (hB.cell (p := ⟨b, off + k * 7 + 5, none⟩) hb).trans (c5 k hlt)
      have d6 := (hB.cell (p := ⟨b, off + k * 7 + 6, none⟩) hb).trans (c6 k hlt)
      have hs := hst k hlt
      clear c0 c1 c2 c3 c4 c5 c6 hst hmk hn1 hn2 hn3
      have e0 : wr.cell? ⟨w.heap.size, k * 5, none⟩ = some (zV 0) := cell_of_heap hA ((asArr_get hlt (by omega : 0 < 5)).trans (by simp))
      have e1 : wr.cell? ⟨w.heap.size, k * 5 + 1, none⟩ = some (zV 1) := cell_of_heap hA ((asArr_get hlt (by omega)).trans (by simp))
      have e2 : wr.cell? ⟨w.heap.size, k * 5 + 2, none⟩ = some (zV 2) := cell_of_heap hA ((asArr_get hlt (by omega)).trans (by simp))
      have e3 : wr.cell? ⟨w.heap.size, k * 5 + 3, none⟩ = some (zV 3) := cell_of_heap hA ((asArr_get hlt (by omega)).trans (by simp))
      have e4 : wr.cell? ⟨w.heap.size, k * 5 + 4, none⟩ = some (zV 4) := cell_of_heap hA ((asArr_get hlt (by omega)).trans (by simp))
      have hf : ∀ o, wr.frozen? ⟨w.heap.size, o, none⟩ = false := fun o => frozen_of_heap hA
      have HSk := HS k
      have i0 : (0 : Int) ≤ (k : Int) := by omega
      have i1 : (k : Int) < (len : Int) := by omega
      have n1 : ¬ w.heap.size = b := by omega
      have n2 : ¬ b = w.heap.size := by omega
      cases hm : Sm k
      all_goals
        rw [hm] at HSk d0
        clear hm
        go_wp2
        go_region_held3 (fun w' => w'.cell? ⟨b, off + k * 7 + 2, none⟩ = some (.int .u8 (St k)) ∧ w'.cell? ⟨b, off + k * 7 + 3, none⟩ = some (.string (Rw k)) ∧ w'.cell? ⟨b, off + k * 7 + 4, none⟩ = some (.int .u64 (Lp k)) ∧ w'.cell? ⟨b, off + k * 7 + 5, none⟩ = some (.string (Mt k)) ∧ w'.cell? ⟨b, off + k * 7 + 6, none⟩ = some (.int .u64 (Md k))) (go_keep)
          (first | (go_at_call 4; refine (state_any (St k) (Rw k) _ hs.1 hs.2).mono ?_; rintro e w' ⟨rfl, rfl⟩))
        go_wp2
        go_roundw
        case rel => exact ⟨k + 1, by omega, by go_num, step1 hlt hB hsz hA (by simpa using HSk.out) (HT k).out⟩
        case measure => simp [intOf]; omega
    · have hkn : len = k := by omega
      subst hkn
      have hcp := fun ty => run_copy_al (wr.alloc (.cells (asArr S T Mt Lp Md len 0) 29)) ty w.heap.size (w.heap.size + 1) len len len _ _ ((heap_alloc_lt _ _ (by omega)).trans hA) (heap_alloc_at _ _ hsz.symm) asArr_size asArr_size asArr_one
      have hA2 : (setBlock (wr.alloc (.cells (asArr S T Mt Lp Md len 0) 29)) (w.heap.size + 1) (.cells (asArr S T Mt Lp Md len len) 29)).heap[w.heap.size]? = some (.cells (asArr S T Mt Lp Md len len) 29) := (heap_setBlock_ne _ (by omega)).trans ((heap_alloc_lt _ _ (by omega)).trans hA)
      have hG2 : (setBlock (wr.alloc (.cells (asArr S T Mt Lp Md len 0) 29)) (w.heap.size + 1) (.cells (asArr S T Mt Lp Md len len) 29)).heap[w.heap.size + 1]? = some (.cells (asArr S T Mt Lp Md len len) 29) := heap_setBlock_at _ (by simp [hsz])
      have hB2 : Below w.heap.size w (setBlock (wr.alloc (.cells (asArr S T Mt Lp Md len 0) 29)) (w.heap.size + 1) (.cells (asArr S T Mt Lp Md len len) 29)) := below_setBlock (hB.alloc (by omega) _) (by omega) _
      have hs2 : (setBlock (wr.alloc (.cells (asArr S T Mt Lp Md len 0) 29)) (w.heap.size + 1) (.cells (asArr S T Mt Lp Md len len) 29)).heap.size = w.heap.size + 2 := by rw [size_setBlock]; simp [hsz]
      generalize setBlock (wr.alloc (.cells (asArr S T Mt Lp Md len 0) 29)) (w.heap.size + 1) (.cells (asArr S T Mt Lp Md len len) 29) = w2 at hcp hA2 hG2 hB2 hs2
      clear hA hB hk hlt hn1
      have hld : (w2.alloc (.cells (fileV id owner (.slice (some ⟨w.heap.size, 0, none⟩) len len)) 33)).heap[w.heap.size + 2]? = some (.cells (fileV id owner (.slice (some ⟨w.heap.size, 0, none⟩) len len)) 33) := heap_alloc_at _ _ hs2.symm
      have hA3 : (w2.alloc (.cells (fileV id owner (.slice (some ⟨w.heap.size, 0, none⟩) len len)) 33)).heap[w.heap.size]? = some (.cells (asArr S T Mt Lp Md len len) 29) := (heap_alloc_lt _ _ (by omega)).trans hA2
      have hG3 : (w2.alloc (.cells (fileV id owner (.slice (some ⟨w.heap.size, 0, none⟩) len len)) 33)).heap[w.heap.size + 1]? = some (.cells (asArr S T Mt Lp Md len len) 29) := (heap_alloc_lt _ _ (by omega)).trans hG2
      have hB3 : Below w.heap.size w (w2.alloc (.cells (fileV id owner (.slice (some ⟨w.heap.size, 0, none⟩) len len)) 33)) := hB2.alloc (by omega) _
      have hs3 : (w2.alloc (.cells (fileV id owner (.slice (some ⟨w.heap.size, 0, none⟩) len len)) 33)).heap.size = w.heap.size + 3 := by simp [hs2]
      have HA3 := hideIt hA3
      have HG3 := hideIt hG3
      clear hA3 hG3 hA2 hG2 hB2
      go_wp2_with (first | (refine wpList_store_new rfl 33 33 (.tmp 13) (.tmp 88) rfl (w.heap.size + 2) hs2.symm _ (fileV id owner (.slice (some ⟨w.heap.size, 0, none⟩) len len)) (by rfl) (by rfl) (by rfl) size33 (file_one _ _ _ _ _) ?_) | (refine wpList_load_row rfl 33 (.tmp 13) rfl (w.heap.size + 2) (by rfl) 33 _ (0, 0) _ hld Yba.underlying33 rfl size33 ?_))
      clear hld hcp hmk hn2 c4 c5 c6
      refine (hasPending_any w.heap.size len S T Mt Lp Md sec _ id owner (by simp; omega) hlen (fun j hj => cell_of_heap HA3.out ((asArr_get hj (by omega : 0 < 5)).trans (by simp [hj, asV]))) (fun j hj => cell_of_heap HA3.out ((asArr_get hj (by omega)).trans (by simp [hj, asV]))) (fun j hj => cell_of_heap HA3.out ((asArr_get hj (by omega)).trans (by simp [hj, asV]))) (fun j hj => cell_of_heap HA3.out ((asArr_get hj (by omega)).trans (by simp [hj, asV]))) (fun j hj => cell_of_heap HA3.out ((asArr_get hj (by omega)).trans (by simp [hj, asV])))).mono ?_
      rintro e w4 ⟨rfl, hb4⟩
      have hB4 := hB3.trans (hb4.mono (by omega))
      have hA4 := (hb4.block w.heap.size (by omega)).trans HA3.out
      have hG4 := (hb4.block (w.heap.size + 1) (by omega)).trans HG3.out
      clear hb4 hB3 HA3 HG3 hs2 hs3
      generalize hg : (List.range len).any (hit S T sec) = g
      have Hg := hideIt hg
      clear hg
      go_wp2
      go_loop [15, 16] (fun wn i => ∃ q : Bool, wn = .bool q ∧ ((∃ j : Nat, j < len ∧ i = .int .i64 j ∧ Hid (q = anyFrom (hit S T sec) (j + 1) len)) ∨ (i = .int .i64 (-1) ∧ Hid (q = anyFrom (hit S T sec) 0 len)))) (fun _ i => (intOf i + 1).toNat)
      case atStart =>
        refine ⟨false, rfl, ?_⟩
        by_cases h0 : len = 0
        · exact Or.inr ⟨by rw [h0]; rfl, by rw [h0]; exact (anyFrom_end _ 0).symm⟩
        · refine Or.inl ⟨len - 1, by omega, by congr 1; omega, ?_⟩
          rw [show len - 1 + 1 = len by omega]
          exact (anyFrom_end _ len).symm
      case round =>
        obtain ⟨q, rfl, hrel⟩ := hrel
        rcases hrel with ⟨j, hj, rfl, hq⟩ | ⟨rfl, hq⟩
        · have d0 := (hB4.cell (p := ⟨b, off + j * 7, none⟩) hb).trans (c0 j hj)
          have d1 := (hB4.cell (p := ⟨b, off + j * 7 + 1, none⟩) hb).trans (c1 j hj)
          have d2 := (hB4.cell (p := ⟨b, off + j * 7 + 2, none⟩) hb).trans (c2 j hj)
          have d3 := (hB4.cell (p := ⟨b, off + j * 7 + 3, none⟩) hb).trans (c3 j hj)
          have hs := hst j hj
          have HSj := HS j
          have HTj := HT j
          clear c0 c1 c2 c3 hst hA4 hG4 hB4 HS HT hn3
          go_wp2
          all_goals
            go_round
            case rel => first | exact rel2 hj hq (way_t1 HSj HTj (by assumption) (by assumption)) | exact rel2 hj hq (way_t2 HSj HTj (by assumption) (by assumption)) | exact rel2 hj hq (way_t3 HSj HTj (by assumption) (by assumption) (by assumption)) | exact rel2 hj hq (way_t4 HSj HTj (by assumption) (by assumption) (by assumption)) | exact rel2 hj hq (way_f1 HSj HTj (by assumption) (by assumption)) | exact rel2 hj hq (way_f2 HSj HTj (by assumption) (by assumption)) | exact rel2 hj hq (way_f3 HSj HTj (by assumption) (by assumption))
            case measure => simp [intOf]
        · have hgq : q = g := by rw [hq.out, ← Hg.out, anyFrom_zero]
          subst hgq
          clear c0 c1 c2 c3 hst hb HS HT hq Hg
          go_wp2
          go_loopw [20] (fun i wr => ∃ k : Nat, k ≤ len ∧ i = .int .i64 k ∧ Below w.heap.size w wr ∧ wr.heap[w.heap.size]? = some (.cells (asArr S T Mt Lp Md len len) 29) ∧ wr.heap[w.heap.size + 1]? = some (.cells (asArr S T Mt Lp Md len len) 29)) (fun i _ => len - (intOf i).toNat)
          case atStart => exact ⟨0, Nat.zero_le _, rfl, hB4, hA4, hG4⟩
          case round =>
            clear hB4 hA4 hG4
            obtain ⟨k, hk, rfl, hB, hA, hG⟩ := hrel
            by_cases hlt : k < len
            · have e0 : wr.cell? ⟨w.heap.size, k * 5, none⟩ = some (.string (S k)) := cell_of_heap hA ((asArr_get hlt (by omega : 0 < 5)).trans (by simp [hlt, asV]))
              have e1 : wr.cell? ⟨w.heap.size, k * 5 + 1, none⟩ = some (.string (T k)) := cell_of_heap hA ((asArr_get hlt (by omega)).trans (by simp [hlt, asV]))
              have e2 : wr.cell? ⟨w.heap.size, k * 5 + 2, none⟩ = some (.int .u64 (Lp k)) := cell_of_heap hA ((asArr_get hlt (by omega)).trans (by simp [hlt, asV]))
              have e3 : wr.cell? ⟨w.heap.size, k * 5 + 3, none⟩ = some (.string (Mt k)) := cell_of_heap hA ((asArr_get hlt (by omega)).trans (by simp [hlt, asV]))
              have e4 : wr.cell? ⟨w.heap.size, k * 5 + 4, none⟩ = some (.int .u64 (Md k)) := cell_of_heap hA ((asArr_get hlt (by omega)).trans (by simp [hlt, asV]))
              have f0 : wr.cell? ⟨w.heap.size + 1, k * 5, none⟩ = some (.string (S k)) := cell_of_heap hG ((asArr_get hlt (by omega : 0 < 5)).trans (by simp [hlt, asV]))
              have f1 : wr.cell? ⟨w.heap.size + 1, k * 5 + 1, none⟩ = some (.string (T k)) := cell_of_heap hG ((asArr_get hlt (by omega)).trans (by simp [hlt, asV]))
              have f2 : wr.cell? ⟨w.heap.size + 1, k * 5 + 2, none⟩ = some (.int .u64 (Lp k)) := cell_of_heap hG ((asArr_get hlt (by omega)).trans (by simp [hlt, asV]))
              have f3 : wr.cell? ⟨w.heap.size + 1, k * 5 + 3, none⟩ = some (.string (Mt k)) := cell_of_heap hG ((asArr_get hlt (by omega)).trans (by simp [hlt, asV]))
              have f4 : wr.cell? ⟨w.heap.size + 1, k * 5 + 4, none⟩ = some (.int .u64 (Md k)) := cell_of_heap hG ((asArr_get hlt (by omega)).trans (by simp [hlt, asV]))
              have hne := fun w => run_neq_al w (S k) (T k) (Mt k) (Lp k) (Md k)
              have i0 : (0 : Int) ≤ (k : Int) := by omega
              have i1 : (k : Int) < (len : Int) := by omega
              have HA := hideIt hA
              have HG := hideIt hG
              clear hA hG
              go_wp2
              go_quiet (fail)
              go_wp2
              go_roundw
              case rel => exact ⟨k + 1, by omega, by go_num, below_drewN hB _, HA.out, HG.out⟩
              case measure => simp [intOf]; omega
            · go_wp2
              go_ret
              exact ⟨rfl, hB⟩

end Go.Proofs.Ybulkeixy
