/-
  The copies and the comparisons of the law's rows (functions 4 to 6, 9 to 11).
-/
import Derived.Test.YbulkeiwwDoorMyChecks
import Derived.Test.YbulkeiwwDoorMyRows
import Derived.Laws.StructEq
import Derived.Lib.SliceRun
import Derived.Laws.BytesString
namespace Go.Proofs.YbulkeiwwDoor
open Go.RowKit Go.ChangeMaps Go.Lib Gr
attribute [local go_sem ↓] Go.wp_at_zero Go.wp_at_succ
set_option linter.unusedVariables false

theorem convert_any {w : World} {B : Nat} {v : Value} {l : List UInt8} (h : w.ownsRow B 5 1 v l.length (byteCells l)) : (convert 32 9 v).run Ybad.prog w = .ok (.string ⟨l.toArray⟩) w := by
  by_cases hl : 0 < l.length
  · obtain ⟨g, cap, rfl, e⟩ := convert_row h hl
    exact e
  · have e : l = [] := List.length_eq_zero_iff.1 (by omega)
    subst e
    obtain ⟨_, ⟨rfl, _⟩ | ⟨g, cap, cur, rfl, _⟩⟩ := h
    · rw [run_convert_bytes_string w 32 9 5 none 0 0 Ybad.underlying32 Ybad.underlying5 Ybad.underlying9]
      simp [Conv.bytesToString]
      rfl
    · exact run_convert_bytes_back w 32 9 5 ⟨g, 0, none⟩ cap [] Ybad.underlying32 Ybad.underlying5 Ybad.underlying9 (fun j hj => by simp at hj)

theorem own_cells {w : World} {B e s n : Nat} {g cap : Nat} {xs : List Value} (h : w.ownsRow B e s (.slice (some ⟨g, 0, none⟩) n cap) n xs) {j : Nat} {u : Value} (hj : xs[j]? = some u) : w.cell? ⟨g, j, none⟩ = some u := ownsRow_cell h hj

set_option maxHeartbeats 1000000 in
set_option maxRecDepth 100000 in
/-- slices.Clone at the places. -/
theorem clone_pairs {w : World} {B n : Nat} {v : Value} {xs : List Value} (h : w.ownsRow B 35 2 v n xs) (hn : n ≤ 1000) (h1 : ∀ u ∈ xs, u.oneCell' = true) :
    Calls Ybad.prog 5 #[v] w fun e w' => ∃ v', e = .returned v' ∧ w'.ownsRow w.heap.size 35 2 v' n xs ∧ Below w.heap.size w w' := by
  have q33 : ∀ (w : World) (a : Option Addr) (n c n' c' : Nat), (binOp .eql 33 (.slice a n c) (.slice none n' c')).run Ybad.prog w = .ok (.bool a.isNone) w := fun w a n c n' c' => Lib.run_eql_slice_nil w _ _ a n c n' c' Ybad.underlying33
  have h' := h
  obtain ⟨hl, ⟨rfl, rfl⟩ | ⟨g, cap, cur, rfl, hg, hc, hcap, hmx, hsz, htk⟩⟩ := h'
  · have e : xs = [] := List.length_eq_zero_iff.1 (by simpa using hl)
    subst e
    go_enter Ybad.func5, Ybad.ntmps5
    go_wp2
    go_ret
    exact ⟨_, rfl, World.ownsRow_nil _ _ _ _, Below.refl _ _⟩
  · obtain ⟨i35, hi35, hz35, hs35, hy35⟩ := info_parts info35
    have hnews : ∀ j u, xs[j]? = some u → (w.alloc (.cells #[] 35)).cell? ((⟨g, 0, none⟩ : Addr).add j) = some u := fun j u hj => by
      have hc1 : (w.alloc (.cells #[] 35)).cell? ⟨g, j, none⟩ = some u := (World.cell?_of_block (heap_alloc_lt _ _ (lt_of_heap hc))).trans (ownsRow_cell h hj)
      by_cases hj0 : j = 0
      · subst hj0; simpa [Addr.add] using hc1
      · simpa [Addr.add, hj0] using hc1
    have HN := hideIt (And.intro hnews (And.intro hl h1))
    clear hnews hl h1 htk hc hg hcap hmx hsz h
    go_enter Ybad.func5, Ybad.ntmps5
    go_wp2_with (at_builtin; refine wpList_append_own _ rfl _ _ 33 rfl w.heap.size 35 i35 (.agg #[.int .i64 0, .int .i64 0]) 2 16 Ybad.underlying33 hi35 hz35 hs35 hy35 rfl (by decide) _ 0 [] rfl (World.ownsRow_made w #[] 0 (Nat.le_refl _) (Nat.zero_le _) (by simp)) ⟨g, 0, none⟩ n cap xs rfl HN.out.2.1 HN.out.1 HN.out.2.2 (by unfold maxLen; omega) (by omega) (by simp) ?_; intro v' w1 hown hgrow hnil)
    go_ret
    refine ⟨v', rfl, by simpa using hown, ?_⟩
    exact ((Below.refl _ w).alloc (Nat.le_refl _) _).grown hgrow (by simp) (fun k hk => by have e : w.heap.size = k := Option.some.inj hk; omega)

/-- slices.Clone at the odd keys. -/
theorem clone_strs {w : World} {B n : Nat} {v : Value} {l : List (List UInt8)} (h : w.ownsRow B 9 1 v n (strs l)) (hn : n ≤ 1000) :
    Calls Ybad.prog 6 #[v] w fun e w' => ∃ v', e = .returned v' ∧ w'.ownsRow w.heap.size 9 1 v' n (strs l) ∧ Below w.heap.size w w' := by
  have h' := h
  obtain ⟨hl, ⟨rfl, rfl⟩ | ⟨g, cap, cur, rfl, hg, hc, hcap, hmx, hsz, htk⟩⟩ := h'
  · have e : strs l = [] := List.length_eq_zero_iff.1 (by simpa using hl)
    rw [e]
    refine (Ybad.slices_Clone_nil_f6 0 0 w).mono ?_
    rintro e w' ⟨rfl, rfl⟩
    exact ⟨_, rfl, World.ownsRow_nil _ _ _ _, Below.refl _ _⟩
  · obtain ⟨i9, hi9, hz9, hs9, hy9⟩ := info_parts info9
    refine (Ybad.slices_Clone_f6 i9 (.string ⟨#[]⟩) 1 16 hi9 hz9 hs9 hy9 rfl (by decide) Ybad.sizeOf9 g 0 n cap (strs l) w hl (by unfold maxLen; omega) (by omega) (fun j u hj => by rw [Nat.zero_add]; exact ownsRow_cell h hj) (fun u hu => by obtain ⟨i, _, rfl⟩ := List.mem_map.1 hu; rfl)).mono ?_
    rintro e w' ⟨v', rfl, h1, _, h2⟩
    exact ⟨v', rfl, h1, h2⟩

theorem neq35 (a b : Int) (w : World) : (binOp .neq 35 (.agg #[.int .i64 a, .int .i64 b]) (.agg #[.int .i64 a, .int .i64 b])).run Ybad.prog w = .ok (.bool false) w := by
  rw [run_neq_struct, run_equalIn_agg w 9999 35 _ _ (by kernel_rfl) (by kernel_rfl)]
  simp only [Program.fieldsOf, Ybad.underlying35]
  go_simp

theorem neq79 (a : Int) (s t : ByteArray) (w : World) : (binOp .neq 79 (.agg #[.int .i64 a, .int .i64 0, .int .i64 0, .string s, .string t]) (.agg #[.int .i64 a, .int .i64 0, .int .i64 0, .string s, .string t])).run Ybad.prog w = .ok (.bool false) w := by
  rw [run_neq_struct, run_equalIn_agg w 9999 79 _ _ (by kernel_rfl) (by kernel_rfl)]
  simp only [Program.fieldsOf, Ybad.underlying79]
  go_simp

set_option maxHeartbeats 1000000 in
set_option maxRecDepth 100000 in
/-- slices.Equal at the places: of one content. -/
theorem equal_pairs {w : World} {b1 b2 n c d : Nat} (f g : Nat → Int) (hn : n ≤ 1000)
    (h1 : ∀ j, j < n → w.cell? ⟨b1, j * 2, none⟩ = some (.int .i64 (f j)) ∧ w.cell? ⟨b1, j * 2 + 1, none⟩ = some (.int .i64 (g j)))
    (h2 : ∀ j, j < n → w.cell? ⟨b2, j * 2, none⟩ = some (.int .i64 (f j)) ∧ w.cell? ⟨b2, j * 2 + 1, none⟩ = some (.int .i64 (g j))) :
    Calls Ybad.prog 9 #[.slice (some ⟨b1, 0, none⟩) n c, .slice (some ⟨b2, 0, none⟩) n d] w fun e w' => e = .returned (.bool true) ∧ Below w.heap.size w w' := by
  have HC := hideIt (And.intro h1 h2)
  clear h1 h2
  go_enter Ybad.func9, Ybad.ntmps9
  go_wp2
  go_loopg [13] n (fun k x wr => ∃ j : Nat, j + k = n ∧ x = .int .i64 (j : Int) ∧ ∃ q, wr = w.drewN q)
  case atStart => exact ⟨0, by simp, rfl, 0, rfl⟩
  case round =>
    obtain ⟨j, hj, rfl, q, rfl⟩ := hrel
    cases gk with
    | zero =>
      have ej : j = n := by omega
      subst ej
      have t1 : ¬ ((j : Int) < (j : Int)) := by omega
      go_wp2
      go_ret
      exact ⟨rfl, below_drewN (Below.refl _ w) q⟩
    | succ k =>
      obtain ⟨c1, c2⟩ := HC.out.1 j (by omega)
      obtain ⟨c3, c4⟩ := HC.out.2 j (by omega)
      have t1 : (j : Int) < (n : Int) := by omega
      have t2 : (0 : Int) ≤ (j : Int) := by omega
      have t3 : (j : Int) + 1 ≤ 9223372036854775807 := by omega
      have HJ := hideIt hj
      clear hj
      go_wp2
      go_quiet (fail)
      go_wp2
      go_roundg k
      case measure => exact Nat.lt_succ_self _
      case rel => exact ⟨j + 1, by have := HJ.out; omega, rfl, q + nq, rfl⟩

set_option maxHeartbeats 1000000 in
/-- slices.Equal at rows of one content. -/
theorem equal_rows35 {w : World} {B B' n : Nat} {v v' : Value} (K : Nat → List UInt8) (hn : n ≤ 1000) (h : w.ownsRow B 35 2 v n (pairs K n)) (h' : w.ownsRow B' 35 2 v' n (pairs K n)) :
    Calls Ybad.prog 9 #[v, v'] w fun e w' => e = .returned (.bool true) ∧ Below w.heap.size w w' := by
  by_cases h0 : n = 0
  · subst h0
    obtain ⟨a, c, rfl⟩ := row_form h
    obtain ⟨a', c', rfl⟩ := row_form h'
    clear h h'
    go_enter Ybad.func9, Ybad.ntmps9
    go_wp2
    go_loopg [13] 0 (fun k x wr => k = 0 ∧ x = .int .i64 0 ∧ wr = w)
    case atStart => exact ⟨rfl, rfl, rfl⟩
    case round =>
      obtain ⟨rfl, rfl, rfl⟩ := hrel
      go_wp2
      go_ret
      exact ⟨rfl, Below.refl _ _⟩
  · obtain ⟨b, c, rfl, _⟩ := row_some h (by omega)
    obtain ⟨b', c', rfl, _⟩ := row_some h' (by omega)
    exact equal_pairs (fun j => ((bufAt K j).length : Int)) (endAt K) hn (fun j hj => ⟨ownsRow_cell h (pairs_get K hj).1, ownsRow_cell h (pairs_get K hj).2⟩) (fun j hj => ⟨ownsRow_cell h' (pairs_get K hj).1, ownsRow_cell h' (pairs_get K hj).2⟩)

theorem equal_rows9 {w : World} {B B' n : Nat} {v v' : Value} {l : List (List UInt8)} (hn : n ≤ 1000) (h : w.ownsRow B 9 1 v n (strs l)) (h' : w.ownsRow B' 9 1 v' n (strs l)) :
    Calls Ybad.prog 10 #[v, v'] w fun e w' => e = .returned (.bool true) ∧ Below w.heap.size w w' := by
  have hl : l.length = n := by have := h.1; rw [strs_length] at this; omega
  by_cases h0 : n = 0
  · obtain ⟨a, c, rfl⟩ := row_form h
    obtain ⟨a', c', rfl⟩ := row_form h'
    rw [h0]
    refine (Ybad.slices_Equal_string_empty a a' c 0 c' w (by omega)).mono ?_
    rintro e w' ⟨rfl, rfl⟩
    exact ⟨by simp, Below.refl _ _⟩
  · obtain ⟨b, c, rfl, _⟩ := row_some h (by omega)
    obtain ⟨b', c', rfl, _⟩ := row_some h' (by omega)
    have hc : ∀ j, j < (l.map fun s => (⟨s.toArray⟩ : ByteArray)).length → (strs l)[j]? = some (.string ((l.map fun s => (⟨s.toArray⟩ : ByteArray)).getD j ByteArray.empty)) := fun j hj => by
      rw [List.length_map] at hj
      simp [strs, hj]
    refine (Ybad.slices_Equal_string b 0 n c b' 0 n c' (l.map fun s => ⟨s.toArray⟩) (l.map fun s => ⟨s.toArray⟩) w (by simp; omega) (by simp; omega) (by omega) (by omega) (fun j hj => by rw [Nat.zero_add]; exact ownsRow_cell h (hc j hj)) (fun j hj => by rw [Nat.zero_add]; exact ownsRow_cell h' (hc j hj))).mono ?_
    rintro e w' ⟨rfl, q, rfl⟩
    exact ⟨by simp, below_drewN (Below.refl _ w) q⟩

theorem equal_rows3 {w : World} {B n c : Nat} {b : Nat} {v' : Value} {f : Nat → Int} (hn : n ≤ 1000000) (h : ∀ j, j < n → w.cell? ⟨b, j, none⟩ = some (.int .i64 (f j))) (h' : w.ownsRow B 3 1 v' n (rowN f n)) :
    Calls Ybad.prog 11 #[.slice (some ⟨b, 0, none⟩) n c, v'] w fun e w' => e = .returned (.bool true) ∧ Below w.heap.size w w' := by
  by_cases h0 : n = 0
  · obtain ⟨a', c', rfl⟩ := row_form h'
    rw [h0]
    refine (Ybad.slices_Equal_int_empty _ a' c 0 c' w (by omega)).mono ?_
    rintro e w' ⟨rfl, rfl⟩
    exact ⟨by simp, Below.refl _ _⟩
  · obtain ⟨b', c', rfl, _⟩ := row_some h' (by omega)
    have hg : ∀ j, j < n → ((List.range n).map f).getD j 0 = f j := fun j hj => by simp [hj]
    refine (Ybad.slices_Equal_int b 0 n c b' 0 n c' ((List.range n).map f) ((List.range n).map f) w (by simp) (by simp) (by omega) (by omega) (fun j hj => ?_) (fun j hj => ?_)).mono ?_
    · have hj' : j < n := by simpa using hj
      rw [Nat.zero_add, hg j hj']; exact h j hj'
    · have hj' : j < n := by simpa using hj
      rw [Nat.zero_add, hg j hj']; exact ownsRow_cell h' (rowN_get hj')
    · rintro e w' ⟨rfl, q, rfl⟩
      exact ⟨by simp, below_drewN (Below.refl _ w) q⟩
end Go.Proofs.YbulkeiwwDoor
