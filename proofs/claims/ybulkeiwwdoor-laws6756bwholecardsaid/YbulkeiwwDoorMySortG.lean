/-
  graph.cycles: the groups sorted by their first vertices.
-/
import Derived.Test.YbulkeiwwDoorMyGMem
import Derived.Test.YbulkeiwwDoorMyShelf
import Derived.Test.YbulkeiwwDoorMyClose
import Derived.RegionTactic
import Derived.Deep.DeepMust
import Derived.OwnWalk
namespace Go.Proofs.YbulkeiwwDoor
open Go.RowKit Go.ChangeMaps Gr Go.Lib Go.Sort
attribute [local go_sem ↓] Go.wp_at_zero Go.wp_at_succ
set_option linter.unusedVariables false

set_option maxHeartbeats 1000000 in
theorem insertion_none (p : Option Addr) (cap : Nat) (fv : Value) (w : World) :
    Calls Ybad.prog 43 #[.slice p 0 cap, .int .i64 0, .int .i64 0, fv] w fun e w' => e = .returned (.tuple #[]) ∧ w' = w := by
  go_enter Ybad.func43, Ybad.ntmps43
  go_wp2
  refine wp_loop_rounds 1 ?_
  rw [rounds_succ]
  go_wp2
  go_end0
  exact ⟨rfl, rfl⟩

set_option maxHeartbeats 1000000 in
theorem pdq_none (p : Option Addr) (cap : Nat) (lim : Int) (fv : Value) (w : World) :
    Calls Ybad.prog 35 #[.slice p 0 cap, .int .i64 0, .int .i64 0, .int .i64 lim, fv] w fun e w' => e = .returned (.tuple #[]) ∧ w' = w := by
  have hi := fun W => insertion_none p cap fv W
  go_enter Ybad.func35, Ybad.ntmps35
  go_wp2
  refine wp_loop_rounds 1 ?_
  rw [rounds_succ]
  go_wp2_with (go_at_call 43; go_must (refine (hi _).mono ?_; rintro e w' ⟨rfl, rfl⟩))
  (try simp only [Exit.inBlock, Exit.then]); refine bodyPost_ret (results_none rfl _ _ _) rfl ?_
  exact ⟨rfl, rfl⟩

set_option maxHeartbeats 1000000 in
theorem sort_none (p : Option Addr) (cap : Nat) (fv : Value) (w : World) :
    Calls Ybad.prog 23 #[.slice p 0 cap, fv] w fun e w' => e = .returned (.tuple #[]) ∧ w' = w := by
  have hp := fun lim W => pdq_none p cap lim fv W
  have hl := fun W => Ybad.bits_Len 0 W (by omega) (by omega)
  go_enter Ybad.func23, Ybad.ntmps23
  go_wp2_with (first | (go_at_call 36; go_must (refine (hl _).mono ?_; rintro e w' ⟨rfl, rfl⟩)) | (go_at_call 35; go_must (refine (hp _ _).mono ?_; rintro e w' ⟨rfl, rfl⟩)))
  go_end0
  exact ⟨rfl, rfl⟩

set_option maxHeartbeats 1000000 in
theorem cmp_call (b1 n1 c1 b2 n2 c2 x y : Nat) (w : World) (h1 : w.cell? ⟨b1, 0, none⟩ = some (.int .i64 (x : Int))) (h2 : w.cell? ⟨b2, 0, none⟩ = some (.int .i64 (y : Int))) (hn1 : 0 < n1) (hn2 : 0 < n2) (hx : x ≤ 1000000) (hy : y ≤ 1000000) :
    Calls Ybad.prog 24 #[.slice (some ⟨b1, 0, none⟩) n1 c1, .slice (some ⟨b2, 0, none⟩) n2 c2] w fun e w' => e = .returned (.int .i64 ((x : Int) - (y : Int))) ∧ w' = w.drew := by
  have i1 : (0 : Int) < (n1 : Int) := by omega
  have i2 : (0 : Int) < (n2 : Int) := by omega
  have hw : wrap64 ((x : Int) - (y : Int)) = (x : Int) - (y : Int) := by unfold wrap64; omega
  go_enter Ybad.func24, Ybad.ntmps24
  go_wp2
  go_region
  go_wp2
  go_ret
  exact ⟨by first | rfl | (rw [hw]), rfl⟩

/-- A group as it lies. -/
def GoodG (w : World) (B : Nat) (blk : Nat) (p : Value × List Nat) : Prop :=
  w.ownsRow B 3 1 p.1 p.2.length (ints p.2) ∧ p.2 ≠ [] ∧ p.2.headD 0 ≤ 1000000 ∧ ∀ k, p.1.ownBlock = some k → k ≠ blk

theorem GoodG.form {w : World} {B blk : Nat} {p : Value × List Nat} (h : GoodG w B blk p) : ∃ b c, p.1 = .slice (some ⟨b, 0, none⟩) p.2.length c ∧ b < w.heap.size ∧ b ≠ blk ∧ 0 < p.2.length ∧ w.cell? ⟨b, 0, none⟩ = some (.int .i64 ((p.2.headD 0 : Nat) : Int)) := by
  obtain ⟨h1, h2, h3, h4⟩ := h
  have hl : 0 < p.2.length := List.length_pos_iff.2 h2
  obtain ⟨gb, cap, e, h5, h6, h7⟩ := row_some h1 hl
  refine ⟨gb, cap, e, h6, h4 gb (by rw [e]; rfl), hl, ?_⟩
  rw [e] at h1
  refine ownsRow_cell h1 (ints_get ?_)
  cases hp : p.2 with
  | nil => exact absurd hp h2
  | cons a l => rfl

theorem putRow_other {α : Type} [Inhabited α] (enc : α → Value) (w : World) (blk off : Nat) (d : Array α) {k : Nat} (h : k ≠ blk) : (putRow enc w blk off d).heap[k]? = w.heap[k]? := by
  simp only [putRow, mapBlock, Array.getElem?_modify]
  rw [if_neg (Ne.symm h)]
theorem putRow_at {α : Type} [Inhabited α] (enc : α → Value) (w : World) (blk off : Nat) (d : Array α) {c : Array Value} {e : TypeId} {fr : Nat × Nat} (h : w.heap[blk]? = some (.cells c e fr)) : (putRow enc w blk off d).heap[blk]? = some (.cells (putCells enc off d c) e fr) := by
  simp only [putRow, mapBlock, Array.getElem?_modify, if_true, h, Option.map_some, onCells]
theorem putRow_size {α : Type} [Inhabited α] (enc : α → Value) (w : World) (blk off : Nat) (d : Array α) : (putRow enc w blk off d).heap.size = w.heap.size := by
  simp [putRow, mapBlock]

theorem sw_other {α : Type} [Inhabited α] (enc : α → Value) (w : World) (blk off m : Nat) (dk : Array α) (os : Array Obj) {k : Nat} (hk : k < w.heap.size) (h : k ≠ blk) : (sortWorld enc w blk off m dk os).heap[k]? = w.heap[k]? := by
  unfold sortWorld
  rw [heap_grow_old _ _ (by rw [putRow_size]; exact hk), putRow_other _ _ _ _ _ h]
  rfl
theorem sw_at {α : Type} [Inhabited α] (enc : α → Value) (w : World) (blk off m : Nat) (dk : Array α) (os : Array Obj) {c : Array Value} {e : TypeId} {fr : Nat × Nat} (h : w.heap[blk]? = some (.cells c e fr)) : (sortWorld enc w blk off m dk os).heap[blk]? = some (.cells (putCells enc off dk c) e fr) := by
  unfold sortWorld
  rw [heap_grow_old _ _ (by rw [putRow_size]; exact lt_of_heap h)]
  exact putRow_at enc _ _ _ _ h

theorem sorted_pairwise {α : Type} [Inhabited α] {lt : α → α → Bool} {d : Array α} (h : SortedIn lt 0 d.size d) : d.toList.Pairwise (fun a b => lt b a = false) := by
  rw [List.pairwise_iff_getElem]
  intro i j hi hj hij
  have := h i j (Nat.zero_le _) hij (by simpa using hj)
  rw [getElem!_pos d j (by simpa using hj), getElem!_pos d i (by simpa using hi)] at this
  simpa using this

theorem sort_groups (N : Nat) (gs : List (List Nat)) (gv : Value) (vs : List Value) (sv pv : Value) (w : World) (h : GMem N gs gv vs sv pv w) (hne : ∀ c, c ∈ gs → c ≠ [] ∧ c.headD 0 ≤ 1000000) (hN : N + 10 ≤ w.heap.size) (hlen : gs.length ≤ 1000000) :
    Calls Ybad.prog 23 #[gv, .func (.func 24) #[] #[]] w fun e w' => e = .returned (.tuple #[]) ∧ ∃ (L : List (List Nat)) (vs' : List Value), L.Perm gs ∧ L.Pairwise (fun a b => ¬ hlt b a) ∧ vs'.length = L.length ∧ w'.ownsRow (N + 10) 24 1 gv vs'.length vs' ∧
      (∀ (i : Nat) c v, L[i]? = some c → vs'[i]? = some v → w'.ownsRow (N + 10) 3 1 v c.length (ints c)) ∧ Below (N + 10) w w' := by
  have hl := h.len
  by_cases h0 : gs = []
  · subst h0
    have hv : vs = [] := List.length_eq_zero_iff.1 (by simpa using hl)
    subst hv
    obtain ⟨a, c, rfl⟩ := row_form h.row
    refine (sort_none a c _ w).mono ?_
    rintro e w' ⟨rfl, rfl⟩
    exact ⟨rfl, [], [], List.Perm.nil, List.Pairwise.nil, rfl, h.row, (fun i c v h => by simp at h), Below.refl _ _⟩
  · have hpos : 0 < vs.length := by rw [hl]; exact List.length_pos_iff.2 h0
    have hrow := h.row
    rcases hrow.2 with ⟨_, e0⟩ | ⟨blk, cap, cur, rfl, hb1, hb2, hb3, hb4, hb5, hb6⟩
    · omega
    have hgood : ∀ p, p ∈ vs.zip gs → GoodG w (N + 10) blk p := fun p hp => by
      obtain ⟨i, hi⟩ := List.getElem?_of_mem hp
      rw [List.getElem?_zip_eq_some] at hi
      obtain ⟨h1, h2⟩ := h.each i _ _ hi.2 hi.1
      have h3 := hne p.2 (List.mem_of_getElem? hi.2)
      exact ⟨h1, h3.1, h3.2, fun k hk e => (h.apart p.1 (List.mem_of_getElem? hi.1) k hk).1 (by rw [e]; rfl)⟩
    let α := { p : Value × List Nat // GoodG w (N + 10) blk p }
    have hzl : (vs.zip gs).length = vs.length := by rw [List.length_zip, hl]; omega
    obtain ⟨a0, ha0⟩ : ∃ a0, a0 ∈ vs.zip gs := by
      cases hz : vs.zip gs with
      | nil => rw [hz] at hzl; simp at hzl; omega
      | cons a l => exact ⟨a, List.mem_cons_self⟩
    haveI : Inhabited α := ⟨⟨a0, hgood a0 ha0⟩⟩
    let enc : α → Value := fun a => a.1.1
    let cf : α → α → Int := fun a b => ((a.1.2.headD 0 : Nat) : Int) - ((b.1.2.headD 0 : Nat) : Int)
    let dl : List α := (vs.zip gs).attachWith (GoodG w (N + 10) blk) hgood
    let d : Array α := dl.toArray
    have hdl : dl.map (·.1) = vs.zip gs := List.attachWith_map_subtype_val _
    have hds : d.size = vs.length := by
      have : d.size = dl.length := by simp [d]
      rw [this, ← hzl, ← hdl, List.length_map]
    have h1 : OneCell enc := fun a => by
      obtain ⟨b, c, e, _⟩ := a.2.form
      show a.1.1.oneCell' = true
      rw [e]; rfl
    have hO : SWO (ltOf cf) := ⟨fun x => by simp [ltOf, cf], fun x y z h1 h2 => by simp [ltOf, cf] at *; omega, fun x y z h1 h2 => by simp [ltOf, cf] at *; omega⟩
    have hcmp : CmpLays1 Ybad.prog 24 #[] enc cf blk 0 d.size w := CmpReads.lays fun m os dk hs x y => by
      obtain ⟨b1, c1, e1, q1, q2, q3, q4⟩ := x.2.form
      obtain ⟨b2, c2, e2, p1, p2, p3, p4⟩ := y.2.form
      have hc := cmp_call b1 x.1.2.length c1 b2 y.1.2.length c2 (x.1.2.headD 0) (y.1.2.headD 0) (sortWorld enc w blk 0 m dk os)
        ((World.cell?_of_block (sw_other enc w blk 0 m dk os q1 q2)).trans q4) ((World.cell?_of_block (sw_other enc w blk 0 m dk os p1 p2)).trans p4) q3 p3 x.2.2.2.1 y.2.2.2.1
      show Calls Ybad.prog 24 (#[x.1.1, y.1.1] ++ #[]) _ _
      rw [e1, e2]
      refine hc.mono ?_
      rintro e w' ⟨rfl, rfl⟩
      exact ⟨rfl, 1, rfl⟩
    have hH : Holds enc w blk 0 d := fun j hj => by
      refine ⟨?_, frozen_of_heap hb2⟩
      rw [Nat.zero_add]
      refine ownsRow_cell hrow ?_
      have e1 : (dl.map enc) = vs := by
        have : dl.map enc = (dl.map (·.1)).map (·.1) := by rw [List.map_map]; rfl
        rw [this, hdl, List.map_fst_zip (by omega)]
      rw [getElem!_pos d j hj]
      show vs[j]? = some (enc (dl.toArray[j]'hj))
      rw [← e1, List.getElem?_map]
      simp only [List.getElem_toArray]
      rw [List.getElem?_eq_getElem (by simpa [d] using hj)]
      rfl
    have hS := Ybad.slices_SortFunc enc h1 cf hO 24 #[] blk 0 cap d w (fun args w => by rfl) hcmp hH (lt_of_heap hb2) (by rw [hds, hl]; omega)
    rw [hds] at hS
    refine hS.mono ?_
    rintro e w' ⟨rfl, d', n, os, hp, hs, rfl⟩
    have hsz' : d'.size = vs.length := hp.1.trans hds
    have hperm : d'.toList.Perm dl := by
      have := hp.2.2
      rw [← hds] at this
      rw [Array.extract_size] at this
      rw [show d.size = d'.size by rw [hds, hsz'], Array.extract_size] at this
      exact this
    refine ⟨rfl, d'.toList.map (fun a => a.1.2), d'.toList.map enc, ?_, ?_, by simp, ?_, ?_, ?_⟩
    · have := hperm.map (fun a => a.1.2)
      have e2 : dl.map (fun a => a.1.2) = gs := by
        have : dl.map (fun a => a.1.2) = (dl.map (·.1)).map (·.2) := by rw [List.map_map]; rfl
        rw [this, hdl, List.map_snd_zip (by omega)]
      rw [e2] at this
      exact this
    · rw [← hsz'] at hs
      refine List.pairwise_map.2 ((sorted_pairwise hs).imp fun {a b} hab hlt' => ?_)
      simp [ltOf, cf] at hab
      have : b.1.2.headD 0 < a.1.2.headD 0 := hlt'
      simp at this
      omega
    · refine ⟨by simp, Or.inr ⟨blk, cap, putCells enc 0 d' cur, by simp [hsz'], hb1, sw_at enc w blk 0 n d' os hb2, by simp [hsz']; exact hb3, hb4, by simp [putCells, hb5], ?_⟩⟩
      simp only [List.length_map, Array.length_toList, Nat.mul_one, hsz']
      have hcs : vs.length ≤ cur.size := by omega
      apply List.ext_getElem?
      intro i
      rw [List.getElem?_take]
      by_cases hi : i < vs.length
      · rw [if_pos hi, Array.getElem?_toList, putCells, Array.getElem?_mapIdx, Array.getElem?_eq_getElem (by omega), List.getElem?_map, Array.getElem?_toList, Array.getElem?_eq_getElem (by omega)]
        simp only [Option.map_some]
        rw [if_pos ⟨Nat.zero_le _, by omega⟩, Nat.sub_zero, getElem!_pos d' i (by omega)]
      · rw [if_neg hi, List.getElem?_eq_none (by simp; omega)]
    · intro i c v hc hv
      rw [List.getElem?_map] at hc hv
      cases hd : d'.toList[i]? with
      | none => rw [hd] at hc; cases hc
      | some a =>
        rw [hd] at hc hv
        cases hc
        cases hv
        refine ownsRow_kept a.2.1 fun k hk => sw_other enc w blk 0 n d' os (own_ge a.2.1 hk).2 (a.2.2.2.2 k hk)
    · refine ⟨rfl, rfl, rfl, by unfold sortWorld; rw [size_grow, putRow_size]; exact Nat.le_add_right _ _, fun k hk => sw_other enc w blk 0 n d' os (by omega) (by omega)⟩
end Go.Proofs.YbulkeiwwDoor
