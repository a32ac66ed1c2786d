/-
  The contracts of NewServer, Close, track, untrack.
-/
import Derived.Test.YbulkeiwiMyMaps
import Derived.Defers
import Derived.WalkSpells
namespace Go.Proofs.Ybulkeiwi
open Go.RowKit Go.ChangeMaps Go.MuLone Go.Conc

theorem bytes33 : ∃ i, Yba.prog.info? 33 = some i ∧ i.bytes = 0 := by
  have h : (Yba.prog.info? 33).map (·.bytes) = some 0 := by kernel_rfl
  obtain ⟨i, hi, hb⟩ := Option.map_eq_some_iff.1 h
  exact ⟨i, hi, hb⟩
theorem mk0 (w : World) : (Instr.makeChan 32 (.int .i64 0)).run Yba.prog w = .ok (.chan (some w.heap.size)) (w.alloc (.chan 0 #[] false 0 0 false)) := by
  obtain ⟨i, hi, hb⟩ := bytes33
  simpa using run_makeChan (P := Yba.prog) (w := w) Yba.underlying32 hi .i64 0 (by omega) (by rw [hb]; omega)

/-- The server's block. -/
abbrev srv (s : Nat) (v : Int) : Obj := .cells #[.int .i64 0, .chan (some (s + 2)), .int .i32 v, .int .u32 0, .map (some s), .map (some (s + 1))] 43

theorem newServer_any (w : World) : Calls Yba.prog 4 #[] w fun e w' => e = .returned (.pointer (some ⟨w.heap.size + 3, 0, none⟩)) ∧
    w' = (((w.alloc (.map #[] 0)).alloc (.map #[] 0)).alloc (.chan 0 #[] false 0 0 false)).alloc (srv w.heap.size 0) := by
  have hmm := @run_makeMap Yba.prog
  have hmk := mk0
  go_enter Yba.func4, Yba.ntmps4
  go_wp2
  go_ret
  exact ⟨rfl, rfl⟩

theorem close_any (c : Nat) (x k : Int) (w : World) (hb : w.heap[c]? = some (.cells #[.int .i64 x, .int .i64 k] 27)) (h0 : 0 ≤ k) (h1 : k ≤ 100) :
    Calls Yba.prog 42 #[.pointer (some ⟨c, 0, none⟩)] w fun e w' => e = .returned .nilIface ∧ w' = w.setCell ⟨c, 1, none⟩ (.int .i64 (k + 1)) := by
  have hc : w.cell? ⟨c, 1, none⟩ = some (.int .i64 k) := by simp [World.cell?, hb]
  have hf : w.frozen? ⟨c, 1, none⟩ = false := by simp [World.frozen?, hb]
  clear hb
  go_enter Yba.func42, Yba.ntmps42
  go_wp2
  go_ret
  exact ⟨rfl, rfl⟩

theorem heap_setBlock_at {w : World} {b : Nat} (o : Obj) (h : b < w.heap.size) : (setBlock w b o).heap[b]? = some o := by
  simp [setBlock, h]
theorem heap_setBlock_ne {w : World} {b i : Nat} (o : Obj) (h : i ≠ b) : (setBlock w b o).heap[i]? = w.heap[i]? := by
  simp only [setBlock]; rw [Array.getElem?_setIfInBounds_ne (Ne.symm h)]
theorem lt_of_heap {w : World} {b : Nat} {o : Obj} (h : w.heap[b]? = some o) : b < w.heap.size := (Array.getElem?_eq_some_iff.1 h).1
theorem world_ext {w w' : World} (h1 : w.heap = w'.heap) (h2 : w.tape = w'.tape) (h3 : w.drawn = w'.drawn) (h4 : w.os = w'.os) (h5 : w.output = w'.output) : w = w' := by
  cases w; cases w'; simp_all
theorem isC_setBlock {w : World} {b c : Nat} {ca : Array Value} {ta : TypeId} (h : isC w c) : isC (setBlock w b (.cells ca ta)) c := by
  by_cases e : c = b
  · subst e
    obtain ⟨ca', ta', h⟩ := h
    exact ⟨ca, ta, heap_setBlock_at _ (lt_of_heap h)⟩
  · obtain ⟨ca', ta', h⟩ := h
    exact ⟨ca', ta', (heap_setBlock_ne _ e).trans h⟩

/-- A store into the lock's word. -/
theorem setCell_srv {w : World} {s : Nat} {v u : Int} (h : w.heap[s + 3]? = some (srv s v)) : w.setCell ⟨s + 3, 2, none⟩ (.int .i32 u) = setBlock w (s + 3) (srv s u) := by
  refine world_ext ?_ rfl rfl rfl rfl
  apply Array.ext_getElem?
  intro i
  by_cases e : i = s + 3
  · subst e
    rw [heap_setBlock_at _ (lt_of_heap h)]
    simp [World.setCell, Array.getElem?_modify, h]
  · rw [heap_setBlock_ne _ e, Below.heap_setCell _ _ _ _ (by simpa using e)]

theorem setBlock_back {w : World} {a b : Nat} {o o1 m : Obj} (hne : a ≠ b) (h : w.heap[a]? = some o) : setBlock (setBlock (setBlock w a o1) b m) a o = setBlock w b m := by
  refine world_ext ?_ rfl rfl rfl rfl
  apply Array.ext_getElem?
  intro i
  have hl := lt_of_heap h
  by_cases e : i = a
  · subst e
    rw [heap_setBlock_at _ (by simp [setBlock]; exact hl), heap_setBlock_ne _ hne, h]
  · rw [heap_setBlock_ne _ e]
    by_cases e2 : i = b
    · subst e2
      by_cases hb : i < w.heap.size
      · rw [heap_setBlock_at _ (by simp [setBlock]; exact hb), heap_setBlock_at _ hb]
      · rw [Array.getElem?_eq_none (by simp [setBlock]; omega), Array.getElem?_eq_none (by simp [setBlock]; omega)]
    · rw [heap_setBlock_ne _ e2, heap_setBlock_ne _ e, heap_setBlock_ne _ e2]

set_option maxHeartbeats 400000 in
theorem track_any (s c k : Nat) (L : List (Nat × Nat)) (w : World) (hs : w.heap[s + 3]? = some (srv s 0)) (hch : w.heap[s + 2]? = some (.chan 0 #[] false 0 0 false))
    (hm : w.heap[s + 1]? = some (.map (ent L) k)) (hc : isC w c) (hL : ∀ x ∈ L, isC w x.1) (hn : L.any (fun x => x.1 == c) = false) :
    Calls Yba.prog 5 #[.pointer (some ⟨s + 3, 0, none⟩), kv c] w fun e w' => e = .returned (.bool true) ∧
      w' = setBlock w (s + 1) (.map (ent (L ++ [(c, k)])) (k + 1)) := by
  have hc2 : w.cell? ⟨s + 3, 2, none⟩ = some (.int .i32 0) := by simp [World.cell?, hs]
  have hf2 : w.frozen? ⟨s + 3, 2, none⟩ = false := by simp [World.frozen?, hs]
  have hs1 : (setBlock w (s + 3) (srv s 1)).heap[s + 3]? = some (srv s 1) := heap_setBlock_at _ (lt_of_heap hs)
  have hch1 : (setBlock w (s + 3) (srv s 1)).heap[s + 2]? = some (.chan 0 #[] false 0 0 false) := (heap_setBlock_ne _ (by omega)).trans hch
  have hm1 : (setBlock w (s + 3) (srv s 1)).heap[s + 1]? = some (.map (ent L) k) := (heap_setBlock_ne _ (by omega)).trans hm
  have hup := run_update_kv hm1 (isC_setBlock hc) (fun x hx => isC_setBlock (hL x hx)) hn
  have hst := setCell_srv (u := 1) hs
  have hback := setBlock_back (a := s + 3) (b := s + 1) (o1 := srv s 1) (m := .map (ent (L ++ [(c, k)])) (k + 1)) (by omega) hs
  have hs2 : (setBlock (setBlock w (s + 3) (srv s 1)) (s + 1) (.map (ent (L ++ [(c, k)])) (k + 1))).heap[s + 3]? = some (srv s 1) := (heap_setBlock_ne _ (by omega)).trans hs1
  have hst2 := setCell_srv (u := 0) hs2
  clear hm hc hL hn hm1
  generalize hw1 : setBlock w (s + 3) (srv s 1) = w1 at *
  generalize hw2 : setBlock w1 (s + 1) (.map (ent (L ++ [(c, k)])) (k + 1)) = w2 at *
  have hc1 : w1.cell? ⟨s + 3, 1, none⟩ = some (.chan (some (s + 2))) := by simp [World.cell?, hs1]
  have hc5 : w1.cell? ⟨s + 3, 5, none⟩ = some (.map (some (s + 1))) := by simp [World.cell?, hs1]
  have hd2 : w2.cell? ⟨s + 3, 2, none⟩ = some (.int .i32 1) := by simp [World.cell?, hs2]
  have hg2 : w2.frozen? ⟨s + 3, 2, none⟩ = false := by simp [World.frozen?, hs2]
  have Hst : Hid (w.setCell ⟨s + 3, 2, none⟩ (.int .i32 1) = w1) := hst
  have Hst2 : Hid (w2.setCell ⟨s + 3, 2, none⟩ (.int .i32 0) = setBlock w (s + 1) (.map (ent (L ++ [(c, k)])) (k + 1))) := hst2.trans hback
  clear hst hst2 hback hs hs1 hs2 hch hw1 hw2
  go_enter_defers Yba.func5, Yba.ntmps5
  go_wp2_with fail
  refine (lock_free muLib ⟨s + 3, 2, none⟩ _ hc2 hf2).mono ?_
  rintro e w' ⟨rfl, hw'⟩
  rw [Hst.out] at hw'
  subst hw'
  go_wp2_with fail
  refine (isClosed_open (s + 3) (s + 2) 0 0 0 false _ hc1 hch1).mono ?_
  rintro e w' ⟨rfl, rfl⟩
  go_wp2
  refine leaves_cons (f := 8) (args := #[.pointer (some ⟨s + 3, 2, none⟩)]) (by simp) (by simp [go_sem]) ?_
  refine (unlock_deferred muLib ⟨s + 3, 2, none⟩ .returning _ hd2 hg2).mono ?_
  rintro e u' w'' ⟨rfl, rfl, hw''⟩
  rw [Hst2.out] at hw''
  exact ⟨_, results_tmp rfl _ _ _, rfl, hw''⟩

/-- Close's own block. -/
abbrev clo (x k : Int) : Obj := .cells #[.int .i64 x, .int .i64 k] 27

theorem setCell_clo {w : World} {c : Nat} {x k k' : Int} (h : w.heap[c]? = some (clo x k)) : w.setCell ⟨c, 1, none⟩ (.int .i64 k') = setBlock w c (clo x k') := by
  refine world_ext ?_ rfl rfl rfl rfl
  apply Array.ext_getElem?
  intro i
  by_cases e : i = c
  · subst e
    rw [heap_setBlock_at _ (lt_of_heap h)]
    simp [World.setCell, Array.getElem?_modify, h]
  · rw [heap_setBlock_ne _ e, Below.heap_setCell _ _ _ _ (by simpa using e)]

theorem method_close (a : Addr) (w : World) : (method 209 25 (.pointer (some a)) "Close").run Yba.prog w = .ok (42, .pointer (some a)) w := by kernel_rfl

set_option maxHeartbeats 400000 in
theorem untrack_any (s c k : Nat) (L : List (Nat × Nat)) (x y : Int) (w : World) (hcs : c < s) (hs : w.heap[s + 3]? = some (srv s 0))
    (hm : w.heap[s + 1]? = some (.map (ent L) k)) (hc : w.heap[c]? = some (clo x y)) (hL : ∀ z ∈ L, isC w z.1) (h0 : 0 ≤ y) (h1 : y ≤ 100) :
    Calls Yba.prog 6 #[.pointer (some ⟨s + 3, 0, none⟩), kv c] w fun e w' => e = .returned (.tuple #[]) ∧
      w' = setBlock (setBlock w c (clo x (y + 1))) (s + 1) (.map (ent (L.eraseP (fun x => x.1 == c))) k) := by
  have hcl := close_any c x y w hc h0 h1
  rw [setCell_clo hc] at hcl
  have hsc : (setBlock w c (clo x (y + 1))).heap[s + 3]? = some (srv s 0) := (heap_setBlock_ne _ (by omega)).trans hs
  have hmc : (setBlock w c (clo x (y + 1))).heap[s + 1]? = some (.map (ent L) k) := (heap_setBlock_ne _ (by omega)).trans hm
  have hLc : ∀ z ∈ L, isC (setBlock w c (clo x (y + 1))) z.1 := fun z hz => isC_setBlock (hL z hz)
  have hcc : isC (setBlock w c (clo x (y + 1))) c := ⟨_, _, heap_setBlock_at _ (lt_of_heap hc)⟩
  generalize setBlock w c (clo x (y + 1)) = wc at *
  clear hs hm hc hL
  have hc2 : wc.cell? ⟨s + 3, 2, none⟩ = some (.int .i32 0) := by simp [World.cell?, hsc]
  have hf2 : wc.frozen? ⟨s + 3, 2, none⟩ = false := by simp [World.frozen?, hsc]
  have hs1 : (setBlock wc (s + 3) (srv s 1)).heap[s + 3]? = some (srv s 1) := heap_setBlock_at _ (lt_of_heap hsc)
  have hm1 : (setBlock wc (s + 3) (srv s 1)).heap[s + 1]? = some (.map (ent L) k) := (heap_setBlock_ne _ (by omega)).trans hmc
  have hdl := run_delete_kv hm1 (isC_setBlock hcc) (fun x hx => isC_setBlock (hLc x hx))
  have hst := setCell_srv (u := 1) hsc
  have hback := setBlock_back (a := s + 3) (b := s + 1) (o1 := srv s 1) (m := .map (ent (L.eraseP (fun x => x.1 == c))) k) (by omega) hsc
  have hs2 : (setBlock (setBlock wc (s + 3) (srv s 1)) (s + 1) (.map (ent (L.eraseP (fun x => x.1 == c))) k)).heap[s + 3]? = some (srv s 1) := (heap_setBlock_ne _ (by omega)).trans hs1
  have hst2 := setCell_srv (u := 0) hs2
  generalize setBlock wc (s + 3) (srv s 1) = w1 at *
  generalize setBlock w1 (s + 1) (.map (ent (L.eraseP (fun x => x.1 == c))) k) = w2 at *
  have hc5 : w1.cell? ⟨s + 3, 5, none⟩ = some (.map (some (s + 1))) := by simp [World.cell?, hs1]
  have hd2 : w2.cell? ⟨s + 3, 2, none⟩ = some (.int .i32 1) := by simp [World.cell?, hs2]
  have hg2 : w2.frozen? ⟨s + 3, 2, none⟩ = false := by simp [World.frozen?, hs2]
  have Hst : Hid (wc.setCell ⟨s + 3, 2, none⟩ (.int .i32 1) = w1) := hst
  have Hst2 : Hid (w2.setCell ⟨s + 3, 2, none⟩ (.int .i32 0) = setBlock wc (s + 1) (.map (ent (L.eraseP (fun x => x.1 == c))) k)) := hst2.trans hback
  clear hst hst2 hback hs1 hs2 hsc hmc hLc hcc hm1
  have hmt := method_close
  go_enter Yba.func6, Yba.ntmps6
  go_wp2_with fail
  refine hcl.mono ?_
  rintro e w' ⟨rfl, rfl⟩
  clear hcl
  go_wp2_with fail
  refine (lock_free muLib ⟨s + 3, 2, none⟩ _ hc2 hf2).mono ?_
  rintro e w'' ⟨rfl, hw'⟩
  rw [Hst.out] at hw'
  subst hw'
  go_wp2_with fail
  refine (unlock_held muLib ⟨s + 3, 2, none⟩ _ hd2 hg2).mono ?_
  rintro e w3 ⟨rfl, hw'⟩
  rw [Hst2.out] at hw'
  go_wp2
  go_end0
  exact ⟨rfl, rfl⟩

end Go.Proofs.Ybulkeiwi
