/-
  checker.cycles (function 7).
-/
import Derived.Test.YbulkeiwwDoorMyKeys
import Derived.Test.YbulkeiwwDoorMyClose
import Derived.Test.YbulkeiwwDoorMyCycles
import Derived.Deep.RegionHeld3
namespace Go.Proofs.YbulkeiwwDoor
open Go.RowKit Go.ChangeMaps Go.Lib Gr
attribute [local go_sem ↓] Go.wp_at_zero Go.wp_at_succ
set_option linter.unusedVariables false

/-- Below B all is as it was, but for the cell 2 of block C. -/
structure Bes (C B : Nat) (w w' : World) : Prop where
  os : w'.os = w.os
  tape : w'.tape = w.tape
  output : w'.output = w.output
  size : w.heap.size ≤ w'.heap.size
  block : ∀ k, k < B → k ≠ C → w'.heap[k]? = w.heap[k]?
  cell : ∀ o, o ≠ 2 → w'.cell? ⟨C, o, none⟩ = w.cell? ⟨C, o, none⟩
  froz : ∀ o, w'.frozen? ⟨C, o, none⟩ = w.frozen? ⟨C, o, none⟩

theorem Bes.refl (C B : Nat) (w : World) : Bes C B w w := ⟨rfl, rfl, rfl, Nat.le_refl _, fun _ _ _ => rfl, fun _ _ => rfl, fun _ => rfl⟩
theorem Bes.below {C B : Nat} {w w1 w2 : World} (h : Bes C B w w1) (hb : Below B w1 w2) (hC : C < B) : Bes C B w w2 :=
  ⟨hb.os.trans h.os, hb.tape.trans h.tape, hb.output.trans h.output, Nat.le_trans h.size hb.size, fun k hk hn => (hb.block k hk).trans (h.block k hk hn), fun o ho => (hb.cell (p := ⟨C, o, none⟩) hC).trans (h.cell o ho), fun o => (hb.frozen (p := ⟨C, o, none⟩) hC).trans (h.froz o)⟩
theorem Bes.set {C B : Nat} {w w1 : World} (h : Bes C B w w1) (v : Value) : Bes C B w (w1.setCell ⟨C, 2, none⟩ v) := by
  refine ⟨h.os, h.tape, h.output, by have := h.size; simpa using this, fun k hk hn => (heap_set_ne _ _ hn).trans (h.block k hk hn), fun o ho => ?_, fun o => ?_⟩
  · rw [← h.cell o ho]
    refine World.cell?_setCell_other _ _ _ _ (fun e => ho ?_)
    injection e with e1 e2
    exact e2.symm
  · rw [← h.froz o]
    simp

/-- How the keys lie. -/
structure KeysAt (Rb Pb pc Ob ol oc n : Nat) (ov : Value) (T : List UInt8) (K : Nat → List UInt8) (A : Nat → Nat) (w : World) : Prop where
  hRb : Rb < w.heap.size
  hPb : Pb < w.heap.size
  c0 : w.cell? ⟨Rb, 0, none⟩ = some (.string ⟨T.toArray⟩)
  c1 : w.cell? ⟨Rb, 1, none⟩ = some (.slice (some ⟨Pb, 0, none⟩) n pc)
  c2 : w.cell? ⟨Rb, 2, none⟩ = some ov
  hT : T.length ≤ 100000000
  hol : ol ≤ 1000000
  len : ∀ v, v < n → (K v).length ≤ 10000000
  key : ∀ v, v < n → w.cell? ⟨Pb, v * 2, none⟩ = some (.int .i64 (A v : Int)) ∧
    ((w.cell? ⟨Pb, v * 2 + 1, none⟩ = some (.int .i64 ((A v : Int) + 1 + ((K v).length : Int))) ∧ (T.take (A v + 1 + (K v).length)).drop (A v + 1) = K v ∧ A v + 1 + (K v).length ≤ T.length) ∨
     (∃ j : Nat, ov = .slice (some ⟨Ob, 0, none⟩) ol oc ∧ Ob < w.heap.size ∧ w.cell? ⟨Pb, v * 2 + 1, none⟩ = some (.int .i64 (-(j : Int) - 1)) ∧ w.cell? ⟨Ob, j, none⟩ = some (.string ⟨(K v).toArray⟩) ∧ j < ol))

section
variable {Rb Pb pc Ob ol oc n : Nat} {ov : Value} {T : List UInt8} {K : Nat → List UInt8} {A : Nat → Nat} {w w' : World}
theorem KeysAt.keep (h : KeysAt Rb Pb pc Ob ol oc n ov T K A w) (hs : w.heap.size ≤ w'.heap.size) (hk : ∀ k, k = Rb ∨ k = Pb ∨ k = Ob → k < w.heap.size → w'.heap[k]? = w.heap[k]?) : KeysAt Rb Pb pc Ob ol oc n ov T K A w' := by
  have e1 : ∀ o, w'.cell? ⟨Rb, o, none⟩ = w.cell? ⟨Rb, o, none⟩ := fun o => World.cell?_of_block (hk Rb (Or.inl rfl) h.hRb)
  have e2 : ∀ o, w'.cell? ⟨Pb, o, none⟩ = w.cell? ⟨Pb, o, none⟩ := fun o => World.cell?_of_block (hk Pb (Or.inr (Or.inl rfl)) h.hPb)
  refine ⟨by have := h.hRb; omega, by have := h.hPb; omega, (e1 0).trans h.c0, (e1 1).trans h.c1, (e1 2).trans h.c2, h.hT, h.hol, h.len, fun v hv => ?_⟩
  obtain ⟨h1, h2⟩ := h.key v hv
  refine ⟨(e2 _).trans h1, ?_⟩
  rcases h2 with ⟨h3, h4⟩ | ⟨j, h3, h4, h5, h6, h7⟩
  · exact Or.inl ⟨(e2 _).trans h3, h4⟩
  · exact Or.inr ⟨j, h3, by omega, (e2 _).trans h5, (World.cell?_of_block (hk Ob (Or.inr (Or.inr rfl)) h4)).trans h6, h7⟩

theorem KeysAt.call (h : KeysAt Rb Pb pc Ob ol oc n ov T K A w) {v : Nat} (hv : v < n) :
    Calls Ybad.prog 14 #[.pointer (some ⟨Rb, 0, none⟩), .int .i64 (v : Int)] w fun e w' => e = .returned (.string ⟨(K v).toArray⟩) ∧ Below w.heap.size w w' := by
  obtain ⟨h1, h2⟩ := h.key v hv
  rcases h2 with ⟨h3, h4, h5⟩ | ⟨j, h3, h4, h5, h6, h7⟩
  · exact key_text Rb Pb pc n v (A v) T (K v) w h.hRb h.hPb h.c0 h.c1 h1 h3 hv h4 h5 h.hT
  · have hc2 := h.c2
    rw [h3] at hc2
    exact key_odd Rb Pb pc Ob ol oc n v (A v) j (K v) w h.hRb h.hPb h4 hc2 h.c1 h1 h5 hv h6 h7 h.hol
theorem KeysAt.off (h : KeysAt Rb Pb pc Ob ol oc n ov T K A w) {v : Nat} (hv : v < n) :
    Calls Ybad.prog 17 #[.pointer (some ⟨Rb, 0, none⟩), .int .i64 (v : Int)] w fun e w' => e = .returned (.int .i64 (A v : Int)) ∧ w' = w :=
  offset_any Rb Pb pc n v (A v) w h.c1 (h.key v hv).1 hv
end

/-! ### rows of strings -/
def arrS (n : Nat) (f : Nat → List UInt8) : Array Value := Array.ofFn (n := n) fun j => .string ⟨(f j.val).toArray⟩
theorem arrS_size {n : Nat} {f : Nat → List UInt8} : (arrS n f).size = n := by simp [arrS]
theorem arrS_get {n : Nat} {f : Nat → List UInt8} {i : Nat} (h : i < n) : (arrS n f)[i]? = some (.string ⟨(f i).toArray⟩) := by simp [arrS, h]
theorem arrS_set {n : Nat} {f : Nat → List UInt8} {i : Nat} {x : List UInt8} : (arrS n f).setIfInBounds i (.string ⟨x.toArray⟩) = arrS n (fup f i x) := by
  apply Array.ext_getElem?
  intro j
  rw [Array.getElem?_setIfInBounds, arrS_size]
  by_cases hj : j < n
  · rw [arrS_get hj, arrS_get hj]
    by_cases e : i = j
    · subst e; rw [if_pos rfl, if_pos hj, fup_same]
    · rw [if_neg e, fup_other _ _ (Ne.symm e)]
  · by_cases e : i = j
    · subst e; rw [if_pos rfl, if_neg hj]; simp [arrS, hj]
    · rw [if_neg e]; simp [arrS, hj]
theorem madeS (n : Nat) : madeCells #[.string ⟨#[]⟩] (n * 1) = arrS n (fun _ => []) := by
  apply Array.ext
  · simp [arrS, size_madeCells]
  · intro i h1 h2
    simp [arrS, madeCells, Array.getElem_map, Array.getElem_ofFn, Nat.mod_one]
theorem info9 : (Ybad.prog.info? 9).map (fun i => (i.zero, i.size, i.bytes)) = some (some (.string ⟨#[]⟩), 1, 16) := by kernel_rfl
theorem make22 (w : World) (n : Nat) (hn : n ≤ 1048576) :
    (Instr.makeSlice 22 (.int .i64 (n : Int)) (.int .i64 (n : Int))).run Ybad.prog w = .ok (.slice (some ⟨w.heap.size, 0, none⟩) n n) (w.alloc (.cells (arrS n fun _ => []) 9)) := by
  obtain ⟨i, hi, hz, hs, hb⟩ := info_parts info9
  have := run_make (P := Ybad.prog) w 22 9 i _ Ybad.underlying22 hi hz .i64 .i64 n n (by omega) (Int.le_refl _) (by rw [hb]; omega) (by omega)
  simp only [Int.toNat_natCast, hs] at this
  rw [← madeS]
  exact this

/-- What is told of one group. -/
def msgOf (K : Nat → List UInt8) (c : List Nat) : List UInt8 := Lib.join (c.map fun v => quoted (K v)) [44, 32]
def probsOf (K : Nat → List UInt8) (A : Nat → Nat) (gs : List (List Nat)) : List Value := gs.flatMap fun c => probCells (A (c.headD 0)) (msgOf K c)

/-- The graph lies. -/
structure GraphAt (g : Graph) (tb tc fb fc : Nat) (R : Nat → Nat → Bool) (w : World) : Prop where
  ok : g.Ok
  n : g.n ≤ 200
  htc : tc ≤ 65536
  top : g.first g.n = tc
  hfb : fb < w.heap.size
  htb : tb < w.heap.size
  hf : ∀ i, i ≤ g.n → w.cell? ⟨fb, i, none⟩ = some (.int .i64 (g.first i : Int))
  ht : ∀ i, i < tc → w.cell? ⟨tb, i, none⟩ = some (.int .i64 (g.tgt i))
  hR : ∀ a b, a < g.n → b < g.n → (R a b = true ↔ Plus g.E a b)


/-- What the loop over the groups knows. -/
def RelP (C B : Nat) (gs : List (List Nat)) (K : Nat → List UInt8) (A : Nat → Nat) (w1 : World) (k : Nat) (x : Value) (wr : World) : Prop :=
  ∃ i pv, i + k = gs.length ∧ x = .int .i64 (i : Int) ∧ Bes C B w1 wr ∧ wr.cell? ⟨C, 2, none⟩ = some pv ∧ wr.ownsRow B 79 5 pv i (probsOf K A (gs.take i))

theorem Bes.after {C B : Nat} {w w1 w2 : World} (hb : Below w.heap.size w w1) (h : Bes C B w1 w2) (hC : C < w.heap.size) (hB : w.heap.size ≤ B) : Bes C w.heap.size w w2 :=
  ⟨h.os.trans hb.os, h.tape.trans hb.tape, h.output.trans hb.output, Nat.le_trans hb.size h.size, fun k hk hn => (h.block k (by omega) hn).trans (hb.block k hk), fun o ho => (h.cell o ho).trans (hb.cell (p := ⟨C, o, none⟩) hC), fun o => (h.froz o).trans (hb.frozen (p := ⟨C, o, none⟩) hC)⟩

/-- What the loop over a group's names knows. -/
def RelN (Nb : Nat) (c : List Nat) (K : Nat → List UInt8) (w0 : World) (k : Nat) (x : Value) (wr : World) : Prop :=
  ∃ j, j + k = c.length ∧ x = .int .i64 (j : Int) ∧ wr.heap[Nb]? = some (.cells (arrS c.length (fun t => if t < j then quoted (K (c[t]?.getD 0)) else [])) 9) ∧ Below Nb w0 wr

theorem relN_step {c : List Nat} {K : Nat → List UInt8} {j v : Nat} (hv : c[j]? = some v) : (arrS c.length (fun t => if t < j then quoted (K (c[t]?.getD 0)) else [])).setIfInBounds j (.string ⟨(quoted (K v)).toArray⟩) = arrS c.length (fun t => if t < j + 1 then quoted (K (c[t]?.getD 0)) else []) := by
  rw [arrS_set]
  congr 1
  funext t
  by_cases e : t = j
  · subst e; rw [fup_same, if_pos (by omega), hv]; rfl
  · rw [fup_other _ _ e]
    by_cases h : t < j
    · rw [if_pos h, if_pos (by omega)]
    · rw [if_neg h, if_neg (by omega)]

theorem spec_mem {R : Nat → Nat → Bool} {n : Nat} {c : List Nat} (h : c ∈ spec R n) : c ≠ [] ∧ ∀ v, v ∈ c → v < n := by
  obtain ⟨v, hv, rfl⟩ := List.mem_map.1 h
  rw [List.mem_filter, List.mem_range] at hv
  obtain ⟨c', e⟩ := members_cons (R := R) hv.1
  refine ⟨by rw [e]; simp, fun x hx => (mem_members.1 hx).1⟩
theorem spec_len (R : Nat → Nat → Bool) (n : Nat) : (spec R n).length ≤ n := by
  unfold spec
  rw [List.length_map]
  have := List.length_filter_le (isHead R) (List.range n)
  simpa using this
theorem members_len (R : Nat → Nat → Bool) (n v : Nat) : (members R n v).length ≤ n := by
  have := List.length_filter_le (isMem R v) (List.range n)
  simpa [members] using this
theorem spec_each_len {R : Nat → Nat → Bool} {n : Nat} {c : List Nat} (h : c ∈ spec R n) : c.length ≤ n := by
  obtain ⟨v, hv, rfl⟩ := List.mem_map.1 h
  exact members_len R n v

theorem joinTail_len (sep : List UInt8) (M : Nat) : ∀ r : List (List UInt8), (∀ x, x ∈ r → x.length ≤ M) → (Lib.joinTail sep r).length ≤ r.length * (M + sep.length)
  | [], _ => by simp [Lib.joinTail]
  | x :: r, h => by
    have ih := joinTail_len sep M r (fun y hy => h y (List.mem_cons_of_mem _ hy))
    have hx := h x List.mem_cons_self
    simp only [Lib.joinTail, List.map_cons, List.flatten_cons, List.length_append, List.length_cons] at ih ⊢
    rw [Nat.succ_mul]
    omega
theorem join_len (sep : List UInt8) (M : Nat) (xs : List (List UInt8)) (h : ∀ x, x ∈ xs → x.length ≤ M) : (Lib.join xs sep).length ≤ xs.length * (M + sep.length) := by
  cases xs with
  | nil => simp [Lib.join_nil]
  | cons x r =>
    have h1 := joinTail_len sep M r (fun y hy => h y (List.mem_cons_of_mem _ hy))
    have hx := h x List.mem_cons_self
    rw [Lib.join_cons, List.length_append, List.length_cons, Nat.succ_mul]
    omega
theorem probs_take {K : Nat → List UInt8} {A : Nat → Nat} {gs : List (List Nat)} {i : Nat} {c : List Nat} (hc : gs[i]? = some c) : probsOf K A (gs.take (i + 1)) = probsOf K A (gs.take i) ++ probCells (A (c.headD 0)) (msgOf K c) := by
  rw [List.take_add_one, hc]
  simp [probsOf, List.flatMap_append]

/-- What the last statement of the round reads. -/
structure Ready (C B i Rb Pb pc Ob ol oc n : Nat) (ov : Value) (T : List UInt8) (K : Nat → List UInt8) (A : Nat → Nat) (cb v0 : Nat) (pv : Value) (xs : List Value) (W : World) : Prop where
  c0 : W.cell? ⟨C, 0, none⟩ = some (.pointer (some ⟨C, 1, none⟩))
  c4 : W.cell? ⟨C, 4, none⟩ = some (.slice none 0 0)
  c2 : W.cell? ⟨C, 2, none⟩ = some pv
  f2 : W.frozen? ⟨C, 2, none⟩ = false
  keys : KeysAt Rb Pb pc Ob ol oc n ov T K A W
  row : W.ownsRow B 79 5 pv i xs
  cell : W.cell? ⟨cb, 0, none⟩ = some (.int .i64 (v0 : Int))
  hC : C < W.heap.size
  hB : B ≤ W.heap.size
  hcb : cb < W.heap.size

theorem Ready.later {C B i Rb Pb pc Ob ol oc n : Nat} {ov : Value} {T : List UInt8} {K : Nat → List UInt8} {A : Nat → Nat} {cb v0 : Nat} {pv : Value} {xs : List Value} {W W' : World} (h : Ready C B i Rb Pb pc Ob ol oc n ov T K A cb v0 pv xs W) (hb : Below W.heap.size W W') : Ready C B i Rb Pb pc Ob ol oc n ov T K A cb v0 pv xs W' :=
  ⟨(hb.cell (p := ⟨C, 0, none⟩) h.hC).trans h.c0, (hb.cell (p := ⟨C, 4, none⟩) h.hC).trans h.c4, (hb.cell (p := ⟨C, 2, none⟩) h.hC).trans h.c2, (hb.frozen (p := ⟨C, 2, none⟩) h.hC).trans h.f2, h.keys.keep hb.size (fun k _ hk => hb.block k hk), ownsRow_kept h.row (fun k hk => hb.block k (own_ge h.row hk).2), (hb.cell (p := ⟨cb, 0, none⟩) h.hcb).trans h.cell, by have := hb.size; have := h.hC; omega, by have := hb.size; have := h.hB; omega, by have := hb.size; have := h.hcb; omega⟩
theorem Ready.drew {C B i Rb Pb pc Ob ol oc n : Nat} {ov : Value} {T : List UInt8} {K : Nat → List UInt8} {A : Nat → Nat} {cb v0 : Nat} {pv : Value} {xs : List Value} {W : World} (h : Ready C B i Rb Pb pc Ob ol oc n ov T K A cb v0 pv xs W) : Ready C B i Rb Pb pc Ob ol oc n ov T K A cb v0 pv xs W.drew :=
  h.later ⟨rfl, rfl, rfl, Nat.le_refl _, fun _ _ => rfl⟩

set_option maxHeartbeats 4000000 in
set_option maxRecDepth 100000 in
theorem checks_any (C Rb Pb pc Ob ol oc : Nat) (ov : Value) (T : List UInt8) (K : Nat → List UInt8) (A : Nat → Nat) (g : Graph) (tb tc fb fc : Nat) (R : Nat → Nat → Bool) (w : World) (hG : GraphAt g tb tc fb fc R w) (hK : KeysAt Rb Pb pc Ob ol oc g.n ov T K A w)
    (hCw : C < w.heap.size) (hC3 : 2 < C) (hCR : C ≠ Rb) (hCP : C ≠ Pb) (hCO : C ≠ Ob) (c0 : w.cell? ⟨C, 0, none⟩ = some (.pointer (some ⟨C, 1, none⟩))) (c2 : w.cell? ⟨C, 2, none⟩ = some (.slice none 0 0)) (f2 : w.frozen? ⟨C, 2, none⟩ = false) (c4 : w.cell? ⟨C, 4, none⟩ = some (.slice none 0 0))
    (c7 : w.cell? ⟨C, 8, none⟩ = some (.pointer (some ⟨Rb, 0, none⟩))) (hT : Tab w) (hw2 : 2 < w.heap.size) :
    Calls Ybad.prog 7 #[.pointer (some ⟨C, 0, none⟩), .agg #[.slice (some ⟨tb, 0, none⟩) tc tc, .slice (some ⟨fb, 0, none⟩) (g.n + 1) fc]] w fun e w' => e = .returned (.tuple #[]) ∧ Bes C w.heap.size w w' ∧ ∃ pv, w'.cell? ⟨C, 2, none⟩ = some pv ∧ w'.ownsRow w.heap.size 79 5 pv (spec R g.n).length (probsOf K A (spec R g.n)) := by
  have hb0 : Below w.heap.size w (w.alloc (.cells #[.slice (some ⟨tb, 0, none⟩) tc tc, .slice (some ⟨fb, 0, none⟩) (g.n + 1) fc] 30)) := (Below.refl _ w).alloc (Nat.le_refl _) _
  have cC := cycles_any g hG.ok tb tc fb fc _ hG.n hG.htc hG.top (by have := hb0.size; have := hG.hfb; omega) (by have := hb0.size; have := hG.htb; omega) (fun i hi => (hb0.cell (p := ⟨fb, i, none⟩) hG.hfb).trans (hG.hf i hi)) (fun i hi => (hb0.cell (p := ⟨tb, i, none⟩) hG.htb).trans (hG.ht i hi)) R hG.hR
  have CC := hideIt cC
  have HB0 := hideIt hb0
  have HK := hideIt hK
  have HG := hideIt hG
  clear cC hb0 hK hG
  go_enter Ybad.func7, Ybad.ntmps7
  go_upto_region 3 with (go_at_call 12; go_must (refine CC.out.mono ?_; rintro e w1 ⟨gv, vs, rfl, hlen, hrow, heach, hb1⟩; obtain ⟨ga, gc, rfl⟩ := row_form hrow))
  have hbw : Below w.heap.size w w1 := HB0.out.trans (hb1.mono (by simp))
  have hws : w.heap.size ≤ w1.heap.size := hbw.size
  have hK1 : KeysAt Rb Pb pc Ob ol oc g.n ov T K A w1 := HK.out.keep hws (fun k _ hk => hbw.block k hk)
  have hT1 : Tab w1 := hT.later hbw hw2
  have hst : RelP C w1.heap.size (spec R g.n) K A w1 (spec R g.n).length (.int .i64 0) w1 := ⟨0, .slice none 0 0, by simp, rfl, Bes.refl _ _ _, (hbw.cell (p := ⟨C, 2, none⟩) hCw).trans c2, World.ownsRow_nil _ _ _ _⟩
  have c0' : w1.cell? ⟨C, 0, none⟩ = some (.pointer (some ⟨C, 1, none⟩)) := (hbw.cell (p := ⟨C, 0, none⟩) hCw).trans c0
  have f2' : w1.frozen? ⟨C, 2, none⟩ = false := (hbw.frozen (p := ⟨C, 2, none⟩) hCw).trans f2
  have c4' : w1.cell? ⟨C, 4, none⟩ = some (.slice none 0 0) := (hbw.cell (p := ⟨C, 4, none⟩) hCw).trans c4
  have hgl : (spec R g.n).length ≤ 200 := Nat.le_trans (spec_len R g.n) HG.out.n
  have HA := hideIt (And.intro hbw (And.intro hws (And.intro hK1 (And.intro hT1 (And.intro c0' (And.intro f2' (And.intro c4' (And.intro hlen (And.intro hrow (And.intro heach hgl))))))))))
  have hvl : vs.length = (spec R g.n).length := hlen
  clear hbw hws hK1 hT1 c0' f2' c4' hlen hrow heach hgl hb1 c0 c2 f2 c4 c7 hT CC HB0 HK
  go_loopg [19] (spec R g.n).length (RelP C w1.heap.size (spec R g.n) K A w1)
  case atStart => exact hst
  case round =>
    clear hst
    obtain ⟨wo, hwo⟩ : ∃ wo, wo = wr := ⟨_, rfl⟩
    subst hwo
    obtain ⟨i, pv, hi, rfl, hbes, cpv, hrowp⟩ := hrel
    obtain ⟨hbw, hws, hK1, hT1, c0', f2', c4', hlen, hrow, heach, hgl⟩ := HA.out
    cases gk with
    | zero =>
      have ei : i = (spec R g.n).length := by omega
      have t1 : ¬ ((i : Int) < (vs.length : Int)) := by omega
      subst ei
      rw [List.take_length] at hrowp
      have HZ := hideIt (And.intro (Bes.after hbw hbes hCw hws) (And.intro cpv (own_mono hrowp hws)))
      clear hbes cpv hrowp hbw hws hK1 hT1 c0' f2' c4' hlen hrow heach hgl hi hvl
      go_wp2
      go_end0
      exact ⟨rfl, HZ.out.1, pv, HZ.out.2⟩
    | succ m =>
      have hil : i < (spec R g.n).length := by omega
      obtain ⟨c, hc⟩ : ∃ c, (spec R g.n)[i]? = some c := ⟨_, List.getElem?_eq_getElem hil⟩
      obtain ⟨cv, hcv⟩ : ∃ cv, vs[i]? = some cv := ⟨_, List.getElem?_eq_getElem (by omega)⟩
      have hcm := List.mem_of_getElem? hc
      have hcr := heach i c cv hc hcv
      have hcne := (spec_mem hcm).1
      have hcl : 0 < c.length := List.length_pos_iff.2 hcne
      obtain ⟨cb, cc, rfl, hcb1, hcb2, hcc⟩ := row_some hcr hcl
      obtain ⟨gb, gcap, eg, hgb1, hgb2, hgc⟩ := row_some hrow (by omega)
      cases eg
      have hbb : ∀ b, w.heap.size ≤ b → b < w1.heap.size → wo.heap[b]? = w1.heap[b]? := fun b h1 h2 => hbes.block b h2 (by omega)
      have hgi : wo.cell? ⟨gb, i, none⟩ = some (.slice (some ⟨cb, 0, none⟩) c.length cc) := (World.cell?_of_block (hbb gb (by simp at hgb1; omega) hgb2)).trans (ownsRow_cell hrow hcv)
      have hcs : ∀ j v : Nat, c[j]? = some v → wo.cell? ⟨cb, j, none⟩ = some (.int .i64 (v : Int)) := fun j v h => (World.cell?_of_block (hbb cb (by simp at hcb1; omega) hcb2)).trans (ownsRow_cell hcr (ints_get h))
      have t1 : (i : Int) < (vs.length : Int) := by omega
      have t2 : (0 : Int) ≤ (i : Int) := by omega
      have t3 : (i : Int) < ((spec R g.n).length : Int) := by omega
      have hcn := spec_each_len hcm
      have hn200 := HG.out.n
      have hmk := fun w' => make22 w' c.length (by omega)
      have hss : w1.heap.size ≤ wo.heap.size := hbes.size
      have hcbC : cb ≠ C := by simp at hcb1; omega
      have HC := hideIt (And.intro hc (And.intro hcm (And.intro hcs (And.intro hbes (And.intro cpv (And.intro hrowp (And.intro hi (And.intro hss (And.intro hcl hcn)))))))))
      clear hbw hws hK1 hT1 c0' f2' c4' hlen hrow heach hgl hbes cpv hrowp hi hil hc hcv hcm hcr hcne hcl hcb1 hcc hgb1 hgb2 hgc hbb hcs hcn hn200 hss hvl
      go_upto_region 7 with (fail)
      have hN0 : RelN wo.heap.size c K wo c.length (.int .i64 0) (wo.alloc (.cells (arrS c.length fun _ => []) 9)) := ⟨0, by simp, rfl, by rw [heap_alloc_at _ _ rfl]; simp, (Below.refl _ _).alloc (Nat.le_refl _) _⟩
      clear t1 t2 t3 hgi hmk
      go_loopg [28] c.length (RelN wo.heap.size c K wo)
      case atStart => exact hN0
      case round =>
        clear hN0
        obtain ⟨j, hj, rfl, hnb, hbn⟩ := hrel
        obtain ⟨hbw, hws, hK1, hT1, c0', f2', c4', hlen, hrow, heach, hgl⟩ := HA.out
        obtain ⟨hc, hcm, hcs, hbes, cpv, hrowp, hi, hss, hcl, hcn⟩ := HC.out
        have hKo : KeysAt Rb Pb pc Ob ol oc g.n ov T K A wo := hK1.keep hss (fun k hk hlt => hbes.block k hlt (by rcases hk with rfl | rfl | rfl; exact Ne.symm hCR; exact Ne.symm hCP; exact Ne.symm hCO))
        have hKr : KeysAt Rb Pb pc Ob ol oc g.n ov T K A wr := hKo.keep hbn.size (fun k _ hlt => hbn.block k hlt)
        have hTr : Tab wr := (show Tab wo from fun q hq => (World.cell?_of_block (hbes.block 2 (by omega) (by omega))).trans (hT1 q hq)).later hbn (by omega)
        cases gk with
        | succ m' =>
          obtain ⟨v, hv⟩ : ∃ v, c[j]? = some v := ⟨_, List.getElem?_eq_getElem (by omega)⟩
          have hvn : v < g.n := (spec_mem hcm).2 v (List.mem_of_getElem? hv)
          have cj : wr.cell? ⟨cb, j, none⟩ = some (.int .i64 (v : Int)) := (hbn.cell (p := ⟨cb, j, none⟩) (by show cb < _; omega)).trans (hcs j v hv)
          have cK := hKr.call hvn
          have hq := fun w' (hb : Below wr.heap.size wr w') => quote_any (K v) w' (by have := hb.size; have := hbn.size; omega) (hTr.later hb (by have := hbn.size; omega)) (hKr.len v hvn)
          have t1 : (j : Int) < (c.length : Int) := by omega
          have t2 : (0 : Int) ≤ (j : Int) := by omega
          have t3 : (j : Int) + 1 ≤ 9223372036854775807 := by have := HG.out.n; omega
          have hNl : wo.heap.size < wr.heap.size := lt_of_heap hnb
          have hst := fun w' (hb : Below wr.heap.size wr w') => (show w'.heap[wo.heap.size]? = some (.cells (arrS c.length (fun t => if t < j then quoted (K (c[t]?.getD 0)) else [])) 9) from (hb.block _ hNl).trans hnb)
          have CK := hideIt cK
          have HQ := hideIt hq
          have HST := hideIt hst
          have HJ := hideIt (And.intro hj (And.intro hv hbn))
          have hjl : j < c.length := by omega
          have hNl' := hNl
          clear hbw hws hK1 hT1 c0' f2' c4' hlen hrow heach hgl hc hcm hcs hbes cpv hrowp hi hss hcn hKo hKr hTr hv hj hnb hbn cK hq hst hvn hcl
          go_upto_region 10 with (first | (go_at_call 14; go_must (refine CK.out.mono ?_; rintro e wk ⟨rfl, hbk⟩; have HBK := hideIt hbk; clear hbk)) | (go_at_call 13; go_must (refine (HQ.out _ HBK.out).mono ?_; rintro e wq ⟨rfl, hbq⟩; have hb2 : Below wr.heap.size wr wq := HBK.out.trans (hbq.mono HBK.out.size); have hcell := cell_of_heap (HST.out _ hb2) (arrS_get hjl); have hfroz : wq.frozen? ⟨wo.heap.size, j, none⟩ = false := frozen_of_heap (HST.out _ hb2); have HB2 := hideIt hb2; clear hb2 hbq)))
          have hset := heap_set_at (o := j) (.string ⟨(quoted (K v)).toArray⟩) (HST.out _ HB2.out)
          rw [relN_step HJ.out.2.1] at hset
          have hbl : Below wo.heap.size wo (wq.setCell ⟨wo.heap.size, j, none⟩ (.string ⟨(quoted (K v)).toArray⟩)) := (HJ.out.2.2.trans (HB2.out.mono (by omega))).setCell (Nat.le_refl _) _
          have HSET := hideIt (And.intro hset hbl)
          clear hset hbl hcell hfroz t1 t2
          go_wp2
          go_roundg m'
          case measure => exact Nat.lt_succ_self _
          case rel => exact ⟨j + 1, by have := HJ.out.1; omega, rfl, HSET.out.1, HSET.out.2⟩
        | zero =>
          have ej : j = c.length := by omega
          subst ej
          obtain ⟨v0, c', ec⟩ : ∃ v0 c', c = v0 :: c' := by
            cases c with
            | nil => simp at hcl
            | cons a l => exact ⟨a, l, rfl⟩
          have hv0 : c[0]? = some v0 := by rw [ec]; rfl
          have hvn : v0 < g.n := (spec_mem hcm).2 v0 (List.mem_of_getElem? hv0)
          have hNl : wo.heap.size < wr.heap.size := lt_of_heap hnb
          have hbs : Bes C w1.heap.size w1 wr := hbes.below (hbn.mono hss) (by omega)
          have hRd : Ready C w1.heap.size i Rb Pb pc Ob ol oc g.n ov T K A cb v0 pv (probsOf K A ((spec R g.n).take i)) wr :=
            ⟨(hbs.cell 0 (by omega)).trans c0', (hbs.cell 4 (by omega)).trans c4', (hbn.cell (p := ⟨C, 2, none⟩) (by show C < _; omega)).trans cpv, (hbs.froz 2).trans f2', hKr, ownsRow_kept hrowp (fun k hk => hbn.block k (own_ge hrowp hk).2), (hbn.cell (p := ⟨cb, 0, none⟩) (by show cb < _; omega)).trans (hcs 0 v0 hv0), by omega, by omega, by omega⟩
          have hRd' := hRd.drew
          have hxl : (c.map fun v => (⟨(quoted (K v)).toArray⟩ : ByteArray)).length = c.length := by simp
          have hjl : (Lib.join (c.map fun v => quoted (K v)) [44, 32]).length ≤ 140737488355328 := by
            have h1 := join_len [44, 32] 60000002 (c.map fun v => quoted (K v)) (fun x hx => by
              obtain ⟨v, hv, rfl⟩ := List.mem_map.1 hx
              have h2 := quoted_len (K v)
              have h3 := hKr.len v ((spec_mem hcm).2 v hv)
              omega)
            rw [List.length_map] at h1
            have h4 : c.length ≤ 200 := by have := HG.out.n; omega
            have h5 : c.length * (60000002 + [44, 32].length) ≤ 200 * (60000002 + 2) := Nat.mul_le_mul_right _ h4
            omega
          have cJ := Ybad.strings_Join wo.heap.size 0 c.length (c.map fun v => (⟨(quoted (K v)).toArray⟩ : ByteArray)) ⟨#[44, 32]⟩ wr.drew (fun q x hx => by
            rw [List.getElem?_map] at hx
            cases hq : c[q]? with
            | none => rw [hq] at hx; cases hx
            | some v =>
              rw [hq] at hx
              cases hx
              have hql : q < c.length := (List.getElem?_eq_some_iff.1 hq).1
              rw [Nat.zero_add]
              refine cell_of_heap (w := wr.drew) hnb ?_
              rw [arrS_get hql, if_pos hql, hq]
              rfl) hNl (by rw [hxl]; have := HG.out.n; omega) (by rw [hxl]; omega) (by simpa [List.map_map, Function.comp_def] using hjl)
          rw [hxl] at cJ
          have em : (Lib.join ((c.map fun v => (⟨(quoted (K v)).toArray⟩ : ByteArray)).map (·.data.toList)) (⟨#[44, 32]⟩ : ByteArray).data.toList) = msgOf K c := by
            simp [msgOf, List.map_map, Function.comp_def]
          rw [em] at cJ
          have t1 : ¬ ((c.length : Int) < (c.length : Int)) := by omega
          have t2 : (0 : Int) < (c.length : Int) := by omega
          have t2n : 0 < c.length := by omega
          have t2e : ¬ c = [] := by rw [ec]; simp
          have CJ := hideIt cJ
          have HD := hideIt hRd'
          have HV := hideIt (And.intro hvn (And.intro hbs (And.intro hi (And.intro hc ec))))
          have s0 := hRd'.cell
          have hil : i ≤ 100000 := by omega
          have s00 : wr.cell? ⟨cb, 0, none⟩ = some (.int .i64 (v0 : Int)) := hRd.cell
          clear hbw hws hK1 hT1 c0' f2' c4' hlen hrow heach hgl hc hcm hcs hbes cpv hrowp hi hss hcn hKo hKr hTr hj hnb hbn cJ hcl hv0 hvn hbs hRd hRd' hxl hjl em ec
          go_upto_region 11 with (fail)
          have hCB : C < w1.heap.size := by have := HA.out.2.1; omega
          go_region_held3 (fun w' => w'.cell? ⟨cb, 0, none⟩ = some (.int .i64 (v0 : Int))) (first | assumption | go_keep) (first | (go_at_call 15; first | (with_reducible refine (reportOf_any C v0 _ _ HD.out.c4 HD.out.c0).mono ?_; rintro e w' ⟨rfl, hw⟩; have hw := hw.symm; subst hw) | (with_reducible refine (reportOf_any C v0 _ _ HJ.out.c4 HJ.out.c0).mono ?_; rintro e w' ⟨rfl, hw⟩; have hw := hw.symm; subst hw)) | (go_at_call 17; first | (with_reducible refine (HD.out.keys.off HV.out.1).mono ?_; rintro e w' ⟨rfl, hw⟩; have hw := hw.symm; subst hw) | (with_reducible refine (HJ.out.keys.off HV.out.1).mono ?_; rintro e w' ⟨rfl, hw⟩; have hw := hw.symm; subst hw)) | (go_at_call 18; go_must (refine CJ.out.mono ?_; rintro e wj ⟨rfl, hbj⟩; have HJ := hideIt (HD.out.later hbj); have HBJ := hideIt hbj; have sj := HJ.out.cell; clear hbj)) | (go_at_call 16; with_reducible refine (add_any C w1.heap.size i (A v0) (msgOf K c) pv _ _ hCB HJ.out.hB HJ.out.c2 HJ.out.f2 HJ.out.row hil).mono ?_; rintro e wz ⟨rfl, pv', wa, rfl, hrz, hbz⟩; have sz : (wa.setCell ⟨C, 2, none⟩ pv').cell? ⟨cb, 0, none⟩ = some (.int .i64 (v0 : Int)) := (World.cell?_of_block (heap_set_ne _ _ hcbC)).trans ((hbz.cell (p := ⟨cb, 0, none⟩) (by show cb < _; omega)).trans HJ.out.cell)))
          all_goals
            clear s0 s00 sj sz t2 t2n t2e
            have t3 : (i : Int) + 1 ≤ 9223372036854775807 := by omega
            go_wp2
            go_roundg m
            case measure => exact Nat.lt_succ_self _
            case rel =>
              obtain ⟨hvn, hbs, hi, hc, ec⟩ := HV.out
              have hbj : Below w1.heap.size wr wj := (⟨rfl, rfl, rfl, Nat.le_refl _, fun _ _ => rfl⟩ : Below w1.heap.size wr wr.drew).trans (HBJ.out.mono (by have := hbs.size; show w1.heap.size ≤ wr.heap.size; omega))
              refine ⟨i + 1, pv', by omega, rfl, ((hbs.below hbj hCB).below hbz hCB).set pv', World.cell?_setCell_same _ _ _ ((hbz.cell (p := ⟨C, 2, none⟩) hCB).trans HJ.out.c2), ?_⟩
              rw [probs_take hc, show c.headD 0 = v0 by rw [ec]; rfl]
              exact hrz
end Go.Proofs.YbulkeiwwDoor
