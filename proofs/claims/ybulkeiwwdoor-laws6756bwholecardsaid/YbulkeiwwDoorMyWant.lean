/-
  The law's own answer in plain words: the matrix's start, the groups told one by one.
-/
import Derived.Test.YbulkeiwwDoorMyDone
import Derived.Test.YbulkeiwwDoorMyMat
import Derived.Lib.Builder
namespace Go.Proofs.YbulkeiwwDoor
open Go.RowKit Go.ChangeMaps Go.Lib Gr
set_option linter.unusedVariables false

def st0 (H : Nat → Nat) (T : Nat → Int) (i : Nat) : Nat → Nat → Bool := fun a b => (List.range i).any fun j => decide (H j = a) && decide (T j = (b : Int))
theorem st0_iff {H : Nat → Nat} {T : Nat → Int} {i a b : Nat} : st0 H T i a b = true ↔ ∃ j, j < i ∧ H j = a ∧ T j = (b : Int) := by simp [st0]
theorem st0_zero (H : Nat → Nat) (T : Nat → Int) : st0 H T 0 = fun _ _ => false := rfl
theorem st0_skip {H : Nat → Nat} {T : Nat → Int} {i : Nat} (h : T i < 0) : st0 H T (i + 1) = st0 H T i := by
  funext a b
  have : decide (T i = (b : Int)) = false := by simp; omega
  simp [st0, List.range_succ, this]
theorem st0_set {H : Nat → Nat} {T : Nat → Int} {i t : Nat} (h : T i = (t : Int)) : upd (st0 H T i) (H i) t true = st0 H T (i + 1) := by
  funext a b
  unfold upd
  by_cases e : a = H i ∧ b = t
  · rw [if_pos e]
    exact (st0_iff.2 ⟨i, by omega, e.1.symm, by rw [h, e.2]⟩).symm
  · rw [if_neg e]
    have : (decide (H i = a) && decide (T i = (b : Int))) = false := by
      rw [h]
      by_cases e1 : H i = a
      · have : ¬ ((t : Int) = (b : Int)) := fun e2 => e ⟨e1.symm, by omega⟩
        simp [this]
      · simp [e1]
    have h2 : st0 H T (i + 1) a b = (st0 H T i a b || (decide (H i = a) && decide (T i = (b : Int)))) := by simp [st0, List.range_succ]
    rw [h2, this, Bool.or_false]

/-- Loop 7. -/
def Rel7 (m kl Rb : Nat) (H : Nat → Nat) (T : Nat → Int) (w0 : World) (k : Nat) (x : Value) (wr : World) : Prop :=
  ∃ i : Nat, i + k = m ∧ x = .int .i64 (i : Int) ∧ wr.heap[Rb]? = some (.cells (arrB (kl * kl) (matF kl (st0 H T i))) 4) ∧ Below Rb w0 wr

/-- The matrix within Warshall's loops. -/
def MatW (E : Nat → Nat → Prop) (kl Rb kk i j : Nat) (w0 wr : World) : Prop :=
  ∃ R, War E kl kk i j R ∧ wr.heap[Rb]? = some (.cells (arrB (kl * kl) (matF kl R)) 4) ∧ Below Rb w0 wr
def Rel8 (E : Nat → Nat → Prop) (kl Rb : Nat) (w0 : World) (k : Nat) (x : Value) (wr : World) : Prop :=
  ∃ v : Nat, v + k = kl ∧ x = .int .i64 (v : Int) ∧ MatW E kl Rb v 0 0 w0 wr
def Rel9 (E : Nat → Nat → Prop) (kl Rb v : Nat) (w0 : World) (k : Nat) (x : Value) (wr : World) : Prop :=
  ∃ i : Nat, i + k = kl ∧ x = .int .i64 (i : Int) ∧ MatW E kl Rb v i 0 w0 wr
def Rel10 (E : Nat → Nat → Prop) (kl Rb v i : Nat) (w0 : World) (k : Nat) (x : Value) (wr : World) : Prop :=
  ∃ j : Nat, j + k = kl ∧ x = .int .i64 (j : Int) ∧ ∃ R, War E kl v i j R ∧ R i v = true ∧ wr.heap[Rb]? = some (.cells (arrB (kl * kl) (matF kl R)) 4) ∧ Below Rb w0 wr

/-- The groups whose first vertex is below v. -/
def specTo (R : Nat → Nat → Bool) (n v : Nat) : List (List Nat) := ((List.range v).filter (isHead R)).map (members R n)
theorem specTo_all (R : Nat → Nat → Bool) (n : Nat) : specTo R n n = spec R n := rfl
theorem specTo_zero (R : Nat → Nat → Bool) (n : Nat) : specTo R n 0 = [] := rfl
theorem specTo_skip {R : Nat → Nat → Bool} {n v : Nat} (h : isHead R v = false) : specTo R n (v + 1) = specTo R n v := by simp [specTo, List.range_succ, h]
theorem specTo_take {R : Nat → Nat → Bool} {n v : Nat} (h : isHead R v = true) : specTo R n (v + 1) = specTo R n v ++ [members R n v] := by simp [specTo, List.range_succ, h]
theorem specTo_len (R : Nat → Nat → Bool) (n v : Nat) : (specTo R n v).length ≤ v := by
  unfold specTo
  rw [List.length_map]
  have := List.length_filter_le (isHead R) (List.range v)
  simpa using this
theorem probs_snoc (K : Nat → List UInt8) (A : Nat → Nat) (gs : List (List Nat)) (c : List Nat) : probsOf K A (gs ++ [c]) = probsOf K A gs ++ probCells (A (c.headD 0)) (msgOf K c) := by simp [probsOf]
theorem probs_get (K : Nat → List UInt8) (A : Nat → Nat) : ∀ (gs : List (List Nat)) {j r : Nat} {c : List Nat}, gs[j]? = some c → r < 5 → (probsOf K A gs)[j * 5 + r]? = (probCells (A (c.headD 0)) (msgOf K c))[r]?
  | [], j, r, c, h, _ => by simp at h
  | g :: gs, j, r, c, h, hr => by
    have e : probsOf K A (g :: gs) = probCells (A (g.headD 0)) (msgOf K g) ++ probsOf K A gs := rfl
    rw [e]
    have hl : (probCells (A (g.headD 0)) (msgOf K g)).length = 5 := rfl
    cases j with
    | zero =>
      rw [List.getElem?_cons_zero] at h
      cases h
      rw [Nat.zero_mul, Nat.zero_add, List.getElem?_append_left (by rw [hl]; exact hr)]
    | succ j =>
      rw [List.getElem?_cons_succ] at h
      rw [List.getElem?_append_right (by rw [hl]; omega), hl, show (j + 1) * 5 + r - 5 = j * 5 + r by omega]
      exact probs_get K A gs h hr

/-- The members of v's group below j. -/
def memTo (R : Nat → Nat → Bool) (v j : Nat) : List Nat := (List.range j).filter (isMem R v)
theorem memTo_all (R : Nat → Nat → Bool) (n v : Nat) : memTo R v n = members R n v := rfl
theorem memTo_start (R : Nat → Nat → Bool) (v : Nat) : memTo R v v = [] := by
  unfold memTo
  rw [List.filter_eq_nil_iff]
  intro x hx
  rw [List.mem_range] at hx
  simp [isMem]
  omega
theorem memTo_skip {R : Nat → Nat → Bool} {v j : Nat} (h : isMem R v j = false) : memTo R v (j + 1) = memTo R v j := by simp [memTo, List.range_succ, h]
theorem memTo_take {R : Nat → Nat → Bool} {v j : Nat} (h : isMem R v j = true) : memTo R v (j + 1) = memTo R v j ++ [j] := by simp [memTo, List.range_succ, h]
theorem memTo_head {R : Nat → Nat → Bool} {v n : Nat} (h : v < n) : (memTo R v n).headD 0 = v := by
  obtain ⟨c', e⟩ := members_cons (R := R) h
  rw [memTo_all, e]
  rfl

theorem joinTail_snoc (sep : List UInt8) (r : List (List UInt8)) (x : List UInt8) : Lib.joinTail sep (r ++ [x]) = Lib.joinTail sep r ++ (sep ++ x) := by simp [Lib.joinTail]
theorem join_snoc (sep : List UInt8) (r : List (List UInt8)) (x : List UInt8) : Lib.join (r ++ [x]) sep = if r = [] then x else Lib.join r sep ++ (sep ++ x) := by
  cases r with
  | nil => simp [Lib.join]
  | cons y r => rw [List.cons_append, Lib.join_cons, joinTail_snoc, Lib.join_cons]; simp
theorem msg_snoc (K : Nat → List UInt8) (c : List Nat) (j : Nat) : msgOf K (c ++ [j]) = if c = [] then quoted (K j) else msgOf K c ++ [44, 32] ++ quoted (K j) := by
  unfold msgOf
  rw [List.map_append, List.map_cons, List.map_nil, join_snoc]
  cases c with
  | nil => simp
  | cons a c => simp
theorem quoted_pos (l : List UInt8) : 2 ≤ (quoted l).length := by simp [quoted]
theorem msg_pos (K : Nat → List UInt8) (c : List Nat) : 0 < (msgOf K c).length ↔ c ≠ [] := by
  cases c with
  | nil => simp [msgOf, Lib.join]
  | cons a c =>
    have := quoted_pos (K a)
    have e : msgOf K (a :: c) = quoted (K a) ++ Lib.joinTail [44, 32] (c.map fun v => quoted (K v)) := by
      unfold msgOf
      rw [List.map_cons, Lib.join_cons]
    rw [e, List.length_append]
    constructor
    · intro _ h; cases h
    · intro _; omega
theorem msg_len (K : Nat → List UInt8) (R : Nat → Nat → Bool) (v : Nat) : ∀ j, (msgOf K (memTo R v j)).length ≤ 6 * totLen K j + 4 * j
  | 0 => by simp [memTo, msgOf, Lib.join]
  | j + 1 => by
    have ih := msg_len K R v j
    have hq := quoted_len (K j)
    by_cases h : isMem R v j = true
    · rw [memTo_take h, msg_snoc]
      split
      · simp [totLen]; omega
      · simp [totLen]; omega
    · rw [memTo_skip (by simpa using h)]
      simp [totLen]; omega

theorem head_of {R : Nat → Nat → Bool} {v : Nat} (h1 : R v v = true) (h2 : ∀ u, u < v → (R u v && R v u) = false) : isHead R v = true := by
  simp only [isHead, h1, Bool.true_and, List.all_eq_true, List.mem_range]
  intro u hu
  rw [h2 u hu]
  rfl
theorem head_no1 {R : Nat → Nat → Bool} {v : Nat} (h1 : R v v = false) : isHead R v = false := by simp [isHead, h1]
theorem head_no2 {R : Nat → Nat → Bool} {u v : Nat} (hu : u < v) (h1 : R u v = true) (h2 : R v u = true) : isHead R v = false := by
  rw [Bool.eq_false_iff]
  intro h
  simp only [isHead, Bool.and_eq_true, List.all_eq_true, List.mem_range] at h
  have := h.2 u hu
  rw [h1, h2] at this
  cases this

def Rel11 (kl Bw : Nat) (K : Nat → List UInt8) (R : Nat → Nat → Bool) (w0 : World) (k : Nat) (wv x : Value) (wr : World) : Prop :=
  ∃ v : Nat, v + k = kl ∧ x = .int .i64 (v : Int) ∧ wr.ownsRow Bw 79 5 wv (specTo R kl v).length (probsOf K (fun v => (bufAt K v).length) (specTo R kl v)) ∧ Below Bw w0 wr
def Rel12 (v : Nat) (R : Nat → Nat → Bool) (w0 : World) (k : Nat) (x46 x : Value) (wr : World) : Prop :=
  ∃ u : Nat, u + k = v ∧ x46 = .bool true ∧ x = .int .i64 (u : Int) ∧ (∀ u', u' < u → (R u' v && R v u') = false) ∧ wr = w0
def Rel13 (kl v : Nat) (K : Nat → List UInt8) (R : Nat → Nat → Bool) (w0 : World) (k : Nat) (mv x : Value) (wr : World) : Prop :=
  ∃ j : Nat, v ≤ j ∧ j + k = kl ∧ x = .int .i64 (j : Int) ∧ wr.ownsRow w0.heap.size 5 1 mv (msgOf K (memTo R v j)).length (byteCells (msgOf K (memTo R v j))) ∧ Below w0.heap.size w0 wr
/-! ### small sums, told apart from the walk -/
theorem idx_facts {q u N : Nat} (h : q + u < N) (hN : N ≤ 40000) : (0 : Int) ≤ (q : Int) ∧ (q : Int) ≤ 9223372036854775807 ∧ (q : Int) + (u : Int) ≤ 9223372036854775807 ∧ (0 : Int) ≤ (q : Int) + (u : Int) ∧ (q : Int) + (u : Int) < (N : Int) ∧ ((q : Int) + (u : Int)).toNat = q + u :=
  ⟨by omega, by omega, by omega, by omega, by omega, by omega⟩
theorem lt_of_sum {v k n : Nat} (h : v + (k + 1) = n) : v < n := by omega
theorem lt_cast {a b : Nat} (h : a < b) : (a : Int) < (b : Int) := by omega
theorem succ_max {a n : Nat} (h : a < n) (hn : n ≤ 200) : (a : Int) + 1 ≤ 9223372036854775807 := by omega
theorem next_sum {v k n : Nat} (h : v + (k + 1) = n) : v + 1 + k = n := by omega
theorem le_alloc {B : Nat} {w : World} (h : B ≤ w.heap.size) (o : Obj) : B ≤ (w.alloc o).heap.size := by simp; omega
theorem row79_fits {L : Nat} (h : L ≤ 200) : L + 1 ≤ maxLen ∧ (L + 1) * 56 ≤ 140737488355328 := ⟨by unfold maxLen; omega, by omega⟩
theorem lim13 {M a b c j kl : Nat} (h1 : M ≤ 6 * a + 4 * j) (h2 : a ≤ b) (h3 : c ≤ b) (h4 : j < kl) (h5 : kl ≤ 200) (h6 : b ≤ 1048576) : M + 2 + 6 * c ≤ 90000000 := by omega
theorem lim0 {M c : Nat} (h : M + 2 + 6 * c ≤ 90000000) : 0 + 6 * c ≤ 90000000 := by omega
theorem lim5 {M c : Nat} (h : M + 2 + 6 * c ≤ 90000000) : M + 2 ≤ maxLen ∧ (M + 2) * 1 ≤ 140737488355328 := ⟨by unfold maxLen; omega, by omega⟩
theorem beq_no {j u : Nat} (h : j ≠ u) : ((j : Int) == (u : Int)) = false := by simp; omega
theorem ne_cast {j u : Nat} (h : j ≠ u) : ¬ ((j : Int) = (u : Int)) := by omega
theorem isMem_no {R : Nat → Nat → Bool} {u j : Nat} (h : (R u j && R j u) = false) (hne : j ≠ u) : isMem R u j = false := by simp only [isMem, h, Bool.or_false]; simp [hne]
theorem isMem_yes {R : Nat → Nat → Bool} {u j : Nat} (h1 : R u j = true) (h2 : R j u = true) (h : u ≤ j) : isMem R u j = true := by simp only [isMem, h1, h2]; simpa using h
theorem mem_self {R : Nat → Nat → Bool} {u j : Nat} (h : u < j) : memTo R u j ≠ [] := fun e => by
  have hmm : u ∈ memTo R u j := by
    unfold memTo
    rw [List.mem_filter, List.mem_range]
    exact ⟨h, by simp [isMem]⟩
  rw [e] at hmm
  cases hmm
/-- The frame under a letter. -/
theorem gen_act {P : Program} {c : Code} {Q : Exit → Act → World → Prop} {a : Act} {w : World} (h : ∀ a0, a0 = a → Code.wp P c Q a0 w) : Code.wp P c Q a w := h a rfl
theorem getD_set_same (xs : Array Value) (d : Nat) (v u : Value) (h : d < xs.size) : (xs.setIfInBounds d v).getD d u = v := by simp [Array.getD, h]
theorem getD_set_other (xs : Array Value) (d x : Nat) (v u : Value) (h : d ≠ x) : (xs.setIfInBounds d v).getD x u = xs.getD x u := by
  rw [Array.getD_eq_getD_getElem?, Array.getD_eq_getD_getElem?, Array.getElem?_setIfInBounds, if_neg h]
theorem neq57 (a : Addr) (w : World) : (binOp .neq 57 (.pointer (some a)) (.pointer (some a))).run Ybad.prog w = .ok (.bool false) w := by
  have h : (Ybad.prog.info? 61).isSome = true := by kernel_rfl
  obtain ⟨j, hj⟩ := Option.isSome_iff_exists.1 h
  exact Lib.run_neq_ptr_same w a Ybad.underlying57 hj
def Rel14 (N : Nat) (w0 : World) (k : Nat) (x : Value) (wr : World) : Prop :=
  ∃ j : Nat, j + k = N ∧ x = .int .i64 (j : Int) ∧ Below w0.heap.size w0 wr
end Go.Proofs.YbulkeiwwDoor
