/-
  The map 'open' of this program: keys are interface values that hold pointers to closers, elements are empty structs. What a look-up, a store of a new key, a delete and len do, as equations.
-/
import Derived.Test.YbulkeiwiMyLocks
import Derived.LaidEql
import Derived.ChangeMaps5
import Derived.WalkKit
namespace Go.Proofs.Ybulkeiwi
open Go.RowKit Go.ChangeMaps

/-- The key: the interface value that holds a pointer to the closer in block b. -/
abbrev kv (b : Nat) : Value := .iface 25 (.pointer (some ⟨b, 0, none⟩))
/-- An entry: (block, stamp). -/
abbrev mkE (x : Nat × Nat) : MapEntry := { key := kv x.1, val := .agg #[], born := x.2 }
/-- A map's entries. -/
abbrev ent (L : List (Nat × Nat)) : Array MapEntry := (L.map mkE).toArray
/-- Block b is a plain block of cells. -/
def isC (w : World) (b : Nat) : Prop := ∃ ca ta, w.heap[b]? = some (.cells ca ta (0, 0))

theorem info25 : (Yba.prog.info? 25).map (fun i => i.comparable) = some true := by kernel_rfl
theorem info27 : (Yba.prog.info? 27).map (fun i => decide (i.size = 0)) = some false := by kernel_rfl

theorem run_equal_kv {w : World} {a b : Nat} (ha : isC w a) (hb : isC w b) : (Op.equal 47 (kv a) (kv b)).run Yba.prog w = .ok (b == a) w := by
  obtain ⟨i, hi, hc⟩ := Option.map_eq_some_iff.1 info25
  obtain ⟨j, hj, hz⟩ := Option.map_eq_some_iff.1 info27
  obtain ⟨ca, ta, ha⟩ := ha
  obtain ⟨cb, tb, hb⟩ := hb
  by_cases h : a = b
  · subst h
    have := run_equalIn_iface_ptr_same (P := Yba.prog) w 9998 ⟨a, 0, none⟩ Yba.underlying47 Yba.underlying25 hi hc hj
    simpa [Op.equal, Op.maxDepth] using this
  · have := run_equalIn_iface_ptr_other (P := Yba.prog) w 9998 (a := ⟨a, 0, none⟩) (b := ⟨b, 0, none⟩) Yba.underlying47 Yba.underlying25 hi hc hj (by simpa using hz) (by simp [*]) ha hb
    have hba : (b == a) = false := beq_eq_false_iff_ne.2 (Ne.symm h)
    rw [hba]
    exact this

theorem run_findAsking_kv {w : World} {c : Nat} (hc : isC w c) : ∀ (L : List (Nat × Nat)) (i : Nat), (∀ x ∈ L, isC w x.1) →
    (Instr.findAsking 47 (kv c) (L.map mkE) i).run Yba.prog w = .ok ((L.findIdx? (fun x => x.1 == c)).map (fun j => (i + j, .agg #[]))) w
  | [], i, _ => by simp [Instr.findAsking]
  | x :: L, i, h => by
    have hx : isC w x.1 := h x (by simp)
    have ih := run_findAsking_kv hc L (i + 1) (fun y hy => h y (by simp [hy]))
    have he := run_equal_kv hc hx
    simp only [List.map_cons, Instr.findAsking, Sem.run_bind, he, Result.andThen]
    by_cases hxc : (x.1 == c) = true
    · simp [List.findIdx?_cons, hxc]
    · rw [Bool.not_eq_true] at hxc
      simp only [List.findIdx?_cons, hxc]
      rw [if_neg (by simp), ih]
      simp only [Bool.false_eq_true, if_false, Option.map_map]
      congr 2
      funext j
      simp
      omega

theorem run_findKey_kv {w : World} {c : Nat} (hc : isC w c) (L : List (Nat × Nat)) (h : ∀ x ∈ L, isC w x.1) :
    (Instr.findKey 47 (kv c) (L.map mkE)).run Yba.prog w = .ok ((L.findIdx? (fun x => x.1 == c)).map (fun j => (j, .agg #[]))) w := by
  have := run_findAsking_kv hc L 0 h
  cases L with
  | nil => simp [Instr.findKey, Instr.findNow, run_underlying Yba.underlying47]
  | cons x L =>
    simp only [List.map_cons] at this ⊢
    simp [Instr.findKey, Instr.findNow, Instr.sameNow, run_underlying Yba.underlying47, this]

theorem run_checkKey_kv (w : World) (e : Bool) (c : Nat) : (Instr.checkKey e 10000 47 (kv c)).run Yba.prog w = .ok () w := by
  obtain ⟨i, hi, hc⟩ := Option.map_eq_some_iff.1 info25
  have h2 : ∀ d, (Instr.checkKey e (d + 1) 25 (.pointer (some ⟨c, 0, none⟩))).run Yba.prog w = .ok () w := fun d => by
    simp [Instr.checkKey, run_underlying Yba.underlying25]
  have h1 : (Instr.checkKey e (9998 + 1 + 1) 47 (kv c)).run Yba.prog w = .ok () w := by
    rw [Instr.checkKey]
    simp [run_underlying Yba.underlying47, typeInfo, hi, hc, h2]
  exact h1

theorem any_isSome (L : List (Nat × Nat)) (c : Nat) : (L.findIdx? (fun x => x.1 == c)).isSome = L.any (fun x => x.1 == c) := by
  simp [List.findIdx?_isSome]

theorem run_lookup_kv {w : World} {mb c k : Nat} {L : List (Nat × Nat)} (hb : w.heap[mb]? = some (.map (ent L) k)) (hc : isC w c) (h : ∀ x ∈ L, isC w x.1) :
    (Instr.lookup 41 (.map (some mb)) (kv c) true).run Yba.prog w = .ok (.tuple #[.agg #[], .bool (L.any (fun x => x.1 == c))]) w := by
  have hf := run_findKey_kv hc L h
  have ha := any_isSome L c
  have hk := fun e => run_checkKey_kv w e c
  have hz : (zeroValue 33).run Yba.prog w = .ok (.agg #[]) w := Yba.zeroValue33 w
  rw [← ha]
  cases hi : L.findIdx? (fun x => x.1 == c) with
  | none =>
    rw [hi] at hf
    simp [Instr.lookup, run_underlying Yba.underlying41, MapKept.run_getObj_map hb, hk, hf, hz]
  | some j =>
    rw [hi] at hf
    simp [Instr.lookup, run_underlying Yba.underlying41, MapKept.run_getObj_map hb, hk, hf]

theorem run_update_kv {w : World} {mb c k : Nat} {L : List (Nat × Nat)} (hb : w.heap[mb]? = some (.map (ent L) k)) (hc : isC w c) (h : ∀ x ∈ L, isC w x.1) (hn : L.any (fun x => x.1 == c) = false) :
    (Instr.mapUpdate 41 (.map (some mb)) (kv c) (.agg #[])).run Yba.prog w = .ok () (setBlock w mb (.map (ent (L ++ [(c, k)])) (k + 1))) := by
  have hf := run_findKey_kv hc L h
  have ha := any_isSome L c
  have hk := fun e => run_checkKey_kv w e c
  rw [hn] at ha
  cases hi : L.findIdx? (fun x => x.1 == c) with
  | none =>
    rw [hi] at hf
    simp [Instr.mapUpdate, run_underlying Yba.underlying41, MapKept.run_getObj_map hb, hk, hf, MapKept.run_setObj_map _ hb, Result.andThen, setBlock]
    simp [ent]
  | some j => rw [hi] at ha; simp at ha

theorem map_eraseIdx {α β : Type} (f : α → β) : ∀ (l : List α) (j : Nat), (l.map f).eraseIdx j = (l.eraseIdx j).map f
  | [], _ => rfl
  | _ :: _, 0 => rfl
  | x :: l, j + 1 => by simp [map_eraseIdx f l j]

theorem run_delete_kv {w : World} {mb c k : Nat} {L : List (Nat × Nat)} (hb : w.heap[mb]? = some (.map (ent L) k)) (hc : isC w c) (h : ∀ x ∈ L, isC w x.1) (ty : TypeId) :
    (Builtin.delete_ #[41, 47] ty #[.map (some mb), kv c]).run Yba.prog w = .ok (.tuple #[]) (setBlock w mb (.map (ent (L.eraseP (fun x => x.1 == c))) k)) := by
  have hf := run_findKey_kv hc L h
  have hk := fun e => run_checkKey_kv w e c
  rw [List.eraseP_eq_eraseIdx]
  cases hi : L.findIdx? (fun x => x.1 == c) with
  | none =>
    rw [hi] at hf
    simp [Builtin.delete_, run_underlying Yba.underlying41, MapKept.run_getObj_map hb, hk, hf, MapKept.run_setObj_map _ hb, Result.andThen, setBlock]
  | some j =>
    rw [hi] at hf
    simp [Builtin.delete_, run_underlying Yba.underlying41, MapKept.run_getObj_map hb, hk, hf, MapKept.run_setObj_map _ hb, Result.andThen, setBlock]
    rw [map_eraseIdx]

theorem run_len_kv {w : World} {mb k : Nat} {L : List (Nat × Nat)} (hb : w.heap[mb]? = some (.map (ent L) k)) (ty : TypeId) :
    (Builtin.len_ #[41] ty #[.map (some mb)]).run Yba.prog w = .ok (.int .i64 L.length) w := by
  simp [Builtin.len_, run_underlying Yba.underlying41, MapKept.run_getObj_map hb, goInt]

end Go.Proofs.Ybulkeiwi
