/-
  'provider.LawS6758AWhole': the statement.
-/
import Derived.Test.YbulkeixyMyWalk0
import Derived.ProofKit
import Derived.OpenShut
import Derived.ShutString
import Derived.Deep.Slices
namespace Go.Proofs.Ybulkeixy
open Go.ChangeShapes Go.WideShapes Go.ChangeAt Go.RowKit Go.Deep
open Go.ChangeMaps (open_string shut_string)

theorem own : ownKnob Yba.prog.godebug = none := by kernel_rfl
theorem laidOut : laidOutB Yba.prog = true := by kernel_rfl
theorem cells4 : Yba.prog.cellsOf 4 = 1 := by kernel_rfl
theorem cells5 : Yba.prog.cellsOf 5 = 1 := by kernel_rfl
theorem cells9 : Yba.prog.cellsOf 9 = 1 := by kernel_rfl
theorem cells22 : Yba.prog.cellsOf 22 = 1 := by kernel_rfl
theorem cells26 : Yba.prog.cellsOf 26 = 7 := by kernel_rfl

theorem seven {α : Type} {l : List α} (h : l.length = 7) : ∃ a b c d e f g, l = [a, b, c, d, e, f, g] := by
  match l, h with
  | [a, b, c, d, e, f, g], _ => exact ⟨a, b, c, d, e, f, g, rfl⟩

/-- One element of the argument, opened. -/
theorem open_elem {H : Type} {enc : TypeId × Value → H} {W : World} {base n : Nat} {spare : Nat → Bool} {held : Bool} {cs : List Value} {x : DataW H × List MemPlace} (h : DataW.trod enc Yba.prog W base spare held n 26 cs = some x) :
    ∃ (sm : Bool) (se : ByteArray) (st : Int) (rw_ : ByteArray) (lp : Int) (mt : ByteArray) (md : Int), cs = [.bool sm, .string se, .int .u8 st, .string rw_, .int .u64 lp, .string mt, .int .u64 md] ∧ 0 ≤ st ∧ st ≤ 255 := by
  obtain ⟨xs, m, _, _, hlen, hxs, hf⟩ := DataW.trod_struct Yba.underlying26 h
  rw [cells26] at hlen
  obtain ⟨v0, v1, v2, v3, v4, v5, v6, rfl⟩ := seven hlen
  obtain ⟨y0, y1, y2, y3, y4, y5, y6, rfl⟩ := seven hxs
  have f0 := hf 0 _ rfl
  have f1 := hf 1 _ rfl
  have f2 := hf 2 _ rfl
  have f3 := hf 3 _ rfl
  have f4 := hf 4 _ rfl
  have f5 := hf 5 _ rfl
  have f6 := hf 6 _ rfl
  simp [cells4, cells5, cells9, cells22] at f0 f1 f2 f3 f4 f5 f6
  obtain ⟨sm, e0, _⟩ := DataW.trod_bool Yba.underlying4 f0
  obtain ⟨se, e1, _⟩ := DataW.trod_string Yba.underlying9 f1
  obtain ⟨st, e2, _, w2⟩ := DataW.trod_int Yba.underlying5 f2
  obtain ⟨rw_, e3, _⟩ := DataW.trod_string Yba.underlying9 f3
  obtain ⟨lp, e4, _⟩ := DataW.trod_int Yba.underlying22 f4
  obtain ⟨mt, e5, _⟩ := DataW.trod_string Yba.underlying9 f5
  obtain ⟨md, e6, _⟩ := DataW.trod_int Yba.underlying22 f6
  simp at e0 e1 e2 e3 e4 e5 e6
  subst e0 e1 e2 e3 e4 e5 e6
  simp [Lit.wf, IntKind.min, IntKind.max, IntKind.signed, IntKind.bits] at w2
  exact ⟨sm, se, st, rw_, lp, mt, md, rfl, by omega, by omega⟩

structure El where
  sm : Bool
  se : ByteArray
  st : Int
  rw_ : ByteArray
  lp : Int
  mt : ByteArray
  md : Int

def El.cells (e : El) : List Value := [.bool e.sm, .string e.se, .int .u8 e.st, .string e.rw_, .int .u64 e.lp, .string e.mt, .int .u64 e.md]
def El.zero : El := ⟨false, ⟨#[]⟩, 0, ⟨#[]⟩, 0, ⟨#[]⟩, 0⟩

theorem choose_el {n : Nat} {p : Nat → El → Prop} (h : ∀ i, i < n → ∃ x, p i x) : ∃ f : Nat → El, ∀ i, i < n → p i (f i) := by
  refine ⟨fun i => if hi : i < n then Classical.choose (h i hi) else El.zero, fun i hi => ?_⟩
  simp only [hi, dite_true]
  exact Classical.choose_spec (h i hi)

theorem law_any (id : Int) (owner sec : ByteArray) (v : Value) (W : World)
    (h : v = .slice none 0 0 ∨ (∃ a cap, v = .slice (some a) 0 cap) ∨ ∃ (b off len cap : Nat) (E : Nat → El), v = .slice (some ⟨b, off, none⟩) len cap ∧ b < W.heap.size ∧ ∀ k, k < len → 0 ≤ (E k).st ∧ (E k).st ≤ 255 ∧ ∀ j, j < 7 → W.cell? ⟨b, off + k * 7 + j, none⟩ = (E k).cells[j]?) :
    Calls Yba.prog 3 #[.int .u64 id, .string owner, .string sec, v] W fun e w' => e = .returned (.bool true) ∧ Below W.heap.size W w' := by
  rcases h with rfl | ⟨a, cap, rfl⟩ | ⟨b, off, len, cap, E, rfl, hb, hE⟩
  · exact law_nil id owner sec W
  · exact law_empty id owner sec a cap W
  · by_cases hlen : len ≤ 1048576
    · exact law_some id owner sec b off len cap (fun k => (E k).sm) (fun k => (E k).se) (fun k => (E k).rw_) (fun k => (E k).mt) (fun k => (E k).st) (fun k => (E k).lp) (fun k => (E k).md) W hlen hb
        (fun k hk => by simpa [El.cells] using (hE k hk).2.2 0 (by omega)) (fun k hk => by simpa [El.cells] using (hE k hk).2.2 1 (by omega)) (fun k hk => by simpa [El.cells] using (hE k hk).2.2 2 (by omega)) (fun k hk => by simpa [El.cells] using (hE k hk).2.2 3 (by omega))
        (fun k hk => by simpa [El.cells] using (hE k hk).2.2 4 (by omega)) (fun k hk => by simpa [El.cells] using (hE k hk).2.2 5 (by omega)) (fun k hk => by simpa [El.cells] using (hE k hk).2.2 6 (by omega)) (fun k hk => ⟨(hE k hk).1, (hE k hk).2.1⟩)
    · exact law_big id owner sec _ len cap W (by omega)

set_option maxRecDepth 100000 in
theorem lifted (os : Os) (started : os.Started) (H : Type) (enc : TypeId × Value → H) :
    ReturnsInHanded {} Yba.checked os 3 .any (Rows.lawS6758AWholeSpec.pre6 enc Yba.prog Yba.f3 Rows.lawS6758AWholeRow.domain false) (Rows.lawS6758AWholeSpec.post enc Yba.prog Yba.f3 false true false false) := by
  refine returnsInHanded_of_change (C := Yba.checked) own started (by kernel_rfl) Yba.func3
    (ChangeSpec.witness6 (enc := enc) (C := Yba.checked) false ⟨#[], #[.int .u64 0, .string ⟨#[]⟩, .string ⟨#[]⟩, .slice none 0 0], []⟩ 8 (by kernel_rfl) (by kernel_rfl) (by kernel_rfl) (by kernel_rfl)) ?_
  intro W base args ds gs before hval0 hW hcnd _
  have hval : ∀ (j : Nat) t v, Yba.f3.params[j]? = some t → args[j]? = some v → Value.okWide Yba.prog W .any base t v := hval0
  have hW' := hW
  obtain ⟨p, q, hA0, hV, rfl, hfz, hnd⟩ := hW
  have hA : DataW.TrodAll enc Yba.prog W 0 (fun _ => true) true Yba.f3.params.toList args.toList ds p := hA0
  rw [Yba.params3] at hA hval
  obtain ⟨v0, v1, v2, v3, d0, d1, d2, d3, p0, p1, p2, p3, rfl, rfl, rfl, h0, h1, h2, h3⟩ := trodAll_four hA
  obtain ⟨rfl, rfl⟩ := trodVars_none hV
  obtain ⟨id, rfl, rfl, rfl, w0⟩ := open_int Yba.underlying22 (hval 0 22 v0 rfl rfl) h0
  obtain ⟨owner, rfl, rfl, rfl, w1⟩ := open_string Yba.underlying9 (hval 1 9 v1 rfl rfl) h1
  obtain ⟨sec, rfl, rfl, rfl, w2⟩ := open_string Yba.underlying9 (hval 2 9 v2 rfl rfl) h2
  obtain ⟨ao, len, cap, rfl⟩ := okWide_slice Yba.underlying23 (hval 3 23 v3 rfl rfl)
  clear hA0 hval0
  simp only [List.append_nil, List.nil_append] at hW'
  have hlt : ∀ x ∈ p3, x.block < W.heap.size := fun x hx => by simpa using hW'.lt x (by simp [hx])
  have hargs : ∀ (W' : World), Below W.heap.size W W' → DataW.Trod enc Yba.prog W' 0 (fun b => decide (b < W.heap.size)) true 23 (.slice ao len cap) d3 p3 :=
    fun W' hn => Below.trod laidOut (by kernel_rfl) (of_decide_eq_true (by kernel_rfl)) h3 hn hlt
  have hcase : Value.slice ao len cap = .slice none 0 0 ∨ (∃ a cap', Value.slice ao len cap = .slice (some a) 0 cap') ∨ ∃ (b off len' cap' : Nat) (E : Nat → El), Value.slice ao len cap = .slice (some ⟨b, off, none⟩) len' cap' ∧ b < W.heap.size ∧ ∀ k, k < len' → 0 ≤ (E k).st ∧ (E k).st ≤ 255 ∧ ∀ j, j < 7 → W.cell? ⟨b, off + k * 7 + j, none⟩ = (E k).cells[j]? := by
    obtain ⟨fuel, hf⟩ := h3
    rcases open_slice Yba.underlying23 hf with ⟨hcs, hx⟩ | ⟨a, len', cap', m, n, D, Pl, hcs, _, hl, hm, hmm, hx, hel⟩
    · simp [Value.cells] at hcs
      obtain ⟨rfl, rfl, rfl⟩ := hcs
      exact Or.inl rfl
    · simp [Value.cells] at hcs
      obtain ⟨rfl, rfl, rfl⟩ := hcs
      simp only [if_true] at hmm
      subst hmm
      by_cases hl0 : len = 0
      · subst hl0
        exact Or.inr (Or.inl ⟨_, _, rfl⟩)
      · simp only [Prod.mk.injEq] at hx
        obtain ⟨_, rfl⟩ := hx
        rw [cells26] at hel hlt
        obtain ⟨b, off, spot⟩ := a
        have hspot : spot = none := by
          obtain ⟨cs', h1, h2⟩ := hel 0 (by omega)
          obtain ⟨_, hlen, hc⟩ := World.cells?_some h1
          obtain ⟨_, _, _, _, _, _, _, rfl, _⟩ := open_elem h2
          have := hc 0 (by omega)
          exact by simpa [Addr.add] using World.cell?_spot this
        subst hspot
        have hbW : b < W.heap.size := hlt (.cell b off) (by simp only [List.mem_append]; exact Or.inl (MemPlace.mem_row.2 ⟨0, by omega, by simp⟩))
        obtain ⟨E, hE⟩ := choose_el (n := len) (p := fun k e => 0 ≤ e.st ∧ e.st ≤ 255 ∧ ∀ j, j < 7 → W.cell? ⟨b, off + k * 7 + j, none⟩ = e.cells[j]?) (fun k hk => by
          obtain ⟨cs', h1, h2⟩ := hel k (by omega)
          obtain ⟨_, hlen, hc⟩ := World.cells?_some h1
          obtain ⟨sm, se, st, rw_, lp, mt, md, rfl, hs0, hs1⟩ := open_elem h2
          refine ⟨⟨sm, se, st, rw_, lp, mt, md⟩, hs0, hs1, fun j hj => ?_⟩
          have := hc j hj
          rw [add_plain, add_plain] at this
          exact this)
        exact Or.inr (Or.inr ⟨b, off, len, _, E, rfl, hbW, hE⟩)
  refine (law_any id owner sec _ W hcase).mono fun e W' ⟨he, hnx⟩ => ?_
  subst he
  exact ⟨_, rfl, _, _, _, [], _, [], hW', trodAll_mk1 (shut_bool Yba.underlying4 _), trodAll_mk4 (shut_int Yba.underlying22 w0) (shut_string Yba.underlying9 w1) (shut_string Yba.underlying9 w2) (hargs _ hnx), rfl, hnx.frame _, fun h => by cases h⟩

theorem proved : Rows.LawS6758AWholeSaid :=
  OpenClaim.holds_of_wide 3 Yba.f3 rfl rfl rfl rfl rfl rfl rfl ⟨rfl, rfl, rfl, rfl, rfl⟩ rfl rfl rfl rfl rfl (by kernel_rfl) Yba.func3 (by kernel_rfl)
    (of_decide_eq_true (by kernel_rfl)) (by unfold Func.isWrapper; first | (rw [if_pos (by decide +kernel)]; kernel_rfl) | (rw [if_neg (by decide +kernel)]; exact ⟨rfl, rfl⟩))
    (fun os started H enc _ => lifted os started H enc)

#print axioms proved
end Go.Proofs.Ybulkeixy
