/-
  'ttrpc.LawS6755CWhole': the statement.
-/
import Derived.Test.YbulkeiwiMyWalk0
import Derived.ProofKit
import Derived.OpenShut
import Derived.Deep.Grids
namespace Go.Proofs.Ybulkeiwi
open Go.ChangeShapes Go.WideShapes Go.ChangeAt Go.RowKit Go.Deep

theorem own : ownKnob Yba.prog.godebug = none := by kernel_rfl
theorem laidOut : laidOutB Yba.prog = true := by kernel_rfl
theorem cells4 : Yba.prog.cellsOf 4 = 1 := by kernel_rfl

theorem law_any (a0 a2 : Int) (v1 : Value) (w : World) (w0 : (Lit.int .u16 a0).wf = true) (w2 : (Lit.int .u16 a2).wf = true)
    (h : (∃ ao cap, v1 = .slice ao 0 cap) ∨ ∃ (b off len cap : Nat) (zs : Nat → Bool), v1 = .slice (some ⟨b, off, none⟩) len cap ∧ len ≤ maxLen ∧ b < w.heap.size ∧ ∀ k, k < len → w.cell? ⟨b, off + k, none⟩ = some (.bool (zs k))) :
    Calls Yba.prog 3 #[.int .u16 a0, v1, .int .u16 a2] w fun e w' => e = .returned (.bool true) ∧ Below w.heap.size w w' := by
  have hb0 : 0 ≤ a0 ∧ a0 ≤ 65535 := by
    simp [Lit.wf, IntKind.min, IntKind.max, IntKind.signed, IntKind.bits] at w0
    omega
  have hb2 : 0 ≤ a2 ∧ a2 ≤ 65535 := by
    simp [Lit.wf, IntKind.min, IntKind.max, IntKind.signed, IntKind.bits] at w2
    omega
  obtain ⟨n, hn⟩ : ∃ n : Nat, a0 % 512 + 1 = (n : Int) := ⟨(a0 % 512 + 1).toNat, by omega⟩
  have hn1 : 0 < (n : Int) := by omega
  have hm0 := Int.emod_nonneg a2 (by omega : (n : Int) ≠ 0)
  have hm1 := Int.emod_lt_of_pos a2 hn1
  obtain ⟨p, hp⟩ : ∃ p : Nat, a2 % (n : Int) = (p : Int) := ⟨(a2 % (n : Int)).toNat, by omega⟩
  rcases h with ⟨ao, cap, rfl⟩ | ⟨b, off, len, cap, zs, rfl, hl, hb, hz⟩
  · exact law_zero a0 a2 ao cap n p w hb0.1 hb0.2 hb2.1 hb2.2 hn hp (by omega) (by omega)
  · unfold maxLen at hl
    exact law_some a0 a2 b off len cap n p zs w hb0.1 hb0.2 hb2.1 hb2.2 hn hp (by omega) (by omega) (by omega) hb hz

set_option maxRecDepth 100000 in
theorem lifted (os : Os) (started : os.Started) (H : Type) (enc : TypeId × Value → H) :
    ReturnsInHanded {} Yba.checked os 3 .any (Rows.lawS6755CWholeSpec.pre6 enc Yba.prog Yba.f3 Rows.lawS6755CWholeRow.domain false) (Rows.lawS6755CWholeSpec.post enc Yba.prog Yba.f3 false true false false) := by
  refine returnsInHanded_of_change (C := Yba.checked) own started (by kernel_rfl) Yba.func3
    (ChangeSpec.witness6 (enc := enc) (C := Yba.checked) false ⟨#[], #[.int .u16 0, .slice none 0 0, .int .u16 0], []⟩ 8 (by kernel_rfl) (by kernel_rfl) (by kernel_rfl) (by kernel_rfl)) ?_
  intro W base args ds gs before hval0 hW hcnd _
  have hval : ∀ (j : Nat) t v, Yba.f3.params[j]? = some t → args[j]? = some v → Value.okWide Yba.prog W .any base t v := hval0
  have hW' := hW
  obtain ⟨p, q, hA0, hV, rfl, hfz, hnd⟩ := hW
  have hA : DataW.TrodAll enc Yba.prog W 0 (fun _ => true) true Yba.f3.params.toList args.toList ds p := hA0
  rw [Yba.params3] at hA hval
  obtain ⟨v0, v1, v2, d0, d1, d2, p0, p1, p2, rfl, rfl, rfl, h0, h1, h2⟩ := trodAll_three hA
  obtain ⟨rfl, rfl⟩ := trodVars_none hV
  obtain ⟨a0, rfl, rfl, rfl, w0⟩ := open_int Yba.underlying22 (hval 0 22 v0 rfl rfl) h0
  obtain ⟨a2, rfl, rfl, rfl, w2⟩ := open_int Yba.underlying22 (hval 2 22 v2 rfl rfl) h2
  obtain ⟨ao, len, cap, rfl⟩ := okWide_slice Yba.underlying23 (hval 1 23 v1 rfl rfl)
  clear hA0 hval0
  simp only [List.append_nil] at hW'
  have hlt : ∀ x ∈ p1, x.block < W.heap.size := fun x hx => by simpa using hW'.lt x (by simp [hx])
  have hargs : ∀ (W' : World), Below W.heap.size W W' → DataW.Trod enc Yba.prog W' 0 (fun b => decide (b < W.heap.size)) true 23 (.slice ao len cap) d1 p1 :=
    fun W' hn => Below.trod laidOut (by kernel_rfl) (of_decide_eq_true (by kernel_rfl)) h1 hn hlt
  have hcase : (∃ ao' cap', Value.slice ao len cap = .slice ao' 0 cap') ∨ ∃ (b off len' cap' : Nat) (zs : Nat → Bool), Value.slice ao len cap = .slice (some ⟨b, off, none⟩) len' cap' ∧ len' ≤ maxLen ∧ b < W.heap.size ∧ ∀ k, k < len' → W.cell? ⟨b, off + k, none⟩ = some (.bool (zs k)) := by
    obtain ⟨fuel, hf⟩ := h1
    rcases open_bools Yba.underlying23 Yba.underlying4 cells4 hf with ⟨hcs, hx⟩ | ⟨a, len', cap', B, hcs, _, hl, hm, hx, hcell⟩
    · simp [Value.cells] at hcs
      obtain ⟨rfl, rfl, rfl⟩ := hcs
      exact Or.inl ⟨_, _, rfl⟩
    · simp [Value.cells] at hcs
      obtain ⟨rfl, rfl, rfl⟩ := hcs
      by_cases hl0 : len = 0
      · subst hl0
        exact Or.inl ⟨_, _, rfl⟩
      · simp only [Prod.mk.injEq] at hx
        obtain ⟨_, rfl⟩ := hx
        obtain ⟨b, off, spot⟩ := a
        have hspot : spot = none := by simpa [Addr.add] using World.cell?_spot (hcell 0 (by omega))
        subst hspot
        have hbW : b < W.heap.size := hlt (.cell b off) (MemPlace.mem_row.2 ⟨0, by omega, by simp⟩)
        exact Or.inr ⟨b, off, len, cap, B, rfl, by omega, hbW, fun k hk => by rw [← add_plain]; exact hcell k (by omega)⟩
  refine (law_any a0 a2 _ W w0 w2 hcase).mono fun e W' ⟨he, hnx⟩ => ?_
  subst he
  exact ⟨_, rfl, _, _, _, [], _, [], hW', trodAll_mk1 (shut_bool Yba.underlying4 _), trodAll_mk3 (shut_int Yba.underlying22 w0) (hargs _ hnx) (shut_int Yba.underlying22 w2), rfl, hnx.frame _, fun h => by cases h⟩

theorem proved : Rows.LawS6755CWholeSaid :=
  OpenClaim.holds_of_wide 3 Yba.f3 rfl rfl rfl rfl rfl rfl rfl ⟨rfl, rfl, rfl, rfl, rfl⟩ rfl rfl rfl rfl rfl (by kernel_rfl) Yba.func3 (by kernel_rfl)
    (of_decide_eq_true (by kernel_rfl)) (by unfold Func.isWrapper; first | (rw [if_pos (by decide +kernel)]; kernel_rfl) | (rw [if_neg (by decide +kernel)]; exact ⟨rfl, rfl⟩))
    (fun os started H enc _ => lifted os started H enc)

#print axioms proved
end Go.Proofs.Ybulkeiwi
