/-
  The statement: the row from the walk, the card from the row.
-/
import Derived.Test.YbulkeiwwDoorRows
import Derived.Test.YbulkeiwwDoorTie
import Derived.Test.YbulkeiwwDoorCards
import Derived.Test.YbulkeiwwDoorMyLaw
import Derived.ProofKit
import Derived.LaidMore
import Derived.OpenShut
import Derived.ShutString
import Derived.Stop.Joined
import Derived.SliceStrings
import Derived.Deep.SlicePairs
import Derived.SizedLaws
import Derived.SevenTiedAt
namespace Go.Proofs.YbulkeiwwDoor.Last
open Go.ChangeShapes Go.WideShapes Go.ChangeAt Go.RowKit Go.Deep
set_option linter.unusedVariables false

theorem own : ownKnob Ybad.prog.godebug = none := by kernel_rfl
theorem laidOut : laidOutB Ybad.prog = true := by kernel_rfl
theorem cells5 : Ybad.prog.cellsOf 5 = 1 := by kernel_rfl
theorem cells9 : Ybad.prog.cellsOf 9 = 1 := by kernel_rfl
theorem cells25 : Ybad.prog.cellsOf 25 = 1 := by kernel_rfl
theorem cells26 : Ybad.prog.cellsOf 26 = 1 := by kernel_rfl
theorem cells28 : Ybad.prog.cellsOf 28 = 2 := by kernel_rfl
theorem bytes9 : Ybad.prog.bytesOf 9 = 16 := by kernel_rfl
theorem gTab : Ybad.prog.globalNamed "math/bits.deBruijn64tab" = some 2 := by kernel_rfl
theorem tTab : (Ybad.prog.globals[2]?).map (·.type) = some 160 := by kernel_rfl

def laidL : List (String × DataW Unit) := [("math/bits.deBruijn64tab", Rows.laid_math_bits_deBruijn64tab)]

/-- The door's own heap meets the condition. -/
theorem door_met (os : Os) (args : Array Value) : laidMetH Ybad.prog laidL ((World.doorLaid Ybad.prog 400 os).forCall (fun _ _ => 0) ⟨#[], args, []⟩).memory :=
  laidMetH_of_parts3 (fuel := 8) (laidMet_of_run' 8 (by kernel_rfl) (by kernel_rfl)) (by kernel_rfl) (by kernel_rfl)

set_option maxRecDepth 100000 in
/-- What the condition gives the walk: the table. -/
theorem of_laid {W : World} (h : laidMetH Ybad.prog laidL W) : Tab W ∧ 2 < W.heap.size := by
  rw [MakeChecks.laidMetH_plain _ _ _ (by kernel_rfl)] at h
  obtain ⟨ps, ⟨g0, t0, cs0, f0, p0, q0, hg0, ht0, hv0, hd0, _⟩, _, _⟩ := h
  obtain rfl := Option.some.inj (gTab.symm.trans hg0)
  obtain rfl := Option.some.inj (tTab.symm.trans ht0)
  obtain ⟨xs, m1, rfl, hx1, hlen, hn, hel⟩ := DataW.trod_array Ybad.underlying160 hd0
  have hL : (Lib.deBruijn64tab.map fun (n : Nat) => (DataW.lit (.int .u8 (n : Int)) : DataW Unit)) = xs.map (·.1) := by
    simp only [Prod.mk.injEq] at hx1
    have h1 := hx1.1
    rw [show (Rows.laid_math_bits_deBruijn64tab : DataW Unit) = .agg (Lib.deBruijn64tab.map fun (n : Nat) => (DataW.lit (.int .u8 (n : Int)) : DataW Unit)) from rfl] at h1
    injection h1
  have hT : Tab W := fun j hj => by
    have hj64 : j < 64 := hj
    have h1 := hel j hj64
    have hxj : ∃ x, xs[j]? = some x := ⟨_, List.getElem?_eq_getElem (by omega)⟩
    obtain ⟨x, hx⟩ := hxj
    rw [hx, cells5, Nat.mul_one] at h1
    obtain ⟨k, e1, e2, _⟩ := DataW.trod_int Ybad.underlying5 h1
    have h2 := congrArg (fun l => l[j]?) hL
    simp only [List.getElem?_map, hx, Option.map_some] at h2
    rw [e2, List.getElem?_eq_getElem hj, Option.map_some] at h2
    have hk : (Lib.deBruijn64tab[j] : Int) = k := by
      have h3 := Option.some.inj h2
      injection h3 with h4
      injection h4
    have h5 := World.var?_cell hg0 hv0 j
    rw [h5]
    have h6 : cs0.toList[j]? = some (.int .u8 k) := by
      have := congrArg (fun l => l[0]?) e1
      simpa using this
    rw [Array.getElem?_toList] at h6
    rw [h6, ← hk]
    rw [List.getD_eq_getElem?_getD, List.getElem?_eq_getElem hj]
    rfl
  exact ⟨hT, World.block_lt_of_cell? W ⟨2, 0, none⟩ (hT 0 (by decide))⟩

theorem weights_all {H : Type} {P : Program} {e : TypeId} : ∀ {ds : List (DataW H)} {d : DataW H}, d ∈ ds → ∀ n ∈ d.weights P e, n ∈ DataW.weightsAll P e ds
  | d0 :: ds, d, hd, n, hn => by
    rw [DataW.weightsAll, List.mem_append]
    rcases List.mem_cons.1 hd with rfl | h
    · exact Or.inl hn
    · exact Or.inr (weights_all h n hn)

def intOf : Value → Int
  | .int _ k => k
  | _ => 0

set_option maxRecDepth 100000 in
theorem lifted (os : Os) (started : os.Started) (H : Type) (enc : TypeId × Value → H) :
    ReturnsInHanded {} Ybad.checked os 3 .any (fun w args => (Rows.lawS6756BWholeSpec.pre enc Ybad.prog Ybad.f3 [] false w args ∧ laidMetH Ybad.prog laidL w) ∧ sizedMet enc Ybad.prog Ybad.f3 (OpenSpec.ofChange Rows.lawS6756BWholeSpec) false w args)
      (Rows.lawS6756BWholeSpec.post enc Ybad.prog Ybad.f3 false true false false) := by
  refine returnsInHanded_of_change_and (C := Ybad.checked) (X := fun w _ => laidMetH Ybad.prog laidL w) (fun _ _ _ hh h => h.of_heap hh) own started (by kernel_rfl) Ybad.func3
    (ChangeSpec.witness_shaped (enc := enc) (C := Ybad.checked) (os := os) (X := fun w _ => laidMetH Ybad.prog laidL w) false (World.doorLaid Ybad.prog 400 os) #[.slice none 0 0, .slice none 0 0] 8 rfl (World.shaped_of_RefB (by kernel_rfl) (by kernel_rfl)) (by kernel_rfl) (by kernel_rfl) (by kernel_rfl) (door_met os _)) ?_
  intro W base args ds gs before hval0 hW _ hsz0 hL _
  have hval : ∀ (j : Nat) t v, Ybad.f3.params[j]? = some t → args[j]? = some v → Value.okWide Ybad.prog W .any base t v := hval0
  have hsz : (DataW.weightsEach Ybad.prog (Ybad.f3.params.toList ++ Rows.lawS6756BWholeSpec.plain.varTypes Ybad.prog) (ds ++ gs)).all (· ≤ reachBytes) = true := hsz0
  have hW' := hW
  obtain ⟨p, q, hA0, hV, rfl, hfz, hnd⟩ := hW
  have hA : DataW.TrodAll enc Ybad.prog W 0 (fun _ => true) true Ybad.f3.params.toList args.toList ds p := hA0
  rw [Ybad.params3] at hA hval hsz
  obtain ⟨v0, v1, d0, d1, p0, p1, rfl, rfl, rfl, h0, h1⟩ := trodAll_two hA
  obtain ⟨rfl, rfl⟩ := trodVars_none hV
  obtain ⟨ka, kl, kc, rfl⟩ := okWide_slice Ybad.underlying22 (hval 0 22 v0 rfl rfl)
  obtain ⟨ra, rl, rc, rfl⟩ := okWide_slice Ybad.underlying23 (hval 1 23 v1 rfl rfl)
  obtain ⟨hTab, hW2⟩ := of_laid hL
  clear hA0 hval0
  simp only [List.append_nil] at hW'
  have hlt0 : ∀ x ∈ p0, x.block < W.heap.size := fun x hx => by simpa using hW'.lt x (by simp [hx])
  have hlt1 : ∀ x ∈ p1, x.block < W.heap.size := fun x hx => by simpa using hW'.lt x (by simp [hx])
  have ha0 : ∀ (W' : World), Below W.heap.size W W' → DataW.Trod enc Ybad.prog W' 0 (fun b => decide (b < W.heap.size)) true 22 (.slice ka kl kc) d0 p0 :=
    fun W' hn => Below.trod laidOut (by kernel_rfl) (of_decide_eq_true (by kernel_rfl)) h0 hn hlt0
  have ha1 : ∀ (W' : World), Below W.heap.size W W' → DataW.Trod enc Ybad.prog W' 0 (fun b => decide (b < W.heap.size)) true 23 (.slice ra rl rc) d1 p1 :=
    fun W' hn => Below.trod laidOut (by kernel_rfl) (of_decide_eq_true (by kernel_rfl)) h1 hn hlt1
  obtain ⟨K, hK, hkl⟩ : ∃ K, KeysIn ka kl K W ∧ kl ≤ 281474976710656 := by
    obtain ⟨fuel, hf⟩ := h0
    rcases open_strings Ybad.underlying22 Ybad.underlying9 cells9 hf with ⟨hcs, hx⟩ | ⟨a, len', cap', ss, hcs, _, hl, hm, hz, hx, hcell, hws⟩
    · simp [Value.cells] at hcs
      obtain ⟨rfl, rfl, rfl⟩ := hcs
      exact ⟨fun _ => [], ⟨fun i hi => absurd hi (Nat.not_lt_zero _), fun i hi => absurd hi (Nat.not_lt_zero _)⟩, by omega⟩
    · simp [Value.cells] at hcs
      obtain ⟨rfl, rfl, rfl⟩ := hcs
      simp only [if_true] at hz
      simp only [Prod.mk.injEq] at hx
      obtain ⟨rfl, _⟩ := hx
      have hrb : reachBytes ≤ 281474976710656 := by decide
      have hs1 := sized_slice hsz (j := 0) (t := 22) (e := 9) rfl rfl Ybad.underlying22
      rw [bytes9] at hs1
      have hs2 : kl ≤ 281474976710656 := by
        have : (ChangeShapes.strs (ss.take kl) : List (DataW H)).length = kl := by simp [ChangeShapes.strs]; omega
        omega
      refine ⟨fun i => (ss.getD i ByteArray.empty).data.toList, ⟨fun i hi => ?_, fun i hi => ?_⟩, hs2⟩
      · have hc := hcell i (by omega)
        obtain ⟨b, off, spot⟩ := a
        have hspot : spot = none := by
          have h00 := hcell 0 (by omega)
          exact by simpa [Addr.add] using World.cell?_spot h00
        subst hspot
        rw [add_plain] at hc
        exact ⟨b, off, rfl, World.block_lt_of_cell? W _ hc, hc⟩
      · have hmem : (DataW.lit (.string (ss.getD i ByteArray.empty).data.toList) : DataW H) ∈ ChangeShapes.strs (ss.take kl) := by
          have hi' : i < ss.length := by omega
          refine List.mem_map.2 ⟨ss.getD i ByteArray.empty, ?_, rfl⟩
          rw [List.getD_eq_getElem?_getD, List.getElem?_eq_getElem hi', Option.getD_some]
          exact List.mem_take_iff_getElem.2 ⟨i, by omega, rfl⟩
        have := List.all_eq_true.1 hsz _ (DataW.weights_mem_each (j := 0) (t := 22) rfl rfl (ss.getD i ByteArray.empty).data.toList.length (by
          simp only [DataW.weights, Ybad.underlying22]
          exact List.mem_cons_of_mem _ (List.mem_append.2 (Or.inl (weights_all hmem _ (by simp [DataW.weights]))))))
        have h3 : (ss.getD i ByteArray.empty).data.toList.length ≤ reachBytes := by simpa using this
        exact Nat.le_trans h3 hrb
  obtain ⟨F, T, hR⟩ : ∃ F T, RefsIn ra rl F T W := by
    obtain ⟨fuel, hf⟩ := h1
    rcases open_slice_pairs Ybad.underlying23 Ybad.underlying28 cells28 rfl rfl cells25 cells26 hf with ⟨hcs, hx⟩ | ⟨a, len', cap', m, n, V0, V1, D0, D1, P0, P1, hcs, _, hl, hm, hmm, hx, hel⟩
    · simp [Value.cells] at hcs
      obtain ⟨rfl, rfl, rfl⟩ := hcs
      exact ⟨fun _ => 0, fun _ => 0, ⟨fun i hi => absurd hi (Nat.not_lt_zero _), fun i hi => absurd hi (Nat.not_lt_zero _), fun i hi => absurd hi (Nat.not_lt_zero _)⟩⟩
    · simp [Value.cells] at hcs
      obtain ⟨rfl, rfl, rfl⟩ := hcs
      simp only [if_true] at hmm
      subst hmm
      have hV : ∀ i, i < rl → (V0 i = .int .u16 (intOf (V0 i)) ∧ 0 ≤ intOf (V0 i) ∧ intOf (V0 i) ≤ 65535) ∧ (V1 i = .int .i16 (intOf (V1 i)) ∧ -32768 ≤ intOf (V1 i) ∧ intOf (V1 i) ≤ 32767) := fun i hi => by
        obtain ⟨_, _, q2, q3⟩ := hel i (by omega)
        obtain ⟨k2, e2, _, w2⟩ := DataW.trod_int Ybad.underlying25 q2
        obtain ⟨k3, e3, _, w3⟩ := DataW.trod_int Ybad.underlying26 q3
        simp only [List.cons.injEq, and_true] at e2 e3
        rw [e2, e3]
        simp only [intOf]
        refine ⟨⟨trivial, ?_⟩, ⟨trivial, ?_⟩⟩
        · simp [Lit.wf] at w2
          rw [show IntKind.u16.min = 0 from rfl, show IntKind.u16.max = 65535 from rfl] at w2
          exact w2
        · simp [Lit.wf] at w3
          rw [show IntKind.i16.min = -32768 from rfl, show IntKind.i16.max = 32767 from rfl] at w3
          exact w3
      refine ⟨fun i => intOf (V0 i), fun i => intOf (V1 i), ⟨fun i hi => ?_, fun i hi => (hV i hi).1.2, fun i hi => (hV i hi).2.2⟩⟩
      obtain ⟨q0, q1, _, _⟩ := hel i (by omega)
      obtain ⟨b, off, spot⟩ := a
      have hspot : spot = none := by
        have h00 := (hel 0 (by omega)).1
        exact by simpa [Addr.add] using World.cell?_spot h00
      subst hspot
      rw [add_plain] at q0 q1
      rw [(hV i hi).1.1] at q0
      rw [(hV i hi).2.1] at q1
      exact ⟨b, off, rfl, World.block_lt_of_cell? W _ q0, q0, q1⟩
  refine (law_any ka ra kl kc rl rc K F T W hK hR hkl hTab hW2).mono fun e W' ⟨he, hb⟩ => ?_
  subst he
  exact ⟨_, rfl, _, _, _, [], _, [], hW', trodAll_mk1 (shut_bool Ybad.underlying4 _), trodAll_mk2 (ha0 _ hb) (ha1 _ hb), rfl, hb.frame _, fun h => by cases h⟩

theorem row_holds : Rows.LawS6756BWholeSaid :=
  OpenClaim.holds_of_wide 3 Ybad.f3 rfl rfl rfl rfl rfl rfl rfl ⟨rfl, rfl, rfl, rfl, rfl⟩ rfl rfl rfl rfl rfl (by kernel_rfl) Ybad.func3 (by kernel_rfl)
    (of_decide_eq_true (by kernel_rfl)) (by unfold Func.isWrapper; first | (rw [if_pos (by decide +kernel)]; kernel_rfl) | (rw [if_neg (by decide +kernel)]; exact ⟨rfl, rfl⟩))
    (fun os started H enc _ => lifted os started H enc)

/-- The statement. -/
theorem proved : Rows.LawS6756BWholeCardSaid :=
  Claim7.holds_tied_plain_at .later [] [.data] true (true, "79fb83457b472ff6209efcc50a65e2a7e9c765162a5543e01febb4f280ea02c2") false
    row_holds (fun _ h => by cases h) (by kernel_rfl) (fun _ h => by cases h) lawS6756BWhole_row_tie rfl ⟨rfl, rfl⟩ (by kernel_rfl) rfl
    (fun f fn hf hfn => by
      obtain rfl : f = 3 := Option.some.inj ((show Ybad.prog.funcNamed "example.com/vertexbag/vertexbag.LawS6756BWhole" = some 3 by kernel_rfl).symm.trans hf) |>.symm
      obtain rfl : fn = Ybad.f3 := (Option.some.inj (Ybad.func3.symm.trans hfn)).symm
      exact ⟨by kernel_rfl, fun j t ht => by
        rw [Ybad.params3] at ht
        have hm : t ∈ [22, 23] := by simpa using Array.mem_of_getElem? ht
        have hall : ([22, 23].all fun u => !Ybad.prog.wantsStandIn u) = true := by kernel_rfl
        exact (show Ybad.prog.wantsStandIn t = false by simpa using List.all_eq_true.1 hall t hm)⟩)
    (by kernel_rfl)
#print axioms proved
end Go.Proofs.YbulkeiwwDoor.Last
