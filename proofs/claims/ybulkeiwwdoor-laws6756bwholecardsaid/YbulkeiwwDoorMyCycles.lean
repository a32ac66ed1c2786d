/-
  The walk of graph.cycles (function 12).
-/
import Derived.Test.YbulkeiwwDoorMyClose
import Derived.Test.YbulkeiwwDoorMyRefers
import Derived.Test.YbulkeiwwDoorMySorted
import Derived.Test.YbulkeiwwDoorMySortG
import Derived.Deep.LoopGhost
import Derived.BigQuiet
import Derived.RegionTactic
import Derived.Deep.DrawnRows
import Derived.Deep.DeepMust
import Derived.OwnWalk
import Derived.Deep.DeepCutAuto
namespace Go.Proofs.YbulkeiwwDoor
open Go.RowKit Go.ChangeMaps Gr
attribute [local go_sem ↓] Go.wp_at_zero Go.wp_at_succ
set_option linter.unusedVariables false

/-- What the loop over the roots knows. -/
def Rel1 (N : Nat) (g : Graph) (tv fv : Value) (w0 : World) (r : Nat) (s : TS) (sv pv gv : Value) (vs : List Value) (w : World) : Prop :=
  Mem N g tv fv w0 s sv pv w ∧ Inv g s ∧ GInv g s ∧ GMem N s.groups gv vs sv pv w ∧ Cnt g s ∧ ∀ v, v < r → s.order v ≠ 0

theorem kept3 {wc ws : World} {o o' : Obj} (hxb : Below (wc.alloc o).heap.size (wc.alloc o) ws) : Below wc.heap.size wc (ws.alloc o') := by
  have h1 : Below wc.heap.size wc ws := ((Below.refl wc.heap.size wc).alloc (Nat.le_refl _) o).trans (hxb.mono (by simp))
  exact h1.alloc h1.size o'

/-- What the loop that shuts the component's vertices knows. -/
def Rel4 (N : Nat) (g : Graph) (tv fv : Value) (w0 : World) (s : TS) (comp : List Nat) (base gb : Nat) (sv pv gv : Value) (vs : List Value) (m : Nat) (x : Value) (wr : World) : Prop :=
  ∃ j : Nat, j + m = comp.length ∧ x = .int .i64 (j : Int) ∧ Mem N g tv fv w0 { s with opn := shutAll s.opn (comp.take j) } sv pv wr ∧ GMem N s.groups gv vs sv pv wr ∧ gb < wr.heap.size ∧ ∀ j x : Nat, comp[j]? = some x → wr.cell? ⟨gb, base + j, none⟩ = some (.int .i64 (x : Int))

theorem Mem.grp {N : Nat} {g : Graph} {tv fv : Value} {w0 w : World} {s : TS} {sv pv : Value} (h : Mem N g tv fv w0 s sv pv w) (gs : List (List Nat)) : Mem N g tv fv w0 { s with groups := gs } sv pv w :=
  ⟨h.below, h.b0, h.b1, h.b2, h.b3, h.b4, h.b5, h.b6, h.b7, h.b8, h.b9, h.stk, h.pth, h.dis⟩

set_option maxHeartbeats 2000000 in
set_option maxRecDepth 100000 in
theorem cycles_any (g : Graph) (hg : g.Ok) (tb tc fb fc : Nat) (w : World) (hn : g.n ≤ 200) (htc : tc ≤ 65536) (hft : g.first g.n = tc) (hfb : fb < w.heap.size) (htb : tb < w.heap.size)
    (hf : ∀ i, i ≤ g.n → w.cell? ⟨fb, i, none⟩ = some (.int .i64 (g.first i : Int))) (ht : ∀ i, i < tc → w.cell? ⟨tb, i, none⟩ = some (.int .i64 (g.tgt i))) (R : Nat → Nat → Bool) (hR : ∀ a b, a < g.n → b < g.n → (R a b = true ↔ Plus g.E a b)) :
    Calls Ybad.prog 12 #[.agg #[.slice (some ⟨tb, 0, none⟩) tc tc, .slice (some ⟨fb, 0, none⟩) (g.n + 1) fc]] w fun e w' => ∃ gv vs, e = .returned gv ∧ vs.length = (spec R g.n).length ∧ w'.ownsRow w.heap.size 24 1 gv vs.length vs ∧ (∀ (i : Nat) c v, (spec R g.n)[i]? = some c → vs[i]? = some v → w'.ownsRow w.heap.size 3 1 v c.length (ints c)) ∧ Below w.heap.size w w' := by
  have hm1 := fun w => make24 w g.n (by omega)
  have hm2 := fun w => make76 w g.n (by omega)
  have e1 : (g.n : Int) + 1 - 1 = (g.n : Int) := by omega
  go_enter Ybad.func12, Ybad.ntmps12
  go_wp2
  clear hm1 hm2
  go_loopw [10, 33] (fun gv i wr => ∃ r : Nat, r ≤ g.n ∧ i = .int .i64 (r : Int) ∧ ∃ s sv pv vs, s.path = [] ∧ Rel1 w.heap.size g (.slice (some ⟨tb, 0, none⟩) tc tc) (.slice (some ⟨fb, 0, none⟩) (g.n + 1) fc) w r s sv pv gv vs wr) (fun _ i _ => g.n - (intOf i).toNat)
  case atStart =>
    exact ⟨0, Nat.zero_le _, rfl, ts0, .slice none 0 0, .slice none 0 0, [], rfl, mem_start g _ _ w _ rfl, inv_start g _, ginv_start g _, gmem_start _ _ _ _, cnt_start g, fun v h => absurd h (Nat.not_lt_zero _)⟩
  case round =>
    obtain ⟨r, hr, rfl, s, sv, pv, vs, hp0, hM, hI, hG, hGM, hC, hall⟩ := hrel
    by_cases hlt : r < g.n
    · have c2 : wr.cell? ⟨w.heap.size + 2, 0, none⟩ = some (.slice (some ⟨w.heap.size + 1, 0, none⟩) g.n g.n) := cell_of_heap hM.b2 rfl
      have c1 := cell_of_heap hM.b1 (arrI_get hlt)
      have i0 : (0 : Int) ≤ (r : Int) := by omega
      have i1 : (r : Int) < (g.n : Int) := by omega
      by_cases ho : s.order r = 0
      · rw [ho] at c1
        have hfr := hf r (by omega)
        have hrl : s.reached < 4611686018427387904 := by have := hC.le; omega
        have hsl : s.stack.length ≤ 1000000 := by have := hC.le; have := hI.stack_len; omega
        have cE := enter_any w.heap.size g (.slice (some ⟨tb, 0, none⟩) tc tc) fb fc w wr s sv pv r hM hlt hfr hfb hrl hsl (by rw [hp0]; simp)
        clear hrl hsl hfr
        go_wp2_with (go_at_call 19; go_must (refine cE.mono ?_; rintro e wa ⟨rfl, sva, pva, hMa, hFra⟩))
        have hIa : Inv g (entered g s r) := hI.enter hg hlt ho (fun p hp => by rw [hp0] at hp; cases hp)
        have hGa : GInv g (entered g s r) := hG.enter (r := s.reached) ho rfl rfl rfl
        have hCa : Cnt g (entered g s r) := hC.enter hlt ho rfl rfl
        have hGMa := hGM.fr hFra
        have hala : ∀ v, v < r + 1 → (entered g s r).order v ≠ 0 := fun v hv => by
          show fup s.order r (s.reached + 1) v ≠ 0
          by_cases e : v = r
          · rw [e, fup_same]; omega
          · rw [fup_other _ _ e]; exact hall v (by omega)
        have HR : Rel1 w.heap.size g (.slice (some ⟨tb, 0, none⟩) tc tc) (.slice (some ⟨fb, 0, none⟩) (g.n + 1) fc) w (r + 1) (entered g s r) sva pva u10 vs wa := ⟨hMa, hIa, hGa, hGMa, hCa, hala⟩
        clear hM hI hG hGM hC hall hMa hIa hGa hGMa hCa hala hFra cE c1 c2 hp0
        go_loopg [10] (meas g (entered g s r)) (fun k gv wr2 => ∃ s sv pv vs, k = meas g s ∧ Rel1 w.heap.size g (.slice (some ⟨tb, 0, none⟩) tc tc) (.slice (some ⟨fb, 0, none⟩) (g.n + 1) fc) w (r + 1) s sv pv gv vs wr2)
        case atStart => exact ⟨_, _, _, _, rfl, HR⟩
        case round =>
          clear HR ho
          rename_i wr0
          obtain ⟨s1, sv, pv, vs, rfl, hM, hI, hG, hGM, hC, hall⟩ := hrel
          have c8 : wr.cell? ⟨w.heap.size + 8, 0, none⟩ = some pv := cell_of_heap hM.b8 rfl
          cases hp : s1.path with
          | nil =>
            have hr8 := hM.pth
            rw [hp] at hr8
            obtain ⟨a8, k8, rfl⟩ := row_form hr8
            simp only [List.length_nil] at c8 hM hGM
            go_wp2
            exact ⟨⟨r + 1, by omega, rfl, s1, sv, _, vs, hp, hM, hI, hG, hGM, hC, hall⟩, by simp [intOf]; omega⟩
          | cons p rest =>
            obtain ⟨v, k⟩ := p
            obtain ⟨pb, pc, rfl, hpb1, hpb2, hpc, cv, ck, fk⟩ := hM.last hp
            have hvP : (v, k) ∈ s1.path := by rw [hp]; exact List.mem_cons_self
            have hvS := hI.pthS _ hvP
            have hvn : v < g.n := hI.stk_lt hvS
            have hsc := hI.scan _ hvP
            have hpl : rest.length + 1 ≤ g.n := by have h5 := hI.path_len; have h6 := hC.le; rw [hp] at h5; simp at h5; omega
            have c01 : wr.cell? ⟨w.heap.size, 1, none⟩ = some (.slice (some ⟨fb, 0, none⟩) (g.n + 1) fc) := cell_of_heap hM.b0 rfl
            have c00 : wr.cell? ⟨w.heap.size, 0, none⟩ = some (.slice (some ⟨tb, 0, none⟩) tc tc) := cell_of_heap hM.b0 rfl
            have cf1 : wr.cell? ⟨fb, v + 1, none⟩ = some (.int .i64 (g.first (v + 1) : Int)) := (hM.below.cell (p := ⟨fb, v + 1, none⟩) hfb).trans (hf _ (by omega))
            have hkle : g.first (v + 1) ≤ tc := by rw [← hft]; exact hg.top _ (by omega)
            have i2 : (0 : Int) ≤ (v : Int) := by omega
            have i3 : (0 : Int) ≤ (v : Int) + 1 := by omega
            have i4 : (v : Int) + 1 < (g.n : Int) + 1 := by omega
            have i5 : ((v : Int) + 1).toNat = v + 1 := by omega
            have i6 : (v : Int) + 1 ≤ 9223372036854775807 := by omega
            have j1 : (0 : Int) ≤ (rest.length : Int) := by omega
            have j2 : (0 : Int) ≤ (rest.length : Int) + 1 - 1 := by omega
            have j3 : (rest.length : Int) + 1 - 1 < (rest.length : Int) + 1 := by omega
            have j4 : (rest.length : Int) + 1 - 1 = (rest.length : Int) := by omega
            by_cases hkl : k < g.first (v + 1)
            · as_aux_lemma =>
                have hkl' : (k : Int) < (g.first (v + 1) : Int) := by omega
                have hktc : k < tc := by omega
                have ct : wr.cell? ⟨tb, k, none⟩ = some (.int .i64 (g.tgt k)) := (hM.below.cell (p := ⟨tb, k, none⟩) htb).trans (ht _ hktc)
                have i7 : (0 : Int) ≤ (k : Int) := by omega
                have i8 : (k : Int) < (tc : Int) := by omega
                have i9 : (k : Int) + 1 ≤ 9223372036854775807 := by omega
                have hM2 := (hM.nextP hp rfl).drew.drew
                rw [show ((k + 1 : Nat) : Int) = (k : Int) + 1 from rfl] at hM2
                have hGM2 := (hGM.set (b := pb) (o := rest.length * 2 + 1) (.int .i64 ((k : Int) + 1)) (Or.inr (Or.inr rfl))).drew.drew
                by_cases htk : g.tgt k < 0
                · go_wp2
                  go_region
                  go_wp2
                  go_region
                  go_wp2
                  go_roundg (meas g { s1 with path := (v, k + 1) :: rest })
                  case measure => exact meas_next (pre := []) hp hkl rfl rfl
                  case rel => exact ⟨_, _, _, vs, rfl, hM2, hI.next (pre := []) hp hkl (fun x hx => by rw [hx] at htk; omega), hG.same rfl rfl rfl, hGM2, hC.same rfl rfl, hall⟩
                · obtain ⟨x, hx⟩ : ∃ x : Nat, g.tgt k = (x : Int) := ⟨(g.tgt k).toNat, by omega⟩
                  have hxn : x < g.n := hg.lt k x (by omega) hx
                  have i10 : (0 : Int) ≤ g.tgt k := by omega
                  have i11 : g.tgt k < (g.n : Int) := by omega
                  have i12 : (g.tgt k).toNat = x := by omega
                  have HX := hideIt hx
                  clear hx
                  go_wp2
                  go_region
                  go_wp2
                  go_region
                  go_upto_region 21 with (fail)
                  clear cv ck fk c01 c00 cf1 ct c8
                  generalize (wr.setCell ⟨pb, rest.length * 2 + 1, none⟩ (.int .i64 ((k : Int) + 1))).drew.drew = wq at *
                  have c2 : wq.cell? ⟨w.heap.size + 2, 0, none⟩ = some (.slice (some ⟨w.heap.size + 1, 0, none⟩) g.n g.n) := cell_of_heap hM2.b2 rfl
                  have c1 := cell_of_heap hM2.b1 (arrI_get hxn)
                  dsimp only at c1
                  by_cases hox : s1.order x = 0
                  · rw [hox] at c1
                    have hfx := hf x (by omega)
                    have hrl : s1.reached < 4611686018427387904 := by have := hC.le; omega
                    have hsl : s1.stack.length ≤ 1000000 := by have := hC.le; have := hI.stack_len; omega
                    have cE := enter_any w.heap.size g (.slice (some ⟨tb, 0, none⟩) tc tc) fb fc w _ { s1 with path := (v, k + 1) :: rest } sv _ x hM2 hxn hfx hfb hrl hsl (by simp; omega)
                    rw [← HX.out] at cE
                    have HE := hideIt cE
                    have HO := hideIt hox
                    clear hrl hsl hfx cE hox
                    have HP := hideIt hp
                    have HvS := hideIt hvS
                    have HvP := hideIt hvP
                    have hvn' := hvn
                    have hsc' := hsc
                    have Hown := hideIt (fun p (hpp : p ∈ s1.path) => hI.top_le hp hpp)
                    have HK := hideIt hkl
                    clear i2 i3 i4 i5 i6 j1 j2 j3 j4 i7 i8 i9 hkl' hkl hktc hkle hpl hp hvP hvS hvn hsc htk
                    have HV := hideIt hvn'
                    have HS := hideIt hsc'
                    clear hvn' hsc'
                    go_wp2_with (go_at_call 19; go_must (refine HE.out.mono ?_; rintro e wb ⟨rfl, svb, pvb, hMb, hFrb⟩))
                    have hxE : g.E v x := ⟨HV.out, k, HS.out.1, HK.out, HX.out⟩
                    have hIb := hI.enter hg hxn HO.out (fun p hpp => (hI.down p hpp v HvS.out (Hown.out p hpp)).trans (.one hxE))
                    have hIc := hIb.next (pre := [(x, g.first x)]) (v := v) (k := k) (rest := rest) (by show (x, g.first x) :: s1.path = _; rw [HP.out]; rfl) HK.out (fun y hy => by
                      have hyx : y = x := by have h1 := HX.out; rw [h1] at hy; omega
                      subst hyx
                      refine ⟨?_, fun _ => ?_⟩
                      · show fup s1.order y (s1.reached + 1) y ≠ 0
                        rw [fup_same]; omega
                      · show fup s1.low y (s1.reached + 1) v ≤ fup s1.order y (s1.reached + 1) y
                        have hvy : v ≠ y := fun e => hI.stk0 v HvS.out (e ▸ HO.out)
                        rw [fup_same, fup_other _ _ hvy]
                        have h1 := (hI.lowS _ HvP.out).1
                        have h2 := hI.ordLe v
                        have h3 : s1.low v ≤ s1.order v := h1
                        omega)
                    go_roundg (meas g (entered g { s1 with path := (v, k + 1) :: rest } x))
                    case measure =>
                      rw [meas_enter (g := g) (s := { s1 with path := (v, k + 1) :: rest }) hxn HO.out (r := s1.reached) rfl rfl]
                      exact meas_next (pre := []) HP.out HK.out rfl rfl
                    case rel => exact ⟨_, _, _, vs, rfl, hMb, hIc, hG.enter (r := s1.reached) HO.out rfl rfl rfl, hGM2.fr hFrb, hC.enter hxn HO.out rfl rfl, fun y hy => by
                      show fup s1.order x (s1.reached + 1) y ≠ 0
                      by_cases e : y = x
                      · rw [e, fup_same]; omega
                      · rw [fup_other _ _ e]; exact hall y hy⟩
                  · have hox' : ¬ ((s1.order x : Int) = 0) := by omega
                    have c6 : wq.cell? ⟨w.heap.size + 6, 0, none⟩ = some (.slice (some ⟨w.heap.size + 5, 0, none⟩) g.n g.n) := cell_of_heap hM2.b6 rfl
                    have c5 := cell_of_heap hM2.b5 (arrB_get hxn)
                    dsimp only at c5
                    have c4 : wq.cell? ⟨w.heap.size + 4, 0, none⟩ = some (.slice (some ⟨w.heap.size + 3, 0, none⟩) g.n g.n) := cell_of_heap hM2.b4 rfl
                    have c3 := cell_of_heap hM2.b3 (arrI_get hvn)
                    dsimp only at c3
                    have f3 : wq.frozen? ⟨w.heap.size + 3, v, none⟩ = false := frozen_of_heap hM2.b3
                    have HP := hideIt hp
                    have HK := hideIt hkl
                    have HvS := hideIt hvS
                    have HvP := hideIt hvP
                    have HV := hideIt hvn
                    have HS := hideIt hsc
                    have HO := hideIt hox
                    have iv : (v : Int) < (g.n : Int) := by omega
                    clear i3 i4 i5 i6 j1 j2 j3 j4 i7 i8 i9 hkl' hkl hktc hkle hpl hp hvP hvS hvn hsc htk hox
                    cases hop : s1.opn x
                    · rw [hop] at c5
                      have HQ := hideIt hop
                      clear hop c4 c3 f3
                      go_wp2
                      go_roundg (meas g { s1 with path := (v, k + 1) :: rest })
                      case measure => exact meas_next (pre := []) HP.out HK.out rfl rfl
                      case rel => exact ⟨_, _, _, vs, rfl, hM2, hI.next (pre := []) HP.out HK.out (fun y hy => by
                        have hyx : y = x := by have h1 := HX.out; rw [h1] at hy; omega
                        subst hyx
                        refine ⟨HO.out, fun hys => ?_⟩
                        have := (hI.opn y).2 hys
                        rw [HQ.out] at this; cases this), hG.same rfl rfl rfl, hGM2, hC.same rfl rfl, hall⟩
                    · rw [hop] at c5
                      have HQ := hideIt hop
                      clear hop
                      go_wp2
                      go_region
                      have hM3 := (hM2.lw v (min (s1.low v) (s1.order x))).drew
                      have hGM3 := (hGM2.set (b := w.heap.size + 3) (o := v) (.int .i64 ((min (s1.low v) (s1.order x) : Nat) : Int)) (Or.inl (by omega))).drew
                      rw [show min ((s1.low v : Nat) : Int) ((s1.order x : Nat) : Int) = ((min (s1.low v) (s1.order x) : Nat) : Int) by omega]
                      have hxS : x ∈ s1.stack := (hI.opn x).1 HQ.out
                      have hxE : g.E v x := ⟨HV.out, k, HS.out.1, HK.out, HX.out⟩
                      have hIl := hI.lowerAny (v := v) (m := s1.order x) ⟨x, hxS, rfl, .one hxE⟩
                      clear c1 c2 c3 c4 c5 c6 f3 i10 i11 i12 iv hox'
                      go_wp2
                      go_roundg (meas g { s1 with path := (v, k + 1) :: rest, low := fup s1.low v (min (s1.low v) (s1.order x)) })
                      case measure => exact meas_next (pre := []) HP.out HK.out rfl rfl
                      case rel => exact ⟨_, _, _, vs, rfl, hM3, hIl.next (pre := []) HP.out HK.out (fun y hy => by
                        have hyx : y = x := by have h1 := HX.out; rw [h1] at hy; omega
                        subst hyx
                        refine ⟨HO.out, fun _ => ?_⟩
                        show fup s1.low v (min (s1.low v) (s1.order y)) v ≤ s1.order y
                        rw [fup_same]; omega), hG.same rfl rfl rfl, hGM3, hC.same rfl rfl, hall⟩
            · clear c00
              go_upto_region 18 with (fail)
              have hkn : ¬ ((k : Int) < (g.first (v + 1) : Int)) := by omega
              go_region
              have HK := hideIt (Nat.le_of_not_lt hkl)
              have HP := hideIt hp
              have HvS := hideIt hvS
              have HvP := hideIt hvP
              have HV := hideIt hvn
              have HS := hideIt hsc
              have HL := hideIt hpl
              have f8 : wr.frozen? ⟨w.heap.size + 8, 0, none⟩ = false := frozen_of_heap hM.b8
              have hM2 := (hM.popP hp rfl).drew
              have hGM2 := (hGM.set (b := w.heap.size + 8) (o := 0) (.slice (some ⟨pb, 0, none⟩) rest.length pc) (Or.inl (by omega))).drew.own (sv' := sv) (pv' := .slice (some ⟨pb, 0, none⟩) rest.length pc) rfl rfl
              have j5 : (rest.length : Int) + 1 - 1 ≤ (pc : Int) := by omega
              have j7 : (rest.length : Int) ≤ (pc : Int) := Int.ofNat_le.2 (Nat.le_of_succ_le hpc)
              have j6 : (rest.length : Int) ≤ 9223372036854775807 := by omega
              clear hp hvS hvP hvn hsc hpl hkl hkle i2 i3 i4 i5 i6 hkn cf1 c01 i0 i1 cv ck fk hpb1 hpb2 hpc
              go_upto_region 27 with (fail)
              clear c8 f8 j5 j6 j7 j2 j3 j4 j1
              generalize (wr.setCell ⟨w.heap.size + 8, 0, none⟩ (.slice (some ⟨pb, 0, none⟩) rest.length pc)).drew = wq at *
              have c8 : wq.cell? ⟨w.heap.size + 8, 0, none⟩ = some (.slice (some ⟨pb, 0, none⟩) rest.length pc) := cell_of_heap hM2.b8 rfl
              have c2 : wq.cell? ⟨w.heap.size + 2, 0, none⟩ = some (.slice (some ⟨w.heap.size + 1, 0, none⟩) g.n g.n) := cell_of_heap hM2.b2 rfl
              have c4 : wq.cell? ⟨w.heap.size + 4, 0, none⟩ = some (.slice (some ⟨w.heap.size + 3, 0, none⟩) g.n g.n) := cell_of_heap hM2.b4 rfl
              have c3 := cell_of_heap hM2.b3 (arrI_get HV.out)
              dsimp only at c3
              go_upto_if 118 with (fail)
              go_cut [14] (fun x wc => x = .int .i64 (v : Int) ∧ ∃ lo : Nat → Nat, Inv g { s1 with low := lo } ∧ (∀ u j rest', rest = (u, j) :: rest' → lo u ≤ lo v) ∧ Mem w.heap.size g (.slice (some ⟨tb, 0, none⟩) tc tc) (.slice (some ⟨fb, 0, none⟩) (g.n + 1) fc) w { s1 with low := lo, path := rest } sv (.slice (some ⟨pb, 0, none⟩) rest.length pc) wc ∧ GMem w.heap.size s1.groups u10 vs sv (.slice (some ⟨pb, 0, none⟩) rest.length pc) wc)
              case first =>
                as_aux_lemma =>
                  cases hr : rest with
                  | nil =>
                    rw [hr] at c8 hM2 hGM2
                    simp only [List.length_nil] at c8 hM2 hGM2
                    subst hr
                    go_wp2
                    go_meet
                    exact ⟨rfl, s1.low, hI, (fun u j r' h => by cases h), hM2, hGM2⟩
                  | cons p rest' =>
                    obtain ⟨u, j⟩ := p
                    subst hr
                    obtain ⟨pb', pc', epv, _, _, hpc', cu, _, _⟩ := hM2.last (v := u) (k := j) (rest := rest') rfl
                    cases epv
                    have huP : (u, j) ∈ s1.path := by rw [HP.out]; simp
                    have hun : u < g.n := hI.stk_lt (hI.pthS _ huP)
                    have c3u := cell_of_heap hM2.b3 (arrI_get hun)
                    dsimp only at c3u
                    have f3u : wq.frozen? ⟨w.heap.size + 3, u, none⟩ = false := frozen_of_heap hM2.b3
                    have iu0 : (0 : Int) ≤ (u : Int) := by omega
                    have iu1 : (u : Int) < (g.n : Int) := by omega
                    have iv0 : (0 : Int) ≤ (v : Int) := by omega
                    have iv1 : (v : Int) < (g.n : Int) := by have := HV.out; omega
                    have j2 : (0 : Int) ≤ (rest'.length : Int) + 1 - 1 := by omega
                    have j3 : (rest'.length : Int) + 1 - 1 < (rest'.length : Int) + 1 := by omega
                    have j4 : (rest'.length : Int) + 1 - 1 = (rest'.length : Int) := by omega
                    have j8 : (0 : Int) < (rest'.length : Int) + 1 := by omega
                    have Hup := hideIt huP
                    have Hun := hideIt hun
                    clear hun huP hpc'
                    simp only [List.length_cons] at c8
                    have j10 : (rest'.length : Int) < (rest'.length : Int) + 1 := by omega
                    have j11 : (0 : Int) ≤ (rest'.length : Int) := by omega
                    have j13 : 0 < ((u, j) :: rest').length := by simp
                    have j9 : (rest'.length : Int) ≤ 9223372036854775807 := by have := HL.out; simp at this; omega
                    go_wp2
                    go_region
                    have hM3 := (hM2.lw u (min (s1.low u) (s1.low v))).drew
                    have hGM3 := (hGM2.set (b := w.heap.size + 3) (o := u) (.int .i64 ((min (s1.low u) (s1.low v) : Nat) : Int)) (Or.inl (by omega))).drew
                    rw [show min ((s1.low u : Nat) : Int) ((s1.low v : Nat) : Int) = ((min (s1.low u) (s1.low v) : Nat) : Int) by omega]
                    clear c8 c2 c4 c3 cu c3u f3u iu0 iu1 iv0 iv1 j2 j3 j4 j8 j9 j10 j11 j13
                    go_wp2
                    go_meet
                    have hne := hI.under_ne HP.out
                    obtain ⟨hl1, y, hy1, hy2, hy3⟩ := hI.lowS _ HvP.out
                    refine ⟨rfl, fup s1.low u (min (s1.low u) (s1.low v)), hI.lowerAny ⟨y, hy1, hy2, (hI.down _ Hup.out v HvS.out (Nat.le_of_lt hne.2)).trans hy3⟩, fun u' j' r' h => ?_, hM3, hGM3⟩
                    cases h
                    rw [fup_same, fup_other _ _ hne.1.symm]
                    exact Nat.min_le_right _ _
              case rest =>
                as_aux_lemma =>
                  obtain ⟨rfl, lo, hIL, hlo, hM3, hGM3⟩ := hcut
                  clear hM2 hGM2 hM hGM c8 c2 c4 c3
                  have c2 : wc.cell? ⟨w.heap.size + 2, 0, none⟩ = some (.slice (some ⟨w.heap.size + 1, 0, none⟩) g.n g.n) := cell_of_heap hM3.b2 rfl
                  have c4 : wc.cell? ⟨w.heap.size + 4, 0, none⟩ = some (.slice (some ⟨w.heap.size + 3, 0, none⟩) g.n g.n) := cell_of_heap hM3.b4 rfl
                  have c3 := cell_of_heap hM3.b3 (arrI_get HV.out)
                  have c1 := cell_of_heap hM3.b1 (arrI_get HV.out)
                  dsimp only at c3 c1
                  have iv0 : (0 : Int) ≤ (v : Int) := by omega
                  have iv1 : (v : Int) < (g.n : Int) := by have := HV.out; omega
                  by_cases hle : lo v = s1.order v
                  · rw [hle] at c3
                    have HLE := hideIt hle
                    clear hle
                    go_wp2
                    go_region
                    have hM4 := hM3.drew
                    have hGM4 := hGM3.drew
                    clear hM3 hGM3 c1 c2 c3 c4
                    generalize wc.drew = wd at *
                    obtain ⟨pre, post, hst, hpre, hpost⟩ := hIL.split (v := v) HvS.out
                    obtain ⟨gb, cap, rfl, hgb1, hgb2, hcap, hcapm, hcells⟩ := hM4.comp hst
                    have hsl : post.length + pre.length + 1 ≤ g.n := by
                      have h5 := hIL.stack_len
                      have h6 := hC.le
                      rw [hst] at h5
                      simp at h5
                      have h7 : s1.reached ≤ g.n := h6
                      omega
                    have c7 : wd.cell? ⟨w.heap.size + 7, 0, none⟩ = some (.slice (some ⟨gb, 0, none⟩) (post.length + pre.length + 1) cap) := cell_of_heap hM4.b7 rfl
                    have HST := hideIt hst
                    have HSL := hideIt hsl
                    have HCAP := hideIt hcap
                    have HGB := hideIt (And.intro hgb1 hgb2)
                    clear hst hsl hcap hcapm hgb1 hgb2
                    have m1 : ((post.length : Int) + (pre.length : Int) + 1 - 1) = (post.length : Int) + (pre.length : Int) := by omega
                    have m2 : (post.length : Int) + (pre.length : Int) ≤ 9223372036854775807 := by have := HSL.out; omega
                    have m3 : (0 : Int) ≤ (post.length : Int) + (pre.length : Int) := by omega
                    have B := hideIt (And.intro hI (And.intro hG (And.intro hC (And.intro hall (And.intro hIL (And.intro hlo (And.intro hpost (And.intro hf (And.intro ht (And.intro hR (And.intro hg hft)))))))))))
                    clear hI hG hC hall hIL hlo hpost hf ht hR
                    go_wp2
                    clear m1 m2 m3
                    go_loopg [17] pre.length (fun m x wr => x = .int .i64 ((post.length : Int) + (m : Int)) ∧ m ≤ pre.length ∧ wr = wd)
                    case atStart => exact ⟨rfl, Nat.le_refl _, rfl⟩
                    case round =>
                      obtain ⟨rfl, hm, rfl⟩ := hrel
                      have n0 : (0 : Int) ≤ (post.length : Int) + (gk : Int) := by omega
                      have n1 : (post.length : Int) + (gk : Int) < (post.length : Int) + (pre.length : Int) + 1 := by omega
                      have n2 : ((post.length : Int) + (gk : Int)).toNat = post.length + gk := by omega
                      cases gk with
                      | succ m' =>
                        obtain ⟨x, hx⟩ : ∃ x, (v :: pre.reverse)[m' + 1]? = some x := ⟨(v :: pre.reverse)[m' + 1]'(by simp; omega), List.getElem?_eq_getElem (by simp; omega)⟩
                        have hcx := hcells _ _ hx
                        have hxv : ¬ ((x : Int) = (v : Int)) := by
                          have h1 : x ∈ pre := by
                            rw [List.getElem?_cons_succ] at hx
                            exact List.mem_reverse.1 (List.mem_of_getElem? hx)
                          have h2 := hpre x h1
                          omega
                        have Hx := hideIt hx
                        clear hx
                        have n3 : (post.length : Int) + (m' : Int) ≤ 9223372036854775807 := by have := HSL.out; omega
                        have n5 : (0 : Int) ≤ (post.length : Int) + (m' : Int) := by omega
                        simp only [Int.natCast_add, Int.natCast_one] at n0 n1 n2 ⊢
                        have n4 : (post.length : Int) + ((m' : Int) + 1) - 1 = (post.length : Int) + (m' : Int) := by omega
                        go_wp2
                        go_roundg m'
                        case measure => exact Nat.lt_succ_self _
                        case rel => exact ⟨rfl, Nat.le_of_succ_le hm, rfl⟩
                      | zero =>
                        as_aux_lemma =>
                          have hcx := hcells 0 v rfl
                          simp only [Int.natCast_zero, Int.add_zero, Nat.add_zero] at n0 n1 n2 hcx ⊢
                          have f7 : wr.frozen? ⟨w.heap.size + 7, 0, none⟩ = false := frozen_of_heap hM4.b7
                          have p1 : (post.length : Int) ≤ (post.length : Int) + (pre.length : Int) + 1 := by omega
                          have p2 : (post.length : Int) ≤ (cap : Int) := by have := HCAP.out; omega
                          have p3 : ¬ (cap = post.length) := by have := HCAP.out; omega
                          have p4 : (post.length : Int) + (pre.length : Int) + 1 ≤ (cap : Int) := by have := HCAP.out; omega
                          have n3 : (post.length : Int) ≤ 9223372036854775807 := by have := HSL.out; omega
                          go_upto_region 36 with (fail)
                          have hM5 := hM4.cutS HST.out rfl
                          have hGM5 := (hGM4.set (b := w.heap.size + 7) (o := 0) (.slice (some ⟨gb, 0, none⟩) post.length cap) (Or.inl (by omega))).own (sv' := .slice (some ⟨gb, 0, none⟩) post.length cap) (pv' := .slice (some ⟨pb, 0, none⟩) rest.length pc) rfl rfl
                          have hcells5 : ∀ j x : Nat, (v :: pre.reverse)[j]? = some x → (wr.setCell ⟨w.heap.size + 7, 0, none⟩ (.slice (some ⟨gb, 0, none⟩) post.length cap)).cell? ⟨gb, post.length + j, none⟩ = some (.int .i64 (x : Int)) := fun j x h => (World.cell?_of_block (heap_set_ne _ _ (by have := HGB.out; show gb ≠ _; omega))).trans (hcells j x h)
                          have hgb5 : gb < (wr.setCell ⟨w.heap.size + 7, 0, none⟩ (.slice (some ⟨gb, 0, none⟩) post.length cap)).heap.size := by have := HGB.out.2; simpa using this
                          generalize wr.setCell ⟨w.heap.size + 7, 0, none⟩ (.slice (some ⟨gb, 0, none⟩) post.length cap) = we at *
                          have HR4 : Rel4 w.heap.size g (.slice (some ⟨tb, 0, none⟩) tc tc) (.slice (some ⟨fb, 0, none⟩) (g.n + 1) fc) w { s1 with low := lo, path := rest, stack := post } (v :: pre.reverse) post.length gb (.slice (some ⟨gb, 0, none⟩) post.length cap) (.slice (some ⟨pb, 0, none⟩) rest.length pc) u10 vs (pre.length + 1) (.int .i64 0) we := ⟨0, by simp, rfl, hM5, hGM5, hgb5, hcells5⟩
                          rw [show post.length + pre.length + 1 - post.length = pre.length + 1 by omega]
                          have Hpre := hideIt hpre
                          clear hM4 hGM4 hcells hM5 hGM5 hcells5 hgb5 hcx c7 f7 p1 p2 p3 p4 n0 n1 n2 n3 hm hpre
                          go_wp2
                          go_loopg [166] (pre.length + 1) (Rel4 w.heap.size g (.slice (some ⟨tb, 0, none⟩) tc tc) (.slice (some ⟨fb, 0, none⟩) (g.n + 1) fc) w { s1 with low := lo, path := rest, stack := post } (v :: pre.reverse) post.length gb (.slice (some ⟨gb, 0, none⟩) post.length cap) (.slice (some ⟨pb, 0, none⟩) rest.length pc) u10 vs)
                          case atStart => exact HR4
                          case round =>
                            obtain ⟨j, hj, rfl, hMr, hGr, hgbr, hcr⟩ := hrel
                            clear HR4
                            cases gk with
                            | succ m' =>
                              have hj' : j < pre.length + 1 := by simp at hj; omega
                              obtain ⟨x, hx⟩ : ∃ x, (v :: pre.reverse)[j]? = some x := ⟨(v :: pre.reverse)[j]'(by simp; omega), List.getElem?_eq_getElem (by simp; omega)⟩
                              have hcx := hcr _ _ hx
                              have hxS : x ∈ s1.stack := by
                                rw [show s1.stack = _ from HST.out]
                                have := List.mem_of_getElem? hx
                                simp at this ⊢
                                rcases this with h | h
                                · exact Or.inr (Or.inl h)
                                · exact Or.inl h
                              have hxn : x < g.n := B.out.1.stk_lt hxS
                              have c6 : wr.cell? ⟨w.heap.size + 6, 0, none⟩ = some (.slice (some ⟨w.heap.size + 5, 0, none⟩) g.n g.n) := cell_of_heap hMr.b6 rfl
                              have c5 := cell_of_heap hMr.b5 (arrB_get hxn)
                              have f5 : wr.frozen? ⟨w.heap.size + 5, x, none⟩ = false := frozen_of_heap hMr.b5
                              have q0 : (0 : Int) ≤ (j : Int) := by omega
                              have q1 : (j : Int) < (pre.length : Int) + 1 := by omega
                              have q2 : (0 : Int) ≤ (x : Int) := by omega
                              have q3 : (x : Int) < (g.n : Int) := by omega
                              have q4 : (j : Int) + 1 ≤ 9223372036854775807 := by have := HSL.out; omega
                              have hMr' := hMr.op x false
                              rw [show fup (shutAll s1.opn ((v :: pre.reverse).take j)) x false = shutAll s1.opn ((v :: pre.reverse).take (j + 1)) by rw [take_succ_get hx, shutAll_snoc]] at hMr'
                              have Hx := hideIt hx
                              have Hj := hideIt hj
                              clear hx hj hxS hj'
                              go_wp2
                              clear q4
                              go_roundg m'
                              case measure => exact Nat.lt_succ_self _
                              case rel => exact ⟨j + 1, by have := Hj.out; omega, rfl, hMr', hGr.set (b := w.heap.size + 5) (o := x) (.bool false) (Or.inl (by omega)), by simpa using hgbr, fun i y h => (World.cell?_of_block (heap_set_ne _ _ (by have := HGB.out; show gb ≠ _; omega))).trans (hcr i y h)⟩
                            | zero =>
                              have ej : j = pre.length + 1 := by simp at hj; omega
                              subst ej
                              clear hj
                              rw [show (v :: pre.reverse).take (pre.length + 1) = v :: pre.reverse from List.take_of_length_le (by simp)] at hMr
                              have HMR := hideIt (And.intro hMr (And.intro hGr (And.intro hgbr hcr)))
                              clear hMr hGr hgbr hcr
                              go_upto_region 41 with (fail)
                              obtain ⟨hI, hG, hC, hall, hIL, hlo, hpost, hf, ht, hR, hg', hft'⟩ := B.out
                              obtain ⟨hMr, hGr, hgbr, hcr⟩ := HMR.out
                              have c00 : wr.cell? ⟨w.heap.size, 0, none⟩ = some (.slice (some ⟨tb, 0, none⟩) tc tc) := cell_of_heap hMr.b0 rfl
                              have c01 : wr.cell? ⟨w.heap.size, 1, none⟩ = some (.slice (some ⟨fb, 0, none⟩) (g.n + 1) fc) := cell_of_heap hMr.b0 rfl
                              have hws : w.heap.size ≤ wr.heap.size := hMr.below.size
                              have hq : ∃ q : Bool, (q = true ↔ g.E v v) := by
                                by_cases h : g.E v v
                                · exact ⟨true, by simp [h]⟩
                                · exact ⟨false, by simp [h]⟩
                              obtain ⟨q, hq⟩ := hq
                              have cR := refers_any g tb tc fb fc v wr HV.out (by omega) (hg.mono v HV.out) (by rw [← hft]; exact hg.top _ HV.out) (by omega) (by omega) (by omega)
                                (fun i hi => (hMr.below.cell (p := ⟨fb, i, none⟩) hfb).trans (hf i hi)) (fun i hi => (hMr.below.cell (p := ⟨tb, i, none⟩) htb).trans (ht i hi)) q hq
                              have CR := hideIt cR
                              have HQ := hideIt hq
                              clear hI hG hC hall hIL hlo hpost hf ht hR hg' hft' hMr hGr hgbr hcr cR hq hws
                              go_cut [182] (fun b wx => ∃ q : Bool, b = .bool q ∧ (q = true ↔ (0 < pre.length ∨ g.E v v)) ∧ Below wr.heap.size wr wx)
                              case first =>
                                rcases Nat.eq_zero_or_pos pre.length with h0 | h0
                                · have t1 : ¬ ((1 : Int) < (pre.length : Int) + 1) := by omega
                                  have H0 := hideIt h0
                                  clear h0
                                  go_wp2_with (go_at_call 20; go_must (refine CR.out.mono ?_; rintro e wx ⟨rfl, hB⟩))
                                  go_meet
                                  exact ⟨q, rfl, by rw [HQ.out]; constructor; exact Or.inr; rintro (h | h); (have := H0.out; omega); exact h, hB⟩
                                · have t1 : (1 : Int) < (pre.length : Int) + 1 := by omega
                                  have H0 := hideIt h0
                                  clear h0
                                  go_wp2
                                  go_meet
                                  exact ⟨true, rfl, by simp [H0.out], Below.refl _ _⟩
                              case rest =>
                                as_aux_lemma =>
                                  obtain ⟨q', rfl, hq', hB⟩ := hcut
                                  clear c00 c01 CR HQ
                                  obtain ⟨hI, hG, hC, hall, hIL, hlo, hpost, hf, ht, hR, hg', hft'⟩ := B.out
                                  obtain ⟨hMr, hGr, hgbr, hcr⟩ := HMR.out
                                  have hM6 := hMr.later hB
                                  have hGM6 := hGr.later hB
                                  have hcr6 : ∀ j x : Nat, (v :: pre.reverse)[j]? = some x → wc.cell? ⟨gb, post.length + j, none⟩ = some (.int .i64 (x : Int)) := fun j x h => (hB.cell (p := ⟨gb, post.length + j, none⟩) hgbr).trans (hcr j x h)
                                  have hgb6 : gb < wc.heap.size := by have := hB.size; omega
                                  have hComp := hIL.comp HP.out HK.out HLE.out HST.out
                                  have hIC := fun gs => hIL.close HP.out hComp HST.out (shutAll s1.opn (v :: pre.reverse)) (hI.shutAll (s := s1) HST.out hpost) gs
                                  have hcyc := hComp.cyc hIL HST.out
                                  cases q' with
                                  | false =>
                                    have hnp : ¬ Plus g.E v v := fun hp => by
                                      have h1 := hcyc.2 hp
                                      have h2 : (0 < pre.length ∨ g.E v v) := h1.imp (fun h => List.length_pos_iff.2 h) id
                                      have := hq'.2 h2
                                      cases this
                                    have HH := hideIt (And.intro (hIC s1.groups) (And.intro (GInv.close (t := { s1 with low := lo, path := rest, stack := post, opn := shutAll s1.opn (v :: pre.reverse) }) hIL (hG.same rfl rfl rfl) hComp HST.out rfl rfl (Or.inl ⟨hnp, rfl⟩)) (And.intro hM6 (And.intro hGM6 (And.intro hC hall)))))
                                    clear hI hG hC hall hIL hlo hpost hf ht hR hg' hft' hMr hGr hgbr hcr hM6 hGM6 hcr6 hgb6 hComp hIC hcyc hq' hnp hB
                                    go_wp2
                                    obtain ⟨h1, h2, h3, h4, h5, h6⟩ := HH.out
                                    go_roundg (meas g { s1 with low := lo, path := rest, stack := post, opn := shutAll s1.opn (v :: pre.reverse) })
                                    case measure => exact meas_leave HP.out rfl rfl
                                    case rel => exact ⟨_, _, _, vs, rfl, h3, h1, h2, h4, h5.same rfl rfl, h6⟩
                                  | true =>
                                    obtain ⟨cs, hcs1, hcs2, hcs3, hcs4⟩ := sorted_comp hIL HST.out
                                    have hp : Plus g.E v v := hcyc.1 ((hq'.1 rfl).imp (fun h => List.length_pos_iff.1 h) id)
                                    have hgl := hG.len hI
                                    rw [← hGM6.len] at hgl
                                    have HH := hideIt (And.intro (hIC (s1.groups ++ [cs])) (And.intro (GInv.close (t := { s1 with low := lo, path := rest, stack := post, opn := shutAll s1.opn (v :: pre.reverse), groups := s1.groups ++ [cs] }) hIL (hG.same rfl rfl rfl) hComp HST.out rfl rfl (Or.inr ⟨hp, cs, rfl, hcs1, hcs2⟩)) (And.intro hM6 (And.intro hGM6 (And.intro hC hall)))))
                                    have hzl : ((v :: pre.reverse).map fun (x : Nat) => (x : Int)).length = pre.length + 1 := by simp
                                    have hpl : pre.length + 1 ≤ 200 := by have := HSL.out; omega
                                    have cS := sorted_values wc.heap.size gb post.length (cap - post.length) ((v :: pre.reverse).map fun (x : Nat) => (x : Int)) (by rw [hzl]; unfold maxLen; omega) (by rw [hzl]; omega) (wc.alloc (.cells #[.slice (some ⟨gb, post.length, none⟩) (pre.length + 1) (cap - post.length)] 24)) (by simp) (by rw [hzl]; exact cell_of_heap (heap_alloc_at _ _ rfl) rfl) (by simp; omega) (fun j hj => by
                                      rw [hzl] at hj
                                      have h1 : (wc.alloc (.cells #[.slice (some ⟨gb, post.length, none⟩) (pre.length + 1) (cap - post.length)] 24)).cell? ⟨gb, post.length + j, none⟩ = wc.cell? ⟨gb, post.length + j, none⟩ := World.cell?_of_block (heap_alloc_lt _ _ hgb6)
                                      have h2 : (v :: pre.reverse)[j]? = some ((v :: pre.reverse)[j]'(by simp; omega)) := List.getElem?_eq_getElem (by simp; omega)
                                      rw [h1, hcr6 j _ h2, List.getElem?_map, h2]
                                      rfl)
                                    rw [hcs4, hzl] at cS
                                    have CS := hideIt cS
                                    have hn10 : w.heap.size + 10 ≤ wc.heap.size := lt_of_heap hM6.b9
                                    have HN := hideIt hn10
                                    have HGL := hideIt hgl
                                    have HROW := hideIt hGM6.row
                                    have HC1 := hideIt hcs3
                                    obtain ⟨i24, hi24, hz24, hs24, hby24⟩ := info_parts info24
                                    clear hI hG hC hall hIL hlo hpost hf ht hR hg' hft' hMr hGr hgbr hcr hM6 hGM6 hcr6 hgb6 hComp hIC hcyc hq' hB hcs1 hcs2 hcs3 hcs4 hp hgl hzl hpl cS hn10
                                    go_wp2_with (first | (go_at_call 22; go_must (refine (values_call _ _ _ _).mono ?_; rintro e wv ⟨rfl, rfl⟩)) | (go_at_call 21; go_must (refine CS.out.mono ?_; rintro e ws ⟨xv, rfl, hxo, hxn, hxb⟩; obtain ⟨xk, xc, rfl, _, _, _⟩ := row_some hxo (by omega); have HXB := hideIt hxb; have HXO := hideIt hxo; clear hxb hxo hxn)) | (at_builtin; go_must (refine wpList_append_lies _ rfl _ _ 85 rfl (w.heap.size + 10) 24 i24 (.slice none 0 0) 1 24 Ybad.underlying85 hi24 hz24 hs24 hby24 rfl (by decide) u10 vs.length vs rfl (ownsRow_kept HROW.out (fun k hk => (kept3 HXB.out).block k (own_ge HROW.out hk).2)) ⟨ws.heap.size, 0, none⟩ 1 1 [.slice (some ⟨xk, 0, none⟩) (pre.length + 1) xc] rfl rfl (World.news_of_block (cs := #[.slice (some ⟨xk, 0, none⟩) (pre.length + 1) xc]) (t := 24) (fr := (0, 0)) (heap_alloc_at _ _ rfl)) (by simp [Value.oneCell']) (by omega) (by have := HGL.out; unfold maxLen; omega) (by have := HGL.out; omega) (by have h1 := (kept3 (o' := .cells #[.slice (some ⟨xk, 0, none⟩) (pre.length + 1) xc] 24) HXB.out).size; have h2 := HN.out; omega) (ws.heap.size + 1) (by simp) ?_; intro gb2 cap2 w5 hown5 hgr5 hat5 hgl5)))
                                    obtain ⟨h1, h2, h3, h4, h5, h6⟩ := HH.out
                                    have hpush := h4.push h3 (kept3 HXB.out) (c := cs) (x := .slice (some ⟨xk, 0, none⟩) (pre.length + 1) xc) (k0 := xk) (by
                                      have h7 := HXO.out
                                      rw [← HC1.out] at h7 ⊢
                                      exact own_mono (ownsRow_kept h7 (fun k hk => heap_alloc_lt _ _ (own_ge h7 hk).2)) (by simp)) rfl hown5 hgr5 (by rcases hat5 with h | h; exact Or.inl h; exact Or.inr (by simpa using h))
                                    go_roundg (meas g { s1 with low := lo, path := rest, stack := post, opn := shutAll s1.opn (v :: pre.reverse), groups := s1.groups ++ [cs] })
                                    case measure => exact meas_leave HP.out rfl rfl
                                    case rel => exact ⟨_, _, _, _, rfl, hpush.2.grp (s1.groups ++ [cs]), h1, h2, hpush.1, h5.same rfl rfl, h6⟩
                  · have hle' : ¬ ((lo v : Int) = (s1.order v : Int)) := by omega
                    have HLE := hideIt hle
                    clear hle
                    go_wp2
                    go_region
                    clear c2 c4 c3 c1 iv0 iv1
                    have hleb : ((lo v : Int) != (s1.order v : Int)) = true := by simp [bne, hle']
                    go_wp2
                    go_roundg (meas g { s1 with low := lo, path := rest })
                    case measure => exact meas_leave HP.out rfl rfl
                    case rel => exact ⟨_, _, _, vs, rfl, hM3.drew, hIL.leave HP.out HK.out HLE.out hlo, hG.same rfl rfl rfl, hGM3.drew, hC.same rfl rfl, hall⟩
      · have ho' : ¬ ((s.order r : Int) = 0) := by omega
        go_wp2
        go_roundw
        case rel => exact ⟨r + 1, by omega, by go_num, s, sv, pv, vs, hp0, hM, hI, hG, hGM, hC, fun v hv => by by_cases e : v = r; exact e ▸ ho; exact hall v (by omega)⟩
        case measure => simp [intOf]; omega
    · have hrn : ¬ ((r : Int) < (g.n : Int)) := by omega
      have hgl := hG.len hI
      have cS := sort_groups w.heap.size s.groups u10 vs sv pv wr hGM (fun c hc => ⟨(hG.head hI hc).1, by have := (hG.head hI hc).2.2; omega⟩) (lt_of_heap hM.b9) (by omega)
      have CS := hideIt cS
      have HB := hideIt hM.below
      have HS := hideIt (fun L hperm hsort => groups_spec hg hI hG hp0 (fun v hv => hall v (by omega)) hR (L := L) hperm hsort)
      clear cS hM hI hG hGM hC hall hp0 hgl hlt
      go_wp2_with (go_at_call 23; go_must (refine CS.out.mono ?_; rintro e wz ⟨rfl, L, vs', hperm, hsort, hlen, hrow, heach, hbz⟩))
      go_ret
      have hL := HS.out L hperm hsort
      subst hL
      exact ⟨_, vs', rfl, hlen, own_mono hrow (by omega), fun i c v hc hv => own_mono (heach i c v hc hv) (by omega), HB.out.trans (hbz.mono (by omega))⟩
end Go.Proofs.YbulkeiwwDoor
