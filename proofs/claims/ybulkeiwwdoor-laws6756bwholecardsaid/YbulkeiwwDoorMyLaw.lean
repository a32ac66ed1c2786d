import Derived.Test.YbulkeiwwDoorMyChecks
import Derived.Test.YbulkeiwwDoorMyWant
import Derived.Test.YbulkeiwwDoorMyReg
import Derived.Test.YbulkeiwwDoorMyCount
import Derived.Test.YbulkeiwwDoorMyBuf
import Derived.Test.YbulkeiwwDoorMyMat
import Derived.Deep.CutBlock
import Derived.Laws.CopyOwn
namespace Go.Proofs.YbulkeiwwDoor
open Go.RowKit Go.ChangeMaps Go.Lib Gr
attribute [local go_sem ↓] Go.wp_at_zero Go.wp_at_succ
set_option linter.unusedVariables false

theorem tot_le {K : Nat → List UInt8} {kl : Nat} (h : ∀ i, i < kl → (K i).length ≤ 281474976710656) : ∀ i, i ≤ kl → totLen K i ≤ i * 281474976710656
  | 0, _ => by simp [totLen]
  | i + 1, hi => by
    have := tot_le h i (by omega)
    have := h i (by omega)
    show totLen K i + (K i).length ≤ _
    rw [Nat.succ_mul]; omega

theorem make24c (w : World) (c : Nat) (hc : c ≤ 1048576) :
    (Instr.makeSlice 24 (.int .i64 0) (.int .i64 (c : Int))).run Ybad.prog w = .ok (.slice (some ⟨w.heap.size, 0, none⟩) 0 c) (w.alloc (.cells (arrI c fun _ => 0) 3)) := by
  obtain ⟨i, hi, hz, hs, hb⟩ := info_parts info3
  have := run_make (P := Ybad.prog) w 24 3 i _ Ybad.underlying24 hi hz .i64 .i64 0 c (by omega) (by omega) (by rw [hb]; omega) (by omega)
  simp only [Int.toNat_natCast, hs] at this
  rw [← madeI]
  exact this

theorem fresh_row {w : World} {b c B : Nat} (h : w.heap[b]? = some (.cells (arrI c fun _ => 0) 3)) (hB : B ≤ b) (hc : c ≤ maxLen) : w.ownsRow B 3 1 (.slice (some ⟨b, 0, none⟩) 0 c) 0 [] :=
  ⟨rfl, Or.inr ⟨b, c, _, rfl, hB, h, Nat.zero_le _, hc, by rw [arrI_size]; omega, by simp⟩⟩

def Rel2 (rl : Nat) (hf tf : Nat → Int) (W : World) (k : Nat) (hv tv x : Value) (wr : World) : Prop :=
  ∃ i : Nat, i + k = rl ∧ x = .int .i64 (i : Int) ∧ Rows2 i hf tf W hv tv wr

theorem make24n (w : World) (n : Nat) (hn : n ≤ 1000000) :
    (Instr.makeSlice 24 (.int .i64 ((n : Int) + 1)) (.int .i64 ((n : Int) + 1))).run Ybad.prog w = .ok (.slice (some ⟨w.heap.size, 0, none⟩) (n + 1) (n + 1)) (w.alloc (.cells (arrI (n + 1) fun _ => 0) 3)) := make24 w (n + 1) (by omega)

/-- The counts as they stand ahead of round i. -/
def cntF (H : Nat → Nat) (i : Nat) : Nat → Int
  | 0 => 0
  | v + 1 => (cnt H v i : Int)
theorem cntF_step (H : Nat → Nat) (i : Nat) : fup (cntF H i) (H i + 1) (cntF H i (H i + 1) + 1) = cntF H (i + 1) := by
  funext v
  cases v with
  | zero => rw [fup_other _ _ (by omega)]; rfl
  | succ v =>
    by_cases e : v = H i
    · subst e; rw [fup_same]; show (cnt H (H i) i : Int) + 1 = (cnt H (H i) (i + 1) : Int); rw [cnt_same rfl]; rfl
    · rw [fup_other _ _ (by omega)]; show (cnt H v i : Int) = (cnt H v (i + 1) : Int); rw [cnt_other (fun e' => e e'.symm)]

theorem cnt_le_self (H : Nat → Nat) (u : Nat) : ∀ i, cnt H u i ≤ i
  | 0 => Nat.le_refl _
  | i + 1 => by have := cnt_le_self H u i; simp only [cnt]; split <;> omega

/-- Loop 3. -/
def Rel3 (m n Fb : Nat) (H : Nat → Nat) (w1 : World) (k : Nat) (x : Value) (wr : World) : Prop :=
  ∃ i : Nat, i + k = m ∧ x = .int .i64 (i : Int) ∧ wr.heap[Fb]? = some (.cells (arrI (n + 1) (cntF H i)) 3) ∧ Below Fb w1 wr

def preF (H : Nat → Nat) (m v : Nat) : Nat → Int := fun j => if j ≤ v then (below H m j : Int) else cntF H m j
theorem preF_start (H : Nat → Nat) (m : Nat) : preF H m 0 = cntF H m := by
  funext j
  unfold preF
  split
  · rename_i h; rw [Nat.le_zero.1 h]; rfl
  · rfl
theorem preF_step (H : Nat → Nat) (m v : Nat) : fup (preF H m v) (v + 1) (preF H m v (v + 1) + preF H m v v) = preF H m (v + 1) := by
  funext j
  by_cases e : j = v + 1
  · subst e
    rw [fup_same]
    unfold preF
    rw [if_neg (by omega), if_pos (Nat.le_refl _), if_pos (Nat.le_refl _)]
    show (cnt H v m : Int) + (below H m v : Int) = ((below H m v + cnt H v m : Nat) : Int)
    omega
  · rw [fup_other _ _ e]
    unfold preF
    by_cases h : j ≤ v
    · rw [if_pos h, if_pos (by omega)]
    · rw [if_neg h, if_neg (by omega)]
/-- Loop 4. -/
def RelL4 (m n Fb : Nat) (H : Nat → Nat) (w1 : World) (k : Nat) (x : Value) (wr : World) : Prop :=
  ∃ v : Nat, v + k = n ∧ x = .int .i64 (v : Int) ∧ wr.heap[Fb]? = some (.cells (arrI (n + 1) (preF H m v)) 3) ∧ Below Fb w1 wr

theorem rowN_arr (f : Nat → Int) (n : Nat) : (rowN f n).toArray = arrI n f := by
  apply Array.ext_getElem?
  intro j
  by_cases hj : j < n
  · rw [arrI_get hj, List.getElem?_toArray, rowN_get hj]
  · rw [Array.getElem?_eq_none (by simp [rowN]; omega), Array.getElem?_eq_none (by rw [arrI_size]; omega)]
theorem clone_int {w : World} {b k n c : Nat} {f : Nat → Int} (h : w.heap[b]? = some (.cells (arrI k f) 3)) (hn : n ≤ k) (hk : n ≤ 1000000) :
    Calls Ybad.prog 4 #[.slice (some ⟨b, 0, none⟩) n c] w fun e w' => ∃ v', e = .returned v' ∧ w'.ownsRow w.heap.size 3 1 v' n (rowN f n) ∧ Below w.heap.size w w' := by
  obtain ⟨i3, hi3, hz3, hs3, hy3⟩ := info_parts info3
  refine (Ybad.slices_Clone_f4 i3 (.int .i64 0) 1 8 hi3 hz3 hs3 hy3 rfl (by decide) Ybad.sizeOf3 b 0 n c (rowN f n) w (by rw [rowN_len]; omega) (by unfold maxLen; omega) (by omega) (fun j u hj => ?_) (fun u hu => by obtain ⟨i, _, rfl⟩ := List.mem_map.1 hu; rfl)).mono ?_
  · have hjn : j < n := by
      have := (List.getElem?_eq_some_iff.1 hj).1
      rw [rowN_len] at this
      exact this
    rw [rowN_get hjn] at hj
    cases hj
    rw [Nat.zero_add]
    exact cell_of_heap h (arrI_get (by omega))
  · rintro e w' ⟨v', rfl, h1, _, h2⟩
    exact ⟨v', rfl, h1, h2⟩

theorem make33 (w : World) (c : Nat) (hc : c ≤ 1048576) :
    (Instr.makeSlice 33 (.int .i64 0) (.int .i64 (c : Int))).run Ybad.prog w = .ok (.slice (some ⟨w.heap.size, 0, none⟩) 0 c) (w.alloc (.cells (madeCells #[.int .i64 0, .int .i64 0] (c * 2)) 35)) := by
  obtain ⟨i, hi, hz, hs, hb⟩ := info_parts info35
  have := run_make (P := Ybad.prog) w 33 35 i _ Ybad.underlying33 hi hz .i64 .i64 0 c (by omega) (by omega) (by rw [hb]; omega) (by omega)
  simp only [Int.toNat_natCast, hs] at this
  exact this

/-- Loop 5. -/
def Rel5 (m n Pb Tb : Nat) (H : Nat → Nat) (T : Nat → Int) (w1 : World) (k : Nat) (x : Value) (wr : World) : Prop :=
  ∃ (i : Nat) (pos : Nat → Nat) (tg : Nat → Int), i + k = m ∧ x = .int .i64 (i : Int) ∧ Placed H T m n i pos tg ∧ wr.heap[Pb]? = some (.cells (arrI n (fun u => (pos u : Int))) 3) ∧ wr.heap[Tb]? = some (.cells (arrI m tg) 3) ∧ Below Pb w1 wr

/-- copy(pos, first[:n]) -/
theorem copy_run {w : World} {g s n c : Nat} {f : Nat → Int} (hg : w.heap[g]? = some (.cells (arrI n fun _ => 0) 3)) (hsrc : ∀ (j : Nat) v, (rowN f n)[j]? = some v → w.cell? ((⟨s, 0, none⟩ : Addr).add j) = some v) :
    (Builtin.copy_ #[24, 24] 3 #[.slice (some ⟨g, 0, none⟩) n n, .slice (some ⟨s, 0, none⟩) n c]).run Ybad.prog w = .ok (goInt n) (setBlock w g (.cells (arrI n f) 3)) := by
  have h := run_copy_row (P := Ybad.prog) w 24 24 3 3 g 0 n n ⟨s, 0, none⟩ n c (arrI n fun _ => 0) 3 (rowN f n) Ybad.underlying24 (by kernel_rfl) hg (by rw [rowN_len]; exact (Nat.min_self n).symm) hsrc (by rw [rowN_len, arrI_size]; omega) (fun v hv => by
    obtain ⟨i, _, rfl⟩ := List.mem_map.1 hv
    rfl)
  rw [setRow_cells hg, rowN_len] at h
  rw [List.take_zero, List.nil_append, List.drop_eq_nil_of_le (by rw [Array.length_toList, arrI_size]; omega), List.append_nil, rowN_arr] at h
  exact h

def Rel1T (kl : Nat) (K : Nat → List UInt8) (W : World) (k : Nat) (t x : Value) (wr : World) : Prop :=
  ∃ (i : Nat) (z : Int), i + k = kl ∧ x = .int .i64 (i : Int) ∧ t = .int .i64 z ∧ (i ≤ 200 → z = (totLen K i : Int)) ∧ wr = W

set_option maxHeartbeats 80000000 in
set_option maxRecDepth 100000 in
theorem law_any (ka ra : Option Addr) (kl kc rl rc : Nat) (K : Nat → List UInt8) (F T : Nat → Int) (W : World) (hK : KeysIn ka kl K W) (hR : RefsIn ra rl F T W) (hkl : kl ≤ 281474976710656) (hTab : Tab W) (hW : 2 < W.heap.size) :
    Calls Ybad.prog 3 #[.slice ka kl kc, .slice ra rl rc] W fun e w' => e = .returned (.bool true) ∧ Below W.heap.size W w' := by
  go_enter Ybad.func3, Ybad.ntmps3
  go_upto_block 0 with (fail)
  go_cut [5] (fun t wc => wc = W ∧ ∃ z : Int, t = .int .i64 z ∧ (kl ≤ 200 → z = (totLen K kl : Int)))
  case first =>
    as_aux_lemma =>
      go_wp2
      go_loopg [5, 54] kl (Rel1T kl K W)
      case atStart => exact ⟨0, 0, by simp, rfl, rfl, fun _ => rfl, rfl⟩
      case round =>
        obtain ⟨i, z, hi, rfl, rfl, hz, rfl⟩ := hrel
        cases gk with
        | zero =>
          have ei : i = kl := by omega
          have t1 : ¬ ((i : Int) < (kl : Int)) := by omega
          have HZ := hideIt (And.intro ei hz)
          clear hz hi ei
          go_wp2
          go_meet
          obtain ⟨ei, hz⟩ := HZ.out
          subst ei
          exact ⟨rfl, z, rfl, hz⟩
        | succ m =>
          obtain ⟨b, o, rfl, hb, hc⟩ := hK.cell i (by omega)
          have hlen := hK.len i (by omega)
          have hsz : (ByteArray.mk (K i).toArray).size = (K i).length := by simp [ByteArray.size]
          have t1 : (i : Int) < (kl : Int) := by omega
          have t2 : (0 : Int) ≤ (i : Int) := by omega
          have t3 : (i : Int) + 1 ≤ 9223372036854775807 := by omega
          have HI := hideIt (And.intro hi hlen)
          by_cases h2 : i < 200
          · have hz' := hz (by omega)
            have htl := tot_le hK.len i (by omega)
            have t4 : z + ((K i).length : Int) ≤ 9223372036854775807 := by omega
            have t5 : (0 : Int) ≤ z + ((K i).length : Int) := by omega
            have HZ := hideIt (And.intro hz' h2)
            clear hz hz' htl h2 hi hlen
            go_wp2
            go_roundg m
            case measure => exact Nat.lt_succ_self _
            case rel => exact ⟨i + 1, _, by have := HI.out.1; omega, rfl, rfl, fun _ => by rw [HZ.out.1]; rfl, rfl⟩
          · have H2 := hideIt h2
            clear hz h2 hi hlen
            go_wp2
            go_roundg m
            case measure => exact Nat.lt_succ_self _
            case rel => exact ⟨i + 1, _, by have := HI.out.1; omega, rfl, rfl, fun h => absurd h (by have := H2.out; omega), rfl⟩
  case rest =>
    obtain ⟨hwc, z, rfl, hz⟩ := hcut
    obtain rfl : W = wc := hwc.symm
    go_upto_region 7 with (fail)
    by_cases b1 : 200 < kl
    · have t1 : (200 : Int) < (kl : Int) := by omega
      clear hz
      go_wp2
      go_ret
      exact ⟨rfl, Below.refl _ _⟩
    by_cases b2 : 65536 < rl
    · have t1 : ¬ ((200 : Int) < (kl : Int)) := by omega
      have t2 : (65536 : Int) < (rl : Int) := by omega
      have t3 : decide ((200 : Int) < (kl : Int)) = false := by simp; omega
      clear hz
      go_wp2
      go_ret
      exact ⟨rfl, Below.refl _ _⟩
    have hz := hz (by omega)
    subst hz
    have t1 : ¬ ((200 : Int) < (kl : Int)) := by omega
    have t2 : ¬ ((65536 : Int) < (rl : Int)) := by omega
    have t3 : decide ((200 : Int) < (kl : Int)) = false := by simp; omega
    have t4 : decide ((65536 : Int) < (rl : Int)) = false := by simp; omega
    by_cases b3 : 1048576 < totLen K kl
    · have t5 : (1048576 : Int) < (totLen K kl : Int) := by omega
      go_wp2
      go_ret
      exact ⟨rfl, Below.refl _ _⟩
    have t5 : ¬ ((1048576 : Int) < (totLen K kl : Int)) := by omega
    have t6 : decide ((1048576 : Int) < (totLen K kl : Int)) = false := by simp; omega
    have hkl2 : kl ≤ 200 := by omega
    have hrl2 : rl ≤ 65536 := by omega
    have htl2 : totLen K kl ≤ 1048576 := by omega
    clear b1 b2 b3 hkl
    have hmk := fun w => make24c w rl (by omega)
    go_upto_if 84 with (fail)
    clear t1 t2 t3 t4 t5 t6 hmk
    have h0 : Rows2 0 (fun i => (hOf F kl i : Int)) (tOf T kl) W (.slice (some ⟨W.heap.size, 0, none⟩) 0 rl) (.slice (some ⟨W.heap.size + 1, 0, none⟩) 0 rl) ((W.alloc (.cells (arrI rl fun _ => 0) 3)).alloc (.cells (arrI rl fun _ => 0) 3)) :=
      ⟨fresh_row (heap_alloc_lt _ _ (by simp) |>.trans (heap_alloc_at _ _ rfl)) (Nat.le_refl _) (by unfold maxLen; omega), fresh_row (heap_alloc_at _ _ (by simp)) (by omega) (by unfold maxLen; omega), fun k h1 h2 => by have e1 : W.heap.size = k := Option.some.inj h1; have e2 : W.heap.size + 1 = k := Option.some.inj h2; omega, ((Below.refl _ W).alloc (Nat.le_refl _) _).alloc (by simp) _⟩
    generalize ((W.alloc (.cells (arrI rl fun _ => 0) 3)).alloc (.cells (arrI rl fun _ => 0) 3)) = w2 at h0 ⊢
    go_cut [9, 10, 12, 13, 14] from 84 to 112 (fun hv tv _ _ _ wc => Rows2 (if kl = 0 then 0 else rl) (fun i => (hOf F kl i : Int)) (tOf T kl) W hv tv wc)
    case first =>
      as_aux_lemma =>
        by_cases hk0 : kl = 0
        · have t1 : ¬ ((0 : Int) < (kl : Int)) := by omega
          have t1n : ¬ (0 < kl) := by omega
          have HK0 := hideIt hk0
          have H0 := hideIt h0
          clear hk0 h0
          go_wp2
          go_meet
          rw [if_pos HK0.out]
          exact H0.out
        · have t1 : (0 : Int) < (kl : Int) := by omega
          have t1n : 0 < kl := by omega
          have t1b : ¬ ((kl : Int) = 0) := by omega
          have HK0 := hideIt hk0
          have h00 : Rel2 rl (fun i => (hOf F kl i : Int)) (tOf T kl) W rl (.slice (some ⟨W.heap.size, 0, none⟩) 0 rl) (.slice (some ⟨W.heap.size + 1, 0, none⟩) 0 rl) (.int .i64 0) w2 := ⟨0, by simp, rfl, h0⟩
          obtain ⟨i3, hi3, hz3, hs3, hy3⟩ := info_parts info3
          clear h0 hk0
          go_wp2
          go_loopg [9, 10, 87] rl (Rel2 rl (fun i => (hOf F kl i : Int)) (tOf T kl) W)
          case atStart => exact h00
          case round =>
            clear h00
            obtain ⟨i, hi, rfl, hrw⟩ := hrel
            cases gk with
            | zero =>
              have ei : i = rl := by omega
              subst ei
              have t2 : ¬ ((i : Int) < (i : Int)) := by omega
              have HR := hideIt hrw
              clear hi hrw
              go_wp2
              go_meet
              rw [if_neg HK0.out]
              exact HR.out
            | succ m =>
              obtain ⟨b, o, rfl, hb, hcF, hcT⟩ := hR.cell i (by omega)
              have hF := hR.f i (by omega)
              have hTt := hR.t i (by omega)
              have cF : wr.cell? ⟨b, o + i * 2, none⟩ = some (.int .u16 (F i)) := (hrw.bel.cell (p := ⟨b, o + i * 2, none⟩) hb).trans hcF
              have cT : wr.cell? ⟨b, o + i * 2 + 1, none⟩ = some (.int .i16 (T i)) := (hrw.bel.cell (p := ⟨b, o + i * 2 + 1, none⟩) hb).trans hcT
              have t2 : (i : Int) < (rl : Int) := by omega
              have t3 : (0 : Int) ≤ (i : Int) := by omega
              have t4 : (i : Int) + 1 ≤ 9223372036854775807 := by omega
              have HI := hideIt (And.intro hi (And.intro hrw (And.intro hF hTt)))
              obtain ⟨ha, hca, rfl⟩ := row_form hrw.h
              obtain ⟨ta, tca, rfl⟩ := row_form hrw.t
              have hFF := hF
              have hTT := hTt
              clear hi hrw hF hTt hcF hcT
              have hF0 : (0 : Int) ≤ F i := hFF.1
              have hF1 : F i ≤ 9223372036854775807 := by have := hFF.2; omega
              have hFm : (F i).tmod (kl : Int) = (hOf F kl i : Int) := by
                rw [Int.tmod_eq_emod_of_nonneg hF0]
                exact (Int.toNat_of_nonneg (Int.emod_nonneg _ (by omega))).symm
              have HX := hideIt (And.intro (show i + 1 ≤ maxLen by have := HI.out.1; unfold maxLen; omega) (show (i + 1) * 8 ≤ 140737488355328 by have := HI.out.1; omega))
              have hT2 : T i ≤ 9223372036854775807 := by have := hTT.2; omega
              have hT3 : -9223372036854775808 ≤ T i := by have := hTT.1; omega
              clear hFF hTT
              by_cases hT0 : 0 ≤ T i
              · have hTm : (T i).tmod (kl : Int) = tOf T kl i := by
                  rw [Int.tmod_eq_emod_of_nonneg hT0, tOf, if_pos hT0]
                go_upto_region 20 with (fail)
                clear hTm hFm hF0 hF1 hT2 hT3 hT0 cF cT
                have hal : (wr.alloc (.cells #[.int .u16 (F i), .int .i16 (T i)] 28)).ownsRow W.heap.size 3 1 (.slice ha i hca) i (rowN (fun i => (hOf F kl i : Int)) i) := own_alloc HI.out.2.1.h _
                have HAL := hideIt (And.intro hal (show W.heap.size ≤ wr.heap.size from HI.out.2.1.bel.size))
                clear hal
                go_upto_region 21 with (at_builtin; go_must (refine wpList_append_lies _ rfl _ _ 24 rfl W.heap.size 3 i3 (.int .i64 0) 1 8 Ybad.underlying24 hi3 hz3 hs3 hy3 rfl (by decide) (.slice ha i hca) i (rowN (fun i => (hOf F kl i : Int)) i) rfl (own_alloc HAL.out.1 _) ⟨wr.heap.size + 1, 0, none⟩ 1 1 [.int .i64 (hOf F kl i : Int)] rfl rfl (World.news_of_block (cs := #[.int .i64 (hOf F kl i : Int)]) (t := 3) (fr := (0, 0)) (heap_alloc_at _ _ (by simp))) (by simp [Value.oneCell']) (by omega) HX.out.1 HX.out.2 (by have := HAL.out.2; simp; omega) (wr.heap.size + 2) (by simp) ?_; intro gb cap w4 hown4 hgr4 hat4 hgl4))
                have ht4 : w4.ownsRow W.heap.size 3 1 (.slice ta i tca) i (rowN (tOf T kl) i) := ownsRow_kept HI.out.2.1.t (fun k hk => (hgr4.block k (by have := (own_ge HI.out.2.1.t hk).2; simp; omega) (fun e => HI.out.2.1.dis k e.symm hk)).trans ((heap_alloc_lt _ _ (by have := (own_ge HI.out.2.1.t hk).2; simp; omega)).trans (heap_alloc_lt _ _ (own_ge HI.out.2.1.t hk).2)))
                have hb4 : Below W.heap.size W w4 := below_grown ((HI.out.2.1.bel.alloc HAL.out.2 _).alloc (by have := HAL.out.2; simp; omega) _) (own_alloc HAL.out.1 _) (by have := HAL.out.2; simp; omega) hgr4
                have H4 := hideIt (And.intro hown4 (And.intro hgr4 (And.intro hat4 (And.intro ht4 (And.intro hb4 hgl4)))))
                clear hown4 hgr4 hat4 ht4 hb4
                go_upto_region 22 with (at_builtin; go_must (refine wpList_append_lies _ rfl _ _ 24 rfl W.heap.size 3 i3 (.int .i64 0) 1 8 Ybad.underlying24 hi3 hz3 hs3 hy3 rfl (by decide) (.slice ta i tca) i (rowN (tOf T kl) i) rfl (own_alloc H4.out.2.2.2.1 _) ⟨w4.heap.size, 0, none⟩ 1 1 [.int .i64 (tOf T kl i)] rfl rfl (World.news_of_block (cs := #[.int .i64 (tOf T kl i)]) (t := 3) (fr := (0, 0)) (heap_alloc_at _ _ (by simp))) (by simp [Value.oneCell']) (by omega) HX.out.1 HX.out.2 (by have := H4.out.2.2.2.2.1.size; simp; omega) (w4.heap.size + 1) (by simp) ?_; intro gt capt w5 hown5 hgr5 hat5 hgl5))
                have HF : Rows2 (i + 1) (fun i => (hOf F kl i : Int)) (tOf T kl) W (.slice (some ⟨gb, 0, none⟩) (i + 1) cap) (.slice (some ⟨gt, 0, none⟩) (i + 1) capt) w5 := by
                  obtain ⟨q1, q2, q3, q4, q5, q6⟩ := H4.out
                  have hrw := HI.out.2.1
                  have hne : ∀ k, (Value.slice ta i tca).ownBlock = some k → k ≠ gb := fun k hk e => by
                    subst e
                    rcases q3 with h | h
                    · exact hrw.dis _ h hk
                    · have := (own_ge hrw.t hk).2; omega
                  have hneb : gt ≠ gb := fun e => by
                    rcases hat5 with h | h
                    · exact hne gt h e
                    · omega
                  refine ⟨?_, ?_, fun k h1 h2 => ?_, below_grown (q5.alloc q5.size _) (own_alloc q4 _) (by have := q5.size; simp; omega) hgr5⟩
                  · rw [rowN_succ]
                    refine ownsRow_kept q1 (fun k hk => ?_)
                    have e : gb = k := Option.some.inj hk
                    subst e
                    exact (hgr5.block gb (by simp; omega) (fun e => hne gb e.symm rfl)).trans (heap_alloc_lt _ _ q6)
                  · rw [rowN_succ]; exact hown5
                  · have e1 : gb = k := Option.some.inj h1
                    have e2 : gt = k := Option.some.inj h2
                    omega
                have HFF := hideIt HF
                clear HF hown5 hgr5 hat5
                go_wp2
                go_roundg m
                case measure => exact Nat.lt_succ_self _
                case rel => exact ⟨i + 1, by have := HI.out.1; omega, rfl, HFF.out⟩
              · have hTm : (-1 : Int) = tOf T kl i := by rw [tOf, if_neg hT0]
                have HTM := hideIt hTm
                clear hTm
                go_upto_region 20 with (fail)
                rw [HTM.out]
                clear hFm hF0 hF1 hT2 hT3 hT0 cF cT
                have hal : (wr.alloc (.cells #[.int .u16 (F i), .int .i16 (T i)] 28)).ownsRow W.heap.size 3 1 (.slice ha i hca) i (rowN (fun i => (hOf F kl i : Int)) i) := own_alloc HI.out.2.1.h _
                have HAL := hideIt (And.intro hal (show W.heap.size ≤ wr.heap.size from HI.out.2.1.bel.size))
                clear hal
                go_upto_region 21 with (at_builtin; go_must (refine wpList_append_lies _ rfl _ _ 24 rfl W.heap.size 3 i3 (.int .i64 0) 1 8 Ybad.underlying24 hi3 hz3 hs3 hy3 rfl (by decide) (.slice ha i hca) i (rowN (fun i => (hOf F kl i : Int)) i) rfl (own_alloc HAL.out.1 _) ⟨wr.heap.size + 1, 0, none⟩ 1 1 [.int .i64 (hOf F kl i : Int)] rfl rfl (World.news_of_block (cs := #[.int .i64 (hOf F kl i : Int)]) (t := 3) (fr := (0, 0)) (heap_alloc_at _ _ (by simp))) (by simp [Value.oneCell']) (by omega) HX.out.1 HX.out.2 (by have := HAL.out.2; simp; omega) (wr.heap.size + 2) (by simp) ?_; intro gb cap w4 hown4 hgr4 hat4 hgl4))
                have ht4 : w4.ownsRow W.heap.size 3 1 (.slice ta i tca) i (rowN (tOf T kl) i) := ownsRow_kept HI.out.2.1.t (fun k hk => (hgr4.block k (by have := (own_ge HI.out.2.1.t hk).2; simp; omega) (fun e => HI.out.2.1.dis k e.symm hk)).trans ((heap_alloc_lt _ _ (by have := (own_ge HI.out.2.1.t hk).2; simp; omega)).trans (heap_alloc_lt _ _ (own_ge HI.out.2.1.t hk).2)))
                have hb4 : Below W.heap.size W w4 := below_grown ((HI.out.2.1.bel.alloc HAL.out.2 _).alloc (by have := HAL.out.2; simp; omega) _) (own_alloc HAL.out.1 _) (by have := HAL.out.2; simp; omega) hgr4
                have H4 := hideIt (And.intro hown4 (And.intro hgr4 (And.intro hat4 (And.intro ht4 (And.intro hb4 hgl4)))))
                clear hown4 hgr4 hat4 ht4 hb4
                go_upto_region 22 with (at_builtin; go_must (refine wpList_append_lies _ rfl _ _ 24 rfl W.heap.size 3 i3 (.int .i64 0) 1 8 Ybad.underlying24 hi3 hz3 hs3 hy3 rfl (by decide) (.slice ta i tca) i (rowN (tOf T kl) i) rfl (own_alloc H4.out.2.2.2.1 _) ⟨w4.heap.size, 0, none⟩ 1 1 [.int .i64 (tOf T kl i)] rfl rfl (World.news_of_block (cs := #[.int .i64 (tOf T kl i)]) (t := 3) (fr := (0, 0)) (heap_alloc_at _ _ (by simp))) (by simp [Value.oneCell']) (by omega) HX.out.1 HX.out.2 (by have := H4.out.2.2.2.2.1.size; simp; omega) (w4.heap.size + 1) (by simp) ?_; intro gt capt w5 hown5 hgr5 hat5 hgl5))
                have HF : Rows2 (i + 1) (fun i => (hOf F kl i : Int)) (tOf T kl) W (.slice (some ⟨gb, 0, none⟩) (i + 1) cap) (.slice (some ⟨gt, 0, none⟩) (i + 1) capt) w5 := by
                  obtain ⟨q1, q2, q3, q4, q5, q6⟩ := H4.out
                  have hrw := HI.out.2.1
                  have hne : ∀ k, (Value.slice ta i tca).ownBlock = some k → k ≠ gb := fun k hk e => by
                    subst e
                    rcases q3 with h | h
                    · exact hrw.dis _ h hk
                    · have := (own_ge hrw.t hk).2; omega
                  have hneb : gt ≠ gb := fun e => by
                    rcases hat5 with h | h
                    · exact hne gt h e
                    · omega
                  refine ⟨?_, ?_, fun k h1 h2 => ?_, below_grown (q5.alloc q5.size _) (own_alloc q4 _) (by have := q5.size; simp; omega) hgr5⟩
                  · rw [rowN_succ]
                    refine ownsRow_kept q1 (fun k hk => ?_)
                    have e : gb = k := Option.some.inj hk
                    subst e
                    exact (hgr5.block gb (by simp; omega) (fun e => hne gb e.symm rfl)).trans (heap_alloc_lt _ _ q6)
                  · rw [rowN_succ]; exact hown5
                  · have e1 : gb = k := Option.some.inj h1
                    have e2 : gt = k := Option.some.inj h2
                    omega
                have HFF := hideIt HF
                clear HF hown5 hgr5 hat5
                go_wp2
                go_roundg m
                case measure => exact Nat.lt_succ_self _
                case rel => exact ⟨i + 1, by have := HI.out.1; omega, rfl, HFF.out⟩
    case rest =>
      clear h0
      obtain ⟨wA, hwA⟩ : ∃ x, x = wc := ⟨_, rfl⟩
      subst hwA
      obtain ⟨m, hm⟩ : ∃ m, m = if kl = 0 then 0 else rl := ⟨_, rfl⟩
      rw [← hm] at hcut
      have hmr : m ≤ 65536 := by rw [hm]; split <;> omega
      have hHl : ∀ i, i < m → hOf F kl i < kl := fun i hi => by
        have hk : kl ≠ 0 := fun e => by rw [hm, if_pos e] at hi; omega
        have h1 := Int.emod_lt_of_pos (F i) (show (0 : Int) < (kl : Int) by omega)
        have h2 := Int.emod_nonneg (F i) (show (kl : Int) ≠ 0 by omega)
        unfold hOf
        omega
      have hTl : ∀ i v : Nat, i < m → tOf T kl i = (v : Int) → v < kl := fun i v hi hv => by
        have hk : kl ≠ 0 := fun e => by rw [hm, if_pos e] at hi; omega
        unfold tOf at hv
        split at hv
        · have h1 := Int.emod_lt_of_pos (T i) (show (0 : Int) < (kl : Int) by omega)
          omega
        · omega
      have HM := hideIt hm
      clear hm
      obtain ⟨ha, hca, rfl⟩ := row_form hcut.h
      obtain ⟨ta, tca, rfl⟩ := row_form hcut.t
      have hmk := fun w => make24n w kl (by omega)
      have hcs : W.heap.size ≤ wA.heap.size := hcut.bel.size
      have t1 : (kl : Int) + 1 ≤ 9223372036854775807 := by omega
      have HC := hideIt (And.intro hcut (And.intro hHl hTl))
      clear hcut hHl hTl
      go_upto_block 4 with (fail)
      clear t1 hmk
      have h30 : Rel3 m kl wA.heap.size (hOf F kl) wA m (.int .i64 0) (wA.alloc (.cells (arrI (kl + 1) fun _ => 0) 3)) := ⟨0, by simp, rfl, by rw [heap_alloc_at _ _ rfl]; congr 2; congr 1; funext v; cases v <;> rfl, (Below.refl _ _).alloc (Nat.le_refl _) _⟩
      generalize (wA.alloc (.cells (arrI (kl + 1) fun _ => 0) 3)) = w3 at h30 ⊢
      go_cut [17] from 118 to 129 (fun _ w4 => w4.heap[wA.heap.size]? = some (.cells (arrI (kl + 1) (cntF (hOf F kl) m)) 3) ∧ Below wA.heap.size wA w4)
      case first =>
        as_aux_lemma =>
          go_wp2
          go_loopg [118] m (Rel3 m kl wA.heap.size (hOf F kl) wA)
          case atStart => exact h30
          case round =>
            clear h30
            obtain ⟨i, hi, rfl, hfb, hbel⟩ := hrel
            cases gk with
            | zero =>
              have ei : i = m := by omega
              subst ei
              have t2 : ¬ ((i : Int) < (i : Int)) := by omega
              have HR := hideIt (And.intro hfb hbel)
              clear hi hfb hbel
              go_wp2
              go_meet
              exact HR.out
            | succ k =>
              obtain ⟨hcut, hHl, hTl⟩ := HC.out
              obtain ⟨hb, hcap, e, hb1, hb2, hb3⟩ := row_some hcut.h (by omega)
              cases e
              have hin := hHl i (by omega)
              have ch : wr.cell? ⟨hb, i, none⟩ = some (.int .i64 (hOf F kl i : Int)) := (hbel.cell (p := ⟨hb, i, none⟩) hb2).trans (ownsRow_cell hcut.h (rowN_get (by omega)))
              have cf := cell_of_heap hfb (arrI_get (show hOf F kl i + 1 < kl + 1 by omega))
              have ff : wr.frozen? ⟨wA.heap.size, hOf F kl i + 1, none⟩ = false := frozen_of_heap hfb
              have hcl := cnt_le_self (hOf F kl) (hOf F kl i) i
              have hset := heap_set_at (o := hOf F kl i + 1) (.int .i64 (cntF (hOf F kl) i (hOf F kl i + 1) + 1)) hfb
              rw [arrI_set, cntF_step] at hset
              have hbs : Below wA.heap.size wA (wr.setCell ⟨wA.heap.size, hOf F kl i + 1, none⟩ (.int .i64 (cntF (hOf F kl) i (hOf F kl i + 1) + 1))) := hbel.setCell (Nat.le_refl _) _
              have t2 : (i : Int) < (m : Int) := by omega
              have t3 : (0 : Int) ≤ (i : Int) := by omega
              have t4 : (i : Int) + 1 ≤ 9223372036854775807 := by omega
              have t5 : (0 : Int) ≤ (hOf F kl i : Int) + 1 := by omega
              have t6 : (hOf F kl i : Int) + 1 < (kl : Int) + 1 := by omega
              have t7 : (hOf F kl i : Int) + 1 ≤ 9223372036854775807 := by omega
              have t8 : ((hOf F kl i : Int) + 1).toNat = hOf F kl i + 1 := by omega
              have t9 : cntF (hOf F kl) i (hOf F kl i + 1) + 1 ≤ 9223372036854775807 := by show (cnt (hOf F kl) (hOf F kl i) i : Int) + 1 ≤ _; omega
              have t10 : (0 : Int) ≤ cntF (hOf F kl) i (hOf F kl i + 1) + 1 := by show (0 : Int) ≤ (cnt (hOf F kl) (hOf F kl i) i : Int) + 1; omega
              have HR := hideIt (And.intro hset (And.intro hbs hi))
              clear hset hbs hi hfb hbel hcut hHl hTl hin hcl hb1 hb2 hb3
              go_wp2
              go_roundg k
              case measure => exact Nat.lt_succ_self _
              case rel => exact ⟨i + 1, by have := HR.out.2.2; omega, rfl, HR.out.1, HR.out.2.1⟩
      case rest =>
        clear h30
        obtain ⟨wB, hwB⟩ : ∃ x, x = wc := ⟨_, rfl⟩
        subst hwB
        have h40 : RelL4 m kl wA.heap.size (hOf F kl) wA kl (.int .i64 0) wB := ⟨0, by simp, rfl, by rw [preF_start]; exact hcut.1, hcut.2⟩
        clear hcut
        go_upto_block 6 with (fail)
        go_cut [18] from 130 to 145 (fun _ w4 => w4.heap[wA.heap.size]? = some (.cells (arrI (kl + 1) (fun j => (below (hOf F kl) m j : Int))) 3) ∧ Below wA.heap.size wA w4)
        case first =>
          as_aux_lemma =>
            go_wp2
            go_loopg [18] kl (RelL4 m kl wA.heap.size (hOf F kl) wA)
            case atStart => exact h40
            case round =>
              clear h40
              obtain ⟨v, hv, rfl, hfb, hbel⟩ := hrel
              obtain ⟨hcut, hHl, hTl⟩ := HC.out
              cases gk with
              | zero =>
                have ev : v = kl := by omega
                subst ev
                have t2 : ¬ ((v : Int) < (v : Int)) := by omega
                have ef : arrI (v + 1) (preF (hOf F v) m v) = arrI (v + 1) (fun j => (below (hOf F v) m j : Int)) := by
                  apply Array.ext_getElem?
                  intro j
                  by_cases hj : j < v + 1
                  · rw [arrI_get hj, arrI_get hj]; unfold preF; rw [if_pos (by omega)]
                  · rw [Array.getElem?_eq_none (by rw [arrI_size]; omega), Array.getElem?_eq_none (by rw [arrI_size]; omega)]
                rw [ef] at hfb
                have HR := hideIt (And.intro hfb hbel)
                clear hv hfb hbel hcut hHl hTl ef
                go_wp2
                go_meet
                exact HR.out
              | succ k =>
                have c1 := cell_of_heap hfb (arrI_get (show v < kl + 1 by omega))
                have c2 := cell_of_heap hfb (arrI_get (show v + 1 < kl + 1 by omega))
                have ff : wr.frozen? ⟨wA.heap.size, v + 1, none⟩ = false := frozen_of_heap hfb
                have hset := heap_set_at (o := v + 1) (.int .i64 (preF (hOf F kl) m v (v + 1) + preF (hOf F kl) m v v)) hfb
                rw [arrI_set, preF_step] at hset
                have hbs : Below wA.heap.size wA (wr.setCell ⟨wA.heap.size, v + 1, none⟩ (.int .i64 (preF (hOf F kl) m v (v + 1) + preF (hOf F kl) m v v))) := hbel.setCell (Nat.le_refl _) _
                have hsum : preF (hOf F kl) m v (v + 1) + preF (hOf F kl) m v v = (below (hOf F kl) m (v + 1) : Int) := by
                  have := congrFun (preF_step (hOf F kl) m v) (v + 1)
                  rw [fup_same] at this
                  rw [this]; unfold preF; rw [if_pos (Nat.le_refl _)]
                have hbm := below_mono (H := hOf F kl) (m := m) (show v + 1 ≤ kl by omega)
                rw [below_all m kl hHl] at hbm
                have t9 : preF (hOf F kl) m v (v + 1) + preF (hOf F kl) m v v ≤ 9223372036854775807 := by rw [hsum]; omega
                have t10 : (0 : Int) ≤ preF (hOf F kl) m v (v + 1) + preF (hOf F kl) m v v := by rw [hsum]; omega
                have t2 : (v : Int) < (kl : Int) := by omega
                have t3 : (0 : Int) ≤ (v : Int) := by omega
                have t4 : (v : Int) + 1 ≤ 9223372036854775807 := by omega
                have t5 : (0 : Int) ≤ (v : Int) + 1 := by omega
                have t6 : (v : Int) + 1 < (kl : Int) + 1 := by omega
                have t7 : (v : Int) < (kl : Int) + 1 := by omega
                have t8 : ((v : Int) + 1).toNat = v + 1 := by omega
                have HR := hideIt (And.intro hset (And.intro hbs hv))
                generalize preF (hOf F kl) m v (v + 1) = p1 at c2 t9 t10 HR
                generalize preF (hOf F kl) m v v = p2 at c1 t9 t10 HR
                clear hset hbs hv hfb hbel hcut hHl hTl hsum hbm
                go_wp2
                go_region
                go_wp2
                go_roundg k
                case measure => exact Nat.lt_succ_self _
                case rel => exact ⟨v + 1, by have := HR.out.2.2; omega, rfl, HR.out.1, HR.out.2.1.drew⟩
        case rest =>
          clear h40
          obtain ⟨wC, hwC⟩ : ∃ x, x = wc := ⟨_, rfl⟩
          subst hwC
          obtain ⟨hfb, hbC⟩ := hcut
          have hsC := lt_of_heap hfb
          have hmk := fun w => make24 w kl (by omega)
          have hmk2 := fun w => make24 w m (by omega)
          have hfz : (wC.alloc (.cells (arrI kl fun _ => 0) 3)).heap[wC.heap.size]? = some (.cells (arrI kl fun _ => 0) 3) := heap_alloc_at _ _ rfl
          have hsrc : ∀ (j : Nat) v, (rowN (fun j => (below (hOf F kl) m j : Int)) kl)[j]? = some v → (wC.alloc (.cells (arrI kl fun _ => 0) 3)).cell? ((⟨wA.heap.size, 0, none⟩ : Addr).add j) = some v := fun j v hv => by
            have hj : j < kl := by
              have := (List.getElem?_eq_some_iff.1 hv).1
              simpa [rowN] using this
            rw [rowN_get hj] at hv
            cases hv
            have hc : (wC.alloc (.cells (arrI kl fun _ => 0) 3)).cell? ⟨wA.heap.size, j, none⟩ = some (.int .i64 (below (hOf F kl) m j : Int)) := (World.cell?_of_block (heap_alloc_lt _ _ hsC)).trans (cell_of_heap hfb (arrI_get (by omega)))
            by_cases hj0 : j = 0
            · subst hj0; simpa [Addr.add] using hc
            · simpa [Addr.add, hj0] using hc
          have hcp := copy_run (c := kl + 1) hfz hsrc
          have HB := hideIt (And.intro hfb (And.intro hbC (And.intro hsC hfz)))
          have t1 : (0 : Int) ≤ (kl : Int) := by omega
          have t2 : (kl : Int) ≤ (kl : Int) + 1 := by omega
          clear hfz hsrc hfb hbC hsC
          go_upto_region 36 with (fail)
          clear hcp hmk hmk2 t1 t2
          have hTs : (setBlock (wC.alloc (.cells (arrI kl fun _ => 0) 3)) wC.heap.size (.cells (arrI kl (fun j => (below (hOf F kl) m j : Int))) 3)).heap.size = wC.heap.size + 1 := by rw [size_setBlock]; simp
          rw [hTs]
          have h50 : Rel5 m kl wC.heap.size (wC.heap.size + 1) (hOf F kl) (tOf T kl) wC m (.int .i64 0) ((setBlock (wC.alloc (.cells (arrI kl fun _ => 0) 3)) wC.heap.size (.cells (arrI kl (fun j => (below (hOf F kl) m j : Int))) 3)).alloc (.cells (arrI m fun _ => 0) 3)) :=
            ⟨0, below (hOf F kl) m, fun _ => 0, by simp, rfl, placed_start _ _ _ _ _ _ (fun u _ => rfl), (heap_alloc_lt _ _ (by rw [hTs]; omega)).trans (heap_setBlock_at _ (by simp)), heap_alloc_at _ _ hTs.symm, (below_setBlock ((Below.refl _ wC).alloc (Nat.le_refl _) _) (Nat.le_refl _) _).alloc (by rw [hTs]; omega) _⟩
          clear hTs
          generalize ((setBlock (wC.alloc (.cells (arrI kl fun _ => 0) 3)) wC.heap.size (.cells (arrI kl (fun j => (below (hOf F kl) m j : Int))) 3)).alloc (.cells (arrI m fun _ => 0) 3)) = w5 at h50 ⊢
          go_upto_block 8 with (fail)
          go_cut [21, 22] from 158 to 179 (fun _ _ w6 => ∃ tg, Placed (hOf F kl) (tOf T kl) m kl m (fun u => below (hOf F kl) m (u + 1)) tg ∧ w6.heap[wC.heap.size + 1]? = some (.cells (arrI m tg) 3) ∧ Below wC.heap.size wC w6)
          case first =>
            as_aux_lemma =>
              go_wp2
              go_loopg [158] m (Rel5 m kl wC.heap.size (wC.heap.size + 1) (hOf F kl) (tOf T kl) wC)
              case atStart => exact h50
              case round =>
                clear h50
                obtain ⟨i, pos, tg, hi, rfl, hP, hpb, htb, hbel⟩ := hrel
                obtain ⟨hcut, hHl, hTl⟩ := HC.out
                obtain ⟨hfb, hbC, hsC, _⟩ := HB.out
                cases gk with
                | zero =>
                  have ei : i = m := by omega
                  have t2 : ¬ ((i : Int) < (m : Int)) := by omega
                  have HR := hideIt (And.intro hP (And.intro htb (And.intro hbel ei)))
                  clear hi hpb htb hbel hcut hHl hTl hP ei hfb hbC hsC
                  go_wp2
                  go_meet
                  obtain ⟨hP, htb, hbel, ei⟩ := HR.out
                  subst ei
                  refine ⟨tg, ⟨fun u hu => rfl, fun u p hu h1 h2 => hP.from_ u p hu h1 (by rw [hP.at_ u hu]; exact h2), fun j hj => ?_⟩, htb, hbel⟩
                  obtain ⟨p, q1, q2, q3⟩ := hP.to_ j hj
                  exact ⟨p, q1, by rw [hP.at_ _ (HC.out.2.1 j hj)] at q2; exact q2, q3⟩
                | succ k =>
                  obtain ⟨hb, hcap, e, hb1, hb2, hb3⟩ := row_some hcut.h (by omega)
                  cases e
                  obtain ⟨tb, tcap, e, tb1, tb2, tb3⟩ := row_some hcut.t (by omega)
                  cases e
                  have hin := hHl i (by omega)
                  have hsz := hbC.size
                  have ch : wr.cell? ⟨hb, i, none⟩ = some (.int .i64 (hOf F kl i : Int)) := (hbel.cell (p := ⟨hb, i, none⟩) (by show hb < _; omega)).trans ((hbC.cell (p := ⟨hb, i, none⟩) hb2).trans (ownsRow_cell hcut.h (rowN_get (by omega))))
                  have ct : wr.cell? ⟨tb, i, none⟩ = some (.int .i64 (tOf T kl i)) := (hbel.cell (p := ⟨tb, i, none⟩) (by show tb < _; omega)).trans ((hbC.cell (p := ⟨tb, i, none⟩) tb2).trans (ownsRow_cell hcut.t (rowN_get (by omega))))
                  have hlt := hP.lt (by omega) hHl
                  have hPn := hP.next (by omega) hHl
                  obtain ⟨h, hh⟩ : ∃ h, h = hOf F kl i := ⟨_, rfl⟩
                  obtain ⟨p, hp⟩ : ∃ p, p = pos h := ⟨_, rfl⟩
                  rw [← hh] at ch hin hlt hPn
                  rw [← hp] at hlt hPn
                  have cp := cell_of_heap hpb (arrI_get hin)
                  rw [← hp] at cp
                  have fp : wr.frozen? ⟨wC.heap.size, h, none⟩ = false := frozen_of_heap hpb
                  have cg := cell_of_heap htb (arrI_get hlt)
                  have fg : wr.frozen? ⟨wC.heap.size + 1, p, none⟩ = false := frozen_of_heap htb
                  have hs1 := heap_set_at (o := p) (.int .i64 (tOf T kl i)) htb
                  rw [arrI_set] at hs1
                  have hs2 : ((wr.setCell ⟨wC.heap.size + 1, p, none⟩ (.int .i64 (tOf T kl i))).setCell ⟨wC.heap.size, h, none⟩ (.int .i64 ((p : Int) + 1))).heap[wC.heap.size + 1]? = some (.cells (arrI m (fup tg p (tOf T kl i))) 3) := (heap_set_ne _ _ (by omega)).trans hs1
                  have hs3 := heap_set_at (w := wr.setCell ⟨wC.heap.size + 1, p, none⟩ (.int .i64 (tOf T kl i))) (o := h) (.int .i64 ((p : Int) + 1)) ((heap_set_ne _ _ (by omega)).trans hpb)
                  rw [arrI_set] at hs3
                  have ef : fup (fun u => (pos u : Int)) h ((p : Int) + 1) = fun u => ((fup pos h (p + 1) u : Nat) : Int) := by funext u; unfold fup; split <;> rfl
                  rw [ef] at hs3
                  have hb5 : Below wC.heap.size wC ((wr.setCell ⟨wC.heap.size + 1, p, none⟩ (.int .i64 (tOf T kl i))).setCell ⟨wC.heap.size, h, none⟩ (.int .i64 ((p : Int) + 1))) := (hbel.setCell (by show wC.heap.size ≤ wC.heap.size + 1; omega) _).setCell (Nat.le_refl _) _
                  have t2 : (i : Int) < (m : Int) := by omega
                  have t3 : (0 : Int) ≤ (i : Int) := by omega
                  have t4 : (i : Int) + 1 ≤ 9223372036854775807 := by omega
                  have t5 : (0 : Int) ≤ (h : Int) := by omega
                  have t6 : (h : Int) < (kl : Int) := by omega
                  have t7 : (0 : Int) ≤ (p : Int) := by omega
                  have t8 : (p : Int) < (m : Int) := by omega
                  have t9 : (p : Int) + 1 ≤ 9223372036854775807 := by omega
                  have HR := hideIt (And.intro hs2 (And.intro hs3 (And.intro hb5 (And.intro hi hPn))))
                  clear hs1 hs2 hs3 hb5 hi hPn hP hpb htb hbel hcut hHl hTl hfb hbC hsC hb1 hb2 hb3 tb1 tb2 tb3 hin hsz hlt ef hh hp
                  go_wp2
                  go_region
                  go_wp2
                  go_roundg k
                  case measure => exact Nat.lt_succ_self _
                  case rel =>
                    obtain ⟨hs2, hs3, hb5, hi, hPn⟩ := HR.out
                    exact ⟨i + 1, _, _, by omega, rfl, hPn, hs3, hs2, hb5.drew⟩
          case rest =>
            clear h50
            obtain ⟨wD, hwD⟩ : ∃ x, x = wc := ⟨_, rfl⟩
            subst hwD
            obtain ⟨tg, hP, htb, hbD⟩ := hcut
            obtain ⟨hfb, hbC, hsC, _⟩ := HB.out
            have hfD : wD.heap[wA.heap.size]? = some (.cells (arrI (kl + 1) (fun j => (below (hOf F kl) m j : Int))) 3) := (hbD.block _ hsC).trans hfb
            have cl1 := fun w' (hb : Below wD.heap.size wD w') => clone_int (c := m) (show w'.heap[wC.heap.size + 1]? = _ from (hb.block _ (lt_of_heap htb)).trans htb) (Nat.le_refl m) (by omega)
            have cl2 := fun w' (hb : Below wD.heap.size wD w') => clone_int (c := kl + 1) (show w'.heap[wA.heap.size]? = _ from (hb.block _ (lt_of_heap hfD)).trans hfD) (Nat.le_refl (kl + 1)) (by omega)
            have hb0 : Below wD.heap.size wD (wD.alloc (.cells #[.slice (some ⟨wC.heap.size + 1, 0, none⟩) m m, .slice (some ⟨wA.heap.size, 0, none⟩) (kl + 1) (kl + 1)] 30)) := (Below.refl _ _).alloc (Nat.le_refl _) _
            have C1 := hideIt cl1
            have C2 := hideIt cl2
            have HB0 := hideIt hb0
            have HD := hideIt (And.intro hP (And.intro htb (And.intro hbD hfD)))
            clear cl1 cl2 hb0 hP htb hbD hfD hfb hbC hsC
            go_upto_region 44 with (go_at_call 4; (go_must (refine (C1.out _ HB0.out).mono ?_; rintro e w7 ⟨v1, rfl, hr1, hb7⟩; have HB7 := hideIt (HB0.out.trans (hb7.mono HB0.out.size)); have HR1 := hideIt (And.intro hr1 hb7); clear hr1 hb7)))
            go_upto_region 45 with (go_at_call 4; go_must (refine (C2.out _ HB7.out).mono ?_; rintro e w8 ⟨v2, rfl, hr2, hb8⟩; have HR2 := hideIt (And.intro hr2 hb8); clear hr2 hb8))
            have hmk := fun w => make24 w kl (by omega)
            have hmk2 := fun w => make33 w kl (by omega)
            go_upto_block 10 with (fail)
            clear hmk hmk2
            have h60 : Rel6 kl K w8.heap.size w8 kl (.slice none 0 0) (.slice none 0 0) (.slice (some ⟨w8.heap.size, 0, none⟩) 0 kl) (.int .i64 0) ((w8.alloc (.cells (madeCells #[.int .i64 0, .int .i64 0] (kl * 2)) 35)).alloc (.cells (arrI kl fun _ => 0) 3)) :=
              ⟨0, by simp, rfl, World.ownsRow_nil _ _ _ _, World.ownsRow_nil _ _ _ _, own_alloc (World.ownsRow_made w8 _ kl (Nat.le_refl _) (by unfold maxLen; omega) (by rw [size_madeCells])) _, heap_alloc_at _ _ (by simp), ((Below.refl _ w8).alloc (Nat.le_refl _) _).alloc (by simp) _, by simp; omega, by simp⟩
            generalize ((w8.alloc (.cells (madeCells #[.int .i64 0, .int .i64 0] (kl * 2)) 35)).alloc (.cells (arrI kl fun _ => 0) 3)) = w9 at h60 ⊢
            have HW8 : Hid (Below W.heap.size W w8 ∧ W.heap.size ≤ w8.heap.size) := hideIt (by
              obtain ⟨q1, _, _⟩ := HC.out
              obtain ⟨_, q2, q3, _⟩ := HB.out
              obtain ⟨_, _, q4, _⟩ := HD.out
              have q5 := HB7.out
              have q6 := HR2.out.2
              have e1 := q2.size
              have e2 := q4.size
              have e3 := q5.size
              have e4 := q6.size
              exact ⟨q1.bel.trans ((q2.mono hcs).trans ((q4.mono (by omega)).trans ((q5.mono (by omega)).trans (q6.mono (by omega))))), by omega⟩)
            go_cut [26, 27, 28, 30, 31, 32] from 193 to 238 (fun bv ov pv _ _ _ w => Rows3 w8.heap.size w8 (bufAt K kl) (oddAt K kl) kl (pairs K kl) (arrI kl (fun j => if j < kl then ((bufAt K j).length : Int) else 0)) bv ov pv w)
            case first =>
              as_aux_lemma =>
                clear HR1 HR2 HB7 HD
                go_wp2
                go_loopg [26, 27, 28, 193] kl (Rel6 kl K w8.heap.size w8)
                case atStart => exact h60
                case round =>
                  clear h60
                  obtain ⟨i, hi, rfl, hrw⟩ := hrel
                  cases gk with
                  | zero =>
                    have ei : i = kl := by omega
                    subst ei
                    have t2 : ¬ ((i : Int) < (i : Int)) := by omega
                    have HR := hideIt hrw
                    clear hi hrw
                    go_wp2
                    go_meet
                    exact HR.out
                  | succ k =>
                    obtain ⟨b, o, rfl, hb, hc⟩ := hK.cell i (by omega)
                    have hbW : Below W.heap.size W wr := HW8.out.1.trans (hrw.bel.mono HW8.out.2)
                    have cK : wr.cell? ⟨b, o + i, none⟩ = some (.string ⟨(K i).toArray⟩) := (hbW.cell (p := ⟨b, o + i, none⟩) hb).trans hc
                    have hsz : (ByteArray.mk (K i).toArray).size = (K i).length := by simp [ByteArray.size]
                    have hil : i < kl := by omega
                    have hkl1 := key_len (K := K) hil
                    have hbl := buf_len K i
                    have htm := tot_mono K (Nat.le_of_lt hil)
                    have hca : wr.cell? ⟨w8.heap.size + 1, i, none⟩ = some (.int .i64 0) := cell_of_heap hrw.a (by rw [arrI_get hil, if_neg (by omega)])
                    have hfa : wr.frozen? ⟨w8.heap.size + 1, i, none⟩ = false := frozen_of_heap hrw.a
                    obtain ⟨ba, bc, rfl⟩ := row_form hrw.b
                    obtain ⟨oa, oc, rfl⟩ := row_form hrw.o
                    obtain ⟨pa, pc, rfl⟩ := row_form hrw.p
                    have t1 : (i : Int) < (kl : Int) := by omega
                    have t3 : (0 : Int) ≤ (i : Int) := by omega
                    have t4 : (i : Int) + 1 ≤ 9223372036854775807 := by omega
                    have hR1 := hrw.setAt i (.int .i64 ((bufAt K i).length : Int))
                    rw [at_step kl (fun j => ((bufAt K j).length : Int)) i] at hR1
                    have hLim : (bufAt K i).length + (K i).length + 3 ≤ 3000000 := by omega
                    have hol := odd_len K i
                    have hLimO : (oddAt K i).length + 1 ≤ 300 := by omega
                    obtain ⟨M, hM⟩ : ∃ M, M = (bufAt K i).length := ⟨_, rfl⟩
                    have HI := hideIt (And.intro hi (And.intro hM (And.intro hLim (And.intro hLimO (And.intro hol hil)))))
                    have HR := hideIt hR1
                    rw [← hM] at hLim
                    obtain ⟨i5, hi5, hz5, hs5, hy5⟩ := info_parts info5
                    obtain ⟨i35, hi35, hz35, hs35, hy35⟩ := info_parts info35
                    obtain ⟨i9, hi9, hz9, hs9, hy9⟩ := info_parts info9
                    by_cases hev : i % 2 = 0
                    · have t5 : (i : Int).tmod 2 = 0 := by rw [Int.tmod_eq_emod_of_nonneg t3]; omega
                      have HEV := hideIt hev
                      clear hev hi hR1 hrw hbW hkl1 hbl htm hol hLimO hb hc hM
                      go_upto_region 55 with (fail)
                      clear hca hfa cK t5 t1 t3
                      generalize wr.setCell ⟨w8.heap.size + 1, i, none⟩ (.int .i64 ((bufAt K i).length : Int)) = w1 at HR ⊢
                      go_upto_region 56 with (at_builtin; go_must (refine wpList_append_own _ rfl _ _ 32 rfl w8.heap.size 5 i5 (.int .u8 0) 1 1 Ybad.underlying32 hi5 hz5 hs5 hy5 rfl (by decide) (.slice ba (bufAt K i).length bc) (bufAt K i).length (byteCells (bufAt K i)) rfl (HR.out.alloc _).b ⟨w1.heap.size, 0, none⟩ 1 1 [.int .u8 34] rfl rfl (World.news_of_block (cs := #[.int .u8 34]) (t := 5) (fr := (0, 0)) (heap_alloc_at _ _ rfl)) (by simp [Value.oneCell']) (by have := HI.out.2.2.1; unfold maxLen; omega) (by have := HI.out.2.2.1; omega) (HR.out.alloc _).le ?_; intro v2 w2 hr2 hg2 _))
                      have H2 := hideIt ((HR.out.alloc _).growB hr2 hg2 (bufAt K i ++ [34]) (by simp) (by rw [byteCells_append]; rfl))
                      obtain ⟨a2, c2, rfl⟩ := row_form hr2
                      clear hr2 hg2 HR
                      go_upto_region 57 with (at_builtin; go_must (refine wpList_append_own_string _ rfl _ _ 32 9 rfl w8.heap.size 5 i5 Ybad.underlying32 Ybad.underlying9 hi5 hz5 hs5 hy5 (.slice a2 ((bufAt K i).length + 1) c2) ((bufAt K i).length + 1) (byteCells (bufAt K i ++ [34])) rfl (by have := H2.out.b; rwa [List.length_append] at this) ⟨(K i).toArray⟩ rfl (by have := HI.out.2.2.1; rw [hsz]; unfold maxLen; omega) (by have := HI.out.2.2.1; rw [hsz]; omega) H2.out.le ?_; intro v3 w3 hr3 hg3 _))
                      rw [hsz] at hr3
                      have H3 := hideIt (H2.out.growB hr3 hg3 (bufAt K i ++ [34] ++ K i) (by rw [List.length_append, List.length_append]; rfl) (by rw [byteCells_append (bufAt K i ++ [34])]; rfl))
                      obtain ⟨a3, c3, rfl⟩ := row_form hr3
                      clear hr3 hg3 H2
                      go_upto_region 58 with (at_builtin; go_must (refine wpList_append_own _ rfl _ _ 32 rfl w8.heap.size 5 i5 (.int .u8 0) 1 1 Ybad.underlying32 hi5 hz5 hs5 hy5 rfl (by decide) (.slice a3 ((bufAt K i).length + 1 + (K i).length) c3) ((bufAt K i).length + 1 + (K i).length) (byteCells (bufAt K i ++ [34] ++ K i)) rfl (by have := (H3.out.alloc (.cells #[.int .u8 34, .int .u8 44] 5)).b; rwa [List.length_append, List.length_append] at this) ⟨w3.heap.size, 0, none⟩ 2 2 [.int .u8 34, .int .u8 44] rfl rfl (World.news_of_block (cs := #[.int .u8 34, .int .u8 44]) (t := 5) (fr := (0, 0)) (heap_alloc_at _ _ rfl)) (by simp [Value.oneCell']) (by have := HI.out.2.2.1; unfold maxLen; omega) (by have := HI.out.2.2.1; omega) (H3.out.alloc _).le ?_; intro v4 w4 hr4 hg4 _))
                      have H4 := hideIt ((H3.out.alloc _).growB hr4 hg4 (bufAt K (i + 1)) (by rw [buf_even HEV.out]; simp; omega) (by rw [buf_even HEV.out, show bufAt K i ++ 34 :: (K i ++ [34, 44]) = bufAt K i ++ [34] ++ K i ++ [34, 44] by simp, byteCells_append (bufAt K i ++ [34] ++ K i)]; rfl))
                      obtain ⟨a4, c4, rfl⟩ := row_form hr4
                      clear hr4 hg4 H3
                      have t6 : ((bufAt K i).length : Int) + 1 + ((K i).length : Int) ≤ 9223372036854775807 := by have := HI.out.2.2.1; omega
                      have t7 : ((bufAt K i).length : Int) + 1 ≤ 9223372036854775807 := by have := HI.out.2.2.1; omega
                      have t8 : (0 : Int) ≤ ((bufAt K i).length : Int) + 1 := by omega
                      have t9 : (0 : Int) ≤ ((bufAt K i).length : Int) + 1 + ((K i).length : Int) := by omega
                      go_upto_region 61 with (at_builtin; go_must (refine wpList_append_own _ rfl _ _ 33 rfl w8.heap.size 35 i35 (.agg #[.int .i64 0, .int .i64 0]) 2 16 Ybad.underlying33 hi35 hz35 hs35 hy35 rfl (by decide) (.slice pa i pc) i (pairs K i) rfl (H4.out.alloc _).p ⟨w4.heap.size, 0, none⟩ 1 1 [.int .i64 ((bufAt K i).length : Int), .int .i64 (((bufAt K i).length : Int) + 1 + ((K i).length : Int))] rfl rfl (World.news_of_block (cs := #[.int .i64 ((bufAt K i).length : Int), .int .i64 (((bufAt K i).length : Int) + 1 + ((K i).length : Int))]) (t := 35) (fr := (0, 0)) (heap_alloc_at _ _ rfl)) (by simp [Value.oneCell']) (by have := HI.out.2.2.2.2.2; unfold maxLen; omega) (by have := HI.out.2.2.2.2.2; omega) (H4.out.alloc _).le ?_; intro v5 w5 hr5 hg5 hn5))
                      have H5 := hideIt ((H4.out.alloc _).growP hr5 hg5 (fun e => by have := (hn5.1 e).2; omega))
                      clear hr5 hg5 hn5 H4 t6 t7 t8 t9
                      go_wp2
                      go_roundg k
                      case measure => exact Nat.lt_succ_self _
                      case rel =>
                        refine ⟨i + 1, by have := HI.out.1; omega, rfl, ?_⟩
                        have h5 := H5.out
                        rw [odd_even HEV.out, pairs, show endAt K i = ((bufAt K i).length : Int) + 1 + ((K i).length : Int) by unfold endAt; rw [if_pos HEV.out]]
                        exact h5
                    · have t5 : (i : Int).tmod 2 = 1 := by rw [Int.tmod_eq_emod_of_nonneg t3]; omega
                      have HEV := hideIt hev
                      clear hev hi hR1 hrw hbW hkl1 hbl htm hol hLimO hb hc hM
                      go_upto_region 59 with (fail)
                      clear hca hfa cK t5 t1 t3
                      generalize wr.setCell ⟨w8.heap.size + 1, i, none⟩ (.int .i64 ((bufAt K i).length : Int)) = w1 at HR ⊢
                      go_upto_region 60 with (at_builtin; go_must (refine wpList_append_own _ rfl _ _ 22 rfl w8.heap.size 9 i9 (.string ⟨#[]⟩) 1 16 Ybad.underlying22 hi9 hz9 hs9 hy9 rfl (by decide) (.slice oa (oddAt K i).length oc) (oddAt K i).length (strs (oddAt K i)) rfl (HR.out.alloc _).o ⟨w1.heap.size, 0, none⟩ 1 1 [.string ⟨(K i).toArray⟩] rfl rfl (World.news_of_block (cs := #[.string ⟨(K i).toArray⟩]) (t := 9) (fr := (0, 0)) (heap_alloc_at _ _ rfl)) (by simp [Value.oneCell']) (by have := HI.out.2.2.2.1; unfold maxLen; omega) (by have := HI.out.2.2.2.1; omega) (HR.out.alloc _).le ?_; intro v2 w2 hr2 hg2 _))
                      have H2 := hideIt ((HR.out.alloc _).growO hr2 hg2 (oddAt K (i + 1)) (by rw [odd_odd HEV.out]; simp) (by rw [odd_odd HEV.out]; simp [strs]))
                      obtain ⟨a2, c2, rfl⟩ := row_form hr2
                      clear hr2 hg2 HR
                      have t6 : ((oddAt K i).length : Int) + 1 ≤ 9223372036854775807 := by have := HI.out.2.2.2.1; omega
                      have t7 : (0 : Int) ≤ ((oddAt K i).length : Int) + 1 := by omega
                      have t8 : -9223372036854775808 ≤ -(((oddAt K i).length : Int) + 1) := by have := HI.out.2.2.2.1; omega
                      have t9 : -(((oddAt K i).length : Int) + 1) ≤ 9223372036854775807 := by omega
                      go_upto_region 61 with (at_builtin; go_must (refine wpList_append_own _ rfl _ _ 33 rfl w8.heap.size 35 i35 (.agg #[.int .i64 0, .int .i64 0]) 2 16 Ybad.underlying33 hi35 hz35 hs35 hy35 rfl (by decide) (.slice pa i pc) i (pairs K i) rfl (H2.out.alloc _).p ⟨w2.heap.size, 0, none⟩ 1 1 [.int .i64 ((bufAt K i).length : Int), .int .i64 (-(((oddAt K i).length : Int) + 1))] rfl rfl (World.news_of_block (cs := #[.int .i64 ((bufAt K i).length : Int), .int .i64 (-(((oddAt K i).length : Int) + 1))]) (t := 35) (fr := (0, 0)) (heap_alloc_at _ _ rfl)) (by simp [Value.oneCell']) (by have := HI.out.2.2.2.2.2; unfold maxLen; omega) (by have := HI.out.2.2.2.2.2; omega) (H2.out.alloc _).le ?_; intro v5 w5 hr5 hg5 hn5))
                      have H5 := hideIt ((H2.out.alloc _).growP hr5 hg5 (fun e => by have := (hn5.1 e).2; omega))
                      clear hr5 hg5 hn5 H2 t6 t7 t8 t9
                      go_wp2
                      go_roundg k
                      case measure => exact Nat.lt_succ_self _
                      case rel =>
                        refine ⟨i + 1, by have := HI.out.1; omega, rfl, ?_⟩
                        have h5 := H5.out
                        rw [buf_odd HEV.out, pairs, show endAt K i = -(((oddAt K i).length : Int) + 1) by unfold endAt; rw [if_neg HEV.out, odd_len]; omega]
                        exact h5
            case rest =>
              clear h60
              obtain ⟨wE, hwE⟩ : ∃ x, x = wc := ⟨_, rfl⟩
              subst hwE
              obtain ⟨ba, bc, rfl⟩ := row_form hcut.b
              obtain ⟨oa, oc, rfl⟩ := row_form hcut.o
              obtain ⟨pa, pc, rfl⟩ := row_form hcut.p
              have hcv := convert_any hcut.b
              have hol := odd_len K kl
              have cl5 := clone_pairs hcut.p (by omega) (pairs_one K kl)
              have cl6 := fun w' (hb : Below wE.heap.size wE w') => clone_strs (ownsRow_kept hcut.o (fun k hk => hb.block k (own_ge hcut.o hk).2)) (by omega)
              have C5 := hideIt cl5
              have C6 := hideIt cl6
              have HE := hideIt hcut
              clear cl5 cl6 hcut hol
              go_upto_region 64 with (go_at_call 5; go_must (refine C5.out.mono ?_; rintro e wF ⟨v5, rfl, hr5, hbF⟩; have HR5 := hideIt (And.intro hr5 hbF); clear hr5 hbF))
              go_upto_region 65 with (go_at_call 6; go_must (refine (C6.out _ HR5.out.2).mono ?_; rintro e wG ⟨v6, rfl, hr6, hbG⟩; have HR6 := hideIt (And.intro hr6 hbG); clear hr6 hbG))
              clear hcv
              go_upto_region 69 with (fail)
              have hD0 := hideIt (done_start hcs HC.out.1 HB.out.2.1 HD.out.2.1 HD.out.2.2.1 HD.out.2.2.2 HR1.out.1 HR1.out.2 HR2.out.1 HR2.out.2 HE.out HR5.out.1 HR5.out.2 HR6.out.1 HR6.out.2 (a1 := #[.string ⟨(bufAt K kl).toArray⟩, .slice pa kl pc, .slice oa (oddAt K kl).length oc, .slice none 0 0, .int .u64 0, .int .i64 0, .int .u64 0, .pointer none])
                (a2 := #[.string ⟨(bufAt K kl).toArray⟩, .slice pa kl pc, .slice oa (oddAt K kl).length oc, .slice none 0 0, .int .u64 0, .int .i64 0, .int .u64 0, .pointer none, .int .u8 0, .int .i64 0, .bool false, .slice none 0 0, .slice none 0 0, .slice none 0 0, .slice none 0 0, .bool false, .slice none 0 0, .slice none 0 0, .slice none 0 0, .string ⟨#[]⟩, .pointer none, .int .i64 0, .slice none 0 0, .slice none 0 0, .slice none 0 0, .slice none 0 0, .int .i64 0, .bool false, .bool false, .slice none 0 0, .int .i64 0])
                (a3 := #[.pointer (some ⟨wG.heap.size + 1 + 1, 1, none⟩), .pointer (some ⟨wG.heap.size + 1 + 1 + 1, 0, none⟩), .slice none 0 0, .slice none 0 0, .slice none 0 0, .int .u8 0, .string ⟨#[]⟩, .bool false, .pointer (some ⟨wG.heap.size + 1, 0, none⟩), .pointer none, .slice none 0 0, .int .i64 0, .pointer none, .int .i64 0, .bool false, .int .i64 0, .string ⟨#[]⟩, .string ⟨#[]⟩, .bool false, .int .i64 0, .slice none 0 0, .slice none 0 0, .bool false, .slice none 0 0, .int .i64 0, .slice none 0 0, .int .i64 0, .slice none 0 0])
                (a4 := #[.string ⟨(bufAt K kl).toArray⟩, .slice none 0 0, .bool false]) rfl rfl rfl rfl rfl rfl rfl rfl rfl rfl)
              have hCb := hideIt (show ((((wG.alloc (.cells #[.string ⟨(bufAt K kl).toArray⟩, .slice pa kl pc, .slice oa (oddAt K kl).length oc, .slice none 0 0, .int .u64 0, .int .i64 0, .int .u64 0, .pointer none] 47)).alloc (.cells #[.string ⟨(bufAt K kl).toArray⟩, .slice pa kl pc, .slice oa (oddAt K kl).length oc, .slice none 0 0, .int .u64 0, .int .i64 0, .int .u64 0, .pointer none, .int .u8 0, .int .i64 0, .bool false, .slice none 0 0, .slice none 0 0, .slice none 0 0, .slice none 0 0, .bool false, .slice none 0 0, .slice none 0 0, .slice none 0 0, .string ⟨#[]⟩, .pointer none, .int .i64 0, .slice none 0 0, .slice none 0 0, .slice none 0 0, .slice none 0 0, .int .i64 0, .bool false, .bool false, .slice none 0 0, .int .i64 0] 56)).alloc (.cells #[.pointer (some ⟨wG.heap.size + 1 + 1, 1, none⟩), .pointer (some ⟨wG.heap.size + 1 + 1 + 1, 0, none⟩), .slice none 0 0, .slice none 0 0, .slice none 0 0, .int .u8 0, .string ⟨#[]⟩, .bool false, .pointer (some ⟨wG.heap.size + 1, 0, none⟩), .pointer none, .slice none 0 0, .int .i64 0, .pointer none, .int .i64 0, .bool false, .int .i64 0, .string ⟨#[]⟩, .string ⟨#[]⟩, .bool false, .int .i64 0, .slice none 0 0, .slice none 0 0, .bool false, .slice none 0 0, .int .i64 0, .slice none 0 0, .int .i64 0, .slice none 0 0] 72)).alloc (.cells #[.string ⟨(bufAt K kl).toArray⟩, .slice none 0 0, .bool false] 74)).heap[wG.heap.size + 1 + 1]? = _ from (heap_alloc_lt _ _ (by simp)).trans (heap_alloc_at _ _ (by simp)))
              generalize ((((wG.alloc (.cells #[.string ⟨(bufAt K kl).toArray⟩, .slice pa kl pc, .slice oa (oddAt K kl).length oc, .slice none 0 0, .int .u64 0, .int .i64 0, .int .u64 0, .pointer none] 47)).alloc (.cells #[.string ⟨(bufAt K kl).toArray⟩, .slice pa kl pc, .slice oa (oddAt K kl).length oc, .slice none 0 0, .int .u64 0, .int .i64 0, .int .u64 0, .pointer none, .int .u8 0, .int .i64 0, .bool false, .slice none 0 0, .slice none 0 0, .slice none 0 0, .slice none 0 0, .bool false, .slice none 0 0, .slice none 0 0, .slice none 0 0, .string ⟨#[]⟩, .pointer none, .int .i64 0, .slice none 0 0, .slice none 0 0, .slice none 0 0, .slice none 0 0, .int .i64 0, .bool false, .bool false, .slice none 0 0, .int .i64 0] 56)).alloc (.cells #[.pointer (some ⟨wG.heap.size + 1 + 1, 1, none⟩), .pointer (some ⟨wG.heap.size + 1 + 1 + 1, 0, none⟩), .slice none 0 0, .slice none 0 0, .slice none 0 0, .int .u8 0, .string ⟨#[]⟩, .bool false, .pointer (some ⟨wG.heap.size + 1, 0, none⟩), .pointer none, .slice none 0 0, .int .i64 0, .pointer none, .int .i64 0, .bool false, .int .i64 0, .string ⟨#[]⟩, .string ⟨#[]⟩, .bool false, .int .i64 0, .slice none 0 0, .slice none 0 0, .bool false, .slice none 0 0, .int .i64 0, .slice none 0 0, .int .i64 0, .slice none 0 0] 72)).alloc (.cells #[.string ⟨(bufAt K kl).toArray⟩, .slice none 0 0, .bool false] 74)) = wH0 at hD0 hCb ⊢
              have hCall := hideIt (show _ from by
                have q1 := HC.out.1.bel.size
                have q2 := HB.out.2.1.size
                have q2' := HB.out.2.2.1
                have q3 := HD.out.2.2.1.size
                have q3' := lt_of_heap HD.out.2.1
                have q4 := HB7.out.size
                have q4' : wD.heap.size + 1 ≤ w7.heap.size := by have := HR1.out.2.size; simpa using this
                have q5 := HR2.out.2.size
                have q6 := HE.out.bel.size
                have q6' := lt_of_heap HE.out.a
                have q7 := HR5.out.2.size
                have q8 := HR6.out.2.size
                have q9 := lt_of_heap hCb.out
                exact done_call hD0.out HD.out.1 HC.out.2.1 HC.out.2.2 (fun j hj => (hD0.out.bel.cell (p := ⟨2, j, none⟩) hW).trans (hTab j hj)) (by omega) (by omega) hCb.out HE.out.np hkl2 hmr htl2 (by omega) (by omega) (by omega) (by omega) (by omega) (by omega) (by omega) (by omega) (by omega))
              have g0 := hD0.out.g0
              have g1 := hD0.out.g1
              go_upto_region 70 with (go_at_call 7; go_must (refine hCall.out.mono ?_; rintro e wH ⟨rfl, gv, hdone, hsz, hgot⟩; have HDone := hideIt (And.intro hdone hgot); clear hdone hsz hgot))
              obtain ⟨HP, hHl, hTl⟩ : ∃ _ : Hid (Placed (hOf F kl) (tOf T kl) m kl m (fun u => below (hOf F kl) m (u + 1)) tg), Hid (∀ i, i < m → hOf F kl i < kl) ∧ Hid (∀ i v : Nat, i < m → tOf T kl i = (v : Int) → v < kl) := ⟨HD.out.1, HC.out.2.1, HC.out.2.2⟩
              clear g0 g1 hCall hCb hD0 HE HR5 HR6 HR1 HR2 HB7 HD HB0 C1 C2 C5 C6 HC HB HW8 hcs
              generalize wG.heap.size = Cn at HDone ⊢
              have HEe := hideIt (And.intro (fun u v => HP.out.edge hHl.out u v) (fun u v (e : (made (hOf F kl) m kl tg).E u v) => (show v < kl from (HP.out.ok hHl.out hTl.out).E_lt e)))
              generalize (made (hOf F kl) m kl tg).E = E at HDone HEe
              generalize wD.heap.size = Gb at HDone ⊢
              generalize wC.heap.size + 1 = Tb at HDone ⊢
              generalize wA.heap.size = Fb at HDone ⊢
              generalize w8.heap.size + 1 = Ab at HDone ⊢
              clear HP
              obtain ⟨N, hN⟩ : ∃ N, N = kl * kl := ⟨_, rfl⟩
              have hN4 : N ≤ 40000 := by rw [hN]; exact Nat.le_trans (Nat.mul_le_mul hkl2 hkl2) (by decide)
              have eN : (kl : Int) * (kl : Int) = (N : Int) := by rw [hN]; exact (Int.natCast_mul kl kl).symm
              have hmk := fun w => make76 w N (by omega)
              have t1 : (0 : Int) ≤ (N : Int) := by omega
              have t2 : (N : Int) ≤ 9223372036854775807 := by omega
              have HN := hideIt (And.intro hN hN4)
              clear hN hN4
              go_upto_block 12 with (fail)
              clear hmk eN t1 t2
              have h70 : Rel7 m kl wH.heap.size (hOf F kl) (tOf T kl) wH m (.int .i64 0) (wH.alloc (.cells (arrB N fun _ => false) 4)) := ⟨0, by simp, rfl, by rw [HN.out.1]; exact heap_alloc_at _ _ rfl, (Below.refl _ _).alloc (Nat.le_refl _) _⟩
              generalize (wH.alloc (.cells (arrB N fun _ => false) 4)) = wH1 at h70 ⊢
              go_cut [39, 40] from 276 to 296 (fun _ _ w => w.heap[wH.heap.size]? = some (.cells (arrB (kl * kl) (matF kl (st0 (hOf F kl) (tOf T kl) m))) 4) ∧ Below wH.heap.size wH w)
              case first =>
                as_aux_lemma =>
                  go_wp2
                  go_loopg [276] m (Rel7 m kl wH.heap.size (hOf F kl) (tOf T kl) wH)
                  case atStart => exact h70
                  case round =>
                    clear h70
                    obtain ⟨i, hi, rfl, hmb, hbel⟩ := hrel
                    cases gk with
                    | zero =>
                      have ei : i = m := by omega
                      have t1 : ¬ ((i : Int) < (m : Int)) := by omega
                      have HR := hideIt (And.intro hmb (And.intro hbel ei))
                      clear hi hmb hbel ei
                      go_wp2
                      go_meet
                      obtain ⟨q1, q2, q3⟩ := HR.out
                      rw [← q3]
                      rw [q3] at q1 ⊢
                      exact ⟨q1, q2⟩
                    | succ k =>
                      obtain ⟨hb, hcap, e, _, hb2, _⟩ := row_some HDone.out.1.h (by omega)
                      cases e
                      obtain ⟨tb, tcap, e, _, tb2, _⟩ := row_some HDone.out.1.t (by omega)
                      cases e
                      have ch : wr.cell? ⟨hb, i, none⟩ = some (.int .i64 (hOf F kl i : Int)) := cell_later hbel (ownsRow_cell HDone.out.1.h (rowN_get (by omega)))
                      have ct : wr.cell? ⟨tb, i, none⟩ = some (.int .i64 (tOf T kl i)) := cell_later hbel (ownsRow_cell HDone.out.1.t (rowN_get (by omega)))
                      have hin := hHl.out i (by omega)
                      obtain ⟨h, hh⟩ : ∃ h, h = hOf F kl i := ⟨_, rfl⟩
                      rw [← hh] at ch hin
                      have t1 : (i : Int) < (m : Int) := by omega
                      have t3 : (0 : Int) ≤ (i : Int) := by omega
                      have t4 : (i : Int) + 1 ≤ 9223372036854775807 := by omega
                      by_cases hT0 : tOf T kl i < 0
                      · rw [← st0_skip (H := hOf F kl) hT0] at hmb
                        have HR := hideIt (And.intro hmb (And.intro hbel hi))
                        have t5 : ¬ ((0 : Int) ≤ tOf T kl i) := by omega
                        generalize tOf T kl i = tz at ct t5
                        clear hi hmb hbel hT0 hh hin hb2 tb2
                        go_wp2
                        go_roundg k
                        case measure => exact Nat.lt_succ_self _
                        case rel => exact ⟨i + 1, by have := HR.out.2.2; omega, rfl, HR.out.1, HR.out.2.1⟩
                      · obtain ⟨t, ht⟩ : ∃ t : Nat, tOf T kl i = (t : Int) := ⟨(tOf T kl i).toNat, by omega⟩
                        have htl := hTl.out i t (by omega) ht
                        rw [ht] at ct
                        obtain ⟨q, hq⟩ : ∃ q, q = h * kl := ⟨_, rfl⟩
                        have eq : (h : Int) * (kl : Int) = (q : Int) := by rw [hq]; exact (Int.natCast_mul h kl).symm
                        have hlt : q + t < N := by rw [HN.out.1, hq]; exact mat_lt hin htl
                        have cg := cell_of_heap hmb (mat_get (st0 (hOf F kl) (tOf T kl) i) hin htl)
                        rw [← hq] at cg
                        have fg : wr.frozen? ⟨wH.heap.size, q + t, none⟩ = false := frozen_of_heap hmb
                        have hset := heap_set_at (o := h * kl + t) (.bool true) hmb
                        have es : upd (st0 (hOf F kl) (tOf T kl) i) h t true = st0 (hOf F kl) (tOf T kl) (i + 1) := by rw [hh]; exact st0_set ht
                        rw [mat_set _ hin htl true, es, ← hq] at hset
                        have hbs : Below wH.heap.size wH (wr.setCell ⟨wH.heap.size, q + t, none⟩ (.bool true)) := hbel.setCell (Nat.le_refl _) _
                        have hN4 := HN.out.2
                        have t5 : (0 : Int) ≤ (t : Int) := by omega
                        have t6 : (0 : Int) ≤ (q : Int) := by omega
                        have t7 : (q : Int) ≤ 9223372036854775807 := by omega
                        have t8 : (q : Int) + (t : Int) ≤ 9223372036854775807 := by omega
                        have t9 : (0 : Int) ≤ (q : Int) + (t : Int) := by omega
                        have t10 : (q : Int) + (t : Int) < (N : Int) := by omega
                        have t11 : ((q : Int) + (t : Int)).toNat = q + t := by omega
                        have HR := hideIt (And.intro hset (And.intro hbs hi))
                        clear hset hbs hi hmb hbel hT0 hh hin hb2 tb2 es hlt hN4 hq ht htl
                        go_wp2
                        go_roundg k
                        case measure => exact Nat.lt_succ_self _
                        case rel => exact ⟨i + 1, by have := HR.out.2.2; omega, rfl, HR.out.1, HR.out.2.1⟩
              case rest =>
                clear h70
                obtain ⟨wI0, hwI0⟩ : ∃ x, x = wc := ⟨_, rfl⟩
                subst hwI0
                have h80 : Rel8 E kl wH.heap.size wH kl (.int .i64 0) wI0 := ⟨0, by simp, rfl, st0 (hOf F kl) (tOf T kl) m, War.start (fun a b _ _ => st0_iff.trans (HEe.out.1 a b).symm) (fun a b e => (HEe.out.1 a b).2 (st0_iff.1 e)), hcut.1, hcut.2⟩
                clear hcut
                go_upto_block 14 with (fail)
                go_cut [41, 42, 43] from 297 to 335 (fun _ _ _ w => (∀ a b, a < kl → b < kl → w.cell? ⟨wH.heap.size, a * kl + b, none⟩ = some (.bool (clos E a b))) ∧ Below wH.heap.size wH w ∧ wH.heap.size < w.heap.size)
                case first =>
                  as_aux_lemma =>
                    go_wp2
                    go_loopg [41] kl (Rel8 E kl wH.heap.size wH)
                    case atStart => exact h80
                    case round =>
                      clear h80
                      obtain ⟨v, hv, rfl, R, hWar, hmb, hbel⟩ := hrel
                      cases gk with
                      | zero =>
                        have ev : v = kl := by omega
                        subst ev
                        have t1 : ¬ ((v : Int) < (v : Int)) := by omega
                        have HR := hideIt (And.intro hWar (And.intro hmb hbel))
                        clear hv hWar hmb hbel
                        go_wp2
                        go_meet
                        obtain ⟨q1, q2, q3⟩ := HR.out
                        refine ⟨fun a b ha hb => ?_, q3, lt_of_heap q2⟩
                        rw [← show R a b = clos E a b from Bool.eq_iff_iff.2 ((q1.done HEe.out.2 ha hb).trans (clos_iff E a b).symm)]
                        exact cell_of_heap q2 (mat_get R ha hb)
                      | succ k =>
                        have t1 : (v : Int) < (kl : Int) := by omega
                        have t2 : (v : Int) + 1 ≤ 9223372036854775807 := by omega
                        have t2' : (0 : Int) ≤ (v : Int) := by omega
                        have h90 : Rel9 E kl wH.heap.size v wH kl (.int .i64 0) wr := ⟨0, by simp, rfl, R, hWar, hmb, hbel⟩
                        have HV := hideIt hv
                        clear hv hWar hmb hbel
                        go_wp2
                        go_loopg [42] kl (Rel9 E kl wH.heap.size v wH)
                        case atStart => exact h90
                        case round =>
                          clear h90
                          obtain ⟨i, hi, rfl, R, hWar, hmb, hbel⟩ := hrel
                          cases gk with
                          | zero =>
                            have ei : i = kl := by omega
                            subst ei
                            have t3 : ¬ ((i : Int) < (i : Int)) := by omega
                            have HR := hideIt (And.intro hWar (And.intro hmb hbel))
                            clear hi hWar hmb hbel
                            go_wp2
                            go_roundg k
                            case measure => exact Nat.lt_succ_self _
                            case rel => exact ⟨v + 1, by have := HV.out; omega, rfl, R, HR.out.1.turn, HR.out.2⟩
                          | succ k9 =>
                            have hvl : v < kl := by have := HV.out; omega
                            have hil : i < kl := by omega
                            have t3 : (i : Int) < (kl : Int) := by omega
                            have t4 : (i : Int) + 1 ≤ 9223372036854775807 := by omega
                            have t5 : (0 : Int) ≤ (i : Int) := by omega
                            obtain ⟨q, hq⟩ : ∃ q, q = i * kl := ⟨_, rfl⟩
                            have eq : (i : Int) * (kl : Int) = (q : Int) := by rw [hq]; exact (Int.natCast_mul i kl).symm
                            have hlt : q + v < N := by rw [HN.out.1, hq]; exact mat_lt hil hvl
                            have cg := cell_of_heap hmb (mat_get R hil hvl)
                            rw [← hq] at cg
                            have hN4 := HN.out.2
                            have t6 : (0 : Int) ≤ (q : Int) := by omega
                            have t7 : (q : Int) ≤ 9223372036854775807 := by omega
                            have t8 : (q : Int) + (v : Int) ≤ 9223372036854775807 := by omega
                            have t9 : (0 : Int) ≤ (q : Int) + (v : Int) := by omega
                            have t10 : (q : Int) + (v : Int) < (N : Int) := by omega
                            have t11 : ((q : Int) + (v : Int)).toNat = q + v := by omega
                            cases hR : R i v with
                            | false =>
                              rw [hR] at cg
                              have HR := hideIt (And.intro (hWar.skip hvl hR) (And.intro hmb (And.intro hbel hi)))
                              clear hi hWar hmb hbel hR hlt hN4 hq hvl hil
                              go_wp2
                              go_roundg k9
                              case measure => exact Nat.lt_succ_self _
                              case rel => exact ⟨i + 1, by have := HR.out.2.2.2; omega, rfl, R, HR.out.1, HR.out.2.1, HR.out.2.2.1⟩
                            | true =>
                              rw [hR] at cg
                              have h100 : Rel10 E kl wH.heap.size v i wH kl (.int .i64 0) wr := ⟨0, by simp, rfl, R, hWar, hR, hmb, hbel⟩
                              have HI := hideIt (And.intro hi (And.intro hq (And.intro hvl hil)))
                              clear hi hWar hmb hbel hR hlt hN4 hq hvl hil
                              go_wp2
                              clear cg t8 t9 t10 t11
                              go_loopg [43] kl (Rel10 E kl wH.heap.size v i wH)
                              case atStart => exact h100
                              case round =>
                                clear h100
                                obtain ⟨j, hj, rfl, R, hWar, hRiv, hmb, hbel⟩ := hrel
                                cases gk with
                                | zero =>
                                  have ej : j = kl := by omega
                                  subst ej
                                  have t12 : ¬ ((j : Int) < (j : Int)) := by omega
                                  have HR := hideIt (And.intro hWar (And.intro hmb hbel))
                                  clear hj hWar hmb hbel hRiv
                                  go_wp2
                                  go_roundg k9
                                  case measure => exact Nat.lt_succ_self _
                                  case rel => exact ⟨i + 1, by have := HI.out.1; omega, rfl, R, HR.out.1.next, HR.out.2.1, HR.out.2.2⟩
                                | succ k10 =>
                                  obtain ⟨_, hq, hvl, hil⟩ := HI.out
                                  have hjl : j < kl := by omega
                                  have t12 : (j : Int) < (kl : Int) := by omega
                                  have t13 : (j : Int) + 1 ≤ 9223372036854775807 := by omega
                                  have t14 : (0 : Int) ≤ (j : Int) := by omega
                                  obtain ⟨p, hp⟩ : ∃ p, p = v * kl := ⟨_, rfl⟩
                                  have ep : (v : Int) * (kl : Int) = (p : Int) := by rw [hp]; exact (Int.natCast_mul v kl).symm
                                  have hlt : p + j < N := by rw [HN.out.1, hp]; exact mat_lt hvl hjl
                                  have hlt2 : q + j < N := by rw [HN.out.1, hq]; exact mat_lt hil hjl
                                  have cg := cell_of_heap hmb (mat_get R hvl hjl)
                                  rw [← hp] at cg
                                  have hN4 := HN.out.2
                                  have s6 : (0 : Int) ≤ (p : Int) := by omega
                                  have s7 : (p : Int) ≤ 9223372036854775807 := by omega
                                  have s8 : (p : Int) + (j : Int) ≤ 9223372036854775807 := by omega
                                  have s9 : (0 : Int) ≤ (p : Int) + (j : Int) := by omega
                                  have s10 : (p : Int) + (j : Int) < (N : Int) := by omega
                                  have s11 : ((p : Int) + (j : Int)).toNat = p + j := by omega
                                  cases hR : R v j with
                                  | false =>
                                    rw [hR] at cg
                                    have HR := hideIt (And.intro (hWar.pass hvl hjl hR) (And.intro hmb (And.intro hbel (And.intro hj hRiv))))
                                    clear hj hWar hmb hbel hR hlt hlt2 hN4 hq hp hvl hil hjl hRiv
                                    go_wp2
                                    go_roundg k10
                                    case measure => exact Nat.lt_succ_self _
                                    case rel => exact ⟨j + 1, by have := HR.out.2.2.2.1; omega, rfl, R, HR.out.1, HR.out.2.2.2.2, HR.out.2.1, HR.out.2.2.1⟩
                                  | true =>
                                    rw [hR] at cg
                                    have cg2 := cell_of_heap hmb (mat_get R hil hjl)
                                    rw [← hq] at cg2
                                    have fg : wr.frozen? ⟨wH.heap.size, q + j, none⟩ = false := frozen_of_heap hmb
                                    have hset := heap_set_at (o := i * kl + j) (.bool true) hmb
                                    rw [mat_set _ hil hjl true, ← hq] at hset
                                    have hbs : Below wH.heap.size wH (wr.setCell ⟨wH.heap.size, q + j, none⟩ (.bool true)) := hbel.setCell (Nat.le_refl _) _
                                    have r8 : (q : Int) + (j : Int) ≤ 9223372036854775807 := by omega
                                    have r9 : (0 : Int) ≤ (q : Int) + (j : Int) := by omega
                                    have r10 : (q : Int) + (j : Int) < (N : Int) := by omega
                                    have r11 : ((q : Int) + (j : Int)).toNat = q + j := by omega
                                    have HR := hideIt (And.intro (hWar.set hRiv hR) (And.intro hset (And.intro hbs (And.intro hj hRiv))))
                                    clear hj hWar hmb hbel hR hlt hlt2 hN4 hq hp hvl hil hjl hRiv hset hbs
                                    go_wp2
                                    go_roundg k10
                                    case measure => exact Nat.lt_succ_self _
                                    case rel => exact ⟨j + 1, by have := HR.out.2.2.2.1; omega, rfl, _, HR.out.1, upd_mono HR.out.2.2.2.2, HR.out.2.1, HR.out.2.2.1⟩
                case rest =>
                  clear h80
                  obtain ⟨wI, hwI⟩ : ∃ x, x = wc := ⟨_, rfl⟩
                  subst hwI
                  have HMat := hideIt hcut
                  clear hcut
                  go_upto_block 20 with (fail)
                  have h110 : Rel11 kl wI.heap.size K (clos E) wI kl (.slice none 0 0) (.int .i64 0) wI := ⟨0, by simp, rfl, World.ownsRow_nil _ _ _ _, Below.refl _ _⟩
                  go_cut [44, 45, 46, 47, 48, 49] from 336 to 425 (fun wv _ _ _ _ _ w => w.ownsRow wI.heap.size 79 5 wv (spec (clos E) kl).length (probsOf K (fun v => (bufAt K v).length) (spec (clos E) kl)) ∧ Below wI.heap.size wI w)
                  case first =>
                    as_aux_lemma =>
                      go_wp2
                      go_loopg [44, 45] kl (Rel11 kl wI.heap.size K (clos E) wI)
                      case atStart => exact h110
                      case round =>
                        clear h110
                        obtain ⟨wo, hwo⟩ : ∃ wo, wo = wr := ⟨_, rfl⟩
                        subst hwo
                        obtain ⟨v, hv, rfl, hrow, hbel⟩ := hrel
                        obtain ⟨wa, wcp, rfl⟩ := row_form hrow
                        cases gk with
                        | zero =>
                          have ev : v = kl := hv
                          subst ev
                          have t1 : ¬ ((v : Int) < (v : Int)) := Int.lt_irrefl _
                          have HR := hideIt (And.intro hrow hbel)
                          clear hv hrow hbel
                          go_wp2
                          go_meet
                          exact HR.out
                        | succ k =>
                          have hvl : v < kl := lt_of_sum hv
                          have t1 : (v : Int) < (kl : Int) := lt_cast hvl
                          have t2 : (v : Int) + 1 ≤ 9223372036854775807 := succ_max hvl hkl2
                          have t3 : (0 : Int) ≤ (v : Int) := Int.natCast_nonneg v
                          have hMc : ∀ a b, a < kl → b < kl → wo.cell? ⟨wH.heap.size, a * kl + b, none⟩ = some (.bool (clos E a b)) := fun a b ha hb => (hbel.cell (p := ⟨wH.heap.size, a * kl + b, none⟩) HMat.out.2.2).trans (HMat.out.1 a b ha hb)
                          obtain ⟨q, hq⟩ : ∃ q, q = v * kl := ⟨_, rfl⟩
                          have eq : (v : Int) * (kl : Int) = (q : Int) := by rw [hq]; exact (Int.natCast_mul v kl).symm
                          have hqN : ∀ b, b < kl → q + b < N := fun b hb => by rw [HN.out.1, hq]; exact mat_lt hvl hb
                          have cvv := hMc v v hvl hvl
                          rw [← hq] at cvv
                          obtain ⟨t6, t7, t8, t9, t10, t11⟩ := idx_facts (hqN v hvl) HN.out.2
                          have HV := hideIt (And.intro hv (And.intro hrow (And.intro hbel (And.intro hvl (And.intro hMc (And.intro hq hqN))))))
                          clear hv hrow hbel hvl hMc hq hqN
                          cases hvv : clos E v v with
                          | false =>
                            rw [hvv] at cvv
                            have HH := hideIt (head_no1 hvv)
                            clear hvv
                            go_wp2
                            go_roundg k
                            case measure => exact Nat.lt_succ_self _
                            case rel =>
                              refine ⟨v + 1, next_sum HV.out.1, rfl, ?_, HV.out.2.2.1⟩
                              rw [specTo_skip HH.out]
                              exact HV.out.2.1
                          | true =>
                            rw [hvv] at cvv
                            have h120 : Rel12 v (clos E) wo v (.bool true) (.int .i64 0) wo := ⟨0, by simp, rfl, rfl, fun u hu => absurd hu (Nat.not_lt_zero _), rfl⟩
                            have HH := hideIt hvv
                            clear hvv
                            go_upto_block 22 with (fail)
                            clear cvv t8 t9 t10 t11
                            go_cut [46, 47] from 350 to 372 (fun b _ w => b = .bool (isHead (clos E) v) ∧ w = wo)
                            case first =>
                              as_aux_lemma =>
                                go_wp2
                                go_loopg [46, 47] v (Rel12 v (clos E) wo)
                                case atStart => exact h120
                                case round =>
                                  clear h120
                                  obtain ⟨u, hu, rfl, rfl, hno, hwr⟩ := hrel
                                  obtain rfl : wo = wr := hwr.symm
                                  cases gk with
                                  | succ k12 =>
                                    have huv : u < v := lt_of_sum hu
                                    have hul : u < kl := Nat.lt_trans huv HV.out.2.2.2.1
                                    obtain ⟨p, hp⟩ : ∃ p, p = u * kl := ⟨_, rfl⟩
                                    have ep : (u : Int) * (kl : Int) = (p : Int) := by rw [hp]; exact (Int.natCast_mul u kl).symm
                                    have hlt : p + v < N := by rw [HN.out.1, hp]; exact mat_lt hul HV.out.2.2.2.1
                                    have hlt2 : q + u < N := HV.out.2.2.2.2.2.2 u hul
                                    have cuv := HV.out.2.2.2.2.1 u v hul HV.out.2.2.2.1
                                    have cvu := HV.out.2.2.2.2.1 v u HV.out.2.2.2.1 hul
                                    rw [← hp] at cuv
                                    rw [← HV.out.2.2.2.2.2.1] at cvu
                                    have t12 : (u : Int) < (v : Int) := lt_cast huv
                                    have t13 : (u : Int) + 1 ≤ 9223372036854775807 := succ_max hul hkl2
                                    have t14 : (0 : Int) ≤ (u : Int) := Int.natCast_nonneg u
                                    obtain ⟨s6, s7, s8, s9, s10, s11⟩ := idx_facts hlt HN.out.2
                                    obtain ⟨_, _, r8, r9, r10, r11⟩ := idx_facts hlt2 HN.out.2
                                    have hnext : (clos E u v && clos E v u) = false → ∀ u', u' < u + 1 → (clos E u' v && clos E v u') = false := fun h u' hu' => by
                                      by_cases e : u' = u
                                      · rw [e]; exact h
                                      · exact hno u' (Nat.lt_of_le_of_ne (Nat.le_of_lt_succ hu') e)
                                    have HU := hideIt (And.intro hu (And.intro hnext huv))
                                    clear hu hnext huv hul hp hlt hlt2 hno
                                    cases hR1 : clos E u v with
                                    | false =>
                                      rw [hR1] at cuv
                                      have HX := hideIt hR1
                                      clear hR1
                                      go_wp2
                                      go_roundg k12
                                      case measure => exact Nat.lt_succ_self _
                                      case rel => exact ⟨u + 1, next_sum HU.out.1, rfl, rfl, HU.out.2.1 (by rw [HX.out]; rfl), rfl⟩
                                    | true =>
                                      rw [hR1] at cuv
                                      have HX := hideIt hR1
                                      clear hR1
                                      cases hR2 : clos E v u with
                                      | false =>
                                        rw [hR2] at cvu
                                        have HY := hideIt hR2
                                        clear hR2
                                        go_wp2
                                        go_roundg k12
                                        case measure => exact Nat.lt_succ_self _
                                        case rel => exact ⟨u + 1, next_sum HU.out.1, rfl, rfl, HU.out.2.1 (by rw [HY.out, Bool.and_false]), rfl⟩
                                      | true =>
                                        rw [hR2] at cvu
                                        have HY := hideIt hR2
                                        clear hR2
                                        go_wp2
                                        go_meet
                                        exact ⟨by rw [head_no2 HU.out.2.2 HX.out HY.out], rfl⟩
                                  | zero =>
                                    have eu : u = v := hu
                                    subst eu
                                    have t12 : ¬ ((u : Int) < (u : Int)) := Int.lt_irrefl _
                                    have HHead := hideIt (head_of HH.out hno)
                                    clear hu hno
                                    go_wp2
                                    go_meet
                                    exact ⟨by rw [HHead.out], rfl⟩
                            case rest =>
                              clear h120
                              obtain ⟨rfl, hwc⟩ := hcut
                              obtain rfl : wo = wc := hwc.symm
                              cases hhd : isHead (clos E) v with
                              | false =>
                                have HHead := hideIt hhd
                                clear hhd
                                go_wp2
                                go_roundg k
                                case measure => exact Nat.lt_succ_self _
                                case rel =>
                                  refine ⟨v + 1, next_sum HV.out.1, rfl, ?_, HV.out.2.2.1⟩
                                  rw [specTo_skip HHead.out]
                                  exact HV.out.2.1
                              | true =>
                                have HHead := hideIt hhd
                                have e0 : msgOf K (memTo (clos E) v v) = [] := by rw [memTo_start]; rfl
                                have h130 : Rel13 kl v K (clos E) wo (kl - v) (.slice none 0 0) (.int .i64 (v : Int)) wo := ⟨v, Nat.le_refl _, Nat.add_sub_cancel' (Nat.le_of_lt HV.out.2.2.2.1), rfl, by rw [e0]; exact World.ownsRow_nil _ _ _ _, Below.refl _ _⟩
                                clear hhd e0
                                go_upto_block 24 with (fail)
                                go_cut [48, 49] from 376 to 415 (fun mv _ w => w.ownsRow wo.heap.size 5 1 mv (msgOf K (memTo (clos E) v kl)).length (byteCells (msgOf K (memTo (clos E) v kl))) ∧ Below wo.heap.size wo w)
                                case first =>
                                  as_aux_lemma =>
                                    go_wp2
                                    go_loopg [48, 49] (kl - v) (Rel13 kl v K (clos E) wo)
                                    case atStart => exact h130
                                    case round =>
                                      clear h130
                                      obtain ⟨j, hvj, hj, rfl, hrm, hbm⟩ := hrel
                                      obtain ⟨M, hM⟩ : ∃ M, M = (msgOf K (memTo (clos E) v j)).length := ⟨_, rfl⟩
                                      have hrm' := hrm
                                      rw [← hM] at hrm'
                                      obtain ⟨ma, mc, rfl⟩ := row_form hrm'
                                      have hml := msg_len K (clos E) v j
                                      rw [← hM] at hml
                                      obtain ⟨hv, hrow, hbel, hvl, hMc, hq, hqN⟩ := HV.out
                                      have hwoI : wI.heap.size ≤ wo.heap.size := hbel.size
                                      have hworr : wo.heap.size ≤ wr.heap.size := hbm.size
                                      cases gk with
                                      | zero =>
                                        have ej : j = kl := hj
                                        have t12 : ¬ ((j : Int) < (kl : Int)) := by rw [ej]; exact Int.lt_irrefl _
                                        rw [ej] at hrm
                                        have HO := hideIt (And.intro hrm hbm)
                                        clear hrm hrm' hml hv hrow hbel hvl hMc hq hqN hbm hj hvj hM ej hwoI hworr
                                        go_wp2
                                        go_meet
                                        exact HO.out
                                      | succ k13 =>
                                        have hjl : j < kl := lt_of_sum hj
                                        have t12 : (j : Int) < (kl : Int) := lt_cast hjl
                                        have t13 : (j : Int) + 1 ≤ 9223372036854775807 := succ_max hjl hkl2
                                        have t14 : (0 : Int) ≤ (j : Int) := Int.natCast_nonneg j
                                        have htm := tot_mono K (Nat.le_of_lt hjl)
                                        have hkl1 := key_len (K := K) hjl
                                        obtain ⟨b, o, rfl, hb, hc⟩ := hK.cell j hjl
                                        have hWI : W.heap.size ≤ wI.heap.size := Nat.le_trans HDone.out.1.wsz (Nat.le_of_lt HMat.out.2.2)
                                        have hbW : Below W.heap.size W wr := HDone.out.1.bel.trans ((HMat.out.2.1.mono HDone.out.1.wsz).trans ((hbel.mono hWI).trans (hbm.mono (Nat.le_trans hWI hwoI))))
                                        have cK : wr.cell? ⟨b, o + j, none⟩ = some (.string ⟨(K j).toArray⟩) := (hbW.cell (p := ⟨b, o + j, none⟩) hb).trans hc
                                        have hlim : M + 2 + 6 * (K j).length ≤ 90000000 := lim13 hml htm hkl1 hjl hkl2 htl2
                                        have hbo : b < wo.heap.size := Nat.lt_of_lt_of_le hb (Nat.le_trans hWI hwoI)
                                        by_cases ejv : j = v
                                        · subst ejv
                                          have e0 : msgOf K (memTo (clos E) j j) = [] := by rw [memTo_start]; rfl
                                          have hM0 : M = 0 := by rw [hM, e0]; rfl
                                          subst hM0
                                          have cZ := zzs_any (K j) wo.heap.size 0 (.slice ma 0 mc) [] wr (by rw [e0] at hrm; exact hrm) hworr (lim0 hlim)
                                          have hmem : memTo (clos E) j (j + 1) = [j] := by rw [memTo_take (by simp [isMem]), memTo_start]; rfl
                                          have hmsg : msgOf K (memTo (clos E) j (j + 1)) = quoted (K j) := by rw [hmem, show [j] = [] ++ [j] from rfl, msg_snoc, if_pos rfl]
                                          have CZ := hideIt cZ
                                          have HJ := hideIt (And.intro hj (And.intro hmsg hbm))
                                          clear hrm hrm' hml hv hrow hbel hvl hMc hq hqN hbm hj hvj hM hwoI hworr htm hkl1 hb hc hbW e0 hmem hmsg cZ hjl hlim hbo hWI
                                          go_wp2_with (go_at_call 8; go_must (refine CZ.out.mono ?_; rintro e wz ⟨dv, rfl, hrz, hbz⟩; have HZ := hideIt (And.intro hrz hbz); clear hrz hbz))
                                          go_roundg k13
                                          case measure => exact Nat.lt_succ_self _
                                          case rel =>
                                            refine ⟨j + 1, Nat.le_succ _, next_sum HJ.out.1, rfl, ?_, HJ.out.2.2.trans HZ.out.2⟩
                                            rw [HJ.out.2.1]
                                            have := HZ.out.1
                                            rw [Nat.zero_add, List.nil_append] at this
                                            exact this
                                        · have huj : v < j := Nat.lt_of_le_of_ne hvj (Ne.symm ejv)
                                          have hskip : (clos E v j && clos E j v) = false → Rel13 kl v K (clos E) wo k13 (.slice ma M mc) (.int .i64 ((j : Int) + 1)) wr := fun h => by
                                            refine ⟨j + 1, Nat.le_succ_of_le hvj, next_sum hj, rfl, ?_, hbm⟩
                                            rw [memTo_skip (isMem_no h ejv)]
                                            exact hrm
                                          have tb : ((j : Int) == (v : Int)) = false := beq_no ejv
                                          have tn : ¬ ((j : Int) = (v : Int)) := ne_cast ejv
                                          obtain ⟨p, hp⟩ : ∃ p, p = j * kl := ⟨_, rfl⟩
                                          have ep : (j : Int) * (kl : Int) = (p : Int) := by rw [hp]; exact (Int.natCast_mul j kl).symm
                                          have hlt : p + v < N := by rw [HN.out.1, hp]; exact mat_lt hjl hvl
                                          have hlt2 : q + j < N := hqN j hjl
                                          have cju := (hbm.cell (p := ⟨wH.heap.size, j * kl + v, none⟩) (Nat.lt_of_lt_of_le HMat.out.2.2 hwoI)).trans (hMc j v hjl hvl)
                                          have cuj := (hbm.cell (p := ⟨wH.heap.size, v * kl + j, none⟩) (Nat.lt_of_lt_of_le HMat.out.2.2 hwoI)).trans (hMc v j hvl hjl)
                                          rw [← hp] at cju
                                          rw [← hq] at cuj
                                          obtain ⟨s6, s7, s8, s9, s10, s11⟩ := idx_facts hlt HN.out.2
                                          obtain ⟨_, _, r8, r9, r10, r11⟩ := idx_facts hlt2 HN.out.2
                                          cases hR1 : clos E v j with
                                          | false =>
                                            rw [hR1] at cuj
                                            have HS := hideIt (hskip (by rw [hR1]; rfl))
                                            clear hskip hrm hrm' hml hv hrow hbel hvl hMc hq hqN hbm hj hvj hM hwoI hworr htm hkl1 hb hc hbW hjl hp hlt hlt2 hWI ejv hR1 hlim hbo huj
                                            go_wp2
                                            go_roundg k13
                                            case measure => exact Nat.lt_succ_self _
                                            case rel => exact HS.out
                                          | true =>
                                            rw [hR1] at cuj
                                            cases hR2 : clos E j v with
                                            | false =>
                                              rw [hR2] at cju
                                              have HS := hideIt (hskip (by rw [hR2, Bool.and_false]))
                                              clear hskip hrm hrm' hml hv hrow hbel hvl hMc hq hqN hbm hj hvj hM hwoI hworr htm hkl1 hb hc hbW hjl hp hlt hlt2 hWI ejv hR1 hR2 hlim hbo huj
                                              go_wp2
                                              go_roundg k13
                                              case measure => exact Nat.lt_succ_self _
                                              case rel => exact HS.out
                                            | true =>
                                              rw [hR2] at cju
                                              have hne : memTo (clos E) v j ≠ [] := mem_self huj
                                              have hMp : 0 < M := by rw [hM]; exact (msg_pos K _).2 hne
                                              have hmem : isMem (clos E) v j = true := isMem_yes hR1 hR2 hvj
                                              have hmsg : msgOf K (memTo (clos E) v (j + 1)) = msgOf K (memTo (clos E) v j) ++ [44, 32] ++ quoted (K j) := by rw [memTo_take hmem, msg_snoc, if_neg hne]
                                              have t15 : (0 : Int) < (M : Int) := Int.natCast_pos.2 hMp
                                              obtain ⟨i5, hi5, hz5, hs5, hy5⟩ := info_parts info5
                                              have HBO := hideIt hbo
                                              have HX5 := hideIt (lim5 hlim)
                                              have hrm2 : wr.ownsRow wo.heap.size 5 1 (.slice ma M mc) M (byteCells (msgOf K (memTo (clos E) v j))) := hrm'
                                              have HJ := hideIt (And.intro hj (And.intro hmsg (And.intro hbm (And.intro hrm2 (And.intro hlim (And.intro hworr (And.intro hM (Nat.le_succ_of_le hvj))))))))
                                              clear hskip hrm hrm' hml hv hrow hbel hvl hMc hq hqN hbm hj hvj hM hwoI hworr htm hkl1 hb hc hbW hjl hp hlt hlt2 hWI ejv hR1 hR2 hne hmem hmsg hlim hrm2 hbo huj
                                              go_upto_region 107 with (fail)
                                              clear cju cuj t15 tb tn hMp
                                              go_upto_region 108 with (at_builtin; go_must (refine wpList_append_own _ rfl _ _ 32 rfl wo.heap.size 5 i5 (.int .u8 0) 1 1 Ybad.underlying32 hi5 hz5 hs5 hy5 rfl (by decide) (.slice ma M mc) M (byteCells (msgOf K (memTo (clos E) v j))) rfl (own_alloc HJ.out.2.2.2.1 _) ⟨wr.heap.size, 0, none⟩ 2 2 [.int .u8 44, .int .u8 32] rfl rfl (World.news_of_block (cs := #[.int .u8 44, .int .u8 32]) (t := 5) (fr := (0, 0)) (heap_alloc_at _ _ rfl)) (by simp [Value.oneCell']) HX5.out.1 HX5.out.2 (le_alloc HJ.out.2.2.2.2.2.1 _) ?_; intro v2 w2 hr2 hg2 _))
                                              have hb2 : Below wo.heap.size wo w2 := below_grown (HJ.out.2.2.1.alloc HJ.out.2.2.2.2.2.1 _) (own_alloc HJ.out.2.2.2.1 _) (le_alloc HJ.out.2.2.2.2.2.1 _) hg2
                                              have cZ := zzs_any (K j) wo.heap.size (M + 2) v2 _ w2 hr2 hb2.size HJ.out.2.2.2.2.1
                                              have cK2 : w2.cell? ⟨b, o + j, none⟩ = some (.string ⟨(K j).toArray⟩) := (hg2.cell ((World.cell?_of_block (heap_alloc_lt _ _ (World.block_lt_of_cell? _ _ cK))).trans cK) (fun e => absurd (own_ge HJ.out.2.2.2.1 e.symm).1 (Nat.not_le_of_lt HBO.out)))
                                              obtain ⟨a2, c2, rfl⟩ := row_form hr2
                                              have CZ := hideIt cZ
                                              have HB2 := hideIt hb2
                                              clear hr2 hg2 cZ hb2 cK
                                              go_wp2_with (go_at_call 8; go_must (refine CZ.out.mono ?_; rintro e wz ⟨dv, rfl, hrz, hbz⟩; have HZ := hideIt (And.intro hrz hbz); clear hrz hbz))
                                              go_roundg k13
                                              case measure => exact Nat.lt_succ_self _
                                              case rel =>
                                                refine ⟨j + 1, HJ.out.2.2.2.2.2.2.2, next_sum HJ.out.1, rfl, ?_, HB2.out.trans HZ.out.2⟩
                                                rw [HJ.out.2.1, byteCells_append, byteCells_append, List.length_append, List.length_append, ← HJ.out.2.2.2.2.2.2.1]
                                                exact HZ.out.1
                                case rest =>
                                  clear h130
                                  obtain ⟨wr, hwr⟩ : ∃ x, x = wc := ⟨_, rfl⟩
                                  subst hwr
                                  obtain ⟨hrm, hbm⟩ := hcut
                                  obtain ⟨M, hM⟩ : ∃ M, M = (msgOf K (memTo (clos E) v kl)).length := ⟨_, rfl⟩
                                  have hrm' := hrm
                                  rw [← hM] at hrm'
                                  obtain ⟨ma, mc, rfl⟩ := row_form hrm'
                                  obtain ⟨hv, hrow, hbel, hvl, hMc, hq, hqN⟩ := HV.out
                                  have hwoI : wI.heap.size ≤ wo.heap.size := hbel.size
                                  have hworr : wo.heap.size ≤ wr.heap.size := hbm.size
                                  have hcv := convert_any (w := wr) (v := .slice ma M mc) (l := msgOf K (memTo (clos E) v kl)) hrm
                                  have hcv' := convert_any (w := wr.drew) (v := .slice ma M mc) (l := msgOf K (memTo (clos E) v kl)) hrm
                                  have hat : wr.cell? ⟨Ab, v, none⟩ = some (.int .i64 ((bufAt K v).length : Int)) := cell_later hbm (cell_later (HMat.out.2.1.trans (hbel.mono (Nat.le_of_lt HMat.out.2.2))) (HDone.out.1.at_ v hvl))
                                  have hat' : wr.drew.cell? ⟨Ab, v, none⟩ = some (.int .i64 ((bufAt K v).length : Int)) := hat
                                  have hro : wr.drew.ownsRow wI.heap.size 79 5 (.slice wa (specTo (clos E) kl v).length wcp) (specTo (clos E) kl v).length (probsOf K (fun v => (bufAt K v).length) (specTo (clos E) kl v)) := ownsRow_kept hrow (fun b hb => hbm.block b (own_ge hrow hb).2)
                                  obtain ⟨i79, hi79, hz79, hs79, hy79⟩ := info_parts info79
                                  have hsl := specTo_len (clos E) kl v
                                  have hL : (specTo (clos E) kl v).length ≤ 200 := Nat.le_trans hsl (Nat.le_trans (Nat.le_of_lt hvl) hkl2)
                                  have hbd : Below wI.heap.size wI wr.drew := (hbel.trans (hbm.mono hwoI)).drew
                                  have hws : wI.heap.size ≤ wr.heap.size := Nat.le_trans hwoI hworr
                                  have HO := hideIt (And.intro hro (And.intro hL (And.intro hbd (And.intro hws hv))))
                                  have HM0 := hideIt (memTo_head (R := clos E) hvl)
                                  have HXL := hideIt (row79_fits hL)
                                  clear hrm hrm' hv hrow hbel hvl hMc hq hqN hbm hM hro hsl hL hbd hws hwoI hworr
                                  go_upto_region 109 with (fail)
                                  refine gen_act (fun a0 ha0 => ?_)
                                  have es : a0.tmps.size = 529 := by rw [ha0]; rfl
                                  have f44 : ∀ h : 44 < a0.tmps.size, a0.tmps[44]'h = .slice wa (specTo (clos E) kl v).length wcp := by rw [ha0]; exact fun _ => rfl
                                  have f29 : ∀ h : 29 < a0.tmps.size, a0.tmps[29]'h = .slice (some ⟨Ab, 0, none⟩) kl kl := by rw [ha0]; exact fun _ => rfl
                                  have f45 : ∀ h : 45 < a0.tmps.size, a0.tmps[45]'h = .int .i64 (v : Int) := by rw [ha0]; exact fun _ => rfl
                                  have f48 : ∀ h : 48 < a0.tmps.size, a0.tmps[48]'h = .slice ma M mc := by rw [ha0]; exact fun _ => rfl
                                  refine Code.wp_mono ?_ (reg109 hcv hcv' hat hat' t1 t3 HO.out.1 HXL.out.1 HXL.out.2 HO.out.2.2.2.1 es f44 f29 f45 f48)
                                  clear hcv hcv' hat hat' es f44 f29 f45 f48
                                  intro e109 a1 w4 hS
                                  cases e109 with
                                  | normal =>
                                    obtain ⟨gp, capp, hrow4, x0, x1, x2, x3, x4, x5, x6, x7, x8, x9, ha1⟩ := hS
                                    have HZ := hideIt (And.intro hrow4.1 (hrow4.2 wI HO.out.2.2.1))
                                    clear hrow4
                                    subst ha0
                                    rw [put109_list] at ha1
                                    dsimp only [List.set_cons_succ, List.set_cons_zero] at ha1
                                    subst ha1
                                    go_wp2
                                    go_roundg k
                                    case measure => exact Nat.lt_succ_self _
                                    case rel =>
                                      refine ⟨v + 1, next_sum HO.out.2.2.2.2, rfl, ?_, HZ.out.2⟩
                                      rw [specTo_take HHead.out, probs_snoc, List.length_append, ← memTo_all, HM0.out]
                                      exact HZ.out.1
                                  | _ => exact hS.elim
                  case rest =>
                    clear h110
                    obtain ⟨wL, hwL⟩ : ∃ x, x = wc := ⟨_, rfl⟩
                    subst hwL
                    obtain ⟨wa, wcp, rfl⟩ := row_form hcut.1
                    obtain ⟨ga, gcp, e⟩ := row_form HDone.out.2
                    subst e
                    have hHL : Below wH.heap.size wH wL := HMat.out.2.1.trans (hcut.2.mono (Nat.le_of_lt HMat.out.2.2))
                    have hDL := HDone.out.1.later hHL
                    have hgot := row_later hHL HDone.out.2
                    have c2 := hDL.c2
                    have hsl := spec_len (clos E) kl
                    have HL := hideIt (And.intro hDL (And.intro hgot (And.intro hcut.1 hsl)))
                    clear hcut hHL hDL hgot hsl
                    go_upto_block 26 with (fail)
                    clear c2
                    have h140 : Rel14 (spec (clos E) kl).length wL (spec (clos E) kl).length (.int .i64 0) wL := ⟨0, by simp, rfl, Below.refl _ _⟩
                    go_cut [51] from 438 to 450 (fun _ w => Below wL.heap.size wL w)
                    case first =>
                      as_aux_lemma =>
                        go_wp2
                        go_loopg [438] (spec (clos E) kl).length (Rel14 (spec (clos E) kl).length wL)
                        case atStart => exact h140
                        case round =>
                          clear h140
                          obtain ⟨j, hj, rfl, hbel⟩ := hrel
                          cases gk with
                          | zero =>
                            have t1 : ¬ ((j : Int) < ((spec (clos E) kl).length : Int)) := by omega
                            have HR := hideIt hbel
                            clear hj hbel
                            go_wp2
                            go_meet
                            exact HR.out
                          | succ k =>
                            obtain ⟨_, hgot, hwant, hsl⟩ := HL.out
                            obtain ⟨gb, gc, e, _⟩ := row_some hgot (by omega)
                            cases e
                            obtain ⟨wb, wc', e, _⟩ := row_some hwant (by omega)
                            cases e
                            obtain ⟨c, hc⟩ : ∃ c, (spec (clos E) kl)[j]? = some c := ⟨_, List.getElem?_eq_getElem (by omega)⟩
                            have hpg := fun r (hr : r < 5) => probs_get K (fun v => (bufAt K v).length) (spec (clos E) kl) (r := r) hc hr
                            have hg := fun r u (hr : r < 5) (hu : (probCells (bufAt K (c.headD 0)).length (msgOf K c))[r]? = some u) => cell_later hbel (ownsRow_cell hgot ((hpg r hr).trans hu))
                            have hw := fun r u (hr : r < 5) (hu : (probCells (bufAt K (c.headD 0)).length (msgOf K c))[r]? = some u) => cell_later hbel (ownsRow_cell hwant ((hpg r hr).trans hu))
                            have g0 := hg 0 _ (by omega) rfl
                            have g1 := hg 1 _ (by omega) rfl
                            have g2 := hg 2 _ (by omega) rfl
                            have g3 := hg 3 _ (by omega) rfl
                            have g4 := hg 4 _ (by omega) rfl
                            have w0 := hw 0 _ (by omega) rfl
                            have w1 := hw 1 _ (by omega) rfl
                            have w2 := hw 2 _ (by omega) rfl
                            have w3 := hw 3 _ (by omega) rfl
                            have w4 := hw 4 _ (by omega) rfl
                            rw [Nat.add_zero] at g0 w0
                            generalize (bufAt K (c.headD 0)).length = a at g0 w0
                            generalize msgOf K c = ms at g4 w4
                            have t1 : (j : Int) < ((spec (clos E) kl).length : Int) := by omega
                            have t2 : (0 : Int) ≤ (j : Int) := by omega
                            have t3 : (j : Int) + 1 ≤ 9223372036854775807 := by omega
                            have hneq := neq79 (a : Int) ⟨#[99, 121, 99, 108, 101]⟩ ⟨ms.toArray⟩
                            have HJ := hideIt (And.intro hj hbel)
                            clear hj hbel hgot hwant hsl hc hpg hg hw
                            go_wp2
                            go_quiet (fail)
                            go_wp2
                            go_roundg k
                            case measure => exact Nat.lt_succ_self _
                            case rel => exact ⟨j + 1, by have := HJ.out.1; omega, rfl, below_drewN HJ.out.2 _⟩
                    case rest =>
                      clear h140
                      obtain ⟨wM, hwM⟩ : ∃ x, x = wc := ⟨_, rfl⟩
                      subst hwM
                      have HDM := hideIt (fun w' (hb : Below wM.heap.size wM w') => HL.out.1.later (then_ hcut hb))
                      have hDM := HDM.out wM (Below.refl _ _)
                      have c0 := hDM.c0
                      have c1 := hDM.c1
                      have c3 := hDM.c3
                      have c4 := hDM.c4
                      have c8 := hDM.c8
                      have k0 := hDM.t0
                      have r0 := hDM.r0
                      have r1 := hDM.r1
                      clear hDM hcut
                      have hpn := neq57 ⟨Cn + 1 + 1, 1, none⟩
                      go_upto_region 119 with (fail)
                      go_quiet (fail)
                      go_upto_region 123 with (fail)
                      have HB1 : Hid (Below wM.heap.size wM (wM.drewN nq)) := hideIt (below_drewN (Below.refl _ _) nq)
                      have hol := odd_len K kl
                      have E9 := hideIt (fun w' (hb : Below wM.heap.size wM w') => equal_rows35 K (by omega) (HDM.out w' hb).pl (HDM.out w' hb).q5)
                      have E10 := hideIt (fun w' (hb : Below wM.heap.size wM w') => equal_rows9 (by omega) (HDM.out w' hb).od (HDM.out w' hb).q6)
                      have E11 := hideIt (fun w' (hb : Below wM.heap.size wM w') => equal_rows3 (c := m) (by omega) (HDM.out w' hb).tgt (HDM.out w' hb).q1)
                      have E12 := hideIt (fun w' (hb : Below wM.heap.size wM w') => equal_rows3 (c := kl + 1) (by omega) (HDM.out w' hb).fst (HDM.out w' hb).q2)
                      clear c0 c1 c3 c4 k0 r0 hol hpn
                      go_upto_region 125 with (first | (go_at_call 9; go_must (refine (E9.out _ HB1.out).mono ?_; rintro e w9 ⟨rfl, hb9⟩; have HB9 := hideIt (then_ HB1.out hb9); have c8' := (HDM.out _ HB9.out).c8; have r2' := (HDM.out _ HB9.out).r2; clear hb9)) | (go_at_call 10; go_must (refine (E10.out _ HB9.out).mono ?_; rintro e w10 ⟨rfl, hb10⟩; have HB10 := hideIt (then_ HB9.out hb10); clear hb10)))
                      have g0 := (HDM.out _ HB10.out).g0
                      go_wp2_with (go_at_call 11; first | (with_reducible refine (E11.out _ HB10.out).mono ?_; rintro e w11 ⟨rfl, hb11⟩; have HB11 := hideIt (then_ HB10.out hb11); have g1 := (HDM.out _ HB11.out).g1; clear hb11) | (with_reducible refine (E12.out _ HB11.out).mono ?_; rintro e w12 ⟨rfl, hb12⟩; have HB12 := hideIt (then_ HB11.out hb12); clear hb12))
                      go_ret
                      exact ⟨rfl, (HDM.out _ HB12.out).bel⟩
end Go.Proofs.YbulkeiwwDoor
