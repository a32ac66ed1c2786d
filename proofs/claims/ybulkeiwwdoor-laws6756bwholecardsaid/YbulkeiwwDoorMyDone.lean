/-
  What lies in memory around the law's call of checker.cycles.
-/
import Derived.Test.YbulkeiwwDoorMyChecks
import Derived.Test.YbulkeiwwDoorMyCount
import Derived.Test.YbulkeiwwDoorMyLay
namespace Go.Proofs.YbulkeiwwDoor
open Go.RowKit Go.ChangeMaps Go.Lib Gr
set_option linter.unusedVariables false

/-- The keys as they came. -/
structure KeysIn (ka : Option Addr) (kl : Nat) (K : Nat → List UInt8) (W : World) : Prop where
  cell : ∀ i, i < kl → ∃ b o, ka = some ⟨b, o, none⟩ ∧ b < W.heap.size ∧ W.cell? ⟨b, o + i, none⟩ = some (.string ⟨(K i).toArray⟩)
  len : ∀ i, i < kl → (K i).length ≤ 281474976710656
/-- The references as they came. -/
structure RefsIn (ra : Option Addr) (rl : Nat) (F T : Nat → Int) (W : World) : Prop where
  cell : ∀ i, i < rl → ∃ b o, ra = some ⟨b, o, none⟩ ∧ b < W.heap.size ∧ W.cell? ⟨b, o + i * 2, none⟩ = some (.int .u16 (F i)) ∧ W.cell? ⟨b, o + i * 2 + 1, none⟩ = some (.int .i16 (T i))
  f : ∀ i, i < rl → 0 ≤ F i ∧ F i ≤ 65535
  t : ∀ i, i < rl → -32768 ≤ T i ∧ T i ≤ 32767

def hOf (F : Nat → Int) (n i : Nat) : Nat := (F i % (n : Int)).toNat
def tOf (T : Nat → Int) (n i : Nat) : Int := if 0 ≤ T i then T i % (n : Int) else -1

/-- The two rows of the references. -/
structure Rows2 (m : Nat) (hf tf : Nat → Int) (W : World) (hv tv : Value) (wr : World) : Prop where
  h : wr.ownsRow W.heap.size 3 1 hv m (rowN hf m)
  t : wr.ownsRow W.heap.size 3 1 tv m (rowN tf m)
  dis : ∀ k, hv.ownBlock = some k → tv.ownBlock ≠ some k
  bel : Below W.heap.size W wr

theorem cell_later {w w' : World} (hb : Below w.heap.size w w') {a : Addr} {v : Value} (h : w.cell? a = some v) : w'.cell? a = some v := (hb.cell (World.block_lt_of_cell? w a h)).trans h
theorem row_later {w w' : World} (hb : Below w.heap.size w w') {B e s n : Nat} {v : Value} {xs : List Value} (h : w.ownsRow B e s v n xs) : w'.ownsRow 0 e s v n xs := own_mono (ownsRow_kept h fun k hk => hb.block k (own_ge h hk).2) (Nat.zero_le _)
theorem then_ {a b c : World} (h : Below a.heap.size a b) (k : Below b.heap.size b c) : Below a.heap.size a c := h.trans (k.mono h.size)

/-- All that the law's second half reads. -/
structure Done (C Cr Ct Gb Tb Fb Ab kl m : Nat) (K : Nat → List UInt8) (F T tg : Nat → Int) (W : World) (hv tv v1 v2 v5 v6 ov pv gv : Value) (w : World) : Prop where
  c0 : w.cell? ⟨C, 0, none⟩ = some (.pointer (some ⟨C, 1, none⟩))
  c1 : w.cell? ⟨C, 1, none⟩ = some (.pointer (some ⟨Ct, 0, none⟩))
  c2 : w.cell? ⟨C, 2, none⟩ = some gv
  c3 : w.cell? ⟨C, 3, none⟩ = some (.slice none 0 0)
  c4 : w.cell? ⟨C, 4, none⟩ = some (.slice none 0 0)
  c8 : w.cell? ⟨C, 8, none⟩ = some (.pointer (some ⟨Cr, 0, none⟩))
  t0 : w.cell? ⟨Ct, 0, none⟩ = some (.string ⟨(bufAt K kl).toArray⟩)
  r0 : w.cell? ⟨Cr, 0, none⟩ = some (.string ⟨(bufAt K kl).toArray⟩)
  r1 : w.cell? ⟨Cr, 1, none⟩ = some pv
  r2 : w.cell? ⟨Cr, 2, none⟩ = some ov
  g0 : w.cell? ⟨Gb, 0, none⟩ = some (.slice (some ⟨Tb, 0, none⟩) m m)
  g1 : w.cell? ⟨Gb, 1, none⟩ = some (.slice (some ⟨Fb, 0, none⟩) (kl + 1) (kl + 1))
  tgt : ∀ j, j < m → w.cell? ⟨Tb, j, none⟩ = some (.int .i64 (tg j))
  fst : ∀ j, j < kl + 1 → w.cell? ⟨Fb, j, none⟩ = some (.int .i64 (below (hOf F kl) m j : Int))
  at_ : ∀ j, j < kl → w.cell? ⟨Ab, j, none⟩ = some (.int .i64 ((bufAt K j).length : Int))
  h : w.ownsRow 0 3 1 hv m (rowN (fun i => (hOf F kl i : Int)) m)
  t : w.ownsRow 0 3 1 tv m (rowN (tOf T kl) m)
  q1 : w.ownsRow 0 3 1 v1 m (rowN tg m)
  q2 : w.ownsRow 0 3 1 v2 (kl + 1) (rowN (fun j => (below (hOf F kl) m j : Int)) (kl + 1))
  q5 : w.ownsRow 0 35 2 v5 kl (pairs K kl)
  q6 : w.ownsRow 0 9 1 v6 (oddAt K kl).length (strs (oddAt K kl))
  pl : w.ownsRow 0 35 2 pv kl (pairs K kl)
  od : w.ownsRow 0 9 1 ov (oddAt K kl).length (strs (oddAt K kl))
  bel : Below W.heap.size W w
  wsz : W.heap.size ≤ w.heap.size

section
variable {C Cr Ct Gb Tb Fb Ab kl m : Nat} {K : Nat → List UInt8} {F T tg : Nat → Int} {W : World} {hv tv v1 v2 v5 v6 ov pv gv : Value} {w w' : World}

theorem Done.later (h : Done C Cr Ct Gb Tb Fb Ab kl m K F T tg W hv tv v1 v2 v5 v6 ov pv gv w) (hb : Below w.heap.size w w') : Done C Cr Ct Gb Tb Fb Ab kl m K F T tg W hv tv v1 v2 v5 v6 ov pv gv w' :=
  ⟨cell_later hb h.c0, cell_later hb h.c1, cell_later hb h.c2, cell_later hb h.c3, cell_later hb h.c4, cell_later hb h.c8, cell_later hb h.t0, cell_later hb h.r0, cell_later hb h.r1, cell_later hb h.r2, cell_later hb h.g0, cell_later hb h.g1, fun j hj => cell_later hb (h.tgt j hj), fun j hj => cell_later hb (h.fst j hj), fun j hj => cell_later hb (h.at_ j hj), row_later hb h.h, row_later hb h.t, row_later hb h.q1, row_later hb h.q2, row_later hb h.q5, row_later hb h.q6, row_later hb h.pl, row_later hb h.od, h.bel.trans (hb.mono h.wsz), Nat.le_trans h.wsz hb.size⟩

/-- Ahead of the call. -/
theorem done_start {wA wC wD w7 w8 wE wF wG : World} {ba : Option Addr} {bc : Nat} {a1 a2 a3 a4 : Array Value}
    (hcs : W.heap.size ≤ wA.heap.size)
    (HC : Rows2 m (fun i => (hOf F kl i : Int)) (tOf T kl) W hv tv wA)
    (hAC : Below wA.heap.size wA wC)
    (htb : wD.heap[wC.heap.size + 1]? = some (.cells (arrI m tg) 3)) (hCD : Below wC.heap.size wC wD) (hfD : wD.heap[wA.heap.size]? = some (.cells (arrI (kl + 1) fun j => (below (hOf F kl) m j : Int)) 3))
    (hr1 : w7.ownsRow (wD.alloc (.cells #[.slice (some ⟨wC.heap.size + 1, 0, none⟩) m m, .slice (some ⟨wA.heap.size, 0, none⟩) (kl + 1) (kl + 1)] 30)).heap.size 3 1 v1 m (rowN tg m))
    (hD7 : Below (wD.alloc (.cells #[.slice (some ⟨wC.heap.size + 1, 0, none⟩) m m, .slice (some ⟨wA.heap.size, 0, none⟩) (kl + 1) (kl + 1)] 30)).heap.size (wD.alloc (.cells #[.slice (some ⟨wC.heap.size + 1, 0, none⟩) m m, .slice (some ⟨wA.heap.size, 0, none⟩) (kl + 1) (kl + 1)] 30)) w7)
    (hr2 : w8.ownsRow w7.heap.size 3 1 v2 (kl + 1) (rowN (fun j => (below (hOf F kl) m j : Int)) (kl + 1))) (h78 : Below w7.heap.size w7 w8)
    (HE : Rows3 w8.heap.size w8 (bufAt K kl) (oddAt K kl) kl (pairs K kl) (arrI kl fun j => if j < kl then ((bufAt K j).length : Int) else 0) (.slice ba (bufAt K kl).length bc) ov pv wE)
    (hr5 : wF.ownsRow wE.heap.size 35 2 v5 kl (pairs K kl)) (hEF : Below wE.heap.size wE wF)
    (hr6 : wG.ownsRow wF.heap.size 9 1 v6 (oddAt K kl).length (strs (oddAt K kl))) (hFG : Below wF.heap.size wF wG)
    (e20 : a2[0]? = some (.string ⟨(bufAt K kl).toArray⟩)) (e21 : a2[1]? = some pv) (e22 : a2[2]? = some ov)
    (e30 : a3[0]? = some (.pointer (some ⟨wG.heap.size + 1 + 1, 1, none⟩))) (e31 : a3[1]? = some (.pointer (some ⟨wG.heap.size + 1 + 1 + 1, 0, none⟩))) (e32 : a3[2]? = some (.slice none 0 0)) (e33 : a3[3]? = some (.slice none 0 0)) (e34 : a3[4]? = some (.slice none 0 0)) (e38 : a3[8]? = some (.pointer (some ⟨wG.heap.size + 1, 0, none⟩)))
    (e40 : a4[0]? = some (.string ⟨(bufAt K kl).toArray⟩)) :
    Done (wG.heap.size + 1 + 1) (wG.heap.size + 1) (wG.heap.size + 1 + 1 + 1) wD.heap.size (wC.heap.size + 1) wA.heap.size (w8.heap.size + 1) kl m K F T tg W hv tv v1 v2 v5 v6 ov pv (.slice none 0 0)
      ((((wG.alloc (.cells a1 47)).alloc (.cells a2 56)).alloc (.cells a3 72)).alloc (.cells a4 74)) := by
  obtain ⟨wD', hwD'⟩ : ∃ x, x = wD.alloc (.cells #[.slice (some ⟨wC.heap.size + 1, 0, none⟩) m m, .slice (some ⟨wA.heap.size, 0, none⟩) (kl + 1) (kl + 1)] 30) := ⟨_, rfl⟩
  rw [← hwD'] at hr1 hD7
  have hDD : Below wD.heap.size wD wD' := by rw [hwD']; exact (Below.refl _ _).alloc (Nat.le_refl _) _
  have hgb : wD'.heap[wD.heap.size]? = some (.cells #[.slice (some ⟨wC.heap.size + 1, 0, none⟩) m m, .slice (some ⟨wA.heap.size, 0, none⟩) (kl + 1) (kl + 1)] 30) := by rw [hwD']; exact heap_alloc_at _ _ rfl
  obtain ⟨wH, hwH⟩ : ∃ x, x = ((((wG.alloc (.cells a1 47)).alloc (.cells a2 56)).alloc (.cells a3 72)).alloc (.cells a4 74)) := ⟨_, rfl⟩
  rw [← hwH]
  have hGH : Below wG.heap.size wG wH := by rw [hwH]; exact ((((Below.refl _ _).alloc (Nat.le_refl _) _).alloc (by simp) _).alloc (by simp; omega) _).alloc (by simp; omega) _
  have b2 : wH.heap[wG.heap.size + 1]? = some (.cells a2 56) := by
    rw [hwH]
    exact (heap_alloc_lt _ _ (by simp)).trans ((heap_alloc_lt _ _ (by simp)).trans (heap_alloc_at _ _ (by simp)))
  have b3 : wH.heap[wG.heap.size + 1 + 1]? = some (.cells a3 72) := by
    rw [hwH]
    exact (heap_alloc_lt _ _ (by simp)).trans (heap_alloc_at _ _ (by simp))
  have b4 : wH.heap[wG.heap.size + 1 + 1 + 1]? = some (.cells a4 74) := by
    rw [hwH]
    exact heap_alloc_at _ _ (by simp)
  have k8 : Below w8.heap.size w8 wE := HE.bel
  have kFH := then_ hFG hGH
  have kEH := then_ hEF kFH
  have k8H := then_ k8 kEH
  have k7H := then_ h78 k8H
  have kD'H := then_ hD7 k7H
  have kDH := then_ hDD kD'H
  have kCH := then_ hCD kDH
  have kAH := then_ hAC kCH
  refine ⟨cell_of_heap b3 e30, cell_of_heap b3 e31, cell_of_heap b3 e32, cell_of_heap b3 e33, cell_of_heap b3 e34, cell_of_heap b3 e38, cell_of_heap b4 e40, cell_of_heap b2 e20, cell_of_heap b2 e21, cell_of_heap b2 e22, cell_later kD'H (cell_of_heap hgb rfl), cell_later kD'H (cell_of_heap hgb rfl), fun j hj => cell_later kDH (cell_of_heap htb (arrI_get hj)), fun j hj => cell_later kDH (cell_of_heap hfD (arrI_get hj)), fun j hj => cell_later kEH (cell_of_heap HE.a (by rw [arrI_get hj, if_pos hj])), row_later kAH HC.h, row_later kAH HC.t, row_later k7H hr1, row_later k8H hr2, row_later kFH hr5, row_later hGH hr6, row_later kEH HE.p, row_later kEH HE.o, HC.bel.trans (kAH.mono hcs), by have := kAH.size; omega⟩

/-- The closure as a table. -/
noncomputable def clos (E : Nat → Nat → Prop) : Nat → Nat → Bool := fun a b => @decide (Plus E a b) (Classical.propDecidable _)
theorem clos_iff (E : Nat → Nat → Prop) (a b : Nat) : clos E a b = true ↔ Plus E a b := by simp [clos]

theorem cell_bes {C B : Nat} {w w' : World} (h : Bes C w.heap.size w w') {a : Addr} {v : Value} (hc : w.cell? a = some v) (hne : a.block ≠ C) : w'.cell? a = some v :=
  (World.cell?_of_block (h.block a.block (World.block_lt_of_cell? w a hc) hne)).trans hc
theorem row_bes {C : Nat} {w w' : World} (h : Bes C w.heap.size w w') {a3 : Array Value} (hC : w.heap[C]? = some (.cells a3 72)) {B e s n : Nat} {v : Value} {xs : List Value} (hr : w.ownsRow B e s v n xs) (hne : e ≠ 72) : w'.ownsRow B e s v n xs :=
  ownsRow_kept hr fun k hk => h.block k (own_ge hr hk).2 (fun e => own_not hr hC hne (e ▸ hk))

/-- The call of checker.cycles. -/
theorem done_call {a3 : Array Value} (h : Done C Cr Ct Gb Tb Fb Ab kl m K F T tg W hv tv v1 v2 v5 v6 ov pv (.slice none 0 0) w) (hP : Placed (hOf F kl) (tOf T kl) m kl m (fun u => below (hOf F kl) m (u + 1)) tg) (hH : ∀ i, i < m → hOf F kl i < kl) (hT : ∀ i v : Nat, i < m → tOf T kl i = (v : Int) → v < kl)
    (hTab : Tab w) (hw2 : 2 < w.heap.size) (hC3 : 2 < C) (hCb : w.heap[C]? = some (.cells a3 72)) (hnp : pv ≠ .slice none 0 0) (hkl : kl ≤ 200) (hm : m ≤ 65536) (htl : totLen K kl ≤ 1048576) (hCW : W.heap.size ≤ C) (n1 : C ≠ Cr) (n2 : C ≠ Ct) (n3 : C ≠ Gb) (n4 : C ≠ Tb) (n5 : C ≠ Fb) (n6 : C ≠ Ab) (hTb : Tb < w.heap.size) (hFb : Fb < w.heap.size) :
    Calls Ybad.prog 7 #[.pointer (some ⟨C, 0, none⟩), .agg #[.slice (some ⟨Tb, 0, none⟩) m m, .slice (some ⟨Fb, 0, none⟩) (kl + 1) (kl + 1)]] w fun e w' => e = .returned (.tuple #[]) ∧
      ∃ gv, Done C Cr Ct Gb Tb Fb Ab kl m K F T tg W hv tv v1 v2 v5 v6 ov pv gv w' ∧ w.heap.size ≤ w'.heap.size ∧ w'.ownsRow 0 79 5 gv (spec (clos (made (hOf F kl) m kl tg).E) kl).length (probsOf K (fun v => (bufAt K v).length) (spec (clos (made (hOf F kl) m kl tg).E) kl)) := by
  have hG : GraphAt (made (hOf F kl) m kl tg) Tb m Fb (kl + 1) (clos (made (hOf F kl) m kl tg).E) w :=
    ⟨hP.ok hH hT, hkl, hm, below_all m kl hH, hFb, hTb, fun i hi => h.fst i (by have : i ≤ kl := hi; omega), fun i hi => h.tgt i hi, fun a b _ _ => clos_iff _ a b⟩
  have hpl := h.pl
  obtain ⟨_, ⟨e, _⟩ | ⟨Pb, pc, cur, rfl, _, hPb, _⟩⟩ := hpl
  · exact absurd e hnp
  have hol := odd_len K kl
  have hbl := buf_len K kl
  have hkey : ∀ Ob oc, (0 < (oddAt K kl).length → ov = .slice (some ⟨Ob, 0, none⟩) (oddAt K kl).length oc) → KeysAt Cr Pb pc Ob (oddAt K kl).length oc kl ov (bufAt K kl) K (fun v => (bufAt K v).length) w := fun Ob oc hov => by
    refine ⟨World.block_lt_of_cell? w _ h.r0, lt_of_heap hPb, h.r0, h.r1, h.r2, by omega, by omega, fun v hv => by have := key_len (K := K) hv; omega, fun v hv => ⟨ownsRow_cell h.pl (pairs_get K hv).1, ?_⟩⟩
    have hc := ownsRow_cell h.pl (pairs_get K hv).2
    by_cases hev : v % 2 = 0
    · rw [show endAt K v = ((bufAt K v).length : Int) + 1 + ((K v).length : Int) by unfold endAt; rw [if_pos hev]] at hc
      exact Or.inl ⟨hc, (buf_key hv hev).1, (buf_key hv hev).2⟩
    · rw [show endAt K v = -((v / 2 : Nat) : Int) - 1 by unfold endAt; rw [if_neg hev]] at hc
      have hlt : v / 2 < (oddAt K kl).length := by rw [hol]; omega
      have e := hov (by omega)
      have hod := h.od
      rw [e] at hod
      have hco := ownsRow_cell hod (j := v / 2) (u := .string ⟨(K v).toArray⟩) (by simp [strs, odd_key hv hev])
      exact Or.inr ⟨v / 2, e, World.block_lt_of_cell? w _ hco, hc, hco, hlt⟩
  obtain ⟨Ob, oc, hov, hCO⟩ : ∃ Ob oc, (0 < (oddAt K kl).length → ov = .slice (some ⟨Ob, 0, none⟩) (oddAt K kl).length oc) ∧ C ≠ Ob := by
    by_cases h0 : 0 < (oddAt K kl).length
    · have hod := h.od
      obtain ⟨Ob, oc, e, _⟩ := row_some hod h0
      refine ⟨Ob, oc, fun _ => e, fun e' => ?_⟩
      subst e
      exact own_not hod hCb (by decide) (by rw [e']; rfl)
    · exact ⟨0, 0, fun h => absurd h h0, by omega⟩
  have hCP : C ≠ Pb := fun e => own_not h.pl hCb (by decide) (by rw [e]; rfl)
  refine (checks_any C Cr Pb pc Ob (oddAt K kl).length oc ov (bufAt K kl) K (fun v => (bufAt K v).length) (made (hOf F kl) m kl tg) Tb m Fb (kl + 1) (clos (made (hOf F kl) m kl tg).E) w hG (hkey Ob oc hov) (lt_of_heap hCb) hC3 n1 hCP hCO h.c0 h.c2 (frozen_of_heap hCb) h.c4 h.c8 hTab hw2).mono ?_
  rintro e w' ⟨rfl, hbes, gv, hgv, hrow⟩
  refine ⟨rfl, gv, ⟨(hbes.cell 0 (by omega)).trans h.c0, (hbes.cell 1 (by omega)).trans h.c1, hgv, (hbes.cell 3 (by omega)).trans h.c3, (hbes.cell 4 (by omega)).trans h.c4, (hbes.cell 8 (by omega)).trans h.c8, cell_bes (B := 0) hbes h.t0 (Ne.symm n2), cell_bes (B := 0) hbes h.r0 (Ne.symm n1), cell_bes (B := 0) hbes h.r1 (Ne.symm n1), cell_bes (B := 0) hbes h.r2 (Ne.symm n1), cell_bes (B := 0) hbes h.g0 (Ne.symm n3), cell_bes (B := 0) hbes h.g1 (Ne.symm n3), fun j hj => cell_bes (B := 0) hbes (h.tgt j hj) (Ne.symm n4), fun j hj => cell_bes (B := 0) hbes (h.fst j hj) (Ne.symm n5), fun j hj => cell_bes (B := 0) hbes (h.at_ j hj) (Ne.symm n6), row_bes hbes hCb h.h (by decide), row_bes hbes hCb h.t (by decide), row_bes hbes hCb h.q1 (by decide), row_bes hbes hCb h.q2 (by decide), row_bes hbes hCb h.q5 (by decide), row_bes hbes hCb h.q6 (by decide), row_bes hbes hCb h.pl (by decide), row_bes hbes hCb h.od (by decide), ?_, Nat.le_trans h.wsz hbes.size⟩, hbes.size, own_mono hrow (Nat.zero_le _)⟩
  exact ⟨hbes.os.trans h.bel.os, hbes.tape.trans h.bel.tape, hbes.output.trans h.bel.output, Nat.le_trans h.wsz hbes.size, fun k hk => (hbes.block k (by have := h.wsz; omega) (by omega)).trans (h.bel.block k hk)⟩
end
end Go.Proofs.YbulkeiwwDoor
