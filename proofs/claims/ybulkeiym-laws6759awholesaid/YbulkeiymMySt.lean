/-
  What the law's walk knows of the world behind requestBy.
-/
import Derived.Test.YbulkeiymMyTry
namespace Go.Proofs.Ybulkeiym
open Go.RowKit Go.MuLone
set_option linter.unusedVariables false

theorem add_any (d : Int) (w : World) (h : (Lit.int .i64 d).wf = true) :
    Calls Yba.prog 4 #[.agg (tm 0 0), .int .i64 d] w fun e w' => e = .returned (.agg (tm (nsOf d) (dsOf d))) ∧ Below w.heap.size w w' := by
  simp [Lit.wf, IntKind.min, IntKind.max, IntKind.signed, IntKind.bits] at h
  by_cases h0 : 0 ≤ d
  · exact add_pos d w h0 (by omega)
  · exact add_neg d w (by omega) (by omega)

/-- Three cells of a time.Time at the head of block b. -/
structure At (w : World) (b o : Nat) (x y : Int) : Prop where
  c0 : w.cell? ⟨b, o, none⟩ = some (.int .u64 x)
  c1 : w.cell? ⟨b, o + 1, none⟩ = some (.int .i64 y)
  c2 : w.cell? ⟨b, o + 2, none⟩ = some (.pointer none)

theorem At.below {w w' : World} {b o : Nat} {x y : Int} (h : At w b o x y) (hb : Below w.heap.size w w') (hl : b < w.heap.size) : At w' b o x y :=
  ⟨(hb.cell (p := ⟨b, o, none⟩) hl).trans h.c0, (hb.cell (p := ⟨b, o + 1, none⟩) hl).trans h.c1, (hb.cell (p := ⟨b, o + 2, none⟩) hl).trans h.c2⟩

theorem At.alloc {w : World} {b o : Nat} {x y : Int} (h : At w b o x y) (hl : b < w.heap.size) (ob : Obj) : At (w.alloc ob) b o x y :=
  h.below ((Below.refl _ w).alloc (Nat.le_refl _) ob) hl

theorem at_new (w : World) (x y : Int) : At (w.alloc (.cells #[.int .u64 x, .int .i64 y, .pointer none] 25)) w.heap.size 0 x y := by
  constructor <;> simp [go_sem]

structure St (u w : World) (bT bE bS bC : Nat) (tn td en ed : Int) (q : Bool) (lg : Value) : Prop where
  below : Below u.heap.size u w
  n0 : u.heap.size ≤ bT
  n1 : bT < bE
  n2 : bE < bS
  n3 : bS < bC
  n4 : bC < w.heap.size
  t : At w bT 0 tn td
  e : At w bE 0 en ed
  ce : At w bC 9 en ed
  cb : At w bC 12 tn td
  c7 : w.cell? ⟨bC, 7, none⟩ = some (.int .i32 0)
  f7 : w.frozen? ⟨bC, 7, none⟩ = false
  c15 : w.cell? ⟨bC, 15, none⟩ = some (.bool q)
  c16 : w.cell? ⟨bS, 16, none⟩ = some lg

theorem St.run {u w w' : World} {bT bE bS bC : Nat} {tn td en ed : Int} {q : Bool} {lg : Value} (h : St u w bT bE bS bC tn td en ed q lg) (hb : Below w.heap.size w w') :
    St u w' bT bE bS bC tn td en ed q lg := by
  have e1 := h.n0
  have e2 := h.n1
  have e3 := h.n2
  have e4 := h.n3
  have e5 := h.n4
  have hs := hb.size
  have hs' := h.below.size
  exact ⟨h.below.trans (hb.mono hs'), h.n0, h.n1, h.n2, h.n3, by omega, h.t.below hb (by omega), h.e.below hb (by omega), h.ce.below hb (by omega), h.cb.below hb (by omega),
    (hb.cell (p := ⟨bC, 7, none⟩) (by show bC < _; omega)).trans h.c7, (hb.frozen (p := ⟨bC, 7, none⟩) (by show bC < _; omega)).trans h.f7, (hb.cell (p := ⟨bC, 15, none⟩) (by show bC < _; omega)).trans h.c15, (hb.cell (p := ⟨bS, 16, none⟩) (by show bS < _; omega)).trans h.c16⟩

theorem St.lock {u w : World} {bT bE bS bC : Nat} {tn td en ed : Int} {q : Bool} {lg : Value} (h : St u w bT bE bS bC tn td en ed q lg) :
    St u ((w.setCell ⟨bC, 7, none⟩ (.int .i32 1)).setCell ⟨bC, 7, none⟩ (.int .i32 0)) bT bE bS bC tn td en ed q lg := by
  have e1 := h.n0
  have e2 := h.n1
  have e3 := h.n2
  have e4 := h.n3
  have e5 := h.n4
  have hc : ∀ b o, ¬ (b = bC ∧ o = 7) → ((w.setCell ⟨bC, 7, none⟩ (.int .i32 1)).setCell ⟨bC, 7, none⟩ (.int .i32 0)).cell? ⟨b, o, none⟩ = w.cell? ⟨b, o, none⟩ := fun b o hn => by
    rw [World.cell?_setCell_other _ _ _ _ (by simp; omega), World.cell?_setCell_other _ _ _ _ (by simp; omega)]
  have hA : ∀ b o x y, (b = bC → 7 < o) → At w b o x y → At ((w.setCell ⟨bC, 7, none⟩ (.int .i32 1)).setCell ⟨bC, 7, none⟩ (.int .i32 0)) b o x y := fun b o x y hn ha =>
    ⟨(hc _ _ (by omega)).trans ha.c0, (hc _ _ (by omega)).trans ha.c1, (hc _ _ (by omega)).trans ha.c2⟩
  exact ⟨(h.below.setCell (by show _ ≤ bC; omega) _).setCell (by show _ ≤ bC; omega) _, h.n0, h.n1, h.n2, h.n3, by simp; omega, hA _ _ _ _ (by omega) h.t, hA _ _ _ _ (by omega) h.e, hA _ _ _ _ (by omega) h.ce, hA _ _ _ _ (by omega) h.cb,
    World.cell?_setCell_same _ _ _ (World.cell?_setCell_same _ _ _ h.c7), by simpa using h.f7, (hc _ _ (by omega)).trans h.c15, (hc _ _ (by omega)).trans h.c16⟩

theorem St.ofReq {u W w' : World} {bT bE bS bC : Nat} {tn td en ed : Int} {q : Bool} {lg : Value} (hr : Req W w' bC bS tn td lg)
    (below : Below u.heap.size u W) (n0 : u.heap.size ≤ bT) (n1 : bT < bE) (n2 : bE < bS) (n3 : bS < bC) (n4 : bC < W.heap.size)
    (t : At W bT 0 tn td) (e : At W bE 0 en ed) (ce : At W bC 9 en ed) (c7 : W.cell? ⟨bC, 7, none⟩ = some (.int .i32 0)) (f7 : W.frozen? ⟨bC, 7, none⟩ = false)
    (c15 : W.cell? ⟨bC, 15, none⟩ = some (.bool q)) : St u w' bT bE bS bC tn td en ed q lg := by
  have hs := hr.size
  have hA : ∀ b o x y, b < W.heap.size → (b = bC → o + 2 < 12) → (b = bS → o + 2 < 16) → At W b o x y → At w' b o x y := fun b o x y hl hn1 hn2 ha =>
    ⟨(hr.rest _ _ hl (by omega) (by omega)).trans ha.c0, (hr.rest _ _ hl (by omega) (by omega)).trans ha.c1, (hr.rest _ _ hl (by omega) (by omega)).trans ha.c2⟩
  have hsz := below.size
  refine ⟨⟨hr.os.trans below.os, hr.tape.trans below.tape, hr.output.trans below.output, by omega, fun b hb => (hr.block b (by omega) (by omega) (by omega)).trans (below.block b hb)⟩, n0, n1, n2, n3, by omega, hA _ _ _ _ (by omega) (by omega) (by omega) t, hA _ _ _ _ (by omega) (by omega) (by omega) e, hA _ _ _ _ (by omega) (by omega) (by omega) ce,
    ⟨hr.c12, hr.c13, hr.c14⟩, (hr.rest _ _ n4 (by omega) (by omega)).trans c7, (hr.frz _ _ n4).trans f7, (hr.rest _ _ n4 (by omega) (by omega)).trans c15, hr.c16⟩

theorem At.set {w : World} {b o c p : Nat} {x y : Int} (h : At w b o x y) (hn : b ≠ c) (v : Value) : At (w.setCell ⟨c, p, none⟩ v) b o x y := by
  refine ⟨?_, ?_, ?_⟩
  · rw [World.cell?_setCell_other _ _ _ _ (by first | (simp; done) | (simp; omega))]; exact h.c0
  · rw [World.cell?_setCell_other _ _ _ _ (by first | (simp; done) | (simp; omega))]; exact h.c1
  · rw [World.cell?_setCell_other _ _ _ _ (by first | (simp; done) | (simp; omega))]; exact h.c2

/-- The one time that the log holds. -/
structure Lg (w : World) (g bC : Nat) (x y : Int) : Prop where
  c : At w g 0 x y
  l : bC < g
  s : g < w.heap.size

theorem Lg.run {w w' : World} {g bC : Nat} {x y : Int} (h : Lg w g bC x y) (hb : Below w.heap.size w w') : Lg w' g bC x y := by
  have hs := hb.size
  have h2 := h.s
  exact ⟨h.c.below hb h.s, h.l, by omega⟩
theorem Lg.draw {w w' : World} {g bC : Nat} {x y : Int} (h : Lg w g bC x y) (hb : Below w.drew.heap.size w.drew w') : Lg w' g bC x y :=
  h.run ((Below.refl w.heap.size w).drew.trans hb)
theorem Lg.set {w : World} {g bC c p : Nat} {x y : Int} (h : Lg w g bC x y) (hn : g ≠ c) (v : Value) : Lg (w.setCell ⟨c, p, none⟩ v) g bC x y :=
  ⟨h.c.set hn v, h.l, by simpa using h.s⟩

theorem St.set {u w : World} {bT bE bS bC c p : Nat} {tn td en ed : Int} {q : Bool} {lg : Value} (h : St u w bT bE bS bC tn td en ed q lg) (hc : bC < c) (v : Value) :
    St u (w.setCell ⟨c, p, none⟩ v) bT bE bS bC tn td en ed q lg := by
  have e1 := h.n0
  have e2 := h.n1
  have e3 := h.n2
  have e4 := h.n3
  have e5 := h.n4
  refine ⟨h.below.setCell (by show _ ≤ c; omega) _, h.n0, h.n1, h.n2, h.n3, by simpa using h.n4, h.t.set (by omega) _, h.e.set (by omega) _, h.ce.set (by omega) _, h.cb.set (by omega) _, ?_, ?_, ?_, ?_⟩
  · rw [World.cell?_setCell_other _ _ _ _ (by first | (simp; done) | (simp; omega))]; exact h.c7
  · rw [World.frozen?_setCell]; exact h.f7
  · rw [World.cell?_setCell_other _ _ _ _ (by first | (simp; done) | (simp; omega))]; exact h.c15
  · rw [World.cell?_setCell_other _ _ _ _ (by first | (simp; done) | (simp; omega))]; exact h.c16

/-- The world with the time x, y stored at block c. -/
abbrev put3 (w : World) (c : Nat) (x y : Int) : World := ((w.setCell ⟨c, 0, none⟩ (.int .u64 x)).setCell ⟨c, 1, none⟩ (.int .i64 y)).setCell ⟨c, 2, none⟩ (.pointer none)

theorem At.put {w : World} {c : Nat} {x0 y0 x y : Int} (h : At w c 0 x0 y0) : At (put3 w c x y) c 0 x y := by
  refine ⟨?_, ?_, ?_⟩
  · rw [World.cell?_setCell_other _ _ _ _ (by simp), World.cell?_setCell_other _ _ _ _ (by simp)]; exact World.cell?_setCell_same _ _ _ h.c0
  · rw [World.cell?_setCell_other _ _ _ _ (by simp)]; exact World.cell?_setCell_same _ _ _ ((World.cell?_setCell_other _ _ _ _ (by simp)).trans h.c1)
  · exact World.cell?_setCell_same _ _ _ ((World.cell?_setCell_other _ _ _ _ (by simp)).trans ((World.cell?_setCell_other _ _ _ _ (by simp)).trans h.c2))

/-- All that the last region reads. -/
theorem last7 {u w : World} {bT bE bS bC g b : Nat} {tn td en ed x y : Int} {q : Bool} {lg : Value} (h : St u w bT bE bS bC tn td en ed q lg) (hG : Lg w g bC x y) (hW : Lg w b bC x y) :
    w.cell? ⟨bS, 16, none⟩ = some lg ∧ w.cell? ⟨g, 0, none⟩ = some (.int .u64 x) ∧ w.cell? ⟨g, 1, none⟩ = some (.int .i64 y) ∧ w.cell? ⟨g, 2, none⟩ = some (.pointer none) ∧
    w.cell? ⟨b, 0, none⟩ = some (.int .u64 x) ∧ w.cell? ⟨b, 1, none⟩ = some (.int .i64 y) ∧ w.cell? ⟨b, 2, none⟩ = some (.pointer none) :=
  ⟨h.c16, hG.c.c0, hG.c.c1, hG.c.c2, hW.c.c0, hW.c.c1, hW.c.c2⟩

theorem dl_1 {tn td en ed : Int} (h : zT tn td = true) : dl en ed tn td = (en, ed) := by simp [dl, h]
theorem dl_2 {tn td en ed : Int} (h : zT tn td = false) (h' : zT en ed = true) : dl en ed tn td = (tn, td) := by simp [dl, h, h']
theorem dl_3 {tn td en ed : Int} (h : zT tn td = false) (h' : zT en ed = false) (hb : bT tn td en ed = true) : dl en ed tn td = (tn, td) := by
  have : bT en ed tn td = false := by
    simp [bT] at hb ⊢; omega
  simp [dl, h, h', this]
theorem dl_4 {tn td en ed : Int} (h : zT tn td = false) (h' : zT en ed = false) (hb : bT tn td en ed = false) : dl en ed tn td = (en, ed) := by
  by_cases k : bT en ed tn td = true
  · simp [dl, h, h', k]
  · simp only [Bool.not_eq_true] at k
    simp [bT] at hb k
    have e1 : tn = en := by omega
    have e2 : td = ed := by omega
    simp [dl, e1, e2]

theorem St.draw {u w w' : World} {bT bE bS bC : Nat} {tn td en ed : Int} {q : Bool} {lg : Value} (h : St u w bT bE bS bC tn td en ed q lg) (hb : Below w.drew.heap.size w.drew w') :
    St u w' bT bE bS bC tn td en ed q lg := h.run ((Below.refl w.heap.size w).drew.trans hb)

theorem St.by6 {u w : World} {bT bE bS bC : Nat} {tn td en ed : Int} {q : Bool} {lg : Value} (h : St u w bT bE bS bC tn td en ed q lg) :
    w.cell? ⟨bC, 12, none⟩ = some (.int .u64 tn) ∧ w.cell? ⟨bC, 13, none⟩ = some (.int .i64 td) ∧ w.cell? ⟨bC, 14, none⟩ = some (.pointer none) ∧
    w.cell? ⟨bT, 0, none⟩ = some (.int .u64 tn) ∧ w.cell? ⟨bT, 1, none⟩ = some (.int .i64 td) ∧ w.cell? ⟨bT, 2, none⟩ = some (.pointer none) :=
  ⟨h.cb.c0, h.cb.c1, h.cb.c2, h.t.c0, h.t.c1, h.t.c2⟩

theorem St.end7 {u w : World} {bT bE bS bC : Nat} {tn td en ed : Int} {q : Bool} {lg : Value} (h : St u w bT bE bS bC tn td en ed q lg) :
    w.cell? ⟨bC, 9, none⟩ = some (.int .u64 en) ∧ w.cell? ⟨bC, 10, none⟩ = some (.int .i64 ed) ∧ w.cell? ⟨bC, 11, none⟩ = some (.pointer none) ∧
    w.cell? ⟨bE, 0, none⟩ = some (.int .u64 en) ∧ w.cell? ⟨bE, 1, none⟩ = some (.int .i64 ed) ∧ w.cell? ⟨bE, 2, none⟩ = some (.pointer none) ∧ w.cell? ⟨bC, 15, none⟩ = some (.bool q) :=
  ⟨h.ce.c0, h.ce.c1, h.ce.c2, h.e.c0, h.e.c1, h.e.c2, h.c15⟩
end Go.Proofs.Ybulkeiym
