/-
  The law's own walk.
-/
import Derived.Test.YbulkeiymMySt
import Derived.Deep.RegionHeld3
namespace Go.Proofs.Ybulkeiym
open Go.RowKit Go.MuLone
attribute [local go_sem ↓] Go.wp_at_zero Go.wp_at_succ
set_option linter.unusedVariables false

theorem frzRun {w w' : World} {b : Nat} (h : ∀ o, w.frozen? ⟨b, o, none⟩ = false) (hl : b < w.heap.size) (hb : Below w.heap.size w w') : ∀ o, w'.frozen? ⟨b, o, none⟩ = false :=
  fun o => (hb.frozen (p := ⟨b, o, none⟩) hl).trans (h o)

set_option maxHeartbeats 2000000 in
set_option maxRecDepth 100000 in
theorem walk0 (a0 : Int) (a1 : Int) (a2 : Int) (a3 : Bool) (w0 : (Lit.int .i64 a0).wf = true) (w1 : (Lit.int .i64 a1).wf = true) (w2 : (Lit.int .i64 a2).wf = true) (w : World) :
    Calls Yba.prog 3 #[.int .i64 a0, .int .i64 a1, .int .i64 a2, .bool a3] w fun e w' => e = .returned (.bool true) ∧ Below w.heap.size w w' := by
  have c0 := fun w => add_any a0 w w0
  have c1 := fun w => add_any a1 w w1
  have c2 := fun w => add_any a2 w w2
  have t0 : 0 ≤ nsOf a0 ∧ nsOf a0 < 1000000000 := by unfold nsOf; omega
  have e0 : 0 ≤ nsOf a1 ∧ nsOf a1 < 1000000000 := by unfold nsOf; omega
  have o0 : 0 ≤ nsOf a2 ∧ nsOf a2 < 1000000000 := by unfold nsOf; omega
  generalize nsOf a0 = tn at *
  generalize dsOf a0 = td at *
  generalize nsOf a1 = en at *
  generalize dsOf a1 = ed at *
  generalize nsOf a2 = on at *
  generalize dsOf a2 = od at *
  clear w0 w1 w2
  go_enter Yba.func3, Yba.ntmps3
  go_wp2_with fail
  refine (c0 _).mono ?_
  rintro e w1 ⟨rfl, hb1⟩
  go_wp2_with fail
  refine (c1 _).mono ?_
  rintro e w2 ⟨rfl, hb2⟩
  go_wp2_with fail
  refine (c2 _).mono ?_
  rintro e w3 ⟨rfl, hb3⟩
  have hT : At w2 w1.heap.size 0 tn td := (at_new w1 tn td).below hb2 (by simp)
  have hz1 := hb1.size
  have hz2 := hb2.size
  have hz3 := hb3.size
  simp at hz2 hz3
  have hE : At w3 w2.heap.size 0 en ed := (at_new w2 en ed).below hb3 (by simp)
  have hT3 : At w3 w1.heap.size 0 tn td := (hT.alloc (by omega) _).below hb3 (by simp; omega)
  have hB := hideIt (((hb1.alloc (by omega) _).trans (hb2.mono (by simp; omega))).alloc (by omega) _ |>.trans (hb3.mono (by simp; omega)))
  clear hb1 hb2 hb3 hT c0 c1 c2
  obtain ⟨tc0, tc1, tc2⟩ := hT3
  obtain ⟨ec0, ec1, ec2⟩ := hE
  generalize w1.heap.size = bT at *
  generalize w2.heap.size = bE at *
  have l1 : bE < w3.heap.size := by omega
  have l2 : bT < w3.heap.size := by omega
  have l3 : bE < w3.heap.size + 1 := by omega
  have l4 : bT < w3.heap.size + 1 := by omega
  have l5 : bE < w3.heap.size + 1 + 1 := by omega
  have l6 : bT < w3.heap.size + 1 + 1 := by omega
  have l7 : bT < w3.heap.size + 1 + 1 + 1 := by omega
  clear w1 w2
  go_wp2_with fail
  cases a3
  · refine (request_free (w3.heap.size + 1 + 1) (w3.heap.size + 1) tn td en ed (.int .u64 on) (.int .i64 od) (.pointer none) _ (by simp) (by simp) (by omega) t0.1 t0.2 e0.1 e0.2 (by simp [go_sem]) (by simp [go_sem]) (by simp [go_sem]) (by simp [go_sem]) (by simp [go_sem]) (by simp [go_sem]) (by simp [go_sem]) (by simp [go_sem]) (by simp [go_sem]) (by intro o; simp [go_sem]) (by simp [go_sem]) (by simp [go_sem])).mono ?_
    rintro e w4 ⟨rfl, g, cap, hr, hg1, hg2, hl0, hl1, hl2⟩
    have hS := St.ofReq (u := w) (bT := bT) (bE := bE) (en := en) (ed := ed) (q := false) hr (((hB.out.alloc (by omega) _).alloc (by simp; omega) _).alloc (by simp; omega) _) hz1 hz2 (by omega) (by omega) (by simp) ⟨by simp [go_sem, *], by simp [go_sem, *], by simp [go_sem, *]⟩ ⟨by simp [go_sem, *], by simp [go_sem, *], by simp [go_sem, *]⟩ ⟨by simp [go_sem], by simp [go_sem], by simp [go_sem]⟩ (by simp [go_sem]) (by simp [go_sem]) (by simp [go_sem])
    have hG : Lg w4 g (w3.heap.size + 1 + 1) (dl en ed tn td).1 (dl en ed tn td).2 := ⟨⟨hl0, hl1, hl2⟩, by simp at hg1; omega, hg2⟩
    clear hg1 hg2 hl0 hl1 hl2
    clear hr hB tc0 tc1 tc2 ec0 ec1 ec2 l1 l2 l3 l4 l5 l6 l7
    generalize w3.heap.size + 1 + 1 = bC at *
    generalize w3.heap.size + 1 = bS at *
    obtain ⟨d0, d1, d2, f0, f1, f2⟩ := hS.by6
    go_wp2_with fail
    go_region_held3 (fun w' => w'.cell? ⟨bC, 12, none⟩ = some (.int .u64 tn) ∧ w'.cell? ⟨bC, 13, none⟩ = some (.int .i64 td) ∧ w'.cell? ⟨bC, 14, none⟩ = some (.pointer none) ∧ w'.cell? ⟨bT, 0, none⟩ = some (.int .u64 tn) ∧ w'.cell? ⟨bT, 1, none⟩ = some (.int .i64 td) ∧ w'.cell? ⟨bT, 2, none⟩ = some (.pointer none)) (first | (refine ⟨?_, ?_, ?_, ?_, ?_, ?_⟩ <;> assumption) | go_keep) (first | (go_at_call 6; refine (equal_b tn td _ t0.1 t0.2).mono ?_; rintro e w5 ⟨rfl, hb5⟩; have hS5 := hS.draw hb5; obtain ⟨d50, d51, d52, f50, f51, f52⟩ := hS5.by6) | (go_at_call 7; refine (isZero_b tn td (zT tn td) _ rfl).mono ?_; rintro e w6 ⟨rfl, hb6⟩; first | (have hby := hb6; have hS7 := hS6.run hb6; obtain ⟨d70, d71, d72, f70, f71, f72⟩ := hS7.by6) | (have hbx := hb6; have hS6 := hS5.run hb6; obtain ⟨d60, d61, d62, f60, f61, f62⟩ := hS6.by6)))
    replace hG := ((hG.draw hb5).run hbx).run hby
    clear hb6 hbx hby
    clear hS hS5 hS6 d0 d1 d2 f0 f1 f2 d50 d51 d52 f50 f51 f52 d60 d61 d62 f60 f61 f62 d70 d71 d72 f70 f71 f72 hb5
    obtain ⟨d0, d1, d2, f0, f1, f2, b0⟩ := hS7.end7
    go_wp2_with fail
    go_region_held3 (fun w' => w'.cell? ⟨bC, 9, none⟩ = some (.int .u64 en) ∧ w'.cell? ⟨bC, 10, none⟩ = some (.int .i64 ed) ∧ w'.cell? ⟨bC, 11, none⟩ = some (.pointer none) ∧ w'.cell? ⟨bE, 0, none⟩ = some (.int .u64 en) ∧ w'.cell? ⟨bE, 1, none⟩ = some (.int .i64 ed) ∧ w'.cell? ⟨bE, 2, none⟩ = some (.pointer none) ∧ w'.cell? ⟨bC, 15, none⟩ = some (.bool false)) (first | (refine ⟨?_, ?_, ?_, ?_, ?_, ?_, ?_⟩ <;> assumption) | go_keep) (first | (go_at_call 6; refine (equal_b en ed _ e0.1 e0.2).mono ?_; rintro e w8 ⟨rfl, hb8⟩; have hS8 := hS7.draw hb8; obtain ⟨d80, d81, d82, f80, f81, f82, b8⟩ := hS8.end7) | (go_at_call 7; refine (isZero_b en ed (zT en ed) _ rfl).mono ?_; rintro e w9 ⟨rfl, hb9⟩; first | (have hby := hb9; have hS10 := hS9.run hb9; obtain ⟨d70, d71, d72, f70, f71, f72, b7⟩ := hS10.end7) | (have hbx := hb9; have hS9 := hS8.run hb9; obtain ⟨d60, d61, d62, f60, f61, f62, b6⟩ := hS9.end7)))
    replace hG := ((hG.draw hb8).run hbx).run hby
    clear hb9 hbx hby
    clear hS7 hS8 hS9 d0 d1 d2 f0 f1 f2 b0 d80 d81 d82 f80 f81 f82 b8 d60 d61 d62 f60 f61 f62 b6 d70 d71 d72 f70 f71 f72 b7 hb8
    go_wp2_with fail
    refine (try_free ⟨bC, 7, none⟩ _ hS10.c7 hS10.f7).mono ?_
    rintro e w11 ⟨rfl, rfl⟩
    go_wp2_with fail
    refine (unlock_held muLib ⟨bC, 7, none⟩ _ (World.cell?_setCell_same _ _ _ hS10.c7) (by simpa using hS10.f7)).mono ?_
    rintro e w12 ⟨rfl, rfl⟩
    have hS11 := hS10.lock
    have hG11 := (hG.set (p := 7) (c := bC) (by have := hG.l; omega) (.int .i32 1)).set (p := 7) (c := bC) (by have := hG.l; omega) (.int .i32 0)
    clear hG hS10
    generalize (w9.setCell ⟨bC, 7, none⟩ (.int .i32 1)).setCell ⟨bC, 7, none⟩ (.int .i32 0) = v at *
    have hS := hS11.run ((Below.refl v.heap.size v).alloc (Nat.le_refl _) (.cells #[.int .u64 0, .int .i64 0, .pointer none] 25))
    have hG := hG11.run ((Below.refl v.heap.size v).alloc (Nat.le_refl _) (.cells #[.int .u64 0, .int .i64 0, .pointer none] 25))
    have hW : Lg (v.alloc (.cells #[.int .u64 0, .int .i64 0, .pointer none] 25)) v.heap.size bC 0 0 := ⟨at_new v 0 0, hS11.n4, by simp⟩
    have hF : ∀ o, (v.alloc (.cells #[.int .u64 0, .int .i64 0, .pointer none] 25)).frozen? ⟨v.heap.size, o, none⟩ = false := by intro o; simp [go_sem]
    have hgb : g ≠ v.heap.size := by have := hG11.s; omega
    obtain ⟨d0, d1, d2⟩ := hS.t
    obtain ⟨f0, f1, f2⟩ := hS.e
    simp only [Nat.zero_add] at d1 d2 f1 f2
    clear hS11 hG11 hb6 hb9
    go_wp2_with fail
    generalize v.alloc (.cells #[.int .u64 0, .int .i64 0, .pointer none] 25) = v1 at *
    generalize v.heap.size = b at *
    by_cases hz : zT tn td = true
    · refine (isZero_b tn td true _ hz).mono ?_
      rintro e v2 ⟨rfl, hk⟩
      clear d0 d1 d2 f0 f1 f2
      replace hS := hS.run hk
      replace hG := hG.run hk
      replace hF := frzRun hF hW.s hk
      replace hW := hW.run hk
      clear hk
      obtain ⟨d0, d1, d2⟩ := hS.t
      obtain ⟨f0, f1, f2⟩ := hS.e
      simp only [Nat.zero_add] at d1 d2 f1 f2
      rw [dl_1 hz] at hG
      have z0 := hF 0
      have z1 := hF 1
      have z2 := hF 2
      obtain ⟨x0, x1, x2⟩ := hW.c
      simp only [Nat.zero_add] at x1 x2
      clear hF
      have hS' := ((hS.set (p := 0) hW.l (.int .u64 en)).set (p := 1) hW.l (.int .i64 ed)).set (p := 2) hW.l (.pointer none)
      have hG' := ((hG.set (p := 0) hgb (.int .u64 en)).set (p := 1) hgb (.int .i64 ed)).set (p := 2) hgb (.pointer none)
      have hW' : Lg _ b bC en ed := ⟨At.put (x := en) (y := ed) hW.c, hW.l, by simpa using hW.s⟩
      simp only [put3] at hW'
      obtain ⟨l0, l1, l2, l3, l4, l5, l6⟩ := last7 hS' hG' hW'
      go_wp2_with fail
      clear hS hG hW
      generalize ((v2.setCell ⟨b, 0, none⟩ (.int .u64 en)).setCell ⟨b, 1, none⟩ (.int .i64 ed)).setCell ⟨b, 2, none⟩ (.pointer none) = w13 at *
      go_region_held3 (fun w' => w'.cell? ⟨bS, 16, none⟩ = some (.slice (some ⟨g, 0, none⟩) 1 cap) ∧ w'.cell? ⟨g, 0, none⟩ = some (.int .u64 en) ∧ w'.cell? ⟨g, 1, none⟩ = some (.int .i64 ed) ∧ w'.cell? ⟨g, 2, none⟩ = some (.pointer none) ∧ w'.cell? ⟨b, 0, none⟩ = some (.int .u64 en) ∧ w'.cell? ⟨b, 1, none⟩ = some (.int .i64 ed) ∧ w'.cell? ⟨b, 2, none⟩ = some (.pointer none)) (first | (refine ⟨?_, ?_, ?_, ?_, ?_, ?_, ?_⟩ <;> assumption) | go_keep) (first | (go_at_call 6; refine (equal_b en ed _ e0.1 e0.2).mono ?_; rintro e w14 ⟨rfl, hb14⟩; have hS14 := hS'.draw hb14; have hG14 := hG'.draw hb14; have hW14 := hW'.draw hb14; obtain ⟨d80, d81, d82, f80, f81, f82, b8⟩ := last7 hS14 hG14 hW14) | (go_at_call 7; refine (isZero_b en ed (zT en ed) _ rfl).mono ?_; rintro e w15 ⟨rfl, hb15⟩; first | (have hS16 := hS15.run hb15; have hG16 := hG15.run hb15; have hW16 := hW15.run hb15; obtain ⟨d70, d71, d72, f70, f71, f72, b7⟩ := last7 hS16 hG16 hW16) | (have hS15 := hS14.run hb15; have hG15 := hG14.run hb15; have hW15 := hW14.run hb15; obtain ⟨d60, d61, d62, f60, f61, f62, b6⟩ := last7 hS15 hG15 hW15)))
      go_wp2
      go_ret
      exact ⟨rfl, hS16.below⟩
    · simp only [Bool.not_eq_true] at hz
      refine (isZero_b tn td false _ hz).mono ?_
      rintro e v2 ⟨rfl, hk⟩
      clear d0 d1 d2 f0 f1 f2
      replace hS := hS.run hk
      replace hG := hG.run hk
      replace hF := frzRun hF hW.s hk
      replace hW := hW.run hk
      clear hk
      obtain ⟨d0, d1, d2⟩ := hS.t
      obtain ⟨f0, f1, f2⟩ := hS.e
      simp only [Nat.zero_add] at d1 d2 f1 f2
      go_wp2_with fail
      by_cases hy : zT en ed = true
      · refine (isZero_b en ed true _ hy).mono ?_
        rintro e v3 ⟨rfl, hk⟩
        clear d0 d1 d2 f0 f1 f2
        replace hS := hS.run hk
        replace hG := hG.run hk
        replace hF := frzRun hF hW.s hk
        replace hW := hW.run hk
        clear hk
        obtain ⟨d0, d1, d2⟩ := hS.t
        obtain ⟨f0, f1, f2⟩ := hS.e
        simp only [Nat.zero_add] at d1 d2 f1 f2
        rw [dl_2 hz hy] at hG
        have z0 := hF 0
        have z1 := hF 1
        have z2 := hF 2
        obtain ⟨x0, x1, x2⟩ := hW.c
        simp only [Nat.zero_add] at x1 x2
        clear hF
        have hS' := ((hS.set (p := 0) hW.l (.int .u64 tn)).set (p := 1) hW.l (.int .i64 td)).set (p := 2) hW.l (.pointer none)
        have hG' := ((hG.set (p := 0) hgb (.int .u64 tn)).set (p := 1) hgb (.int .i64 td)).set (p := 2) hgb (.pointer none)
        have hW' : Lg _ b bC tn td := ⟨At.put (x := tn) (y := td) hW.c, hW.l, by simpa using hW.s⟩
        simp only [put3] at hW'
        obtain ⟨l0, l1, l2, l3, l4, l5, l6⟩ := last7 hS' hG' hW'
        go_wp2_with fail
        clear hS hG hW
        generalize ((v3.setCell ⟨b, 0, none⟩ (.int .u64 tn)).setCell ⟨b, 1, none⟩ (.int .i64 td)).setCell ⟨b, 2, none⟩ (.pointer none) = w13 at *
        go_region_held3 (fun w' => w'.cell? ⟨bS, 16, none⟩ = some (.slice (some ⟨g, 0, none⟩) 1 cap) ∧ w'.cell? ⟨g, 0, none⟩ = some (.int .u64 tn) ∧ w'.cell? ⟨g, 1, none⟩ = some (.int .i64 td) ∧ w'.cell? ⟨g, 2, none⟩ = some (.pointer none) ∧ w'.cell? ⟨b, 0, none⟩ = some (.int .u64 tn) ∧ w'.cell? ⟨b, 1, none⟩ = some (.int .i64 td) ∧ w'.cell? ⟨b, 2, none⟩ = some (.pointer none)) (first | (refine ⟨?_, ?_, ?_, ?_, ?_, ?_, ?_⟩ <;> assumption) | go_keep) (first | (go_at_call 6; refine (equal_b tn td _ t0.1 t0.2).mono ?_; rintro e w14 ⟨rfl, hb14⟩; have hS14 := hS'.draw hb14; have hG14 := hG'.draw hb14; have hW14 := hW'.draw hb14; obtain ⟨d80, d81, d82, f80, f81, f82, b8⟩ := last7 hS14 hG14 hW14) | (go_at_call 7; refine (isZero_b tn td (zT tn td) _ rfl).mono ?_; rintro e w15 ⟨rfl, hb15⟩; first | (have hS16 := hS15.run hb15; have hG16 := hG15.run hb15; have hW16 := hW15.run hb15; obtain ⟨d70, d71, d72, f70, f71, f72, b7⟩ := last7 hS16 hG16 hW16) | (have hS15 := hS14.run hb15; have hG15 := hG14.run hb15; have hW15 := hW14.run hb15; obtain ⟨d60, d61, d62, f60, f61, f62, b6⟩ := last7 hS15 hG15 hW15)))
        go_wp2
        go_ret
        exact ⟨rfl, hS16.below⟩
      · simp only [Bool.not_eq_true] at hy
        refine (isZero_b en ed false _ hy).mono ?_
        rintro e v3 ⟨rfl, hk⟩
        clear d0 d1 d2 f0 f1 f2
        replace hS := hS.run hk
        replace hG := hG.run hk
        replace hF := frzRun hF hW.s hk
        replace hW := hW.run hk
        clear hk
        obtain ⟨d0, d1, d2⟩ := hS.t
        obtain ⟨f0, f1, f2⟩ := hS.e
        simp only [Nat.zero_add] at d1 d2 f1 f2
        go_wp2_with fail
        by_cases hx : Go.Proofs.Ybulkeiym.bT tn td en ed = true
        · refine (before_b tn td en ed true _ t0.1 t0.2 e0.1 e0.2 hx).mono ?_
          rintro e v4 ⟨rfl, hk⟩
          clear d0 d1 d2 f0 f1 f2
          replace hS := hS.run hk
          replace hG := hG.run hk
          replace hF := frzRun hF hW.s hk
          replace hW := hW.run hk
          clear hk
          obtain ⟨d0, d1, d2⟩ := hS.t
          obtain ⟨f0, f1, f2⟩ := hS.e
          simp only [Nat.zero_add] at d1 d2 f1 f2
          rw [dl_3 hz hy hx] at hG
          have z0 := hF 0
          have z1 := hF 1
          have z2 := hF 2
          obtain ⟨x0, x1, x2⟩ := hW.c
          simp only [Nat.zero_add] at x1 x2
          clear hF
          have hS' := ((hS.set (p := 0) hW.l (.int .u64 tn)).set (p := 1) hW.l (.int .i64 td)).set (p := 2) hW.l (.pointer none)
          have hG' := ((hG.set (p := 0) hgb (.int .u64 tn)).set (p := 1) hgb (.int .i64 td)).set (p := 2) hgb (.pointer none)
          have hW' : Lg _ b bC tn td := ⟨At.put (x := tn) (y := td) hW.c, hW.l, by simpa using hW.s⟩
          simp only [put3] at hW'
          obtain ⟨l0, l1, l2, l3, l4, l5, l6⟩ := last7 hS' hG' hW'
          go_wp2_with fail
          clear hS hG hW
          generalize ((v4.setCell ⟨b, 0, none⟩ (.int .u64 tn)).setCell ⟨b, 1, none⟩ (.int .i64 td)).setCell ⟨b, 2, none⟩ (.pointer none) = w13 at *
          go_region_held3 (fun w' => w'.cell? ⟨bS, 16, none⟩ = some (.slice (some ⟨g, 0, none⟩) 1 cap) ∧ w'.cell? ⟨g, 0, none⟩ = some (.int .u64 tn) ∧ w'.cell? ⟨g, 1, none⟩ = some (.int .i64 td) ∧ w'.cell? ⟨g, 2, none⟩ = some (.pointer none) ∧ w'.cell? ⟨b, 0, none⟩ = some (.int .u64 tn) ∧ w'.cell? ⟨b, 1, none⟩ = some (.int .i64 td) ∧ w'.cell? ⟨b, 2, none⟩ = some (.pointer none)) (first | (refine ⟨?_, ?_, ?_, ?_, ?_, ?_, ?_⟩ <;> assumption) | go_keep) (first | (go_at_call 6; refine (equal_b tn td _ t0.1 t0.2).mono ?_; rintro e w14 ⟨rfl, hb14⟩; have hS14 := hS'.draw hb14; have hG14 := hG'.draw hb14; have hW14 := hW'.draw hb14; obtain ⟨d80, d81, d82, f80, f81, f82, b8⟩ := last7 hS14 hG14 hW14) | (go_at_call 7; refine (isZero_b tn td (zT tn td) _ rfl).mono ?_; rintro e w15 ⟨rfl, hb15⟩; first | (have hS16 := hS15.run hb15; have hG16 := hG15.run hb15; have hW16 := hW15.run hb15; obtain ⟨d70, d71, d72, f70, f71, f72, b7⟩ := last7 hS16 hG16 hW16) | (have hS15 := hS14.run hb15; have hG15 := hG14.run hb15; have hW15 := hW14.run hb15; obtain ⟨d60, d61, d62, f60, f61, f62, b6⟩ := last7 hS15 hG15 hW15)))
          go_wp2
          go_ret
          exact ⟨rfl, hS16.below⟩
        · simp only [Bool.not_eq_true] at hx
          refine (before_b tn td en ed false _ t0.1 t0.2 e0.1 e0.2 hx).mono ?_
          rintro e v4 ⟨rfl, hk⟩
          clear d0 d1 d2 f0 f1 f2
          replace hS := hS.run hk
          replace hG := hG.run hk
          replace hF := frzRun hF hW.s hk
          replace hW := hW.run hk
          clear hk
          obtain ⟨d0, d1, d2⟩ := hS.t
          obtain ⟨f0, f1, f2⟩ := hS.e
          simp only [Nat.zero_add] at d1 d2 f1 f2
          rw [dl_4 hz hy hx] at hG
          have z0 := hF 0
          have z1 := hF 1
          have z2 := hF 2
          obtain ⟨x0, x1, x2⟩ := hW.c
          simp only [Nat.zero_add] at x1 x2
          clear hF
          have hS' := ((hS.set (p := 0) hW.l (.int .u64 en)).set (p := 1) hW.l (.int .i64 ed)).set (p := 2) hW.l (.pointer none)
          have hG' := ((hG.set (p := 0) hgb (.int .u64 en)).set (p := 1) hgb (.int .i64 ed)).set (p := 2) hgb (.pointer none)
          have hW' : Lg _ b bC en ed := ⟨At.put (x := en) (y := ed) hW.c, hW.l, by simpa using hW.s⟩
          simp only [put3] at hW'
          obtain ⟨l0, l1, l2, l3, l4, l5, l6⟩ := last7 hS' hG' hW'
          go_wp2_with fail
          clear hS hG hW
          generalize ((v4.setCell ⟨b, 0, none⟩ (.int .u64 en)).setCell ⟨b, 1, none⟩ (.int .i64 ed)).setCell ⟨b, 2, none⟩ (.pointer none) = w13 at *
          go_region_held3 (fun w' => w'.cell? ⟨bS, 16, none⟩ = some (.slice (some ⟨g, 0, none⟩) 1 cap) ∧ w'.cell? ⟨g, 0, none⟩ = some (.int .u64 en) ∧ w'.cell? ⟨g, 1, none⟩ = some (.int .i64 ed) ∧ w'.cell? ⟨g, 2, none⟩ = some (.pointer none) ∧ w'.cell? ⟨b, 0, none⟩ = some (.int .u64 en) ∧ w'.cell? ⟨b, 1, none⟩ = some (.int .i64 ed) ∧ w'.cell? ⟨b, 2, none⟩ = some (.pointer none)) (first | (refine ⟨?_, ?_, ?_, ?_, ?_, ?_, ?_⟩ <;> assumption) | go_keep) (first | (go_at_call 6; refine (equal_b en ed _ e0.1 e0.2).mono ?_; rintro e w14 ⟨rfl, hb14⟩; have hS14 := hS'.draw hb14; have hG14 := hG'.draw hb14; have hW14 := hW'.draw hb14; obtain ⟨d80, d81, d82, f80, f81, f82, b8⟩ := last7 hS14 hG14 hW14) | (go_at_call 7; refine (isZero_b en ed (zT en ed) _ rfl).mono ?_; rintro e w15 ⟨rfl, hb15⟩; first | (have hS16 := hS15.run hb15; have hG16 := hG15.run hb15; have hW16 := hW15.run hb15; obtain ⟨d70, d71, d72, f70, f71, f72, b7⟩ := last7 hS16 hG16 hW16) | (have hS15 := hS14.run hb15; have hG15 := hG14.run hb15; have hW15 := hW14.run hb15; obtain ⟨d60, d61, d62, f60, f61, f62, b6⟩ := last7 hS15 hG15 hW15)))
          go_wp2
          go_ret
          exact ⟨rfl, hS16.below⟩
  · refine (request_begun (w3.heap.size + 1 + 1) (w3.heap.size + 1) tn td (.slice none 0 0) (.int .u64 on) (.int .i64 od) (.pointer none) _ (by simp) (by simp) (by omega) (by simp [go_sem]) (by simp [go_sem]) (by simp [go_sem]) (by simp [go_sem]) (by simp [go_sem]) (by intro o; simp [go_sem]) (by simp [go_sem])).mono ?_
    rintro e w4 ⟨rfl, hr⟩
    have hS := St.ofReq (u := w) (bT := bT) (bE := bE) (en := en) (ed := ed) (q := true) hr (((hB.out.alloc (by omega) _).alloc (by simp; omega) _).alloc (by simp; omega) _) hz1 hz2 (by omega) (by omega) (by simp) ⟨by simp [go_sem, *], by simp [go_sem, *], by simp [go_sem, *]⟩ ⟨by simp [go_sem, *], by simp [go_sem, *], by simp [go_sem, *]⟩ ⟨by simp [go_sem], by simp [go_sem], by simp [go_sem]⟩ (by simp [go_sem]) (by simp [go_sem]) (by simp [go_sem])
    clear hr hB tc0 tc1 tc2 ec0 ec1 ec2 l1 l2 l3 l4 l5 l6 l7
    generalize w3.heap.size + 1 + 1 = bC at *
    generalize w3.heap.size + 1 = bS at *
    obtain ⟨d0, d1, d2, f0, f1, f2⟩ := hS.by6
    go_wp2_with fail
    go_region_held3 (fun w' => w'.cell? ⟨bC, 12, none⟩ = some (.int .u64 tn) ∧ w'.cell? ⟨bC, 13, none⟩ = some (.int .i64 td) ∧ w'.cell? ⟨bC, 14, none⟩ = some (.pointer none) ∧ w'.cell? ⟨bT, 0, none⟩ = some (.int .u64 tn) ∧ w'.cell? ⟨bT, 1, none⟩ = some (.int .i64 td) ∧ w'.cell? ⟨bT, 2, none⟩ = some (.pointer none)) (first | (refine ⟨?_, ?_, ?_, ?_, ?_, ?_⟩ <;> assumption) | go_keep) (first | (go_at_call 6; refine (equal_b tn td _ t0.1 t0.2).mono ?_; rintro e w5 ⟨rfl, hb5⟩; have hS5 := hS.draw hb5; obtain ⟨d50, d51, d52, f50, f51, f52⟩ := hS5.by6) | (go_at_call 7; refine (isZero_b tn td (zT tn td) _ rfl).mono ?_; rintro e w6 ⟨rfl, hb6⟩; first | (have hS7 := hS6.run hb6; obtain ⟨d70, d71, d72, f70, f71, f72⟩ := hS7.by6) | (have hS6 := hS5.run hb6; obtain ⟨d60, d61, d62, f60, f61, f62⟩ := hS6.by6)))
    clear hS hS5 hS6 d0 d1 d2 f0 f1 f2 d50 d51 d52 f50 f51 f52 d60 d61 d62 f60 f61 f62 d70 d71 d72 f70 f71 f72 hb5
    obtain ⟨d0, d1, d2, f0, f1, f2, b0⟩ := hS7.end7
    go_wp2_with fail
    go_region_held3 (fun w' => w'.cell? ⟨bC, 9, none⟩ = some (.int .u64 en) ∧ w'.cell? ⟨bC, 10, none⟩ = some (.int .i64 ed) ∧ w'.cell? ⟨bC, 11, none⟩ = some (.pointer none) ∧ w'.cell? ⟨bE, 0, none⟩ = some (.int .u64 en) ∧ w'.cell? ⟨bE, 1, none⟩ = some (.int .i64 ed) ∧ w'.cell? ⟨bE, 2, none⟩ = some (.pointer none) ∧ w'.cell? ⟨bC, 15, none⟩ = some (.bool true)) (first | (refine ⟨?_, ?_, ?_, ?_, ?_, ?_, ?_⟩ <;> assumption) | go_keep) (first | (go_at_call 6; refine (equal_b en ed _ e0.1 e0.2).mono ?_; rintro e w8 ⟨rfl, hb8⟩; have hS8 := hS7.draw hb8; obtain ⟨d80, d81, d82, f80, f81, f82, b8⟩ := hS8.end7) | (go_at_call 7; refine (isZero_b en ed (zT en ed) _ rfl).mono ?_; rintro e w9 ⟨rfl, hb9⟩; first | (have hS10 := hS9.run hb9; obtain ⟨d70, d71, d72, f70, f71, f72, b7⟩ := hS10.end7) | (have hS9 := hS8.run hb9; obtain ⟨d60, d61, d62, f60, f61, f62, b6⟩ := hS9.end7)))
    clear hS7 hS8 hS9 d0 d1 d2 f0 f1 f2 b0 d80 d81 d82 f80 f81 f82 b8 d60 d61 d62 f60 f61 f62 b6 d70 d71 d72 f70 f71 f72 b7 hb8
    go_wp2_with fail
    refine (try_free ⟨bC, 7, none⟩ _ hS10.c7 hS10.f7).mono ?_
    rintro e w11 ⟨rfl, rfl⟩
    go_wp2_with fail
    refine (unlock_held muLib ⟨bC, 7, none⟩ _ (World.cell?_setCell_same _ _ _ hS10.c7) (by simpa using hS10.f7)).mono ?_
    rintro e w12 ⟨rfl, rfl⟩
    have hS11 := hS10.lock
    have z16 := hS11.c16
    go_wp2_with fail
    go_ret
    exact ⟨rfl, hS11.below⟩
end Go.Proofs.Ybulkeiym
