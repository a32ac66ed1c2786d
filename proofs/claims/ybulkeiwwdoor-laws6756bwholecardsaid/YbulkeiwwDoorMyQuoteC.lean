/-
  quote (function 13), AppendQuoted (25), zzs6756bquote (8).
-/
import Derived.Test.YbulkeiwwDoorMyQuoteB
import Derived.Laws.IdiomStrings
namespace Go.Proofs.YbulkeiwwDoor
open Go.RowKit Go.ChangeMaps Go.Lib
attribute [local go_sem ↓] Go.wp_at_zero Go.wp_at_succ
set_option linter.unusedVariables false

/-- A string in quotes. -/
def quoted (l : List UInt8) : List UInt8 := 34 :: (escAll l ++ [34])
theorem quoted_len (l : List UInt8) : (quoted l).length ≤ 6 * l.length + 2 := by have := escAll_len l; simp [quoted]; omega

set_option maxHeartbeats 1000000 in
theorem quotedA_any (l : List UInt8) (B n : Nat) (dv : Value) (xs : List Value) (w : World) (hown : w.ownsRow B 5 1 dv n xs) (hB : B ≤ w.heap.size) (hB2 : 2 < B) (hT : Tab w) (hlim : n + 6 * l.length ≤ 90000000) :
    Calls Ybad.prog 25 #[dv, .string ⟨l.toArray⟩] w fun e w' => ∃ dv', e = .returned dv' ∧ w'.ownsRow B 5 1 dv' (n + (quoted l).length) (xs ++ byteCells (quoted l)) ∧ Below B w w' := by
  obtain ⟨i5, hi5, hz5, hs5, hy5⟩ := info_parts info5
  have hx1 : n + 1 ≤ maxLen := by unfold maxLen; omega
  have HX := hideIt (And.intro hx1 (show B ≤ (w.alloc (.cells #[.int .u8 34] 5)).heap.size by simp; omega))
  have HO := hideIt (own_alloc hown (.cells #[.int .u8 34] 5))
  have HT := hideIt hT
  have hel := escAll_len l
  have HL := hideIt hel
  clear hx1 hown hT hel
  go_enter Ybad.func25, Ybad.ntmps25
  go_upto_region 2 with (at_builtin; go_must (refine wpList_append_own _ rfl _ _ 32 rfl B 5 i5 (.int .u8 0) 1 1 Ybad.underlying32 hi5 hz5 hs5 hy5 rfl (by decide) dv n xs rfl HO.out ⟨w.heap.size, 0, none⟩ 1 1 [.int .u8 34] rfl rfl (World.news_of_block (cs := #[.int .u8 34]) (t := 5) (fr := (0, 0)) (heap_alloc_at _ _ rfl)) (by simp [Value.oneCell']) HX.out.1 (by omega) HX.out.2 ?_; intro v1 w1 hr1 hg1 _))
  have hb1 : Below B w w1 := below_grown ((Below.refl B w).alloc hB _) HO.out HX.out.2 hg1
  have cE := escaped_any l B (n + 1) v1 (xs ++ [.int .u8 34]) w1 hr1 (by have := hb1.size; omega) hB2 (HT.out.later hb1 hB2) (by omega)
  have CE := hideIt cE
  have HB1 := hideIt hb1
  clear cE hb1 hr1 hg1
  go_upto_region 3 with (go_at_call 37; go_must (refine CE.out.mono ?_; rintro e w2 ⟨v2, rfl, hr2, hb2⟩))
  have hb3 : B ≤ w2.heap.size := by have h1 := HB1.out.size; have h2 := hb2.size; omega
  have HR2 := hideIt (And.intro hr2 (And.intro hb2 (And.intro hb3 (show n + 1 + (escAll l).length + 1 ≤ maxLen by have := HL.out; unfold maxLen; omega))))
  clear hr2 hb2 hb3
  go_wp2_with (at_builtin; go_must (refine wpList_append_own _ rfl _ _ 32 rfl B 5 i5 (.int .u8 0) 1 1 Ybad.underlying32 hi5 hz5 hs5 hy5 rfl (by decide) v2 (n + 1 + (escAll l).length) (xs ++ [.int .u8 34] ++ byteCells (escAll l)) rfl (own_alloc HR2.out.1 _) ⟨w2.heap.size, 0, none⟩ 1 1 [.int .u8 34] rfl rfl (World.news_of_block (cs := #[.int .u8 34]) (t := 5) (fr := (0, 0)) (heap_alloc_at _ _ rfl)) (by simp [Value.oneCell']) HR2.out.2.2.2 (by have := HL.out; omega) (by have := HR2.out.2.2.1; simp; omega) ?_; intro v3 w3 hr3 hg3 _))
  go_ret
  obtain ⟨hr2, hb2, hb3, _⟩ := HR2.out
  refine ⟨_, rfl, ?_, below_grown ((HB1.out.trans hb2).alloc hb3 _) (own_alloc hr2 _) (by simp; omega) hg3⟩
  have e1 : n + (quoted l).length = n + 1 + (escAll l).length + 1 := by simp [quoted]; omega
  have e2 : xs ++ byteCells (quoted l) = xs ++ [.int .u8 34] ++ byteCells (escAll l) ++ [.int .u8 34] := by
    simp [quoted, byteCells]
  rw [e1, e2]
  exact hr3

theorem made_row (w : World) (n c : Nat) (hc : c ≤ maxLen) : (w.alloc (.cells (madeCells #[.int .u8 0] c) 5)).ownsRow w.heap.size 5 1 (.slice (some ⟨w.heap.size, 0, none⟩) 0 c) 0 [] :=
  ⟨rfl, Or.inr ⟨_, c, _, rfl, Nat.le_refl _, heap_alloc_at _ _ rfl, Nat.zero_le _, hc, by simp [size_madeCells], by simp⟩⟩

theorem make32 (w : World) (c : Nat) (hc : c ≤ 100000000) :
    (Instr.makeSlice 32 (.int .i64 0) (.int .i64 (c : Int))).run Ybad.prog w = .ok (.slice (some ⟨w.heap.size, 0, none⟩) 0 c) (w.alloc (.cells (madeCells #[.int .u8 0] c) 5)) := by
  obtain ⟨i, hi, hz, hs, hb⟩ := info_parts info5
  have := run_make (P := Ybad.prog) w 32 5 i _ Ybad.underlying32 hi hz .i64 .i64 0 c (by omega) (by omega) (by rw [hb]; omega) (by omega)
  simp only [Int.toNat_natCast, hs, Nat.mul_one] at this
  exact this

theorem convert_row {w : World} {B n : Nat} {v : Value} {l : List UInt8} (h : w.ownsRow B 5 1 v n (byteCells l)) (hl : 0 < l.length) : ∃ g cap, v = .slice (some ⟨g, 0, none⟩) l.length cap ∧ (convert 32 9 (.slice (some ⟨g, 0, none⟩) l.length cap)).run Ybad.prog w = .ok (.string ⟨l.toArray⟩) w := by
  have hn : n = l.length := by have := h.1; rw [byteCells_length, Nat.mul_one] at this; exact this.symm
  subst hn
  obtain ⟨g, cap, rfl, _⟩ := row_some h hl
  refine ⟨g, cap, rfl, run_convert_bytes_back w 32 9 5 ⟨g, 0, none⟩ cap l Ybad.underlying32 Ybad.underlying5 Ybad.underlying9 fun j hj => ?_⟩
  have := ownsRow_cell h (j := j) (u := .int .u8 (l[j].toNat : Int)) (by simp [byteCells, hj])
  by_cases hj0 : j = 0
  · subst hj0; simpa [Addr.add] using this
  · simpa [Addr.add, hj0] using this

set_option maxHeartbeats 1000000 in
theorem quote_any (l : List UInt8) (w : World) (hw : 2 < w.heap.size) (hT : Tab w) (hlim : l.length ≤ 10000000) :
    Calls Ybad.prog 13 #[.string ⟨l.toArray⟩] w fun e w' => e = .returned (.string ⟨(quoted l).toArray⟩) ∧ Below w.heap.size w w' := by
  have hsz : (ByteArray.mk l.toArray).size = l.length := by simp [ByteArray.size]
  have hmk := make32 w (l.length + 2) (by omega)
  rw [show ((l.length + 2 : Nat) : Int) = (l.length : Int) + 2 from rfl] at hmk
  have hb : Below w.heap.size w (w.alloc (.cells (madeCells #[.int .u8 0] (l.length + 2)) 5)) := (Below.refl _ w).alloc (Nat.le_refl _) _
  have cQ := quotedA_any l w.heap.size 0 (.slice (some ⟨w.heap.size, 0, none⟩) 0 (l.length + 2)) [] (w.alloc (.cells (madeCells #[.int .u8 0] (l.length + 2)) 5)) (made_row w 0 (l.length + 2) (by unfold maxLen; omega)) hb.size hw (hT.later hb hw) (by omega)
  have CQ := hideIt cQ
  have HB := hideIt hb
  have i1 : (l.length : Int) + 2 ≤ 9223372036854775807 := by omega
  clear cQ hb hT
  go_enter Ybad.func13, Ybad.ntmps13
  go_wp2_with (go_at_call 25; go_must (refine CQ.out.mono ?_; rintro e w2 ⟨v2, rfl, hr2, hb2⟩; rw [List.nil_append] at hr2; obtain ⟨g, cap, rfl, hcv⟩ := convert_row hr2 (by simp [quoted]); have HB2 := hideIt hb2; clear hr2 hb2))
  go_ret
  exact ⟨rfl, HB.out.trans HB2.out⟩

/-- What the loop of zzs6756bquote knows. -/
def RelZ (B n : Nat) (l : List UInt8) (xs : List Value) (w : World) (k : Nat) (d iv : Value) (wr : World) : Prop :=
  ∃ dn r : List UInt8, l = dn ++ r ∧ k = r.length ∧ iv = .int .i64 (dn.length : Int) ∧ wr.ownsRow B 5 1 d (n + 1 + (escAll dn).length) (xs ++ byteCells (34 :: escAll dn)) ∧ Below B w wr

set_option maxHeartbeats 4000000 in
set_option maxRecDepth 100000 in
theorem zzs_any (l : List UInt8) (B n : Nat) (dv : Value) (xs : List Value) (w : World) (hown : w.ownsRow B 5 1 dv n xs) (hB : B ≤ w.heap.size) (hlim : n + 6 * l.length ≤ 90000000) :
    Calls Ybad.prog 8 #[dv, .string ⟨l.toArray⟩] w fun e w' => ∃ dv', e = .returned dv' ∧ w'.ownsRow B 5 1 dv' (n + (quoted l).length) (xs ++ byteCells (quoted l)) ∧ Below B w w' := by
  obtain ⟨i5, hi5, hz5, hs5, hy5⟩ := info_parts info5
  have hx1 : n + 1 ≤ maxLen := by unfold maxLen; omega
  have HX0 := hideIt (And.intro hx1 (show B ≤ (w.alloc (.cells #[.int .u8 34] 5)).heap.size by simp; omega))
  have HO := hideIt (own_alloc hown (.cells #[.int .u8 34] 5))
  clear hx1 hown
  obtain ⟨S, hS⟩ : ∃ S, S = ByteArray.mk l.toArray := ⟨_, rfl⟩
  have hsz : S.size = l.length := by rw [hS]; simp [ByteArray.size]
  rw [← hS]
  have HS := hideIt hS
  clear hS
  go_enter Ybad.func8, Ybad.ntmps8
  go_upto_region 2 with (at_builtin; go_must (refine wpList_append_own _ rfl _ _ 32 rfl B 5 i5 (.int .u8 0) 1 1 Ybad.underlying32 hi5 hz5 hs5 hy5 rfl (by decide) dv n xs rfl HO.out ⟨w.heap.size, 0, none⟩ 1 1 [.int .u8 34] rfl rfl (World.news_of_block (cs := #[.int .u8 34]) (t := 5) (fr := (0, 0)) (heap_alloc_at _ _ rfl)) (by simp [Value.oneCell']) HX0.out.1 (by omega) HX0.out.2 ?_; intro v1 w1 hr1 hg1 _))
  have hb1 : Below B w w1 := below_grown ((Below.refl B w).alloc hB _) HO.out HX0.out.2 hg1
  have H0 : RelZ B n l xs w l.length v1 (.int .i64 0) w1 := ⟨[], l, rfl, rfl, rfl, hr1, hb1⟩
  clear hr1 hg1 hb1
  go_wp2
  go_loopg [0, 5] l.length (RelZ B n l xs w)
  case atStart => exact H0
  case round =>
    clear H0
    obtain ⟨dn, r, e1, rfl, rfl, hrow, hbel⟩ := hrel
    have el : l.length = dn.length + r.length := by have := congrArg List.length e1; simpa using this
    obtain ⟨M, hM⟩ : ∃ M, M = n + 1 + (escAll dn).length := ⟨_, rfl⟩
    rw [← hM] at hrow
    have hed := escAll_len dn
    have hMle : M ≤ 200000000 := by omega
    have hws : B ≤ wr.heap.size := by have := hbel.size; omega
    obtain ⟨ea, ec, rfl⟩ := row_form hrow
    have hx1 : M + 6 ≤ maxLen := by unfold maxLen; omega
    have hx2 : M + 6 ≤ 140737488355328 := by omega
    have HX := hideIt (And.intro hx1 (And.intro hx2 hws))
    have HE := hideIt (And.intro e1 (And.intro hrow (And.intro hbel (And.intro hM el))))
    have hal : ∀ o, (wr.alloc o).ownsRow B 5 1 (.slice ea M ec) M (xs ++ byteCells (34 :: escAll dn)) ∧ B ≤ (wr.alloc o).heap.size := fun o => ⟨own_alloc hrow _, by simp; omega⟩
    have HAL := hideIt hal
    cases r with
    | nil =>
      have t1 : ¬ ((dn.length : Int) < (l.length : Int)) := by simp at el; omega
      clear e1 hrow hbel hM el hed hx1 hx2 hws hal
      go_wp2_with (at_builtin; go_must (refine wpList_append_own _ rfl _ _ 32 rfl B 5 i5 (.int .u8 0) 1 1 Ybad.underlying32 hi5 hz5 hs5 hy5 rfl (by decide) (.slice ea M ec) M (xs ++ byteCells (34 :: escAll dn)) rfl (HAL.out _).1 ⟨wr.heap.size, 0, none⟩ 1 1 [.int .u8 34] rfl rfl (World.news_of_block (cs := #[.int .u8 34]) (t := 5) (fr := (0, 0)) (heap_alloc_at _ _ rfl)) (by simp [Value.oneCell']) (by have := HX.out.1; omega) (by have := HX.out.2.1; omega) (HAL.out _).2 ?_; intro v' w' hr' hg' _))
      go_ret
      obtain ⟨e1, hrow, hbel, hM, el⟩ := HE.out
      rw [List.append_nil] at e1
      subst e1
      refine ⟨_, rfl, ?_, below_grown (hbel.alloc HX.out.2.2 _) (HAL.out _).1 (HAL.out _).2 hg'⟩
      rw [show n + (quoted l).length = M + 1 by rw [hM]; simp [quoted]; omega, show byteCells (quoted l) = byteCells (34 :: escAll l) ++ [.int .u8 34] by simp [quoted, byteCells], ← List.append_assoc]
      exact hr'
    | cons c r =>
      have hi : dn.length < S.size := by rw [hsz]; simp at el; omega
      have hidx : S[dn.length]'hi = c := by
        have h1 := HS.out
        subst h1
        exact str_at e1 _
      have t1 : (dn.length : Int) < (l.length : Int) := by simp at el; omega
      have t4 : (0 : Int) ≤ (dn.length : Int) := by omega
      have t5 : (dn.length : Int) + 1 ≤ 9223372036854775807 := by omega
      have hfin : ∀ (nw : List UInt8) (wa : World), esc c = nw → (wa = wr ∨ ∃ o, wa = wr.alloc o) → ∀ v' w', w'.ownsRow B 5 1 v' (M + nw.length) (xs ++ byteCells (34 :: escAll dn) ++ byteCells nw) → wa.grownBy w' (Value.slice ea M ec).ownBlock → RelZ B n l xs w r.length v' (.int .i64 ((dn.length : Int) + 1)) w' := fun nw wa he hwa v' w' h1 h2 => by
        have hb : Below B w w' := by
          rcases hwa with rfl | ⟨o, rfl⟩
          · exact below_grown hbel hrow HX.out.2.2 h2
          · exact below_grown (hbel.alloc HX.out.2.2 _) (own_alloc hrow _) (HAL.out _).2 h2
        refine ⟨dn ++ [c], r, by rw [e1]; simp, rfl, by simp, ?_, hb⟩
        have e5 : escAll (dn ++ [c]) = escAll dn ++ nw := by rw [escAll_append, escAll_cons, he]; simp [escAll]
        rw [e5, show n + 1 + (escAll dn ++ nw).length = M + nw.length by rw [hM]; simp; omega, show byteCells (34 :: (escAll dn ++ nw)) = byteCells (34 :: escAll dn) ++ byteCells nw by simp [byteCells], ← List.append_assoc]
        exact h1
      have HF := hideIt hfin
      clear e1 hrow hbel hM el hed hx1 hx2 hws hal hfin
      go_upto_region 7 with (fail)
      clear t1 t4 hidx hi
      by_cases q34 : c.toNat = 34
      · have q' : (c.toNat : Int) = 34 := by omega
        have HQ := hideIt q34
        clear q34
        go_wp2_with (at_builtin; go_must (refine wpList_append_own _ rfl _ _ 32 rfl B 5 i5 (.int .u8 0) 1 1 Ybad.underlying32 hi5 hz5 hs5 hy5 rfl (by decide) (.slice ea M ec) M (xs ++ byteCells (34 :: escAll dn)) rfl (HAL.out _).1 ⟨wr.heap.size, 0, none⟩ 2 2 [.int .u8 92, .int .u8 34] rfl rfl (World.news_of_block (cs := #[.int .u8 92, .int .u8 34]) (t := 5) (fr := (0, 0)) (heap_alloc_at _ _ rfl)) (by simp [Value.oneCell']) (by have := HX.out.1; omega) (by have := HX.out.2.1; omega) (HAL.out _).2 ?_; intro v' w' hr' hg' _))
        go_roundg r.length
        case measure => exact Nat.lt_succ_self _
        case rel => exact HF.out [92, 34] _ (by rw [UInt8.toNat_inj.1 (show c.toNat = (34 : UInt8).toNat from HQ.out)]; rfl) (Or.inr ⟨_, rfl⟩) v' w' hr' hg'
      have n34 : ¬ ((c.toNat : Int) = 34) := by omega
      by_cases q92 : c.toNat = 92
      · have q' : (c.toNat : Int) = 92 := by omega
        have HQ := hideIt q92
        clear q92
        go_wp2_with (at_builtin; go_must (refine wpList_append_own _ rfl _ _ 32 rfl B 5 i5 (.int .u8 0) 1 1 Ybad.underlying32 hi5 hz5 hs5 hy5 rfl (by decide) (.slice ea M ec) M (xs ++ byteCells (34 :: escAll dn)) rfl (HAL.out _).1 ⟨wr.heap.size, 0, none⟩ 2 2 [.int .u8 92, .int .u8 92] rfl rfl (World.news_of_block (cs := #[.int .u8 92, .int .u8 92]) (t := 5) (fr := (0, 0)) (heap_alloc_at _ _ rfl)) (by simp [Value.oneCell']) (by have := HX.out.1; omega) (by have := HX.out.2.1; omega) (HAL.out _).2 ?_; intro v' w' hr' hg' _))
        go_roundg r.length
        case measure => exact Nat.lt_succ_self _
        case rel => exact HF.out [92, 92] _ (by rw [UInt8.toNat_inj.1 (show c.toNat = (92 : UInt8).toNat from HQ.out)]; rfl) (Or.inr ⟨_, rfl⟩) v' w' hr' hg'
      have n92 : ¬ ((c.toNat : Int) = 92) := by omega
      have Q92 := hideIt q92
      clear q92
      have Q34 := hideIt q34
      clear q34
      have b34 : ((c.toNat : Int) == 34) = false := by simp; omega
      have b92 : ((c.toNat : Int) == 92) = false := by simp; omega
      clear n34 n92
      go_upto_region 9 with (fail)
      clear b34 b92
      by_cases q8 : c.toNat = 8
      · have q' : (c.toNat : Int) = 8 := by omega
        have HQ := hideIt q8
        clear q8
        go_wp2_with (at_builtin; go_must (refine wpList_append_own _ rfl _ _ 32 rfl B 5 i5 (.int .u8 0) 1 1 Ybad.underlying32 hi5 hz5 hs5 hy5 rfl (by decide) (.slice ea M ec) M (xs ++ byteCells (34 :: escAll dn)) rfl (HAL.out _).1 ⟨wr.heap.size, 0, none⟩ 2 2 [.int .u8 92, .int .u8 98] rfl rfl (World.news_of_block (cs := #[.int .u8 92, .int .u8 98]) (t := 5) (fr := (0, 0)) (heap_alloc_at _ _ rfl)) (by simp [Value.oneCell']) (by have := HX.out.1; omega) (by have := HX.out.2.1; omega) (HAL.out _).2 ?_; intro v' w' hr' hg' _))
        go_roundg r.length
        case measure => exact Nat.lt_succ_self _
        case rel => exact HF.out [92, 98] _ (by rw [UInt8.toNat_inj.1 (show c.toNat = (8 : UInt8).toNat from HQ.out)]; rfl) (Or.inr ⟨_, rfl⟩) v' w' hr' hg'
      have n8 : ¬ ((c.toNat : Int) = 8) := by omega
      have Q8 := hideIt q8
      clear q8
      have b8 : ((c.toNat : Int) == 8) = false := by simp; omega
      clear n8
      go_upto_region 11 with (fail)
      clear b8
      by_cases q12 : c.toNat = 12
      · have q' : (c.toNat : Int) = 12 := by omega
        have HQ := hideIt q12
        clear q12
        go_wp2_with (at_builtin; go_must (refine wpList_append_own _ rfl _ _ 32 rfl B 5 i5 (.int .u8 0) 1 1 Ybad.underlying32 hi5 hz5 hs5 hy5 rfl (by decide) (.slice ea M ec) M (xs ++ byteCells (34 :: escAll dn)) rfl (HAL.out _).1 ⟨wr.heap.size, 0, none⟩ 2 2 [.int .u8 92, .int .u8 102] rfl rfl (World.news_of_block (cs := #[.int .u8 92, .int .u8 102]) (t := 5) (fr := (0, 0)) (heap_alloc_at _ _ rfl)) (by simp [Value.oneCell']) (by have := HX.out.1; omega) (by have := HX.out.2.1; omega) (HAL.out _).2 ?_; intro v' w' hr' hg' _))
        go_roundg r.length
        case measure => exact Nat.lt_succ_self _
        case rel => exact HF.out [92, 102] _ (by rw [UInt8.toNat_inj.1 (show c.toNat = (12 : UInt8).toNat from HQ.out)]; rfl) (Or.inr ⟨_, rfl⟩) v' w' hr' hg'
      have n12 : ¬ ((c.toNat : Int) = 12) := by omega
      have Q12 := hideIt q12
      clear q12
      have b12 : ((c.toNat : Int) == 12) = false := by simp; omega
      clear n12
      go_upto_region 13 with (fail)
      clear b12
      by_cases q10 : c.toNat = 10
      · have q' : (c.toNat : Int) = 10 := by omega
        have HQ := hideIt q10
        clear q10
        go_wp2_with (at_builtin; go_must (refine wpList_append_own _ rfl _ _ 32 rfl B 5 i5 (.int .u8 0) 1 1 Ybad.underlying32 hi5 hz5 hs5 hy5 rfl (by decide) (.slice ea M ec) M (xs ++ byteCells (34 :: escAll dn)) rfl (HAL.out _).1 ⟨wr.heap.size, 0, none⟩ 2 2 [.int .u8 92, .int .u8 110] rfl rfl (World.news_of_block (cs := #[.int .u8 92, .int .u8 110]) (t := 5) (fr := (0, 0)) (heap_alloc_at _ _ rfl)) (by simp [Value.oneCell']) (by have := HX.out.1; omega) (by have := HX.out.2.1; omega) (HAL.out _).2 ?_; intro v' w' hr' hg' _))
        go_roundg r.length
        case measure => exact Nat.lt_succ_self _
        case rel => exact HF.out [92, 110] _ (by rw [UInt8.toNat_inj.1 (show c.toNat = (10 : UInt8).toNat from HQ.out)]; rfl) (Or.inr ⟨_, rfl⟩) v' w' hr' hg'
      have n10 : ¬ ((c.toNat : Int) = 10) := by omega
      have Q10 := hideIt q10
      clear q10
      have b10 : ((c.toNat : Int) == 10) = false := by simp; omega
      clear n10
      go_upto_region 15 with (fail)
      clear b10
      by_cases q13 : c.toNat = 13
      · have q' : (c.toNat : Int) = 13 := by omega
        have HQ := hideIt q13
        clear q13
        go_wp2_with (at_builtin; go_must (refine wpList_append_own _ rfl _ _ 32 rfl B 5 i5 (.int .u8 0) 1 1 Ybad.underlying32 hi5 hz5 hs5 hy5 rfl (by decide) (.slice ea M ec) M (xs ++ byteCells (34 :: escAll dn)) rfl (HAL.out _).1 ⟨wr.heap.size, 0, none⟩ 2 2 [.int .u8 92, .int .u8 114] rfl rfl (World.news_of_block (cs := #[.int .u8 92, .int .u8 114]) (t := 5) (fr := (0, 0)) (heap_alloc_at _ _ rfl)) (by simp [Value.oneCell']) (by have := HX.out.1; omega) (by have := HX.out.2.1; omega) (HAL.out _).2 ?_; intro v' w' hr' hg' _))
        go_roundg r.length
        case measure => exact Nat.lt_succ_self _
        case rel => exact HF.out [92, 114] _ (by rw [UInt8.toNat_inj.1 (show c.toNat = (13 : UInt8).toNat from HQ.out)]; rfl) (Or.inr ⟨_, rfl⟩) v' w' hr' hg'
      have n13 : ¬ ((c.toNat : Int) = 13) := by omega
      have Q13 := hideIt q13
      clear q13
      have b13 : ((c.toNat : Int) == 13) = false := by simp; omega
      clear n13
      go_upto_region 17 with (fail)
      clear b13
      by_cases q9 : c.toNat = 9
      · have q' : (c.toNat : Int) = 9 := by omega
        have HQ := hideIt q9
        clear q9
        go_wp2_with (at_builtin; go_must (refine wpList_append_own _ rfl _ _ 32 rfl B 5 i5 (.int .u8 0) 1 1 Ybad.underlying32 hi5 hz5 hs5 hy5 rfl (by decide) (.slice ea M ec) M (xs ++ byteCells (34 :: escAll dn)) rfl (HAL.out _).1 ⟨wr.heap.size, 0, none⟩ 2 2 [.int .u8 92, .int .u8 116] rfl rfl (World.news_of_block (cs := #[.int .u8 92, .int .u8 116]) (t := 5) (fr := (0, 0)) (heap_alloc_at _ _ rfl)) (by simp [Value.oneCell']) (by have := HX.out.1; omega) (by have := HX.out.2.1; omega) (HAL.out _).2 ?_; intro v' w' hr' hg' _))
        go_roundg r.length
        case measure => exact Nat.lt_succ_self _
        case rel => exact HF.out [92, 116] _ (by rw [UInt8.toNat_inj.1 (show c.toNat = (9 : UInt8).toNat from HQ.out)]; rfl) (Or.inr ⟨_, rfl⟩) v' w' hr' hg'
      have n9 : ¬ ((c.toNat : Int) = 9) := by omega
      have Q9 := hideIt q9
      clear q9
      have b9 : ((c.toNat : Int) == 9) = false := by simp; omega
      clear n9
      go_upto_region 19 with (fail)
      clear b9
      by_cases c32 : c.toNat < 32
      · have i32 : (c.toNat : Int) < 32 := by omega
        have HQ2 := hideIt c32
        clear c32
        go_upto_region 20 with (fail)
        have hH : (ByteArray.mk #[48, 49, 50, 51, 52, 53, 54, 55, 56, 57, 97, 98, 99, 100, 101, 102]).size = 16 := rfl
        have hu1 : (0 : Int) ≤ (c.toNat : Int) / 16 := by omega
        have hu2 : (c.toNat : Int) / 16 < 16 := by omega
        have hu3 : (0 : Int) ≤ (c.toNat : Int) % 16 := by omega
        have hu4 : (c.toNat : Int) % 16 < 16 := by omega
        have hu5 : ((c.toNat : Int) / 16).toNat = c.toNat / 16 := by omega
        have hu6 : ((c.toNat : Int) % 16).toNat = c.toNat % 16 := by omega
        have hu7 := hex_at (k := c.toNat / 16) (by show _ < 16; omega)
        have hu8 := hex_at (k := c.toNat % 16) (by show _ < 16; omega)
        have hu9 := and15 c.toNat (by omega)
        go_region_law ((refine step_append_lies _ (by rfl) _ _ _ (by rfl) B 5 i5 _ 1 1 Ybad.underlying32 hi5 hz5 hs5 hy5 rfl (by omega) (.slice ea M ec) M (xs ++ byteCells (34 :: escAll dn)) (by rfl) (HAL.out _).1 ⟨wr.heap.size, 0, none⟩ 6 6 [.int .u8 92, .int .u8 117, .int .u8 48, .int .u8 48, .int .u8 ((hexd (c.toNat / 16)).toNat : Int), .int .u8 ((hexd (c.toNat % 16)).toNat : Int)] (by rfl) (by rfl) (World.news_of_block (cs := #[.int .u8 92, .int .u8 117, .int .u8 48, .int .u8 48, .int .u8 ((hexd (c.toNat / 16)).toNat : Int), .int .u8 ((hexd (c.toNat % 16)).toNat : Int)]) (t := 5) (fr := (0, 0)) (heap_alloc_at _ _ rfl)) (by simp [Value.oneCell']) (by omega) (by have := HX.out.1; omega) (by have := HX.out.2.1; omega) (HAL.out _).2 (wr.heap.size + 1) (by simp) ?_; intro gp capp w4 hown4 hgr4 hat4 hgl4))
        all_goals
          go_wp2
          go_roundg r.length
          case measure => exact Nat.lt_succ_self _
          case rel => exact HF.out [92, 117, 48, 48, hexd (c.toNat / 16), hexd (c.toNat % 16)] (wr.alloc (.cells #[.int .u8 92, .int .u8 117, .int .u8 48, .int .u8 48, .int .u8 ((hexd (c.toNat / 16)).toNat : Int), .int .u8 ((hexd (c.toNat % 16)).toNat : Int)] 5)) (esc_low ⟨Q34.out, Q92.out, Q8.out, Q12.out, Q10.out, Q13.out, Q9.out, HQ2.out⟩) (Or.inr ⟨_, rfl⟩) _ w4 hown4 ⟨hgr4.os, hgr4.tape, hgr4.output, hgr4.size, hgr4.block⟩
      · have i32 : ¬ ((c.toNat : Int) < 32) := by omega
        have hpl : plain c = true := by
          have h3 := plain_nat c
          rw [beq_eq_false_iff_ne.2 Q34.out, beq_eq_false_iff_ne.2 Q92.out, decide_eq_false c32] at h3
          simpa using h3.symm
        have HPL := hideIt hpl
        clear c32 hpl
        go_wp2_with (at_builtin; go_must (refine wpList_append_own _ rfl _ _ 32 rfl B 5 i5 (.int .u8 0) 1 1 Ybad.underlying32 hi5 hz5 hs5 hy5 rfl (by decide) (.slice ea M ec) M (xs ++ byteCells (34 :: escAll dn)) rfl (HAL.out _).1 ⟨wr.heap.size, 0, none⟩ 1 1 [.int .u8 (c.toNat : Int)] rfl rfl (World.news_of_block (cs := #[.int .u8 (c.toNat : Int)]) (t := 5) (fr := (0, 0)) (heap_alloc_at _ _ rfl)) (by simp [Value.oneCell']) (by have := HX.out.1; omega) (by have := HX.out.2.1; omega) (HAL.out _).2 ?_; intro v' w' hr' hg' _))
        go_roundg r.length
        case measure => exact Nat.lt_succ_self _
        case rel => exact HF.out [c] _ (esc_plain HPL.out) (Or.inr ⟨_, rfl⟩) v' w' hr' hg'
end Go.Proofs.YbulkeiwwDoor
