/-
  appendEscaped (function 37): what it appends.
-/
import Derived.Test.YbulkeiwwDoorMyQuoteA
import Derived.Test.YbulkeiwwDoorMyMem
import Derived.Test.YbulkeiwwDoorMyShelf
import Derived.Lib.AppendStr
import Derived.Lib.UnsafeStr
import Derived.Deep.RegionLaw
import Derived.Deep.AppendLies
import Derived.Deep.DrawnRows
namespace Go.Proofs.YbulkeiwwDoor
open Go.RowKit Go.ChangeMaps Go.Lib
attribute [local go_sem ↓] Go.wp_at_zero Go.wp_at_succ
set_option linter.unusedVariables false

def hexd (n : Nat) : UInt8 := [48, 49, 50, 51, 52, 53, 54, 55, 56, 57, 97, 98, 99, 100, 101, 102].getD n 0
/-- How one byte is written. -/
def esc (b : UInt8) : List UInt8 :=
  if b = 34 ∨ b = 92 then [92, b] else if b = 8 then [92, 98] else if b = 12 then [92, 102] else if b = 10 then [92, 110] else if b = 13 then [92, 114] else if b = 9 then [92, 116]
  else if b < 32 then [92, 117, 48, 48, hexd (b.toNat / 16), hexd (b.toNat % 16)] else [b]
def escAll (l : List UInt8) : List UInt8 := l.flatMap esc

theorem esc_plain {b : UInt8} (h : plain b = true) : esc b = [b] := by
  unfold plain at h
  simp only [Bool.not_eq_true', Bool.or_eq_false_iff, beq_eq_false_iff_ne, decide_eq_false_iff_not] at h
  obtain ⟨⟨h1, h2⟩, h3⟩ := h
  have h8 : b ≠ 8 := fun e => h3 (by subst e; decide)
  have h12 : b ≠ 12 := fun e => h3 (by subst e; decide)
  have h10 : b ≠ 10 := fun e => h3 (by subst e; decide)
  have h13 : b ≠ 13 := fun e => h3 (by subst e; decide)
  have h9 : b ≠ 9 := fun e => h3 (by subst e; decide)
  unfold esc
  rw [if_neg (by rintro (h | h) <;> contradiction), if_neg h8, if_neg h12, if_neg h10, if_neg h13, if_neg h9, if_neg h3]
theorem esc_len (b : UInt8) : (esc b).length ≤ 6 := by
  unfold esc
  repeat (first | split | simp)
theorem escAll_cons (b : UInt8) (l : List UInt8) : escAll (b :: l) = esc b ++ escAll l := by simp [escAll]
theorem escAll_append (a b : List UInt8) : escAll (a ++ b) = escAll a ++ escAll b := by simp [escAll]
theorem escAll_plain : ∀ {l : List UInt8}, (∀ b, b ∈ l → plain b = true) → escAll l = l
  | [], _ => rfl
  | b :: l, h => by rw [escAll_cons, esc_plain (h b List.mem_cons_self), escAll_plain (fun x hx => h x (List.mem_cons_of_mem _ hx))]; rfl
theorem escAll_len (l : List UInt8) : (escAll l).length ≤ 6 * l.length := by
  induction l with
  | nil => simp [escAll]
  | cons b l ih => rw [escAll_cons, List.length_append, List.length_cons]; have := esc_len b; omega

theorem info5 : (Ybad.prog.info? 5).map (fun i => (i.zero, i.size, i.bytes)) = some (some (.int .u8 0), 1, 1) := by kernel_rfl

/-- What the loop of appendEscaped knows. -/
def RelE (B n : Nat) (l : List UInt8) (xs : List Value) (w : World) (k : Nat) (d sv : Value) (wr : World) : Prop :=
  ∃ rest done : List UInt8, escAll l = done ++ escAll rest ∧ k = rest.length ∧ sv = .string ⟨rest.toArray⟩ ∧ wr.ownsRow B 5 1 d (n + done.length) (xs ++ byteCells done) ∧ Below B w wr ∧ done.length + 6 * rest.length ≤ 6 * l.length

theorem ba_extract (l : List UInt8) (a b : Nat) : (ByteArray.mk l.toArray).extract a b = ⟨((l.take b).drop a).toArray⟩ := by
  apply ByteArray.ext
  simp only [ByteArray.data_extract, List.extract_toArray]
  rw [List.extract_eq_take_drop, List.drop_take]

theorem word_le (b0 b1 b2 b3 b4 b5 b6 b7 : UInt8) (w : World) : Calls Ybad.prog 53 #[.string ⟨#[b0, b1, b2, b3, b4, b5, b6, b7]⟩] w fun e w' => e = .returned (.int .u64 ((leNat [b0, b1, b2, b3, b4, b5, b6, b7] : Nat) : Int)) ∧ ∃ q, w' = w.drewN q := by
  have h := word_call b0 b1 b2 b3 b4 b5 b6 b7 w
  simpa only [leNat, Nat.mul_zero, Nat.add_zero] using h

theorem le_bytes (l : List UInt8) (hl : l.length = 8) : Lib.leBytes 8 (leNat l) = l := by
  have key : ∀ l : List UInt8, Lib.leBytes l.length (leNat l) = l := by
    intro l
    induction l with
    | nil => rfl
    | cons b l ih =>
      show Lib.leBytes (l.length + 1) (b.toNat + 256 * leNat l) = _
      have hb := b.toNat_lt
      have e1 : (b.toNat + 256 * leNat l) % 256 = b.toNat := by omega
      have e2 : (b.toNat + 256 * leNat l) / 256 = leNat l := by omega
      rw [Lib.leBytes, e1, e2, ih]
      simp
  have := key l
  rw [hl] at this
  exact this

theorem append8 (l : List UInt8) (hl : l.length = 8) (B n : Nat) (sv : Value) (xs : List Value) (w : World) (hown : w.ownsRow B 5 1 sv n xs) (hBw : B ≤ w.heap.size) (hlim : n + 8 ≤ 140737488355328) :
    Calls Ybad.prog 55 #[.agg #[], sv, .int .u64 (leNat l : Nat)] w fun e w' => ∃ v', e = .returned v' ∧ w'.ownsRow B 5 1 v' (n + 8) (xs ++ byteCells l) ∧ Below B w w' := by
  have h8 := leNat_lt l
  rw [hl, show (256 : Nat) ^ 8 = 18446744073709551616 by decide] at h8
  have h := Ybad.binary_LE_AppendUint64 B n (leNat l) h8 sv xs w hown hBw hlim
  rw [le_bytes l hl] at h
  exact h

theorem drewN_row {w : World} {B e size n : Nat} {v : Value} {xs : List Value} (h : w.ownsRow B e size v n xs) (q : Nat) : (w.drewN q).ownsRow B e size v n xs := h
theorem below_drewN {B : Nat} {a w : World} (h : Below B a w) (q : Nat) : Below B a (w.drewN q) := ⟨h.os, h.tape, h.output, h.size, h.block⟩

/-- The bytes that stand for themselves, then one that does not. -/
theorem nplain_split {l : List UInt8} (h : nplain l < l.length) : ∃ pl c r, l = pl ++ c :: r ∧ pl.length = nplain l ∧ (∀ b, b ∈ pl → plain b = true) ∧ plain c = false := by
  have e := List.takeWhile_append_dropWhile (p := plain) (l := l)
  cases hd : l.dropWhile plain with
  | nil =>
    rw [hd, List.append_nil] at e
    have : nplain l = l.length := by unfold nplain; rw [e]
    omega
  | cons c r =>
    rw [hd] at e
    refine ⟨l.takeWhile plain, c, r, e.symm, rfl, fun b hb => ?_, ?_⟩
    · exact List.all_eq_true.1 List.all_takeWhile b hb
    · have := List.head_dropWhile_not plain (l := l) (by rw [hd]; simp)
      simpa [hd] using this
theorem nplain_all {l : List UInt8} (h : nplain l = l.length) : ∀ b, b ∈ l → plain b = true := by
  have e : l.takeWhile plain = l := (List.takeWhile_prefix plain).eq_of_length h
  intro b hb
  rw [← e] at hb
  exact List.all_eq_true.1 List.all_takeWhile b hb
theorem nplain_le (l : List UInt8) : nplain l ≤ l.length := (List.takeWhile_prefix plain).length_le

theorem wrap_small {n : Nat} (h : n ≤ 1000000000) : wrap64 (n : Int) = (n : Int) := by unfold wrap64; omega
theorem byteCells_append (a b : List UInt8) : byteCells (a ++ b) = byteCells a ++ byteCells b := by simp [byteCells]
theorem byteCells_length (a : List UInt8) : (byteCells a).length = a.length := by simp [byteCells]

/-- Ahead of the switch: the bytes that stand for themselves are appended; one that does not comes next. -/
def RelC (B n : Nat) (rest done : List UInt8) (xs : List Value) (w : World) (d sv nv : Value) (wx : World) : Prop :=
  ∃ (pl : List UInt8) (c : UInt8) (r : List UInt8), sv = .string ⟨rest.toArray⟩ ∧ rest = pl ++ c :: r ∧ (∀ b, b ∈ pl → plain b = true) ∧ plain c = false ∧ nv = .int .i64 (pl.length : Int) ∧ wx.ownsRow B 5 1 d (n + (done ++ pl).length) (xs ++ byteCells (done ++ pl)) ∧ Below B w wx

/-- What the inner loop knows. -/
def RelI (B n : Nat) (rest done : List UInt8) (xs : List Value) (w : World) (k : Nat) (d nv : Value) (wx : World) : Prop :=
  ∃ pl r : List UInt8, rest = pl ++ r ∧ k = r.length ∧ (∀ b, b ∈ pl → plain b = true) ∧ nv = .int .i64 (pl.length : Int) ∧ wx.ownsRow B 5 1 d (n + (done ++ pl).length) (xs ++ byteCells (done ++ pl)) ∧ Below B w wx

theorem own_alloc {w : World} {B e size n : Nat} {v : Value} {xs : List Value} (h : w.ownsRow B e size v n xs) (o : Obj) : (w.alloc o).ownsRow B e size v n xs :=
  ownsRow_kept h fun k hk => heap_alloc_lt _ _ (own_ge h hk).2
theorem below_grown {B : Nat} {a w w' : World} {e size n : Nat} {v : Value} {xs : List Value} (h : Below B a w) (hr : w.ownsRow B e size v n xs) (hB : B ≤ w.heap.size) (hg : w.grownBy w' v.ownBlock) : Below B a w' :=
  h.grown hg hB fun k hk => (own_ge hr hk).1

theorem str_at {l pl r : List UInt8} {c : UInt8} (h : l = pl ++ c :: r) (hi : pl.length < (ByteArray.mk l.toArray).size) : (ByteArray.mk l.toArray)[pl.length]'hi = c := by
  subst h
  show (pl ++ c :: r).toArray[pl.length]'_ = c
  simp
theorem str_drop {l pl r : List UInt8} {c : UInt8} (h : l = pl ++ c :: r) : (ByteArray.mk l.toArray).extract (pl.length + 1) l.length = ⟨r.toArray⟩ := by
  subst h
  rw [ba_extract, List.take_length]
  congr 2
  rw [show pl ++ c :: r = (pl ++ [c]) ++ r by simp, List.drop_left' (by simp)]

theorem hex_at : ∀ {k : Nat} (h : k < (ByteArray.mk #[48, 49, 50, 51, 52, 53, 54, 55, 56, 57, 97, 98, 99, 100, 101, 102]).size), (ByteArray.mk #[48, 49, 50, 51, 52, 53, 54, 55, 56, 57, 97, 98, 99, 100, 101, 102])[k]'h = hexd k := by
  have : ∀ k : Fin 16, (#[48, 49, 50, 51, 52, 53, 54, 55, 56, 57, 97, 98, 99, 100, 101, 102] : Array UInt8)[k] = hexd k := by decide
  exact fun {k} h => this ⟨k, h⟩

theorem and15 : ∀ k : Nat, k < 256 → bits .and .u8 (k : Int) 15 = (k : Int) % 16 := by decide +kernel

theorem esc_low {c : UInt8} (h : ¬ c.toNat = 34 ∧ ¬ c.toNat = 92 ∧ ¬ c.toNat = 8 ∧ ¬ c.toNat = 12 ∧ ¬ c.toNat = 10 ∧ ¬ c.toNat = 13 ∧ ¬ c.toNat = 9 ∧ c.toNat < 32) : esc c = [92, 117, 48, 48, hexd (c.toNat / 16), hexd (c.toNat % 16)] := by
  obtain ⟨h34, h92, h8, h12, h10, h13, h9, h32⟩ := h
  unfold esc
  rw [if_neg (by rintro (e | e) <;> (subst e; first | exact h34 rfl | exact h92 rfl)), if_neg (fun e => h8 (by rw [e]; rfl)), if_neg (fun e => h12 (by rw [e]; rfl)), if_neg (fun e => h10 (by rw [e]; rfl)), if_neg (fun e => h13 (by rw [e]; rfl)), if_neg (fun e => h9 (by rw [e]; rfl)), if_pos (by rw [UInt8.lt_iff_toNat_lt]; exact h32)]

theorem relE_next {B n : Nat} {l : List UInt8} {xs : List Value} {w w' : World} {rest done pl r : List UInt8} {c : UInt8} {d : Value} {L k : Nat} (h1 : escAll l = done ++ escAll rest ∧ done.length + 6 * rest.length ≤ 6 * l.length)
    (e1 : rest = pl ++ c :: r) (e2 : ∀ b, b ∈ pl → plain b = true) (hL : L = n + (done ++ pl).length) {news : List Value} (hrow : w'.ownsRow B 5 1 d (L + k) (xs ++ byteCells (done ++ pl) ++ news)) (hk : k = (esc c).length) (hn : news = byteCells (esc c)) (hb : Below B w w') :
    RelE B n l xs w r.length d (.string ⟨r.toArray⟩) w' := by
  subst e1 hL hk hn
  refine ⟨r, done ++ pl ++ esc c, ?_, rfl, rfl, ?_, hb, ?_⟩
  · rw [h1.1, escAll_append, escAll_cons, escAll_plain e2]; simp
  · rw [byteCells_append, ← List.append_assoc, show n + (done ++ pl ++ esc c).length = n + (done ++ pl).length + (esc c).length by simp; omega]
    exact hrow
  · have h2 := h1.2
    have h3 := esc_len c
    simp at h2 ⊢
    omega

set_option maxHeartbeats 4000000 in
set_option maxRecDepth 100000 in
theorem escaped_any (l : List UInt8) (B n : Nat) (dv : Value) (xs : List Value) (w : World) (hown : w.ownsRow B 5 1 dv n xs) (hB : B ≤ w.heap.size) (hB2 : 2 < B) (hT : Tab w) (hlim : n + 6 * l.length ≤ 100000000) :
    Calls Ybad.prog 37 #[dv, .string ⟨l.toArray⟩] w fun e w' => ∃ dv', e = .returned dv' ∧ w'.ownsRow B 5 1 dv' (n + (escAll l).length) (xs ++ byteCells (escAll l)) ∧ Below B w w' := by
  have HT := hideIt hT
  clear hT
  go_enter Ybad.func37, Ybad.ntmps37
  go_wp2
  go_loopg [0, 1] l.length (RelE B n l xs w)
  case atStart => exact ⟨l, [], rfl, rfl, rfl, by simpa [byteCells] using hown, Below.refl _ _, by simp⟩
  case round =>
    obtain ⟨rest, done, hl, rfl, rfl, hrow, hbel, hle⟩ := hrel
    clear hown
    obtain ⟨L, hL⟩ : ∃ L, L = n + done.length := ⟨_, rfl⟩
    rw [← hL] at hrow
    obtain ⟨da, dc, rfl⟩ := row_form hrow
    have HLL := hideIt hL
    clear hL
    cases rest with
    | nil =>
      have hsz : (ByteArray.mk ([] : List UInt8).toArray).size = 0 := rfl
      go_wp2
      go_ret
      have e : escAll l = done := by rw [hl]; simp [escAll]
      rw [e, ← HLL.out]
      exact ⟨_, rfl, hrow, hbel⟩
    | cons b0 r0 =>
      have hsz : (ByteArray.mk (b0 :: r0).toArray).size = r0.length + 1 := by simp [ByteArray.size]
      have i0 : (0 : Int) < (r0.length : Int) + 1 := by omega
      have HL := hideIt (And.intro hl hle)
      have HR := hideIt (And.intro hrow hbel)
      clear hl hle hrow hbel
      go_upto_if 14 with (fail)
      go_cut [0, 1, 5] (RelC B n (b0 :: r0) done xs w)
      case first =>
        by_cases h8 : 8 ≤ r0.length + 1
        · obtain ⟨b1, b2, b3, b4, b5, b6, b7, tl, rfl⟩ : ∃ b1 b2 b3 b4 b5 b6 b7 tl, r0 = b1 :: b2 :: b3 :: b4 :: b5 :: b6 :: b7 :: tl := by
            rcases r0 with _ | ⟨b1, _ | ⟨b2, _ | ⟨b3, _ | ⟨b4, _ | ⟨b5, _ | ⟨b6, _ | ⟨b7, tl⟩⟩⟩⟩⟩⟩⟩ <;> simp at h8
            exact ⟨b1, b2, b3, b4, b5, b6, b7, tl, rfl⟩
          have hx1 : (ByteArray.mk (b0 :: b1 :: b2 :: b3 :: b4 :: b5 :: b6 :: b7 :: tl).toArray).extract 0 8 = ⟨#[b0, b1, b2, b3, b4, b5, b6, b7]⟩ := by rw [ba_extract]; rfl
          simp only [List.length_cons] at hsz i0 ⊢
          clear h8
          have hp8 := nplain_le [b0, b1, b2, b3, b4, b5, b6, b7]
          simp only [List.length_cons, List.length_nil] at hp8
          have cB := fun w' hT => before_bytes [b0, b1, b2, b3, b4, b5, b6, b7] rfl w' hT
          have cA := fun w' h1 h2 => append8 [b0, b1, b2, b3, b4, b5, b6, b7] rfl B L (.slice da L dc) (xs ++ byteCells done) w' h1 h2 (by have h5 := HL.out.2; have h6 := HLL.out; simp at h5; omega)
          have cW := fun w' => word_le b0 b1 b2 b3 b4 b5 b6 b7 w'
          generalize hnp : nplain [b0, b1, b2, b3, b4, b5, b6, b7] = np at *
          generalize leNat [b0, b1, b2, b3, b4, b5, b6, b7] = wd at *
          have HNP := hideIt (And.intro hnp hp8)
          have HA := hideIt cA
          have HB := hideIt cB
          have HW := hideIt cW
          clear hnp hp8 cA cB cW
          go_upto_region 5 with (go_at_call 53; go_must (refine (HW.out _).mono ?_; rintro e w1 ⟨rfl, q1, rfl⟩))
          go_upto_region 7 with (go_at_call 54; go_must (refine (HB.out _ ((HT.out.later HR.out.2 hB2).drewN q1)).mono ?_; rintro e w2 ⟨rfl, rfl⟩))
          have k3 : wrap64 ((L : Int) + (np : Int)) = (L : Int) + (np : Int) := wrap_small (n := L + np) (by have h1 := HL.out.2; have h2 := HLL.out; have h3 := HNP.out.2; simp at h1; omega)
          go_upto_region 8 with (go_at_call 55; go_must (refine (HA.out _ (drewN_row HR.out.1 q1) (by have := HR.out.2.size; show B ≤ wr.heap.size; omega)).mono ?_; rintro e w3 ⟨dv3, rfl, hrow3, hb3⟩; obtain ⟨gb, cap, rfl, hg1, hg2, hg3⟩ := row_some hrow3 (by omega); have HR3 := hideIt (And.intro hrow3 hb3); have k0 : (0 : Int) ≤ (L : Int) + (np : Int) := (by clear k3; omega); have k1 : (L : Int) + (np : Int) ≤ (cap : Int) := (by clear k3; have := HNP.out.2; omega); have k2 : ((L : Int) + (np : Int)).toNat = L + np := (by clear k3; omega); clear hrow3 hb3 hg1 hg2 hg3))
          clear k0 k1 k2 k3
          by_cases h88 : np = 8
          · have HN8 := hideIt h88
            have hnp8 : ((np : Int) == 8) = true := by simp [h88]
            have hx2 : (ByteArray.mk (b0 :: b1 :: b2 :: b3 :: b4 :: b5 :: b6 :: b7 :: tl).toArray).extract 8 (tl.length + 1 + 1 + 1 + 1 + 1 + 1 + 1 + 1) = ⟨tl.toArray⟩ := by
              rw [ba_extract, List.take_of_length_le (by simp)]; rfl
            clear h88
            go_wp2
            go_roundg tl.length
            case measure => simp; omega
            case rel =>
              have h9 := HNP.out
              have h10 := HN8.out
              subst h10
              refine ⟨tl, done ++ [b0, b1, b2, b3, b4, b5, b6, b7], ?_, rfl, rfl, ?_, (below_drewN HR.out.2 q1).trans HR3.out.2, ?_⟩
              · rw [HL.out.1, List.append_assoc]
                congr 1
                rw [show b0 :: b1 :: b2 :: b3 :: b4 :: b5 :: b6 :: b7 :: tl = [b0, b1, b2, b3, b4, b5, b6, b7] ++ tl from rfl, escAll_append, escAll_plain (nplain_all (l := [b0, b1, b2, b3, b4, b5, b6, b7]) h9.1)]
              · have h11 := HR3.out.1
                have h12 := HLL.out
                rw [List.append_assoc] at h11
                rw [byteCells_append, show n + (done ++ [b0, b1, b2, b3, b4, b5, b6, b7]).length = L + 8 by simp; omega]
                exact h11
              · have := HL.out.2
                simp at this ⊢
                omega
          · have hnp8 : ((np : Int) == 8) = false := by simp; omega
            have HN8 := hideIt h88
            clear h88
            go_wp2
            go_meet
            have h9 := HNP.out
            obtain ⟨pl, c, r, e1, e2, e3, e4⟩ := nplain_split (l := [b0, b1, b2, b3, b4, b5, b6, b7]) (by have := HN8.out; have h10 := h9.1; simp; omega)
            have hr4 := ownsRow_take HR3.out.1 (m := L + np) (by omega)
            refine ⟨pl, c, r ++ tl, rfl, ?_, e3, e4, ?_, ?_, ?_⟩
            · show [b0, b1, b2, b3, b4, b5, b6, b7] ++ tl = _
              rw [e1]; simp
            · rw [e2, h9.1]
            · have h12 := HLL.out
              have h13 := HR.out.1.1
              have e5 : ((xs ++ byteCells done) ++ byteCells [b0, b1, b2, b3, b4, b5, b6, b7]).take ((L + np) * 1) = xs ++ byteCells (done ++ pl) := by
                rw [Nat.mul_one, List.take_append, h13, Nat.mul_one, List.take_of_length_le (by rw [h13]; omega), show L + np - L = np by omega, e1, byteCells_append, byteCells_append, List.take_left' (by rw [byteCells_length, e2, h9.1]), List.append_assoc]
              rw [e5] at hr4
              rw [show n + (done ++ pl).length = L + np by simp; omega]
              exact hr4
            · exact (below_drewN HR.out.2 q1).trans HR3.out.2
        · have h8' : ¬ (8 ≤ (r0.length : Int) + 1) := by omega
          have h8b : decide (8 ≤ (r0.length : Int) + 1) = false := by simp; omega
          clear h8
          obtain ⟨i5, hi5, hz5, hs5, hy5⟩ := info_parts info5
          obtain ⟨S, hS⟩ : ∃ S, S = ByteArray.mk (b0 :: r0).toArray := ⟨_, rfl⟩
          rw [← hS] at hsz ⊢
          have HS := hideIt hS
          clear hS
          go_wp2
          go_loopg [0, 5] (r0.length + 1) (RelI B n (b0 :: r0) done xs w)
          case atStart => exact ⟨[], b0 :: r0, rfl, rfl, fun b h => absurd h List.not_mem_nil, rfl, by have := HLL.out; have h2 := HR.out.1; rw [List.append_nil, ← this]; exact h2, HR.out.2⟩
          case round =>
            obtain ⟨pl, r, e1, rfl, e2, rfl, hrow, hbel⟩ := hrel
            have el : r0.length + 1 = pl.length + r.length := by have := congrArg List.length e1; simpa using this
            have hlen := HL.out.2
            have hn1 := (escAll_plain e2)
            cases r with
            | nil =>
              have t1 : ¬ ((pl.length : Int) < (r0.length : Int) + 1) := by simp at el; omega
              have t2 : ((pl.length : Int) == (r0.length : Int) + 1) = true := by simp at el; simp; omega
              have t3 : decide ((pl.length : Int) < (r0.length : Int) + 1) = false := by simp at el; simp; omega
              have HE := hideIt (And.intro e1 (And.intro e2 (And.intro hrow hbel)))
              clear e1 e2 hrow hbel el hlen hn1
              go_wp2
              go_ret
              obtain ⟨e1, e2, hrow, hbel⟩ := HE.out
              have e : escAll l = done ++ pl := by rw [HL.out.1, e1, List.append_nil, escAll_plain e2]
              rw [e]
              exact ⟨_, rfl, hrow, hbel⟩
            | cons c r' =>
              have hi : pl.length < S.size := by rw [hsz]; simp at el; omega
              have hidx : S[pl.length]'hi = c := by
                have h1 := HS.out
                subst h1
                exact str_at e1 _
              have t1 : (pl.length : Int) < (r0.length : Int) + 1 := by simp at el; omega
              have t3 : decide ((pl.length : Int) < (r0.length : Int) + 1) = true := by simp at el; simp; omega
              have t2 : ((pl.length : Int) == (r0.length : Int) + 1) = false := by simp at el; simp; omega
              have t4 : (0 : Int) ≤ (pl.length : Int) := by omega
              have cE := fun w' => escapedOnly_call c w'
              rw [plain_nat] at cE
              obtain ⟨M, hM⟩ : ∃ M, M = n + (done ++ pl).length := ⟨_, rfl⟩
              rw [← hM] at hrow
              have hMle : M ≤ 200000000 := by simp at hM el hlen; omega
              obtain ⟨ea, ec, rfl⟩ := row_form hrow
              have HE := hideIt (And.intro e1 (And.intro e2 (And.intro hrow (And.intro hbel (And.intro hM el)))))
              have hws : B ≤ wr.heap.size := by have := hbel.size; omega
              clear e1 e2 hrow hbel el hlen hn1 hM
              cases hp : plain c with
              | true =>
                rw [hp] at cE
                have HP := hideIt hp
                clear hp
                have hx1 : M + 1 ≤ maxLen := by unfold maxLen; omega
                have hx2 : (M + 1) * 1 ≤ 140737488355328 := by omega
                have hx3 : B ≤ (wr.alloc (.cells #[.int .u8 (c.toNat : Int)] 5)).heap.size := by simp; omega
                have HX := hideIt (And.intro hx1 (And.intro hx2 hx3))
                clear hx1 hx2 hx3
                have hw1 : (pl.length : Int) + 1 ≤ 9223372036854775807 := by have h1 := HL.out.2; have h2 := HE.out.2.2.2.2.2; simp at h1 h2; omega
                go_wp2_with (first | (go_at_call 56; go_must (refine (cE _).mono ?_; rintro e w' ⟨rfl, hw⟩; have hw := hw.symm; subst hw)) | (at_builtin; go_must (refine wpList_append_own _ rfl _ _ 32 rfl B 5 i5 (.int .u8 0) 1 1 Ybad.underlying32 hi5 hz5 hs5 hy5 rfl (by decide) (.slice ea M ec) M (xs ++ byteCells (done ++ pl)) rfl (own_alloc HE.out.2.2.1 _) ⟨wr.heap.size, 0, none⟩ 1 1 [.int .u8 (c.toNat : Int)] rfl rfl (World.news_of_block (cs := #[.int .u8 (c.toNat : Int)]) (t := 5) (fr := (0, 0)) (heap_alloc_at _ _ rfl)) (by simp [Value.oneCell']) HX.out.1 HX.out.2.1 HX.out.2.2 ?_; intro v' w' hr' hg' _)))
                obtain ⟨e1, e2, hrow, hbel, hM, el⟩ := HE.out
                clear hw1
                go_roundg r'.length
                case measure => simp
                case rel =>
                  refine ⟨pl ++ [c], r', by rw [e1]; simp, rfl, ?_, ?_, ?_, below_grown (hbel.alloc hws _) (own_alloc hrow _) HX.out.2.2 hg'⟩
                  · intro b hb
                    rw [List.mem_append, List.mem_singleton] at hb
                    rcases hb with hb | rfl
                    · exact e2 b hb
                    · exact HP.out
                  · refine congrArg (Value.int .i64) ?_
                    simp
                  · rw [show n + (done ++ (pl ++ [c])).length = M + 1 by rw [hM]; simp; omega, ← List.append_assoc, byteCells_append, ← List.append_assoc]
                    exact hr'
              | false =>
                rw [hp] at cE
                have HP := hideIt hp
                clear hp
                go_wp2_with (go_at_call 56; go_must (refine (cE _).mono ?_; rintro e w' ⟨rfl, hw⟩; have hw := hw.symm; subst hw))
                go_meet
                obtain ⟨e1, e2, hrow, hbel, hM, el⟩ := HE.out
                rw [hM] at hrow
                exact ⟨pl, c, r', by rw [HS.out], e1, e2, HP.out, rfl, by rw [← hM] at hrow ⊢; exact hrow, hbel⟩
      case rest =>
        obtain ⟨pl, c, r, rfl, e1, e2, e3, rfl, hrow, hbel⟩ := hcut
        have el : r0.length + 1 = pl.length + (r.length + 1) := by have := congrArg List.length e1; simpa using this
        obtain ⟨i5, hi5, hz5, hs5, hy5⟩ := info_parts info5
        obtain ⟨S, hS⟩ : ∃ S, S = ByteArray.mk (b0 :: r0).toArray := ⟨_, rfl⟩
        rw [← hS] at hsz ⊢
        have hi : pl.length < S.size := by rw [hsz]; omega
        have hidx : S[pl.length]'hi = c := by
          subst hS
          exact str_at e1 _
        have hext : S.extract (pl.length + 1) (r0.length + 1) = ⟨r.toArray⟩ := by
          subst hS
          exact str_drop e1
        clear hS
        have t1 : (pl.length : Int) < (r0.length : Int) + 1 := by omega
        have t4 : (0 : Int) ≤ (pl.length : Int) := by omega
        have t5 : (0 : Int) ≤ (pl.length : Int) + 1 := by omega
        have t6 : (pl.length : Int) + 1 ≤ (r0.length : Int) + 1 := by omega
        have t7 : ((pl.length : Int) + 1).toNat = pl.length + 1 := by omega
        obtain ⟨M, hM⟩ : ∃ M, M = n + (done ++ pl).length := ⟨_, rfl⟩
        rw [← hM] at hrow
        have hMle : M ≤ 200000000 := by have h1 := HL.out.2; simp at hM h1; omega
        obtain ⟨ea, ec, rfl⟩ := row_form hrow
        have HE := hideIt (And.intro e1 (And.intro e2 (And.intro hrow (And.intro hbel (And.intro hM el)))))
        have hws : B ≤ wc.heap.size := by have := hbel.size; omega
        have hc32 : ¬ c.toNat = 34 → ¬ c.toNat = 92 → c.toNat < 32 := fun h1 h2 => by
          have h3 := plain_nat c
          rw [e3] at h3
          simp at h3
          omega
        have HC := hideIt hc32
        clear e1 e2 e3 hrow hbel el hM hc32
        have hw1 : (pl.length : Int) + 1 ≤ 9223372036854775807 := by have h1 := HL.out.2; have h2 := HE.out.2.2.2.2.2; simp at h1 h2; omega
        go_upto_region 16 with (fail)
        clear hw1 t1 t4 t5 t6 t7 hidx hext hi
        have hx1 : M + 6 ≤ maxLen := by unfold maxLen; omega
        have hx2 : M + 6 ≤ 140737488355328 := by omega
        have HX := hideIt (And.intro hx1 (And.intro hx2 hws))
        clear hx1 hx2 hws
        have hfin : ∀ (nw : List UInt8) (wa : World), esc c = nw → (wa = wc ∨ ∃ o, wa = wc.alloc o) → ∀ v' w', w'.ownsRow B 5 1 v' (M + nw.length) (xs ++ byteCells (done ++ pl) ++ byteCells nw) → wa.grownBy w' (Value.slice ea M ec).ownBlock → RelE B n l xs w r.length v' (.string ⟨r.toArray⟩) w' := fun nw wa he hwa v' w' h1 h2 => by
          obtain ⟨e1, e2, hrow, hbel, hM, el⟩ := HE.out
          have hb : Below B w w' := by
            rcases hwa with rfl | ⟨o, rfl⟩
            · exact below_grown hbel hrow HX.out.2.2 h2
            · exact below_grown (hbel.alloc HX.out.2.2 _) (own_alloc hrow _) (by have := HX.out.2.2; simp; omega) h2
          exact relE_next HL.out e1 e2 hM h1 (by rw [he]) (by rw [he]) hb
        have HF := hideIt hfin
        have hal : ∀ o, (wc.alloc o).ownsRow B 5 1 (.slice ea M ec) M (xs ++ byteCells (done ++ pl)) ∧ B ≤ (wc.alloc o).heap.size := fun o => ⟨own_alloc HE.out.2.2.1 _, by have := HX.out.2.2; simp; omega⟩
        have HAL := hideIt hal
        have HM : Hid (r.length < (b0 :: r0).length) := hideIt (by have := HE.out.2.2.2.2.2; simp; omega)
        clear hfin hal
        by_cases q34 : c.toNat = 34
        · have q' : (c.toNat : Int) = 34 := by omega
          have HQ := hideIt q34
          clear q34
          go_wp2_with (at_builtin; go_must (refine wpList_append_own _ rfl _ _ 32 rfl B 5 i5 (.int .u8 0) 1 1 Ybad.underlying32 hi5 hz5 hs5 hy5 rfl (by decide) (.slice ea M ec) M (xs ++ byteCells (done ++ pl)) rfl (HAL.out _).1 ⟨wc.heap.size, 0, none⟩ 2 2 [.int .u8 92, .int .u8 34] rfl rfl (World.news_of_block (cs := #[.int .u8 92, .int .u8 34]) (t := 5) (fr := (0, 0)) (heap_alloc_at _ _ rfl)) (by simp [Value.oneCell']) (by have := HX.out.1; omega) (by have := HX.out.2.1; omega) (HAL.out _).2 ?_; intro v' w' hr' hg' _))
          go_roundg r.length
          case measure => exact HM.out
          case rel => exact HF.out [92, 34] _ (by rw [UInt8.toNat_inj.1 (show c.toNat = (34 : UInt8).toNat from HQ.out)]; rfl) (Or.inr ⟨_, rfl⟩) v' w' hr' hg'
        have n34 : ¬ ((c.toNat : Int) = 34) := by omega
        by_cases q92 : c.toNat = 92
        · have q' : (c.toNat : Int) = 92 := by omega
          have HQ := hideIt q92
          clear q92
          go_wp2_with (at_builtin; go_must (refine wpList_append_own _ rfl _ _ 32 rfl B 5 i5 (.int .u8 0) 1 1 Ybad.underlying32 hi5 hz5 hs5 hy5 rfl (by decide) (.slice ea M ec) M (xs ++ byteCells (done ++ pl)) rfl (HAL.out _).1 ⟨wc.heap.size, 0, none⟩ 2 2 [.int .u8 92, .int .u8 92] rfl rfl (World.news_of_block (cs := #[.int .u8 92, .int .u8 92]) (t := 5) (fr := (0, 0)) (heap_alloc_at _ _ rfl)) (by simp [Value.oneCell']) (by have := HX.out.1; omega) (by have := HX.out.2.1; omega) (HAL.out _).2 ?_; intro v' w' hr' hg' _))
          go_roundg r.length
          case measure => exact HM.out
          case rel => exact HF.out [92, 92] _ (by rw [UInt8.toNat_inj.1 (show c.toNat = (92 : UInt8).toNat from HQ.out)]; rfl) (Or.inr ⟨_, rfl⟩) v' w' hr' hg'
        have n92 : ¬ ((c.toNat : Int) = 92) := by omega
        by_cases q8 : c.toNat = 8
        · have q' : (c.toNat : Int) = 8 := by omega
          have HQ := hideIt q8
          clear q8
          go_wp2_with (at_builtin; go_must (refine wpList_append_own_string _ rfl _ _ 32 9 rfl B 5 i5 Ybad.underlying32 Ybad.underlying9 hi5 hz5 hs5 hy5 (.slice ea M ec) M (xs ++ byteCells (done ++ pl)) rfl HE.out.2.2.1 ⟨#[92, 98]⟩ rfl (by have := HX.out.1; show M + 2 ≤ maxLen; omega) (by have := HX.out.2.1; show M + 2 ≤ _; omega) HX.out.2.2 ?_; intro v' w' hr' hg' _))
          go_roundg r.length
          case measure => exact HM.out
          case rel => exact HF.out [92, 98] _ (by rw [UInt8.toNat_inj.1 (show c.toNat = (8 : UInt8).toNat from HQ.out)]; rfl) (Or.inl rfl) v' w' hr' hg'
        have n8 : ¬ ((c.toNat : Int) = 8) := by omega
        by_cases q12 : c.toNat = 12
        · have q' : (c.toNat : Int) = 12 := by omega
          have HQ := hideIt q12
          clear q12
          go_wp2_with (at_builtin; go_must (refine wpList_append_own_string _ rfl _ _ 32 9 rfl B 5 i5 Ybad.underlying32 Ybad.underlying9 hi5 hz5 hs5 hy5 (.slice ea M ec) M (xs ++ byteCells (done ++ pl)) rfl HE.out.2.2.1 ⟨#[92, 102]⟩ rfl (by have := HX.out.1; show M + 2 ≤ maxLen; omega) (by have := HX.out.2.1; show M + 2 ≤ _; omega) HX.out.2.2 ?_; intro v' w' hr' hg' _))
          go_roundg r.length
          case measure => exact HM.out
          case rel => exact HF.out [92, 102] _ (by rw [UInt8.toNat_inj.1 (show c.toNat = (12 : UInt8).toNat from HQ.out)]; rfl) (Or.inl rfl) v' w' hr' hg'
        have n12 : ¬ ((c.toNat : Int) = 12) := by omega
        by_cases q10 : c.toNat = 10
        · have q' : (c.toNat : Int) = 10 := by omega
          have HQ := hideIt q10
          clear q10
          go_wp2_with (at_builtin; go_must (refine wpList_append_own_string _ rfl _ _ 32 9 rfl B 5 i5 Ybad.underlying32 Ybad.underlying9 hi5 hz5 hs5 hy5 (.slice ea M ec) M (xs ++ byteCells (done ++ pl)) rfl HE.out.2.2.1 ⟨#[92, 110]⟩ rfl (by have := HX.out.1; show M + 2 ≤ maxLen; omega) (by have := HX.out.2.1; show M + 2 ≤ _; omega) HX.out.2.2 ?_; intro v' w' hr' hg' _))
          go_roundg r.length
          case measure => exact HM.out
          case rel => exact HF.out [92, 110] _ (by rw [UInt8.toNat_inj.1 (show c.toNat = (10 : UInt8).toNat from HQ.out)]; rfl) (Or.inl rfl) v' w' hr' hg'
        have n10 : ¬ ((c.toNat : Int) = 10) := by omega
        by_cases q13 : c.toNat = 13
        · have q' : (c.toNat : Int) = 13 := by omega
          have HQ := hideIt q13
          clear q13
          go_wp2_with (at_builtin; go_must (refine wpList_append_own_string _ rfl _ _ 32 9 rfl B 5 i5 Ybad.underlying32 Ybad.underlying9 hi5 hz5 hs5 hy5 (.slice ea M ec) M (xs ++ byteCells (done ++ pl)) rfl HE.out.2.2.1 ⟨#[92, 114]⟩ rfl (by have := HX.out.1; show M + 2 ≤ maxLen; omega) (by have := HX.out.2.1; show M + 2 ≤ _; omega) HX.out.2.2 ?_; intro v' w' hr' hg' _))
          go_roundg r.length
          case measure => exact HM.out
          case rel => exact HF.out [92, 114] _ (by rw [UInt8.toNat_inj.1 (show c.toNat = (13 : UInt8).toNat from HQ.out)]; rfl) (Or.inl rfl) v' w' hr' hg'
        have n13 : ¬ ((c.toNat : Int) = 13) := by omega
        by_cases q9 : c.toNat = 9
        · have q' : (c.toNat : Int) = 9 := by omega
          have HQ := hideIt q9
          clear q9
          go_wp2_with (at_builtin; go_must (refine wpList_append_own_string _ rfl _ _ 32 9 rfl B 5 i5 Ybad.underlying32 Ybad.underlying9 hi5 hz5 hs5 hy5 (.slice ea M ec) M (xs ++ byteCells (done ++ pl)) rfl HE.out.2.2.1 ⟨#[92, 116]⟩ rfl (by have := HX.out.1; show M + 2 ≤ maxLen; omega) (by have := HX.out.2.1; show M + 2 ≤ _; omega) HX.out.2.2 ?_; intro v' w' hr' hg' _))
          go_roundg r.length
          case measure => exact HM.out
          case rel => exact HF.out [92, 116] _ (by rw [UInt8.toNat_inj.1 (show c.toNat = (9 : UInt8).toNat from HQ.out)]; rfl) (Or.inl rfl) v' w' hr' hg'
        have n9 : ¬ ((c.toNat : Int) = 9) := by omega
        have c32 : c.toNat < 32 := HC.out q34 q92
        have i32 : (c.toNat : Int) < 32 := by omega
        have HQ := hideIt (And.intro q34 (And.intro q92 (And.intro q8 (And.intro q12 (And.intro q10 (And.intro q13 (And.intro q9 c32)))))))
        clear q34 q92 q8 q12 q10 q13 q9 c32
        go_upto_region 17 with (fail)
        have hH : (ByteArray.mk #[48, 49, 50, 51, 52, 53, 54, 55, 56, 57, 97, 98, 99, 100, 101, 102]).size = 16 := rfl
        have hu1 : (0 : Int) ≤ (c.toNat : Int) / 16 := by omega
        have hu2 : (c.toNat : Int) / 16 < 16 := by omega
        have hu3 : (0 : Int) ≤ (c.toNat : Int) % 16 := by omega
        have hu4 : (c.toNat : Int) % 16 < 16 := by omega
        have hu5 : ((c.toNat : Int) / 16).toNat = c.toNat / 16 := by omega
        have hu6 : ((c.toNat : Int) % 16).toNat = c.toNat % 16 := by omega
        have hu7 := hex_at (k := c.toNat / 16) (by show _ < 16; omega)
        have hu8 := hex_at (k := c.toNat % 16) (by show _ < 16; omega)
        have hu9 := and15 c.toNat (by omega)
        go_region_law ((refine step_append_lies _ (by rfl) _ _ _ (by rfl) B 5 i5 _ 1 1 Ybad.underlying32 hi5 hz5 hs5 hy5 rfl (by omega) (.slice ea M ec) M (xs ++ byteCells (done ++ pl)) (by rfl) (HAL.out _).1 ⟨wc.heap.size, 0, none⟩ 6 6 [.int .u8 92, .int .u8 117, .int .u8 48, .int .u8 48, .int .u8 ((hexd (c.toNat / 16)).toNat : Int), .int .u8 ((hexd (c.toNat % 16)).toNat : Int)] (by rfl) (by rfl) (World.news_of_block (cs := #[.int .u8 92, .int .u8 117, .int .u8 48, .int .u8 48, .int .u8 ((hexd (c.toNat / 16)).toNat : Int), .int .u8 ((hexd (c.toNat % 16)).toNat : Int)]) (t := 5) (fr := (0, 0)) (heap_alloc_at _ _ rfl)) (by simp [Value.oneCell']) (by omega) (by have := HX.out.1; omega) (by have := HX.out.2.1; omega) (HAL.out _).2 (wc.heap.size + 1) (by simp) ?_; intro gp capp w4 hown4 hgr4 hat4 hgl4))
        all_goals
          go_wp2
          go_roundg r.length
          case measure => exact HM.out
          case rel => exact HF.out [92, 117, 48, 48, hexd (c.toNat / 16), hexd (c.toNat % 16)] (wc.alloc (.cells #[.int .u8 92, .int .u8 117, .int .u8 48, .int .u8 48, .int .u8 ((hexd (c.toNat / 16)).toNat : Int), .int .u8 ((hexd (c.toNat % 16)).toNat : Int)] 5)) (esc_low HQ.out) (Or.inr ⟨_, rfl⟩) _ w4 hown4 ⟨hgr4.os, hgr4.tape, hgr4.output, hgr4.size, hgr4.block⟩
end Go.Proofs.YbulkeiwwDoor
