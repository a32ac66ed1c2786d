/-
  The small functions on the road to quote: eachByte, escapedOnly, word, TrailingZeros64, bytesBeforeEscape.
-/
import Derived.Test.YbulkeiwwDoorMyBlocks
import Derived.Test.YbulkeiwwDoorMySwar
import Derived.Laws.Bits64b
import Derived.RegionTactic
import Derived.BigQuiet
import Derived.Deep.DeepMust
import Derived.OwnWalk
import Derived.Deep.DeepCutAuto
import Derived.Deep.LoopGhost
namespace Go.Proofs.YbulkeiwwDoor
open Go.RowKit Go.ChangeMaps Go.Lib
set_option linter.unusedVariables false

theorem bits_andNot_u64_nat (a b : Nat) (ha : a < 18446744073709551616) (hb : b < 18446744073709551616) :
    bits .andNot .u64 (a : Int) (b : Int) = ((a &&& (18446744073709551616 - 1 - b) : Nat) : Int) := by
  have h1 : (BitVec.ofInt 64 (a : Int)).toNat = a := by
    rw [BitVec.ofInt_natCast, BitVec.toNat_ofNat]; exact Nat.mod_eq_of_lt (by omega)
  have h2 : (BitVec.ofInt 64 (b : Int)).toNat = b := by
    rw [BitVec.ofInt_natCast, BitVec.toNat_ofNat]; exact Nat.mod_eq_of_lt (by omega)
  have hx : a &&& (18446744073709551616 - 1 - b) < 2 ^ 64 := Nat.and_lt_two_pow _ (by omega)
  show IntKind.u64.wrap ((BitVec.ofInt 64 (a : Int) &&& ~~~ BitVec.ofInt 64 (b : Int)).toNat : Int) = _
  rw [BitVec.toNat_and, BitVec.toNat_not, h1, h2, IntKind.wrap_u64, show (2 : Nat) ^ 64 = 18446744073709551616 from rfl]
  omega

theorem or8 (a b i : Nat) (hP : 2 ^ i * 256 ≤ 18446744073709551616) (ha : a < 2 ^ i) (hb : b < 256) : bits .or .u64 (a : Int) (IntKind.u64.wrap (IntKind.u64.wrap (b : Int) * ((2 ^ i : Nat) : Int))) = ((a + 2 ^ i * b : Nat) : Int) := by
  have h1 : 2 ^ i * b ≤ 2 ^ i * 255 := Nat.mul_le_mul_left _ (by omega)
  have e1 : IntKind.u64.wrap (b : Int) = (b : Int) := by rw [IntKind.wrap_u64]; omega
  have e2 : IntKind.u64.wrap ((b : Int) * ((2 ^ i : Nat) : Int)) = ((2 ^ i * b : Nat) : Int) := by
    rw [IntKind.wrap_u64, ← Int.natCast_mul, Nat.mul_comm b]; omega
  rw [e1, e2, bits_or_u64_nat _ _ (by omega) (by omega), Nat.or_comm, ← Nat.two_pow_add_eq_or_of_lt ha, Nat.add_comm]

theorem word_sum (b0 b1 b2 b3 b4 b5 b6 b7 : Nat) (h0 : b0 < 256) (h1 : b1 < 256) (h2 : b2 < 256) (h3 : b3 < 256) (h4 : b4 < 256) (h5 : b5 < 256) (h6 : b6 < 256) (h7 : b7 < 256) :
    bits .or .u64 (bits .or .u64 (bits .or .u64 (bits .or .u64 (bits .or .u64 (bits .or .u64 (bits .or .u64 (IntKind.u64.wrap (b0 : Int)) (IntKind.u64.wrap (IntKind.u64.wrap (b1 : Int) * 256))) (IntKind.u64.wrap (IntKind.u64.wrap (b2 : Int) * 65536))) (IntKind.u64.wrap (IntKind.u64.wrap (b3 : Int) * 16777216))) (IntKind.u64.wrap (IntKind.u64.wrap (b4 : Int) * 4294967296))) (IntKind.u64.wrap (IntKind.u64.wrap (b5 : Int) * 1099511627776))) (IntKind.u64.wrap (IntKind.u64.wrap (b6 : Int) * 281474976710656))) (IntKind.u64.wrap (IntKind.u64.wrap (b7 : Int) * 72057594037927936))
      = ((b0 + 256 * (b1 + 256 * (b2 + 256 * (b3 + 256 * (b4 + 256 * (b5 + 256 * (b6 + 256 * b7)))))) : Nat) : Int) := by
  have e0 : IntKind.u64.wrap (b0 : Int) = (b0 : Int) := by rw [IntKind.wrap_u64]; omega
  have o1 := or8 b0 b1 8 (by decide) (by omega) h1
  have o2 := or8 (b0 + 2 ^ 8 * b1) b2 16 (by decide) (by omega) h2
  have o3 := or8 (b0 + 2 ^ 8 * b1 + 2 ^ 16 * b2) b3 24 (by decide) (by omega) h3
  have o4 := or8 (b0 + 2 ^ 8 * b1 + 2 ^ 16 * b2 + 2 ^ 24 * b3) b4 32 (by decide) (by omega) h4
  have o5 := or8 (b0 + 2 ^ 8 * b1 + 2 ^ 16 * b2 + 2 ^ 24 * b3 + 2 ^ 32 * b4) b5 40 (by decide) (by omega) h5
  have o6 := or8 (b0 + 2 ^ 8 * b1 + 2 ^ 16 * b2 + 2 ^ 24 * b3 + 2 ^ 32 * b4 + 2 ^ 40 * b5) b6 48 (by decide) (by omega) h6
  have o7 := or8 (b0 + 2 ^ 8 * b1 + 2 ^ 16 * b2 + 2 ^ 24 * b3 + 2 ^ 32 * b4 + 2 ^ 40 * b5 + 2 ^ 48 * b6) b7 56 (by decide) (by omega) h7
  rw [show (((2 ^ 8 : Nat) : Int)) = 256 from rfl] at o1
  rw [show (((2 ^ 16 : Nat) : Int)) = 65536 from rfl] at o2
  rw [show (((2 ^ 24 : Nat) : Int)) = 16777216 from rfl] at o3
  rw [show (((2 ^ 32 : Nat) : Int)) = 4294967296 from rfl] at o4
  rw [show (((2 ^ 40 : Nat) : Int)) = 1099511627776 from rfl] at o5
  rw [show (((2 ^ 48 : Nat) : Int)) = 281474976710656 from rfl] at o6
  rw [show (((2 ^ 56 : Nat) : Int)) = 72057594037927936 from rfl] at o7
  rw [e0, o1, o2, o3, o4, o5, o6, o7]
  congr 1
  omega

set_option maxHeartbeats 1000000 in
theorem each_call (c : Nat) (hc : c < 256) (w : World) : Calls Ybad.prog 73 #[.int .u8 (c : Int)] w fun e w' => e = .returned (.int .u64 ((c * 72340172838076673 : Nat) : Int)) ∧ w' = w := by
  go_enter Ybad.func73, Ybad.ntmps73
  go_wp2
  go_ret
  exact ⟨rfl, rfl⟩

set_option maxHeartbeats 1000000 in
theorem escapedOnly_call (b : UInt8) (w : World) : Calls Ybad.prog 56 #[.int .u8 (b.toNat : Int)] w fun e w' => e = .returned (.bool (b.toNat == 34 || b.toNat == 92 || decide (b.toNat < 32))) ∧ w' = w := by
  by_cases h1 : b.toNat = 34
  · rw [h1]
    go_enter Ybad.func56, Ybad.ntmps56
    go_wp2
    go_ret
    exact ⟨rfl, rfl⟩
  · by_cases h2 : b.toNat = 92
    · rw [h2]
      go_enter Ybad.func56, Ybad.ntmps56
      go_wp2
      go_ret
      exact ⟨rfl, rfl⟩
    · have i1 : ¬ ((b.toNat : Int) = 34) := by omega
      have i2 : ¬ ((b.toNat : Int) = 92) := by omega
      have e1 : (b.toNat == 34) = false := by simp [h1]
      have e2 : (b.toNat == 92) = false := by simp [h2]
      rw [e1, e2]
      by_cases h3 : b.toNat < 32
      · have i3 : (b.toNat : Int) < 32 := by omega
        rw [decide_eq_true h3]
        clear h1 h2 h3 e1 e2
        go_enter Ybad.func56, Ybad.ntmps56
        go_wp2
        go_ret
        exact ⟨by simp [*], rfl⟩
      · have i3 : ¬ ((b.toNat : Int) < 32) := by omega
        rw [decide_eq_false h3]
        clear h1 h2 h3 e1 e2
        go_enter Ybad.func56, Ybad.ntmps56
        go_wp2
        go_ret
        exact ⟨by simp [*], rfl⟩


theorem each_lit (c : Nat) (z : Int) (hz : ((c * 72340172838076673 : Nat) : Int) = z) (hc : c < 256) (w : World) : Calls Ybad.prog 73 #[.int .u8 (c : Int)] w fun e w' => e = .returned (.int .u64 z) ∧ w' = w := by
  rw [← hz]; exact each_call c hc w

set_option maxHeartbeats 1000000 in
set_option maxRecDepth 10000 in
theorem word_call (b0 b1 b2 b3 b4 b5 b6 b7 : UInt8) (w : World) : Calls Ybad.prog 53 #[.string ⟨#[b0, b1, b2, b3, b4, b5, b6, b7]⟩] w fun e w' => e = .returned (.int .u64 ((b0.toNat + 256 * (b1.toNat + 256 * (b2.toNat + 256 * (b3.toNat + 256 * (b4.toNat + 256 * (b5.toNat + 256 * (b6.toNat + 256 * b7.toNat)))))) : Nat) : Int)) ∧ ∃ q, w' = w.drewN q := by
  have hs : (ByteArray.mk #[b0, b1, b2, b3, b4, b5, b6, b7]).size = 8 := rfl
  have hW := word_sum b0.toNat b1.toNat b2.toNat b3.toNat b4.toNat b5.toNat b6.toNat b7.toNat b0.toNat_lt b1.toNat_lt b2.toNat_lt b3.toNat_lt b4.toNat_lt b5.toNat_lt b6.toNat_lt b7.toNat_lt
  have HW := hideIt hW
  clear hW
  go_enter Ybad.func53, Ybad.ntmps53
  go_wp2
  go_quiet (fail)
  go_wp2
  go_ret
  exact ⟨congrArg (fun z => Ending.returned (Value.int .u64 z)) HW.out, _, rfl⟩

theorem sub_key (y c o d : Nat) (ho : oc c 8 = o) (hd : o + d = 18446744073709551616) : IntKind.u64.wrap ((y : Int) - (o : Int)) = ((sub256 8 y c : Nat) : Int) := by
  rw [wrap_sub_u64_nat y o d hd]
  unfold sub256
  rw [ho, show (256 : Nat) ^ 8 = 18446744073709551616 by decide]
  congr 2
  omega

theorem sp_key (x : Nat) (hx : x < 18446744073709551616) : bits .and .u64 (bits .andNot .u64 (bits .or .u64 (bits .or .u64 (IntKind.u64.wrap ((x : Int) - 2314885530818453536)) (IntKind.u64.wrap (bits .xor .u64 (x : Int) 2459565876494606882 - 72340172838076673))) (IntKind.u64.wrap (bits .xor .u64 (x : Int) 6655295901103053916 - 72340172838076673))) (x : Int)) 9259542123273814144 = ((sp 8 x : Nat) : Int) := by
  have M : (256 : Nat) ^ 8 = 18446744073709551616 := by decide
  have o32 : oc 32 8 = 2314885530818453536 := by decide
  have o34 : oc 34 8 = 2459565876494606882 := by decide
  have o92 : oc 92 8 = 6655295901103053916 := by decide
  have o1 : oc 1 8 = 72340172838076673 := by decide
  have o128 : oc 128 8 = 9259542123273814144 := by decide
  have x1 := bits_xor_u64_nat x 2459565876494606882 hx (by omega)
  have x2 := bits_xor_u64_nat x 6655295901103053916 hx (by omega)
  have s1 := sub_key x 32 2314885530818453536 16131858542891098080 o32 (by omega)
  have s2 := sub_key (x ^^^ 2459565876494606882) 1 72340172838076673 18374403900871474943 o1 (by omega)
  have s3 := sub_key (x ^^^ 6655295901103053916) 1 72340172838076673 18374403900871474943 o1 (by omega)
  have l1 : sub256 8 x 32 < 18446744073709551616 := by unfold sub256; rw [M]; exact Nat.mod_lt _ (by omega)
  have l2 : sub256 8 (x ^^^ 2459565876494606882) 1 < 18446744073709551616 := by unfold sub256; rw [M]; exact Nat.mod_lt _ (by omega)
  have l3 : sub256 8 (x ^^^ 6655295901103053916) 1 < 18446744073709551616 := by unfold sub256; rw [M]; exact Nat.mod_lt _ (by omega)
  have l4 : sub256 8 x 32 ||| sub256 8 (x ^^^ 2459565876494606882) 1 < 18446744073709551616 := Nat.or_lt_two_pow (n := 64) l1 l2
  have l5 : sub256 8 x 32 ||| sub256 8 (x ^^^ 2459565876494606882) 1 ||| sub256 8 (x ^^^ 6655295901103053916) 1 < 18446744073709551616 := Nat.or_lt_two_pow (n := 64) l4 l3
  have l6 : (sub256 8 x 32 ||| sub256 8 (x ^^^ 2459565876494606882) 1 ||| sub256 8 (x ^^^ 6655295901103053916) 1) &&& (18446744073709551616 - 1 - x) < 18446744073709551616 := Nat.and_lt_two_pow (n := 64) _ (by omega)
  have p1 := bits_or_u64_nat _ _ l1 l2
  have p2 := bits_or_u64_nat _ _ l4 l3
  have p3 := bits_andNot_u64_nat _ x l5 hx
  have p4 := bits_and_u64_nat _ 9259542123273814144 l6 (by omega)
  rw [show ((2314885530818453536 : Nat) : Int) = 2314885530818453536 from rfl] at s1
  rw [show ((72340172838076673 : Nat) : Int) = 72340172838076673 from rfl] at s2 s3
  rw [show ((2459565876494606882 : Nat) : Int) = 2459565876494606882 from rfl] at x1
  rw [show ((6655295901103053916 : Nat) : Int) = 6655295901103053916 from rfl] at x2
  rw [show ((9259542123273814144 : Nat) : Int) = 9259542123273814144 from rfl] at p4
  rw [x1, x2, s1, s2, s3, p1, p2, p3, p4]
  unfold sp
  rw [o34, o92, o128, M]

set_option maxHeartbeats 1000000 in
set_option maxRecDepth 100000 in
theorem tz_core (x k idx : Nat) (w : World) (hx0 : ((x : Int) == 0) = false)
    (key : IntKind.u64.wrap (bits BinOp.and IntKind.u64 (x : Int) (IntKind.u64.wrap (-(x : Int))) * 285870213051353865) / 288230376151711744 = (idx : Int))
    (hi : idx < 64) (hk : k < 64) (hcell : w.cell? ⟨2, idx, none⟩ = some (.int .u8 k)) :
    Calls Ybad.prog 74 #[.int .u64 x] w fun e w' => e = .returned (.int .i64 k) ∧ w' = w := by
  go_enter Ybad.func74, Ybad.ntmps74
  go_wp2_with (simp only [key])
  go_ret
  exact ⟨rfl, rfl⟩

set_option maxHeartbeats 1000000 in
theorem tz_zero (w : World) : Calls Ybad.prog 74 #[.int .u64 0] w fun e w' => e = .returned (.int .i64 64) ∧ w' = w := by
  go_enter Ybad.func74, Ybad.ntmps74
  go_wp2
  go_ret
  exact ⟨rfl, rfl⟩

set_option maxHeartbeats 1000000 in
set_option maxRecDepth 100000 in
theorem before_call (x : Nat) (hx : x < 18446744073709551616) (w : World) (z : Nat) (hz : z ≤ 64) (hT : Calls Ybad.prog 74 #[.int .u64 ((sp 8 x : Nat) : Int)] w fun e w' => e = .returned (.int .i64 (z : Int)) ∧ w' = w) : Calls Ybad.prog 54 #[.int .u64 (x : Int)] w fun e w' => e = .returned (.int .i64 ((z / 8 : Nat) : Int)) ∧ w' = w := by
  have c1 : ∀ w, Calls Ybad.prog 73 #[.int .u8 1] w _ := fun w => each_lit 1 72340172838076673 (by decide) (by omega) w
  have c2 : ∀ w, Calls Ybad.prog 73 #[.int .u8 32] w _ := fun w => each_lit 32 2314885530818453536 (by decide) (by omega) w
  have c3 : ∀ w, Calls Ybad.prog 73 #[.int .u8 34] w _ := fun w => each_lit 34 2459565876494606882 (by decide) (by omega) w
  have c4 : ∀ w, Calls Ybad.prog 73 #[.int .u8 92] w _ := fun w => each_lit 92 6655295901103053916 (by decide) (by omega) w
  have c5 : ∀ w, Calls Ybad.prog 73 #[.int .u8 128] w _ := fun w => each_lit 128 9259542123273814144 (by decide) (by omega) w
  rw [← sp_key x hx] at hT
  have HT := hideIt hT
  clear hT
  go_enter Ybad.func54, Ybad.ntmps54
  go_wp2_with (first | (go_at_call 73; first | (refine (c1 _).mono ?_; rintro e w' ⟨rfl, rfl⟩) | (refine (c2 _).mono ?_; rintro e w' ⟨rfl, rfl⟩) | (refine (c3 _).mono ?_; rintro e w' ⟨rfl, rfl⟩) | (refine (c4 _).mono ?_; rintro e w' ⟨rfl, rfl⟩) | (refine (c5 _).mono ?_; rintro e w' ⟨rfl, rfl⟩)) | (go_at_call 74; refine HT.out.mono ?_; rintro e w' ⟨rfl, rfl⟩))
  go_ret
  exact ⟨by first | rfl | (congr 2; omega), rfl⟩

/-- The library's table as it is laid. -/
def Tab (w : World) : Prop := ∀ j, j < deBruijn64tab.length → w.cell? ⟨2, j, none⟩ = some (.int .u8 (deBruijn64tab.getD j 0))
theorem Tab.later {B : Nat} {w w' : World} (h : Tab w) (hb : Below B w w') (hB : 2 < B) : Tab w' := fun j hj => (hb.cell (p := ⟨2, j, none⟩) hB).trans (h j hj)
theorem Tab.drewN {w : World} (h : Tab w) (q : Nat) : Tab (w.drewN q) := fun j hj => h j hj

theorem tz_key (x a : Nat) (hx : x < 18446744073709551616) (hx0 : x ≠ 0) (hlow : x &&& (18446744073709551616 - x) = a) :
    IntKind.u64.wrap (bits BinOp.and IntKind.u64 (x : Int) (IntKind.u64.wrap (-(x : Int))) * 285870213051353865) / 288230376151711744 = ((a * 285870213051353865 % 18446744073709551616 / 288230376151711744 : Nat) : Int) := by
  have e1 : IntKind.u64.wrap (-(x : Int)) = ((18446744073709551616 - x : Nat) : Int) := by rw [IntKind.wrap_u64]; omega
  rw [e1, bits_and_u64_nat x _ hx (by omega), hlow, IntKind.wrap_u64]
  omega

theorem tz_call (x : Nat) (hx : x < 18446744073709551616) (w : World) (hT : Tab w) :
    Calls Ybad.prog 74 #[.int .u64 x] w fun e w' => e = .returned (.int .i64 (ctz 64 x : Nat)) ∧ w' = w := by
  by_cases hx0 : x = 0
  · subst hx0
    exact tz_zero w
  · obtain ⟨hlow, hk⟩ := lowest_bit 64 x hx0 hx
    obtain ⟨hi, htab⟩ := deBruijn64_at _ hk
    have hcell := hT _ hi
    rw [htab] at hcell
    exact tz_core x _ _ w (by simp; omega) (tz_key x _ hx hx0 hlow) hi hk hcell

theorem ctz_le (x : Nat) (hx : x < 18446744073709551616) : ctz 64 x ≤ 64 := by
  by_cases hx0 : x = 0
  · subst hx0; exact Nat.le_refl _
  · exact Nat.le_of_lt (lowest_bit 64 x hx0 hx).2

/-- bytesBeforeEscape of the word of eight bytes. -/
theorem before_bytes (l : List UInt8) (hl : l.length = 8) (w : World) (hT : Tab w) :
    Calls Ybad.prog 54 #[.int .u64 ((leNat l : Nat) : Int)] w fun e w' => e = .returned (.int .i64 ((nplain l : Nat) : Int)) ∧ w' = w := by
  have hx : leNat l < 18446744073709551616 := by have := leNat_lt l; rw [hl] at this; exact this
  have hs : sp 8 (leNat l) < 18446744073709551616 := sp_lt
  have h := before_call (leNat l) hx w (ctz 64 (sp 8 (leNat l))) (ctz_le _ hs) (tz_call _ hs w hT)
  have e := ctz_sp l
  rw [hl] at e
  rw [e] at h
  exact h

end Go.Proofs.YbulkeiwwDoor
