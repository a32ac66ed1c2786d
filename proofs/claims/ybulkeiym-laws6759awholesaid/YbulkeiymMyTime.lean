/-
  The contracts of package time's methods on Times without a monotonic reading.
-/
import Derived.Test.YbulkeiymMyBits
import Derived.WalkSpells
namespace Go.Proofs.Ybulkeiym
open Go.RowKit

/-- A Time as Add makes it of the zero Time: seconds and nanoseconds, no location. -/
abbrev tm (ns ds : Int) : Array Value := #[.int .u64 ns, .int .i64 ds, .pointer none]

theorem ret_bool {a b : Bool} (h : a = b) : Ending.returned (.bool a) = .returned (.bool b) := by rw [h]
theorem ret_int {k : IntKind} {a b : Int} (h : a = b) : Ending.returned (.int k a) = .returned (.int k b) := by rw [h]

theorem nsec_any (b o : Nat) (ns : Int) (w : World) (h0 : 0 ≤ ns) (h1 : ns < 1000000000) (hc : w.cell? ⟨b, o, none⟩ = some (.int .u64 ns)) :
    Calls Yba.prog 12 #[.pointer (some ⟨b, o, none⟩)] w fun e w' => e = .returned (.int .i32 ns) ∧ w = w' := by
  have hb := and_nano ns h0 h1
  go_enter Yba.func12, Yba.ntmps12
  go_wp2
  go_ret
  exact ⟨rfl, rfl⟩

theorem sec_any (b o : Nat) (ns ds : Int) (w : World) (h0 : 0 ≤ ns) (h1 : ns < 1000000000) (hc : w.cell? ⟨b, o, none⟩ = some (.int .u64 ns)) (hd : w.cell? ⟨b, o + 1, none⟩ = some (.int .i64 ds)) :
    Calls Yba.prog 17 #[.pointer (some ⟨b, o, none⟩)] w fun e w' => e = .returned (.int .i64 ds) ∧ w = w' := by
  have hb := and_mono ns h0 h1
  go_enter Yba.func17, Yba.ntmps17
  go_wp2
  go_ret
  exact ⟨rfl, rfl⟩

theorem isZero_any (ns ds : Int) (w : World) :
    Calls Yba.prog 7 #[.agg (tm ns ds)] w fun e w' => e = .returned (.bool (decide (ns = 0) && decide (ds = 0))) ∧ Below w.heap.size w w' := by
  by_cases h : ns = 0
  · subst h
    go_enter Yba.func7, Yba.ntmps7
    go_wp2
    go_ret
    refine ⟨ret_bool ?_, (Below.refl _ _).alloc (Nat.le_refl _) _⟩
    rw [Bool.eq_iff_iff]; simp
  · go_enter Yba.func7, Yba.ntmps7
    go_wp2
    go_ret
    exact ⟨ret_bool (by simp [h]), (Below.refl _ _).alloc (Nat.le_refl _) _⟩

theorem equal_any (ns ds ms es : Int) (w : World) (h0 : 0 ≤ ns) (h1 : ns < 1000000000) (h2 : 0 ≤ ms) (h3 : ms < 1000000000) :
    Calls Yba.prog 6 #[.agg (tm ns ds), .agg (tm ms es)] w fun e w' => e = .returned (.bool (decide (ds = es) && decide (ns = ms))) ∧ Below w.heap.size w w' := by
  have hb := and_and ns ms h0 h1 h2 h3
  go_enter Yba.func6, Yba.ntmps6
  go_wp2_with fail
  refine (sec_any _ _ ns ds _ h0 h1 (by go_simp) (by go_simp)).mono ?_
  rintro e w' ⟨rfl, rfl⟩
  go_wp2_with fail
  refine (sec_any _ _ ms es _ h2 h3 (by go_simp) (by go_simp)).mono ?_
  rintro e w' ⟨rfl, rfl⟩
  by_cases hd : ds = es
  · subst hd
    go_wp2_with fail
    refine (nsec_any _ _ ns _ h0 h1 (by go_simp)).mono ?_
    rintro e w' ⟨rfl, rfl⟩
    go_wp2_with fail
    refine (nsec_any _ _ ms _ h2 h3 (by go_simp)).mono ?_
    rintro e w' ⟨rfl, rfl⟩
    go_wp2
    go_ret
    refine ⟨ret_bool ?_, ((Below.refl _ _).alloc (Nat.le_refl _) _).alloc (by simp) _⟩
    rw [Bool.eq_iff_iff]; simp
  · have hd' : (ds == es) = false := beq_eq_false_iff_ne.2 hd
    go_wp2
    go_ret
    exact ⟨ret_bool (by simp [hd]), ((Below.refl _ _).alloc (Nat.le_refl _) _).alloc (by simp) _⟩

theorem before_any (ns ds ms es : Int) (w : World) (h0 : 0 ≤ ns) (h1 : ns < 1000000000) (h2 : 0 ≤ ms) (h3 : ms < 1000000000) :
    Calls Yba.prog 10 #[.agg (tm ns ds), .agg (tm ms es)] w fun e w' => e = .returned (.bool (decide (ds < es) || (decide (ds = es) && decide (ns < ms)))) ∧ Below w.heap.size w w' := by
  have hb := and_and ns ms h0 h1 h2 h3
  go_enter Yba.func10, Yba.ntmps10
  go_wp2_with fail
  refine (sec_any _ _ ns ds _ h0 h1 (by go_simp) (by go_simp)).mono ?_
  rintro e w' ⟨rfl, rfl⟩
  go_wp2_with fail
  refine (sec_any _ _ ms es _ h2 h3 (by go_simp) (by go_simp)).mono ?_
  rintro e w' ⟨rfl, rfl⟩
  by_cases hl : ds < es
  · go_wp2
    go_ret
    exact ⟨ret_bool (by simp [hl]), ((Below.refl _ _).alloc (Nat.le_refl _) _).alloc (by simp) _⟩
  · by_cases hd : ds = es
    · subst hd
      go_wp2_with fail
      refine (nsec_any _ _ ns _ h0 h1 (by go_simp)).mono ?_
      rintro e w' ⟨rfl, rfl⟩
      go_wp2_with fail
      refine (nsec_any _ _ ms _ h2 h3 (by go_simp)).mono ?_
      rintro e w' ⟨rfl, rfl⟩
      go_wp2
      go_ret
      refine ⟨ret_bool ?_, ((Below.refl _ _).alloc (Nat.le_refl _) _).alloc (by simp) _⟩
      rw [Bool.eq_iff_iff, decide_eq_true_eq]
    · have hd' : (ds == es) = false := beq_eq_false_iff_ne.2 hd
      go_wp2
      go_ret
      exact ⟨ret_bool (by simp [hd]), ((Below.refl _ _).alloc (Nat.le_refl _) _).alloc (by simp) _⟩

theorem addSec_any (b o : Nat) (ns d : Int) (w : World) (h0 : 0 ≤ ns) (h1 : ns < 1000000000) (hd0 : -10000000000 ≤ d) (hd1 : d ≤ 10000000000)
    (hc : w.cell? ⟨b, o, none⟩ = some (.int .u64 ns)) (hx : w.cell? ⟨b, o + 1, none⟩ = some (.int .i64 0)) (hf : w.frozen? ⟨b, o + 1, none⟩ = false) :
    Calls Yba.prog 13 #[.pointer (some ⟨b, o, none⟩), .int .i64 d] w fun e w' => e = .returned (.tuple #[]) ∧ w' = w.setCell ⟨b, o + 1, none⟩ (.int .i64 d) := by
  have hb := and_mono ns h0 h1
  go_enter Yba.func13, Yba.ntmps13
  go_wp2
  go_end0
  exact ⟨rfl, rfl⟩

/-- Nanoseconds and seconds of a duration. -/
def nsOf (d : Int) : Int := d % 1000000000
def dsOf (d : Int) : Int := d / 1000000000

theorem andNot0 : bits .andNot .u64 0 1073741823 = 0 := by decide

set_option maxHeartbeats 400000 in
theorem add_pos (d : Int) (w : World) (h0 : 0 ≤ d) (h1 : d ≤ 9223372036854775807) :
    Calls Yba.prog 4 #[.agg (tm 0 0), .int .i64 d] w fun e w' => e = .returned (.agg (tm (nsOf d) (dsOf d))) ∧ Below w.heap.size w w' := by
  unfold nsOf dsOf
  have hns0 : 0 ≤ d % 1000000000 := by omega
  have hns1 : d % 1000000000 < 1000000000 := by omega
  have hb := or_zero (d % 1000000000) hns0 hns1
  have hb0 := andNot0
  have hb1 := and_mono (d % 1000000000) hns0 hns1
  go_enter Yba.func4, Yba.ntmps4
  go_wp2_with fail
  refine (nsec_any _ _ 0 _ (by omega) (by omega) (by go_simp)).mono ?_
  rintro e w' ⟨rfl, rfl⟩
  go_wp2_with fail
  refine (addSec_any _ _ (d % 1000000000) (d / 1000000000) _ hns0 hns1 (by omega) (by omega) (by go_simp) (by go_simp) (by go_simp)).mono ?_
  rintro e w' ⟨rfl, rfl⟩
  go_wp2
  exact bodyPost_ret (v := .agg (tm (d % 1000000000) (d / 1000000000))) (by simp [results, Yba.results4, go_sem]) rfl ⟨rfl, (((Below.refl _ _).alloc (Nat.le_refl _) _).alloc (by simp) _)⟩

theorem tmod_neg (d : Int) (h0 : d < 0) : d.tmod 1000000000 = -((-d) % 1000000000) := by
  have h : (-(-d)).tmod 1000000000 = -((-d).tmod 1000000000) := Int.neg_tmod _ _
  rw [Int.neg_neg] at h
  rw [h, Int.tmod_eq_emod_of_nonneg (by omega)]

set_option maxHeartbeats 400000 in
theorem add_neg (d : Int) (w : World) (h0 : d < 0) (h1 : -9223372036854775808 ≤ d) :
    Calls Yba.prog 4 #[.agg (tm 0 0), .int .i64 d] w fun e w' => e = .returned (.agg (tm (nsOf d) (dsOf d))) ∧ Below w.heap.size w w' := by
  have e0 := Int.mul_tdiv_add_tmod d 1000000000
  have e1 : d.tmod 1000000000 ≤ 0 := by rw [tmod_neg d h0]; omega
  have e2 : -1000000000 < d.tmod 1000000000 := by rw [tmod_neg d h0]; omega
  generalize hq : d.tdiv 1000000000 = q at *
  generalize hr : d.tmod 1000000000 = r at *
  have hb0 := andNot0
  by_cases hr0 : r < 0
  · have hn : nsOf d = r + 1000000000 := by unfold nsOf; omega
    have hd : dsOf d = q - 1 := by unfold dsOf; omega
    rw [hn, hd]
    have q0 : -9300000000 ≤ q := by omega
    have q1 : q ≤ 0 := by omega
    have hb := or_zero (r + 1000000000) (by omega) (by omega)
    have hb1 := and_mono (r + 1000000000) (by omega) (by omega)
    clear e0 hn hd
    go_enter Yba.func4, Yba.ntmps4
    go_wp2_with fail
    refine (nsec_any _ _ 0 _ (by omega) (by omega) (by go_simp)).mono ?_
    rintro e w' ⟨rfl, rfl⟩
    go_wp2_with fail
    refine (addSec_any _ _ (r + 1000000000) (q - 1) _ (by omega) (by omega) (by omega) (by omega) (by go_simp) (by go_simp) (by go_simp)).mono ?_
    rintro e w' ⟨rfl, rfl⟩
    go_wp2
    exact bodyPost_ret (v := .agg (tm (r + 1000000000) (q - 1))) (by simp [results, Yba.results4, go_sem]) rfl ⟨rfl, (((Below.refl _ _).alloc (Nat.le_refl _) _).alloc (by simp) _)⟩
  · have hn : nsOf d = 0 := by unfold nsOf; omega
    have hd : dsOf d = q := by unfold dsOf; omega
    have hr1 : r = 0 := by omega
    subst hr1
    rw [hn, hd]
    have q0 : -9300000000 ≤ q := by omega
    have q1 : q ≤ 0 := by omega
    have hb := or_zero 0 (by omega) (by omega)
    have hb1 := and_mono 0 (by omega) (by omega)
    clear e0 hn hd
    go_enter Yba.func4, Yba.ntmps4
    go_wp2_with fail
    refine (nsec_any _ _ 0 _ (by omega) (by omega) (by go_simp)).mono ?_
    rintro e w' ⟨rfl, rfl⟩
    go_wp2_with fail
    refine (addSec_any _ _ 0 q _ (by omega) (by omega) (by omega) (by omega) (by go_simp) (by go_simp) (by go_simp)).mono ?_
    rintro e w' ⟨rfl, rfl⟩
    go_wp2
    exact bodyPost_ret (v := .agg (tm 0 q)) (by simp [results, Yba.results4, go_sem]) rfl ⟨rfl, (((Below.refl _ _).alloc (Nat.le_refl _) _).alloc (by simp) _)⟩

end Go.Proofs.Ybulkeiym
