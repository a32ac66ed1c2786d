/-
  The contracts of zzs6758astate and hasPending.
-/
import Derived.Test.YbulkeixyRows
import Derived.WalkKit
import Derived.WalkSpells
namespace Go.Proofs.Ybulkeixy
open Go.RowKit

/-- "pending". -/
def pnd : ByteArray := ⟨#[112, 101, 110, 100, 105, 110, 103]⟩

/-- zzs6758astate as a plain function. -/
def stF (k : Int) (raw : ByteArray) : ByteArray :=
  if k % 7 = 0 then ⟨#[112, 101, 110, 100, 105, 110, 103]⟩ else if k % 7 = 1 then ⟨#[110, 111, 114, 109, 97, 108]⟩ else if k % 7 = 2 then ⟨#[97, 98, 97, 110, 100, 111, 110, 101, 100]⟩
  else if k % 7 = 3 then ⟨#[99, 111, 114, 114, 117, 112, 116, 101, 100]⟩ else if k % 7 = 4 then ⟨#[100, 105, 115, 99, 97, 114, 100, 101, 100]⟩ else if k % 7 = 5 then raw else ⟨#[]⟩

theorem state_any (k : Int) (raw : ByteArray) (w : World) (h0 : 0 ≤ k) (h1 : k ≤ 255) :
    Calls Yba.prog 4 #[.int .u8 k, .string raw] w fun e w' => e = .returned (.string (stF k raw)) ∧ w = w' := by
  have hc : k % 7 = 0 ∨ k % 7 = 1 ∨ k % 7 = 2 ∨ k % 7 = 3 ∨ k % 7 = 4 ∨ k % 7 = 5 ∨ k % 7 = 6 := by omega
  rcases hc with h | h | h | h | h | h | h
  all_goals
    have hs : stF k raw = stF k raw := rfl
    conv at hs => rhs; unfold stF; simp only [h]
    simp at hs
    rw [hs]
    clear hs
    go_enter Yba.func4, Yba.ntmps4
    go_wp2
    go_ret
    exact ⟨rfl, rfl⟩

/-- The cells of an Allocation. -/
abbrev al (s st : ByteArray) (lp : Int) (mt : ByteArray) (md : Int) : List Value := [.string s, .string st, .int .u64 lp, .string mt, .int .u64 md]

/-- The File of the law: 44 cells. -/
abbrev fileV (id : Int) (owner : ByteArray) (v : Value) : Array Value := #[.int .u64 id, .int .i64 0, .int .u8 0, .int .u8 0, .int .u8 0, .int .u8 0, .int .u8 0, .int .u8 0, .int .u8 0, .int .u8 0, .int .u8 0, .int .u8 0, .int .u8 0, .int .u8 0, .int .u8 0, .int .u8 0, .int .u8 0, .int .u8 0, .int .u8 0, .int .u8 0, .int .u8 0, .int .u8 0, .int .u8 0, .int .u8 0, .int .u8 0, .int .u8 0, .int .u8 0, .int .u8 0, .int .u8 0, .int .u8 0, .int .u8 0, .int .u8 0, .int .u8 0, .int .u8 0, .string ⟨#[112, 101, 110, 100, 105, 110, 103]⟩, .string owner, .int .i64 0, .int .i64 0, .int .i64 0, .int .i64 0, .int .u64 0, .int .u64 0, .int .u64 0, v]

/-- Does allocation j lie in the sector, and is it pending? -/
def hit (S T : Nat → ByteArray) (sec : ByteArray) (j : Nat) : Bool := decide ((S j).toList = sec.toList) && ((T j).toList == [112, 101, 110, 100, 105, 110, 103])

theorem any_hit {f : Nat → Bool} {n k : Nat} (hk : k < n) (h : f k = true) : (List.range n).any f = true := List.any_eq_true.2 ⟨k, List.mem_range.2 hk, h⟩
theorem any_none {f : Nat → Bool} {n : Nat} (h : ∀ j, j < n → f j = false) : (List.range n).any f = false := by
  rw [List.any_eq_false]; intro x hx; rw [h x (List.mem_range.1 hx)]; simp
theorem hit_yes {S T : Nat → ByteArray} {sec : ByteArray} {k : Nat} (h1 : (S k).toList = sec.toList) (h2 : ((T k).toList == [112, 101, 110, 100, 105, 110, 103]) = true) : hit S T sec k = true := by simp [hit, h1, h2]
theorem hit_no1 {S T : Nat → ByteArray} {sec : ByteArray} {k : Nat} (h2 : ((T k).toList == [112, 101, 110, 100, 105, 110, 103]) = false) : hit S T sec k = false := by simp [hit, h2]
theorem hit_no2 {S T : Nat → ByteArray} {sec : ByteArray} {k : Nat} (h1 : ¬(S k).toList = sec.toList) : hit S T sec k = false := by simp [hit, h1]
theorem hit_step {f : Nat → Bool} {k : Nat} (h : ∀ j, j < k → f j = false) (hk : f k = false) : ∀ j, j < k + 1 → f j = false := fun j hj => by
  by_cases e : j = k
  · subst e; exact hk
  · exact h j (by omega)
theorem ret_bool {a b : Bool} (h : a = b) : Ending.returned (.bool a) = .returned (.bool b) := by rw [h]

set_option maxHeartbeats 400000 in
theorem hasPending_any (A len : Nat) (S T M : Nat → ByteArray) (P D : Nat → Int) (sec : ByteArray) (w : World) (id : Int) (owner : ByteArray)
    (hA : A < w.heap.size) (hlen : len ≤ 1048576)
    (h0 : ∀ k, k < len → w.cell? ⟨A, k * 5, none⟩ = some (.string (S k)))
    (h1 : ∀ k, k < len → w.cell? ⟨A, k * 5 + 1, none⟩ = some (.string (T k)))
    (h2 : ∀ k, k < len → w.cell? ⟨A, k * 5 + 2, none⟩ = some (.int .u64 (P k)))
    (h3 : ∀ k, k < len → w.cell? ⟨A, k * 5 + 3, none⟩ = some (.string (M k)))
    (h4 : ∀ k, k < len → w.cell? ⟨A, k * 5 + 4, none⟩ = some (.int .u64 (D k))) :
    Calls Yba.prog 5 #[.agg (fileV id owner (.slice (some ⟨A, 0, none⟩) len len)), .string sec] w fun e w' =>
      e = .returned (.bool ((List.range len).any (hit S T sec))) ∧ Below w.heap.size w w' := by
  go_enter Yba.func5, Yba.ntmps5
  go_wp2
  go_loopw [10] (fun i wr => ∃ k : Nat, k ≤ len ∧ i = .int .i64 k ∧ Below w.heap.size w wr ∧ Hid (∀ j, j < k → hit S T sec j = false)) (fun i _ => len - (intOf i).toNat)
  case atStart => exact ⟨0, Nat.zero_le _, rfl, (Below.refl _ _).alloc (Nat.le_refl _) _, fun j hj => absurd hj (by omega)⟩
  case round =>
    obtain ⟨k, hk, rfl, hB, hH⟩ := hrel
    by_cases hlt : k < len
    · have c0 := (hB.cell (p := ⟨A, k * 5, none⟩) hA).trans (h0 k hlt)
      have c1 := (hB.cell (p := ⟨A, k * 5 + 1, none⟩) hA).trans (h1 k hlt)
      have c2 := (hB.cell (p := ⟨A, k * 5 + 2, none⟩) hA).trans (h2 k hlt)
      have c3 := (hB.cell (p := ⟨A, k * 5 + 3, none⟩) hA).trans (h3 k hlt)
      have c4 := (hB.cell (p := ⟨A, k * 5 + 4, none⟩) hA).trans (h4 k hlt)
      clear h0 h1 h2 h3 h4
      have hsz := hB.size
      go_wp2
      · go_ret
        exact ⟨ret_bool (any_hit hlt (hit_yes (by assumption) (by assumption))).symm, hB.alloc hsz _⟩
      · go_roundw
        case rel => exact ⟨k + 1, by omega, by go_num, hB.alloc hsz _, hit_step hH (hit_no1 (by assumption))⟩
        case measure => simp [intOf]; omega
      · go_roundw
        case rel => exact ⟨k + 1, by omega, by go_num, hB.alloc hsz _, hit_step hH (hit_no2 (by assumption))⟩
        case measure => simp [intOf]; omega
    · have hkn : len = k := by omega
      subst hkn
      go_wp2
      go_ret
      exact ⟨ret_bool (any_none hH).symm, hB⟩

end Go.Proofs.Ybulkeixy
