/-
  The law's matrix 'reach', row by row in one array.
-/
import Derived.Test.YbulkeiwwDoorMyBlocks
import Derived.Test.YbulkeiwwDoorMyGraph
namespace Go.Proofs.YbulkeiwwDoor
open Gr
set_option linter.unusedVariables false

def matF (n : Nat) (R : Nat → Nat → Bool) : Nat → Bool := fun p => R (p / n) (p % n)

theorem mat_lt {n i j : Nat} (hi : i < n) (hj : j < n) : i * n + j < n * n := by
  have h : i * n + n ≤ n * n := by
    have := Nat.mul_le_mul_right n (show i + 1 ≤ n by omega)
    rw [Nat.succ_mul] at this
    exact this
  omega
theorem mat_div {n i j : Nat} (hj : j < n) : (i * n + j) / n = i := by
  rw [Nat.mul_comm, Nat.mul_add_div (by omega), Nat.div_eq_of_lt hj, Nat.add_zero]
theorem mat_mod {n i j : Nat} (hj : j < n) : (i * n + j) % n = j := by
  rw [Nat.mul_comm, Nat.mul_add_mod, Nat.mod_eq_of_lt hj]
theorem mat_get {n i j : Nat} (R : Nat → Nat → Bool) (hi : i < n) (hj : j < n) : (arrB (n * n) (matF n R))[i * n + j]? = some (.bool (R i j)) := by
  rw [arrB_get (mat_lt hi hj)]
  unfold matF
  rw [mat_div hj, mat_mod hj]
theorem mat_set {n i j : Nat} (R : Nat → Nat → Bool) (hi : i < n) (hj : j < n) (b : Bool) : (arrB (n * n) (matF n R)).setIfInBounds (i * n + j) (.bool b) = arrB (n * n) (matF n (upd R i j b)) := by
  rw [arrB_set]
  congr 1
  funext p
  by_cases e : p = i * n + j
  · subst e
    rw [fup_same]
    unfold matF upd
    rw [mat_div hj, mat_mod hj, if_pos ⟨rfl, rfl⟩]
  · rw [fup_other _ _ e]
    unfold matF upd
    rw [if_neg]
    rintro ⟨h1, h2⟩
    apply e
    have := Nat.div_add_mod p n
    rw [h1, h2, Nat.mul_comm] at this
    exact this.symm
end Go.Proofs.YbulkeiwwDoor
