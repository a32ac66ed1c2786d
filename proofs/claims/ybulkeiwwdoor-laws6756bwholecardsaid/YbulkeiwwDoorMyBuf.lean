/-
  The text, the odd keys and the places that the law lays: in plain words. No Go in sight.
-/
import Derived.Test.YbulkeiwwDoorMyMeas
namespace Go.Proofs.YbulkeiwwDoor
set_option linter.unusedVariables false

/-- The text ahead of key i: every second key in quotes, with a comma. -/
def bufAt (K : Nat → List UInt8) : Nat → List UInt8
  | 0 => []
  | i + 1 => bufAt K i ++ if i % 2 = 0 then 34 :: (K i ++ [34, 44]) else []
/-- The other keys. -/
def oddAt (K : Nat → List UInt8) : Nat → List (List UInt8)
  | 0 => []
  | i + 1 => oddAt K i ++ if i % 2 = 0 then [] else [K i]
/-- Where key i ends, or which of the others it is. -/
def endAt (K : Nat → List UInt8) (i : Nat) : Int := if i % 2 = 0 then ((bufAt K i).length : Int) + 1 + ((K i).length : Int) else -((i / 2 : Nat) : Int) - 1

theorem buf_even {K : Nat → List UInt8} {i : Nat} (h : i % 2 = 0) : bufAt K (i + 1) = bufAt K i ++ 34 :: (K i ++ [34, 44]) := by simp [bufAt, h]
theorem buf_odd {K : Nat → List UInt8} {i : Nat} (h : ¬ i % 2 = 0) : bufAt K (i + 1) = bufAt K i := by simp [bufAt, h]
theorem odd_even {K : Nat → List UInt8} {i : Nat} (h : i % 2 = 0) : oddAt K (i + 1) = oddAt K i := by simp [oddAt, h]
theorem odd_odd {K : Nat → List UInt8} {i : Nat} (h : ¬ i % 2 = 0) : oddAt K (i + 1) = oddAt K i ++ [K i] := by simp [oddAt, h]

theorem odd_len (K : Nat → List UInt8) : ∀ i, (oddAt K i).length = i / 2
  | 0 => rfl
  | i + 1 => by
    have ih := odd_len K i
    by_cases h : i % 2 = 0
    · rw [odd_even h, ih]; omega
    · rw [odd_odd h, List.length_append, ih, List.length_singleton]; omega

theorem buf_pre (K : Nat → List UInt8) : ∀ {i n : Nat}, i ≤ n → ∃ r, bufAt K n = bufAt K i ++ r
  | i, 0, h => ⟨[], by rw [Nat.le_zero.1 h]; simp⟩
  | i, n + 1, h => by
    by_cases e : i = n + 1
    · exact ⟨[], by rw [e]; simp⟩
    · obtain ⟨r, hr⟩ := buf_pre K (show i ≤ n by omega)
      exact ⟨r ++ if n % 2 = 0 then 34 :: (K n ++ [34, 44]) else [], by rw [bufAt, hr, List.append_assoc]⟩
theorem odd_pre (K : Nat → List UInt8) : ∀ {i n : Nat}, i ≤ n → ∃ r, oddAt K n = oddAt K i ++ r
  | i, 0, h => ⟨[], by rw [Nat.le_zero.1 h]; simp⟩
  | i, n + 1, h => by
    by_cases e : i = n + 1
    · exact ⟨[], by rw [e]; simp⟩
    · obtain ⟨r, hr⟩ := odd_pre K (show i ≤ n by omega)
      exact ⟨r ++ if n % 2 = 0 then [] else [K n], by rw [oddAt, hr, List.append_assoc]⟩

/-- A key in the text stands where its place says. -/
theorem buf_key {K : Nat → List UInt8} {v n : Nat} (hv : v < n) (h : v % 2 = 0) :
    ((bufAt K n).take ((bufAt K v).length + 1 + (K v).length)).drop ((bufAt K v).length + 1) = K v ∧ (bufAt K v).length + 1 + (K v).length ≤ (bufAt K n).length := by
  obtain ⟨r, hr⟩ := buf_pre K (show v + 1 ≤ n by omega)
  have e : bufAt K n = (bufAt K v ++ [34]) ++ (K v ++ ([34, 44] ++ r)) := by rw [hr, buf_even h]; simp
  rw [e]
  constructor
  · rw [List.drop_take, List.drop_left' (by simp), show (bufAt K v).length + 1 + (K v).length - ((bufAt K v).length + 1) = (K v).length by omega, List.take_left']
    rfl
  · simp; omega
/-- Another key is the one that its place says. -/
theorem odd_key {K : Nat → List UInt8} {v n : Nat} (hv : v < n) (h : ¬ v % 2 = 0) : (oddAt K n)[v / 2]? = some (K v) := by
  obtain ⟨r, hr⟩ := odd_pre K (show v + 1 ≤ n by omega)
  rw [hr, odd_odd h, List.append_assoc, List.getElem?_append_right (by rw [odd_len]; exact Nat.le_refl _), odd_len]
  simp
end Go.Proofs.YbulkeiwwDoor
