/-
  bytesBeforeEscape, in plain words: the eight bytes' word, the marks, the first byte that is escaped. No Go in sight.
-/
import Derived.Lib.Endian
import Derived.Lib.TrailingZeros
namespace Go.Proofs.YbulkeiwwDoor
open Go.Lib
set_option linter.unusedVariables false

def plain (b : UInt8) : Bool := !(b == 34 || b == 92 || b < 32)
def nplain (l : List UInt8) : Nat := (l.takeWhile plain).length

/-- Each of the k bytes is c. -/
def oc (c : Nat) : Nat → Nat
  | 0 => 0
  | k + 1 => c + 256 * oc c k

theorem oc_lt {c : Nat} (hc : c < 256) : ∀ k, oc c k < 256 ^ k
  | 0 => by simp [oc]
  | k + 1 => by have := oc_lt hc k; simp only [oc, Nat.pow_succ]; omega

def sub256 (k x c : Nat) : Nat := (x + 256 ^ k - oc c k) % 256 ^ k
def sp (k x : Nat) : Nat := (sub256 k x 32 ||| sub256 k (x ^^^ oc 34 k) 1 ||| sub256 k (x ^^^ oc 92 k) 1) &&& (256 ^ k - 1 - x) &&& oc 128 k

theorem testBit_app {a : Nat} (ha : a < 256) (y j : Nat) : (a + 256 * y).testBit j = if j < 8 then a.testBit j else y.testBit (j - 8) := by
  rw [Nat.add_comm]
  exact Nat.testBit_two_pow_mul_add y (i := 8) ha j

theorem and_app {a c : Nat} (ha : a < 256) (hc : c < 256) (y z : Nat) : (a + 256 * y) &&& (c + 256 * z) = (a &&& c) + 256 * (y &&& z) := by
  have h : a &&& c < 256 := Nat.and_lt_two_pow (n := 8) _ hc
  apply Nat.eq_of_testBit_eq
  intro j
  rw [Nat.testBit_and, testBit_app ha, testBit_app hc, testBit_app h]
  split <;> simp [Nat.testBit_and]
theorem or_app {a c : Nat} (ha : a < 256) (hc : c < 256) (y z : Nat) : (a + 256 * y) ||| (c + 256 * z) = (a ||| c) + 256 * (y ||| z) := by
  have h : a ||| c < 256 := Nat.or_lt_two_pow (n := 8) ha hc
  apply Nat.eq_of_testBit_eq
  intro j
  rw [Nat.testBit_or, testBit_app ha, testBit_app hc, testBit_app h]
  split <;> simp [Nat.testBit_or]
theorem xor_app {a c : Nat} (ha : a < 256) (hc : c < 256) (y z : Nat) : (a + 256 * y) ^^^ (c + 256 * z) = (a ^^^ c) + 256 * (y ^^^ z) := by
  have h : a ^^^ c < 256 := Nat.xor_lt_two_pow (n := 8) ha hc
  apply Nat.eq_of_testBit_eq
  intro j
  rw [Nat.testBit_xor, testBit_app ha, testBit_app hc, testBit_app h]
  split <;> simp [Nat.testBit_xor]

/-- One byte off the subtraction. -/
theorem sub_app {b c : Nat} (hb : b < 256) (hc : c < 256) {k y : Nat} (hy : y < 256 ^ k) : ∃ z, sub256 (k + 1) (b + 256 * y) c = (b + 256 - c) % 256 + 256 * z ∧ (c ≤ b → z = sub256 k y c) := by
  have ho := oc_lt hc k
  have hM : 0 < 256 ^ k := Nat.pos_of_ne_zero (by simp)
  unfold sub256
  simp only [oc, Nat.pow_succ]
  generalize oc c k = o at *
  generalize 256 ^ k = M at *
  by_cases h : c ≤ b
  · refine ⟨(y + M - o) % M, ?_, fun _ => rfl⟩
    have e1 : b + 256 * y + M * 256 - (c + 256 * o) = (b - c) + 256 * (y + M - o) := by omega
    rw [e1, Nat.mul_comm M 256, Nat.add_comm, Nat.mod_mul]
    have : (256 * (y + M - o) + (b - c)) % 256 = b - c := by omega
    have h2 : (256 * (y + M - o) + (b - c)) / 256 = y + M - o := by omega
    rw [this, h2]
    omega
  · refine ⟨(y + M - o - 1) % M, ?_, fun h' => absurd h' h⟩
    have e1 : b + 256 * y + M * 256 - (c + 256 * o) = (b + 256 - c) + 256 * (y + M - o - 1) := by omega
    rw [e1, Nat.mul_comm M 256, Nat.add_comm, Nat.mod_mul]
    have : (256 * (y + M - o - 1) + (b + 256 - c)) % 256 = b + 256 - c := by omega
    have h2 : (256 * (y + M - o - 1) + (b + 256 - c)) / 256 = y + M - o - 1 := by omega
    rw [this, h2]
    omega

def lowByte (b : Nat) : Nat := ((b + 256 - 32) % 256 ||| ((b ^^^ 34) + 256 - 1) % 256 ||| ((b ^^^ 92) + 256 - 1) % 256) &&& (255 - b) &&& 128

theorem lowByte_at : ∀ b, b < 256 → lowByte b = if (b == 34 || b == 92 || decide (b < 32)) then 128 else 0 := by decide +kernel
theorem plain_xor : ∀ b, b < 256 → (b == 34 || b == 92 || decide (b < 32)) = false → 32 ≤ b ∧ 1 ≤ b ^^^ 34 ∧ 1 ≤ b ^^^ 92 := by decide +kernel

theorem sp_app {b : Nat} (hb : b < 256) {k y : Nat} (hy : y < 256 ^ k) : ∃ z, sp (k + 1) (b + 256 * y) = lowByte b + 256 * z ∧ ((b == 34 || b == 92 || decide (b < 32)) = false → z = sp k y) := by
  have hx34 : b ^^^ 34 < 256 := Nat.xor_lt_two_pow (n := 8) hb (by omega)
  have hx92 : b ^^^ 92 < 256 := Nat.xor_lt_two_pow (n := 8) hb (by omega)
  have hy34 : y ^^^ oc 34 k < 256 ^ k := by
    have : (256 : Nat) ^ k = 2 ^ (8 * k) := by rw [show (256 : Nat) = 2 ^ 8 from rfl, ← Nat.pow_mul]
    rw [this] at hy ⊢
    exact Nat.xor_lt_two_pow hy (this ▸ oc_lt (by omega) k)
  have hy92 : y ^^^ oc 92 k < 256 ^ k := by
    have : (256 : Nat) ^ k = 2 ^ (8 * k) := by rw [show (256 : Nat) = 2 ^ 8 from rfl, ← Nat.pow_mul]
    rw [this] at hy ⊢
    exact Nat.xor_lt_two_pow hy (this ▸ oc_lt (by omega) k)
  obtain ⟨z1, e1, p1⟩ := sub_app hb (c := 32) (by omega) hy
  obtain ⟨z2, e2, p2⟩ := sub_app hx34 (c := 1) (by omega) hy34
  obtain ⟨z3, e3, p3⟩ := sub_app hx92 (c := 1) (by omega) hy92
  have e4 : 256 ^ (k + 1) - 1 - (b + 256 * y) = (255 - b) + 256 * (256 ^ k - 1 - y) := by rw [Nat.pow_succ]; omega
  have m1 : (b + 256 - 32) % 256 < 256 := Nat.mod_lt _ (by omega)
  have m2 : ((b ^^^ 34) + 256 - 1) % 256 < 256 := Nat.mod_lt _ (by omega)
  have m3 : ((b ^^^ 92) + 256 - 1) % 256 < 256 := Nat.mod_lt _ (by omega)
  have m4 : (b + 256 - 32) % 256 ||| ((b ^^^ 34) + 256 - 1) % 256 < 256 := Nat.or_lt_two_pow (n := 8) m1 m2
  have m5 : (b + 256 - 32) % 256 ||| ((b ^^^ 34) + 256 - 1) % 256 ||| ((b ^^^ 92) + 256 - 1) % 256 < 256 := Nat.or_lt_two_pow (n := 8) m4 m3
  have m6 : ((b + 256 - 32) % 256 ||| ((b ^^^ 34) + 256 - 1) % 256 ||| ((b ^^^ 92) + 256 - 1) % 256) &&& (255 - b) < 256 := Nat.and_lt_two_pow (n := 8) _ (by omega)
  refine ⟨(z1 ||| z2 ||| z3) &&& (256 ^ k - 1 - y) &&& oc 128 k, ?_, fun hp => ?_⟩
  · unfold sp
    simp only [oc]
    rw [xor_app hb (by omega), xor_app hb (by omega), e1, e2, e3, e4, or_app m1 m2, or_app m4 m3, and_app m5 (by omega), and_app m6 (by omega)]
    rfl
  · obtain ⟨q1, q2, q3⟩ := plain_xor b hb hp
    rw [p1 q1, p2 q2, p3 q3]
    rfl

theorem sp_lt {k x : Nat} : sp k x < 256 ^ k := by
  have h := oc_lt (c := 128) (by omega) k
  have e : (256 : Nat) ^ k = 2 ^ (8 * k) := by rw [show (256 : Nat) = 2 ^ 8 from rfl, ← Nat.pow_mul]
  unfold sp
  rw [e] at h ⊢
  exact Nat.and_lt_two_pow _ h

theorem ctzFrom_even (f v : Nat) : ctzFrom (f + 8) (256 * v) = 8 + ctzFrom f v := by
  have step : ∀ n f v, ctzFrom (f + n) (2 ^ n * v) = n + ctzFrom f v := by
    intro n
    induction n with
    | zero => intro f v; simp
    | succ n ih =>
      intro f v
      rw [show f + (n + 1) = (f + n) + 1 by omega, ctzFrom]
      rw [if_neg (by rw [Nat.pow_succ, show 2 ^ n * 2 * v = 2 * (2 ^ n * v) by rw [Nat.mul_comm (2 ^ n) 2, Nat.mul_assoc]]; omega)]
      rw [show 2 ^ (n + 1) * v / 2 = 2 ^ n * v by rw [Nat.pow_succ, show 2 ^ n * 2 * v = 2 * (2 ^ n * v) by rw [Nat.mul_comm (2 ^ n) 2, Nat.mul_assoc]]; omega, ih]
      omega
  exact step 8 f v
theorem ctzFrom_seven (f z : Nat) : ctzFrom (f + 8) (128 + 256 * z) = 7 := by
  have e0 : ctzFrom (f + 8) (128 + 256 * z) = 1 + ctzFrom (f + 7) (64 + 128 * z) := by
    rw [show f + 8 = (f + 7) + 1 from rfl, ctzFrom, if_neg (by omega), show (128 + 256 * z) / 2 = 64 + 128 * z by omega]
  have e1 : ctzFrom (f + 7) (64 + 128 * z) = 1 + ctzFrom (f + 6) (32 + 64 * z) := by
    rw [show f + 7 = (f + 6) + 1 from rfl, ctzFrom, if_neg (by omega), show (64 + 128 * z) / 2 = 32 + 64 * z by omega]
  have e2 : ctzFrom (f + 6) (32 + 64 * z) = 1 + ctzFrom (f + 5) (16 + 32 * z) := by
    rw [show f + 6 = (f + 5) + 1 from rfl, ctzFrom, if_neg (by omega), show (32 + 64 * z) / 2 = 16 + 32 * z by omega]
  have e3 : ctzFrom (f + 5) (16 + 32 * z) = 1 + ctzFrom (f + 4) (8 + 16 * z) := by
    rw [show f + 5 = (f + 4) + 1 from rfl, ctzFrom, if_neg (by omega), show (16 + 32 * z) / 2 = 8 + 16 * z by omega]
  have e4 : ctzFrom (f + 4) (8 + 16 * z) = 1 + ctzFrom (f + 3) (4 + 8 * z) := by
    rw [show f + 4 = (f + 3) + 1 from rfl, ctzFrom, if_neg (by omega), show (8 + 16 * z) / 2 = 4 + 8 * z by omega]
  have e5 : ctzFrom (f + 3) (4 + 8 * z) = 1 + ctzFrom (f + 2) (2 + 4 * z) := by
    rw [show f + 3 = (f + 2) + 1 from rfl, ctzFrom, if_neg (by omega), show (4 + 8 * z) / 2 = 2 + 4 * z by omega]
  have e6 : ctzFrom (f + 2) (2 + 4 * z) = 1 + ctzFrom (f + 1) (1 + 2 * z) := by
    rw [show f + 2 = (f + 1) + 1 from rfl, ctzFrom, if_neg (by omega), show (2 + 4 * z) / 2 = 1 + 2 * z by omega]
  have e7 : ctzFrom (f + 1) (1 + 2 * z) = 0 := by rw [ctzFrom, if_pos (by omega)]
  omega

theorem leNat_lt : ∀ (l : List UInt8), leNat l < 256 ^ l.length
  | [] => by simp [leNat]
  | b :: l => by
    have := leNat_lt l
    have hb := b.toNat_lt
    simp only [leNat, List.length_cons, Nat.pow_succ]
    omega

theorem plain_nat (b : UInt8) : (b.toNat == 34 || b.toNat == 92 || decide (b.toNat < 32)) = !plain b := by
  have h1 : (b == 34) = (b.toNat == 34) := by
    rw [Bool.eq_iff_iff, beq_iff_eq, beq_iff_eq, ← UInt8.toNat_inj]; rfl
  have h2 : (b == 92) = (b.toNat == 92) := by
    rw [Bool.eq_iff_iff, beq_iff_eq, beq_iff_eq, ← UInt8.toNat_inj]; rfl
  have h3 : decide (b < 32) = decide (b.toNat < 32) := by
    rw [decide_eq_decide, UInt8.lt_iff_toNat_lt]; rfl
  unfold plain
  rw [h1, h2, h3, Bool.not_not]

/-- The marks' trailing zeros, by eights: the bytes ahead of the first that is escaped. -/
theorem ctz_sp : ∀ (l : List UInt8), ctz (8 * l.length) (sp l.length (leNat l)) / 8 = nplain l
  | [] => by simp [ctz, sp, nplain, sub256, oc]
  | b :: l => by
    have ih := ctz_sp l
    have hb := b.toNat_lt
    obtain ⟨z, e, hz⟩ := sp_app (b := b.toNat) hb (leNat_lt l)
    have hl := lowByte_at b.toNat hb
    rw [plain_nat] at hl hz
    show ctz (8 * (l.length + 1)) (sp (l.length + 1) (b.toNat + 256 * leNat l)) / 8 = _
    rw [e]
    cases hp : plain b with
    | true =>
      rw [hp] at hl hz
      have hz := hz rfl
      rw [hl, hz]
      simp only [Bool.not_true, Bool.false_eq_true, if_false, Nat.zero_add]
      have e2 : nplain (b :: l) = nplain l + 1 := by simp [nplain, hp]
      rw [e2, ← ih]
      unfold ctz
      by_cases h0 : sp l.length (leNat l) = 0
      · rw [if_pos (by omega), if_pos h0]; omega
      · rw [if_neg (by omega), if_neg h0, show 8 * (l.length + 1) = 8 * l.length + 8 by omega, ctzFrom_even]; omega
    | false =>
      rw [hp] at hl
      rw [hl]
      simp only [Bool.not_false, if_true]
      have e2 : nplain (b :: l) = 0 := by simp [nplain, hp]
      rw [e2]
      unfold ctz
      rw [if_neg (by omega), show 8 * (l.length + 1) = 8 * l.length + 8 by omega, ctzFrom_seven]

end Go.Proofs.YbulkeiwwDoor
