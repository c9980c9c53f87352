/-
  Seat b6602190a: kthMost's words of 64 bits: what the shifts and masks yield.
-/
import Derived.Test.Qxb6602190aProg
import Derived.WalkKit
import Derived.Laws.BitsLemmas
namespace Go.Proofs.Qxb6602190a
set_option linter.unusedSimpArgs false

/-- The mask of the bits from P on. -/
theorem and_high (x P : Nat) (hP : P ≤ 64) (hx : x < 2 ^ 64) : x &&& (2 ^ 64 - 2 ^ P) = x / 2 ^ P * 2 ^ P := by
  apply Nat.eq_of_testBit_eq
  intro i
  have h1 : 2 ^ 64 - 2 ^ P = 2 ^ 64 - ((2 ^ P - 1) + 1) := by
    have : 0 < 2 ^ P := Nat.two_pow_pos P
    omega
  have h2 : 2 ^ P - 1 < 2 ^ 64 := by
    have : 2 ^ P ≤ 2 ^ 64 := Nat.pow_le_pow_right (by decide) hP
    have : 0 < 2 ^ P := Nat.two_pow_pos P
    omega
  rw [Nat.testBit_and, h1, Nat.testBit_two_pow_sub_succ h2, Nat.testBit_two_pow_sub_one, Nat.testBit_mul_two_pow, Nat.testBit_div_two_pow]
  by_cases hi : P ≤ i
  · have e1 : i - P + P = i := by omega
    have e2 : ¬ i < P := by omega
    rw [e1]
    by_cases h64 : i < 64
    · simp [hi, e2, h64]
    · have : x.testBit i = false := Nat.testBit_lt_two_pow (Nat.lt_of_lt_of_le hx (Nat.pow_le_pow_right (by decide) (by omega)))
      simp [this]
  · have e2 : i < P := by omega
    simp [hi, e2]

theorem wraps_u64 (n : Int) (h₀ : 0 ≤ n) (h₁ : n < 2 ^ 64) : IntKind.u64.wrap n = n := by
  simp [IntKind.wrap, IntKind.bits, IntKind.signed]
  omega

theorem and_u64 (a b : Nat) (ha : a < 2 ^ 64) (hb : b < 2 ^ 64) (w : World) : (binOp .and 54 (.int .u64 (a : Int)) (.int .u64 (b : Int))).run Try.prog w = .ok (.int .u64 ((a &&& b : Nat) : Int)) w := by
  have h := (bits_nat .u64 64 (by decide) wraps_u64 a b ha hb).1
  simp only [bits, BitVec.ofInt_natCast] at h
  simp [binOp, Op.intBits, go_sem]
  exact h

theorem or_u64 (a b : Nat) (ha : a < 2 ^ 64) (hb : b < 2 ^ 64) (w : World) : (binOp .or 54 (.int .u64 (a : Int)) (.int .u64 (b : Int))).run Try.prog w = .ok (.int .u64 ((a ||| b : Nat) : Int)) w := by
  have h := (bits_nat .u64 64 (by decide) wraps_u64 a b ha hb).2
  simp only [bits, BitVec.ofInt_natCast] at h
  simp [binOp, Op.intBits, go_sem]
  exact h

theorem shr_u64 (a sg : Nat) (hsg : sg ≤ 64) (w : World) : (binOp .shr 54 (.int .u64 (a : Int)) (.int .i64 (sg : Int))).run Try.prog w = .ok (.int .u64 ((a / 2 ^ sg : Nat) : Int)) w := by
  have h : min sg 64 = sg := by omega
  simp [binOp, Op.shift, go_sem, IntKind.bits, h, Int.fdiv_eq_ediv]

theorem shl_u64 (a sg : Nat) (hsg : sg ≤ 64) (h : a * 2 ^ sg < 2 ^ 64) (w : World) : (binOp .shl 54 (.int .u64 (a : Int)) (.int .i64 (sg : Int))).run Try.prog w = .ok (.int .u64 ((a * 2 ^ sg : Nat) : Int)) w := by
  have h2 : min sg 64 = sg := by omega
  have h3 := wraps_u64 ((a * 2 ^ sg : Nat) : Int) (Int.natCast_nonneg _) (by exact_mod_cast h)
  simp [binOp, Op.shift, go_sem, IntKind.bits, h2]
  simpa using h3

theorem shl_ones (P : Nat) (hP : P = 16 ∨ P = 32 ∨ P = 48 ∨ P = 64) (w : World) : (binOp .shl 54 (.int .u64 18446744073709551615) (.int .i64 (P : Int))).run Try.prog w = .ok (.int .u64 ((2 ^ 64 - 2 ^ P : Nat) : Int)) w := by
  rcases hP with rfl | rfl | rfl | rfl <;> simp [binOp, Op.shift, go_sem, IntKind.bits, IntKind.wrap, IntKind.signed]

theorem low_u64 (a : Nat) (ha : a < 2 ^ 64) (w : World) : (binOp .and 54 (.int .u64 (a : Int)) (.int .u64 65535)).run Try.prog w = .ok (.int .u64 ((a % 65536 : Nat) : Int)) w := by
  have h := and_u64 a 65535 ha (by decide) w
  rw [show (65535 : Nat) = 2 ^ 16 - 1 by decide, Nat.and_two_pow_sub_one_eq_mod] at h
  exact h

theorem or_join (f d V : Nat) (q : Nat) (hV : V = 2 ^ q) (hd : d < 65536) : f * (V * 65536) ||| d * V = (f * 65536 + d) * V := by
  subst hV
  have h1 : d * 2 ^ q < 2 ^ (q + 16) := by
    rw [Nat.pow_add]
    have : 0 < 2 ^ q := Nat.two_pow_pos q
    rw [Nat.mul_comm (2 ^ q)]
    exact Nat.mul_lt_mul_of_pos_right (by simpa using hd) this
  have h2 : f * (2 ^ q * 65536) = 2 ^ (q + 16) * f := by rw [Nat.pow_add]; simp [Nat.mul_comm]
  rw [h2, ← Nat.two_pow_add_eq_or_of_lt h1 f, Nat.add_mul, Nat.pow_add]
  simp [Nat.mul_comm, Nat.mul_left_comm]
end Go.Proofs.Qxb6602190a
