import Derived.WalkKit
import Derived.Laws.Bits64b
import Derived.Laws.BitsLemmas
set_option linter.unusedVariables false
namespace Go.Proofs.Qxb6623325a
open Go.RowKit

/-! ### the plain law, over two powers P, N of two with P * N = 2^64 -/
theorem wr (x : Int) : IntKind.u64.wrap x = x % 18446744073709551616 := by
  rw [IntKind.wrap_u64]

theorem pow_split {m : Nat} (hm : m ≤ 64) : (2 : Int) ^ m * 2 ^ (64 - m) = 18446744073709551616 := by
  rw [← Int.pow_add, show m + (64 - m) = 64 by omega]
  rfl
theorem pow_pos (m : Nat) : (0 : Int) < 2 ^ m := Int.pow_pos (by decide)
theorem pow_half {m : Nat} (hm : 1 ≤ m) : (2 : Int) ^ m = 2 * 2 ^ (m - 1) := by
  obtain ⟨k, rfl⟩ : ∃ k, m = k + 1 := ⟨m - 1, by omega⟩
  rw [Nat.add_sub_cancel, Int.pow_succ, Int.mul_comm]

/-- The lowest bits of l, moved up. -/
theorem up_mod {l P N : Int} (hPN : P * N = 18446744073709551616) (hN : 0 < N) : (l * N) % 18446744073709551616 = (l % P) * N := by
  rw [← hPN, Int.mul_comm l N, Int.mul_comm P N, Int.mul_emod_mul_of_pos _ _ hN, Int.mul_comm]

theorem or_up {r y : Int} {n : Nat} (hr : 0 ≤ r) (hy : 0 ≤ y) (hyn : y < 2 ^ n) (hx : r * 2 ^ n < 18446744073709551616) (hy2 : y < 18446744073709551616) : bits .or .u64 (r * 2 ^ n) y = r * 2 ^ n + y := by
  obtain ⟨a, rfl⟩ := Int.eq_ofNat_of_zero_le hr
  obtain ⟨b, rfl⟩ := Int.eq_ofNat_of_zero_le hy
  have e : ((a : Int) * 2 ^ n) = ((a * 2 ^ n : Nat) : Int) := by simp
  rw [e] at hx ⊢
  have hb : b < 2 ^ n := by
    have : ((b : Nat) : Int) < ((2 ^ n : Nat) : Int) := by simpa using hyn
    omega
  rw [bits_or_u64_nat _ _ (by omega) (by omega)]
  have := Nat.shiftLeft_add_eq_or_of_lt hb a
  rw [Nat.shiftLeft_eq] at this
  rw [← this]
  simp
theorem or_up' {r y : Int} {n : Nat} (hr : 0 ≤ r) (hy : 0 ≤ y) (hyn : y < 2 ^ n) (hx : r * 2 ^ n < 18446744073709551616) (hy2 : y < 18446744073709551616) : bits .or .u64 y (r * 2 ^ n) = r * 2 ^ n + y := by
  rw [← or_up hr hy hyn hx hy2]
  simp only [bits, BitVec.or_comm]
theorem and_mask {x : Int} {m : Nat} (hm : m ≤ 64) (hx : 0 ≤ x) (hx2 : x < 18446744073709551616) : bits .and .u64 x (2 ^ m - 1) = x % 2 ^ m := by
  obtain ⟨a, rfl⟩ := Int.eq_ofNat_of_zero_le hx
  have hp : 0 < 2 ^ m := Nat.pow_pos (by decide)
  have h64 : 2 ^ m ≤ 2 ^ 64 := Nat.pow_le_pow_right (by decide) hm
  have e : ((2 : Int) ^ m - 1) = ((2 ^ m - 1 : Nat) : Int) := by
    rw [Int.ofNat_sub (by omega)]
    simp
  have h64' : (2 : Nat) ^ 64 = 18446744073709551616 := by decide
  rw [e, bits_and_u64_nat _ _ (by omega) (by omega), Nat.and_two_pow_sub_one_eq_mod]
  simp

/-- A number below P, moved up by N, read as signed, moved down again. -/
theorem down_signed {r t P Q N : Int} (hPQ : P = 2 * Q) (hPN : P * N = 18446744073709551616) (hN : 0 < N) (hr : 0 ≤ r) (hrP : r < P) (ht : 0 ≤ t) (htN : t < N) :
    wrap64 (r * N + t) / N = if r < Q then r else r - P := by
  have hQN : Q * N = 9223372036854775808 := by
    rw [hPQ, Int.mul_assoc] at hPN
    omega
  have h1 : r * N + t < 18446744073709551616 := by
    have : (r + 1) * N ≤ P * N := Int.mul_le_mul_of_nonneg_right (by omega) (by omega)
    rw [Int.add_mul, Int.one_mul] at this
    omega
  have h0 : 0 ≤ r * N := Int.mul_nonneg hr (by omega)
  unfold wrap64
  by_cases h : r < Q
  · rw [if_pos h]
    have : (r + 1) * N ≤ Q * N := Int.mul_le_mul_of_nonneg_right (by omega) (by omega)
    rw [Int.add_mul, Int.one_mul] at this
    have e : (r * N + t + 9223372036854775808) % 18446744073709551616 - 9223372036854775808 = t + r * N := by omega
    rw [e, Int.add_mul_ediv_right _ _ (by omega), Int.ediv_eq_zero_of_lt ht htN, Int.zero_add]
  · rw [if_neg h]
    have : Q * N ≤ r * N := Int.mul_le_mul_of_nonneg_right (by omega) (by omega)
    have e : (r * N + t + 9223372036854775808) % 18446744073709551616 - 9223372036854775808 = t + (r - P) * N := by
      rw [Int.sub_mul, hPN]
      omega
    rw [e, Int.add_mul_ediv_right _ _ (by omega), Int.ediv_eq_zero_of_lt ht htN, Int.zero_add]
theorem sign_of {r P Q N : Int} (hPQ : P = 2 * Q) (hPN : P * N = 18446744073709551616) (hN : 0 < N) (hr : 0 ≤ r) (hrP : r < P) :
    wrap64 (r * N) / 9223372036854775808 = if r < Q then 0 else -1 := by
  have hQN : Q * N = 9223372036854775808 := by
    rw [hPQ, Int.mul_assoc] at hPN
    omega
  have h1 : r * N < 18446744073709551616 := by
    have : (r + 1) * N ≤ P * N := Int.mul_le_mul_of_nonneg_right (by omega) (by omega)
    rw [Int.add_mul, Int.one_mul] at this
    omega
  have h0 : 0 ≤ r * N := Int.mul_nonneg hr (by omega)
  unfold wrap64
  by_cases h : r < Q
  · rw [if_pos h]
    have : (r + 1) * N ≤ Q * N := Int.mul_le_mul_of_nonneg_right (by omega) (by omega)
    rw [Int.add_mul, Int.one_mul] at this
    omega
  · rw [if_neg h]
    have : Q * N ≤ r * N := Int.mul_le_mul_of_nonneg_right (by omega) (by omega)
    omega
end Go.Proofs.Qxb6623325a
