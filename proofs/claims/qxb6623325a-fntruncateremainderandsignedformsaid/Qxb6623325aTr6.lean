import Derived.Test.Qxb6623325aTr5
set_option linter.unusedVariables false
namespace Go.Proofs.Qxb6623325a
open Go.RowKit

theorem wr_in {x : Int} (h0 : 0 ≤ x) (h1 : x < 18446744073709551616) : IntKind.u64.wrap x = x := by rw [wr]; omega
theorem and_zero {x : Int} (hx : 0 ≤ x) (hx2 : x < 18446744073709551616) : bits .and .u64 x 0 = 0 := by
  have h := and_mask (m := 0) (by omega) hx hx2
  have e : ((2 : Int) ^ 0 - 1) = 0 := by decide
  have e2 : x % 2 ^ 0 = 0 := by show x % 1 = 0; omega
  rw [e, e2] at h
  exact h
theorem zero_and : bits .and .u64 0 18446744073709551615 = 0 := by
  have h := and_mask (m := 64) (x := 0) (by omega) (by decide) (by decide)
  have e : ((2 : Int) ^ 64 - 1) = 18446744073709551615 := by decide
  rw [e, Int.zero_emod] at h
  exact h
theorem mod_le {x P : Int} (hx : 0 ≤ x) (hP : 0 < P) : x % P ≤ x := by
  have h1 := Int.mul_ediv_add_emod x P
  have h2 : 0 ≤ P * (x / P) := Int.mul_nonneg (by omega) (Int.ediv_nonneg hx (by omega))
  omega
theorem sub_mod (x P : Int) : (x - x % P) % P = 0 := by
  have := Int.mul_ediv_add_emod x P
  have e : x - x % P = P * (x / P) := by omega
  rw [e]
  exact Int.mul_emod_right _ _
theorem pow_lt {m : Nat} (hm : m ≤ 63) : (2 : Int) ^ m < 18446744073709551616 := by
  have h1 := pow_split (m := m) (by omega)
  have h2 := pow_half (m := 64 - m) (by omega)
  have h3 := pow_pos (64 - m - 1)
  have h4 := pow_pos m
  have : (2 : Int) ^ m * 2 ≤ 2 ^ m * 2 ^ (64 - m) := Int.mul_le_mul_of_nonneg_left (by omega) (by omega)
  omega
theorem pow_lo' {n : Nat} (hn : n < 64) : Pow n 0 (2 ^ n) := pow_eq (pow_lo hn) rfl (wr_in (by have := pow_pos n; omega) (pow_lt (by omega)))
theorem pow_hi' {n m : Nat} (hn : n = 64 + m) (hm : m < 64) : Pow n (2 ^ m) 0 := by
  have h := pow_hi (n := n) (by omega) (by omega)
  rw [show n - 64 = m by omega] at h
  exact pow_eq h (wr_in (by have := pow_pos m; omega) (pow_lt (by omega))) rfl
theorem less_of {ah al bh bl : Int} {b b' : Bool} (h : Less ah al bh bl b) (e : b = b') : Less ah al bh bl b' := by subst e; exact h


theorem law_lo {h l : Int} (h0 : 0 ≤ h) (h1 : h < 18446744073709551616) (l0 : 0 ≤ l) (l1 : l < 18446744073709551616) {wd : Nat} (hw : 1 ≤ wd) (hw' : wd ≤ 63) (w : World) :
    Calls Try.prog 3 #[.int .u64 h, .int .u64 l, .int .u64 (wd : Int)] w fun e w' => e = .returned (.bool true) ∧ Below w.heap.size w w' := by
  obtain ⟨hu, hs⟩ := t_lo h0 h1 l0 l1 hw (by omega)
  have hP := pow_pos wd
  have hPl := pow_lt hw'
  have r0 : 0 ≤ l % 2 ^ wd := Int.emod_nonneg _ (by omega)
  have r1 : l % 2 ^ wd < 2 ^ wd := Int.emod_lt_of_pos _ hP
  have rl : l % 2 ^ wd ≤ l := mod_le l0 hP
  refine law_gen h l wd hw (by omega) _ _ _ _ 0 (2 ^ wd) h (l - l % 2 ^ wd) 0 (2 ^ wd - 1) 0 (2 ^ (wd - 1)) (decide (l % 2 ^ wd < 2 ^ (wd - 1))) hu hs (pow_lo' (by omega)) (pow_lo' (by omega)) (less_of less_eq (by simpa using r1))
    (sub_eq (sub_ge (by omega)) (by rw [Int.sub_zero, wr_in h0 h1, wr_in h0 h1]) (wr_in (by omega) (by omega))) (sub_eq (sub_ge (by omega)) (by decide) (wr_in (by omega) (by omega))) (and_zero h0 h1)
    (by rw [and_mask (by omega) (by omega) (by omega), sub_mod]) less_eq ?_ ?_ w
  · intro hb
    have hb : l % 2 ^ wd < 2 ^ (wd - 1) := of_decide_eq_true hb
    rw [if_pos hb, if_pos hb]
    exact ⟨rfl, rfl⟩
  · intro hb
    have hb : ¬ l % 2 ^ wd < 2 ^ (wd - 1) := of_decide_eq_false hb
    rw [if_neg hb, if_neg hb]
    exact sub_eq (sub_lt r1) (by decide) (by rw [wr]; omega)

theorem law_64 {h l : Int} (h0 : 0 ≤ h) (h1 : h < 18446744073709551616) (l0 : 0 ≤ l) (l1 : l < 18446744073709551616) (w : World) :
    Calls Try.prog 3 #[.int .u64 h, .int .u64 l, .int .u64 ((64 : Nat) : Int)] w fun e w' => e = .returned (.bool true) ∧ Below w.heap.size w w' := by
  obtain ⟨hu, hs⟩ := t_lo h0 h1 l0 l1 (wd := 64) (by omega) (by omega)
  have e64 : (2 : Int) ^ 64 = 18446744073709551616 := by decide
  have e63 : (2 : Int) ^ (64 - 1) = 9223372036854775808 := by decide
  have e1 : l % 18446744073709551616 = l := by omega
  rw [e64, e1] at hu
  rw [e64, e63, e1] at hs
  have p63 : Pow ((64 - 1 : Nat) : Int) 0 9223372036854775808 := pow_eq (pow_lo' (n := 63) (by omega)) rfl (by decide)
  refine law_gen h l 64 (by omega) (by omega) _ _ _ _ 1 0 h 0 0 18446744073709551615 0 9223372036854775808 (decide (l < 9223372036854775808)) hu hs (pow_eq (pow_hi' (n := 64) (m := 0) rfl (by omega)) (by decide) rfl) p63 (less_of (less_ne (by decide)) (by decide))
    (sub_eq (sub_ge (by omega)) (by rw [Int.sub_zero, wr_in h0 h1, wr_in h0 h1]) (by rw [Int.sub_self]; decide)) (sub_eq (sub_lt (by decide)) (by decide) (by decide)) (and_zero h0 h1) zero_and less_eq ?_ ?_ w
  · intro hb
    have hb : l < 9223372036854775808 := of_decide_eq_true hb
    rw [if_pos hb, if_pos hb]
    exact ⟨rfl, rfl⟩
  · intro hb
    have hb : ¬ l < 9223372036854775808 := of_decide_eq_false hb
    rw [if_neg hb, if_neg hb]
    exact sub_eq (sub_ge (by omega)) (by decide) (by rw [wr]; omega)

theorem law_hi {h l : Int} (h0 : 0 ≤ h) (h1 : h < 18446744073709551616) (l0 : 0 ≤ l) (l1 : l < 18446744073709551616) {wd m : Nat} (hm : 1 ≤ m) (hm' : m ≤ 63) (hwd : wd = 64 + m) (w : World) :
    Calls Try.prog 3 #[.int .u64 h, .int .u64 l, .int .u64 (wd : Int)] w fun e w' => e = .returned (.bool true) ∧ Below w.heap.size w w' := by
  obtain ⟨hu, hs⟩ := t_hi h0 h1 l0 l1 hm hm' hwd
  have hP := pow_pos m
  have hPl := pow_lt hm'
  have r0 : 0 ≤ h % 2 ^ m := Int.emod_nonneg _ (by omega)
  have r1 : h % 2 ^ m < 2 ^ m := Int.emod_lt_of_pos _ hP
  have rl : h % 2 ^ m ≤ h := mod_le h0 hP
  have lss : Less (h % 2 ^ m) l (2 ^ (m - 1)) 0 (decide (h % 2 ^ m < 2 ^ (m - 1))) := by
    by_cases e : h % 2 ^ m = 2 ^ (m - 1)
    · rw [e]
      exact less_of less_eq (by simp; omega)
    · exact less_ne e
  refine law_gen h l wd (by omega) (by omega) _ _ _ _ (2 ^ m) 0 (h - h % 2 ^ m) 0 (2 ^ m - 1) 18446744073709551615 (2 ^ (m - 1)) 0 (decide (h % 2 ^ m < 2 ^ (m - 1))) hu hs (pow_hi' hwd (by omega)) (pow_hi' (n := wd - 1) (m := m - 1) (by omega) (by omega)) (less_of (less_ne (by omega)) (by simpa using r1))
    (sub_eq (sub_ge (by omega)) (by rw [wr_in (x := h - h % 2 ^ m) (by omega) (by omega), wr_in (by omega) (by omega)]) (by rw [Int.sub_self]; decide)) (sub_eq (sub_lt (by decide)) (by rw [Int.sub_zero, wr_in (x := 2 ^ m) (by omega) hPl, wr_in (by omega) (by omega)]) (by decide))
    (by rw [and_mask (by omega) (by omega) (by omega), sub_mod]) zero_and lss ?_ ?_ w
  · intro hb
    have hb : h % 2 ^ m < 2 ^ (m - 1) := of_decide_eq_true hb
    rw [if_pos hb]
    exact ⟨rfl, rfl⟩
  · intro hb
    have hb : ¬ h % 2 ^ m < 2 ^ (m - 1) := of_decide_eq_false hb
    rw [if_neg hb]
    exact sub_eq (sub_ge (by omega)) (by rw [wr, wr]; omega) (by rw [Int.sub_zero, wr_in l0 l1])

theorem law_any {h l : Int} (h0 : 0 ≤ h) (h1 : h < 18446744073709551616) (l0 : 0 ≤ l) (l1 : l < 18446744073709551616) {wd : Int} (hw : 0 ≤ wd) (w : World) :
    Calls Try.prog 3 #[.int .u64 h, .int .u64 l, .int .u64 wd] w fun e w' => e = .returned (.bool true) ∧ Below w.heap.size w w' := by
  by_cases hb : 128 ≤ wd
  · exact law_big h l wd hb w
  · obtain ⟨n, rfl⟩ := Int.eq_ofNat_of_zero_le hw
    by_cases e0 : n = 0
    · subst e0
      exact law_zero h l h0 h1 l0 l1 w
    · by_cases e1 : n ≤ 63
      · exact law_lo h0 h1 l0 l1 (by omega) e1 w
      · by_cases e2 : n = 64
        · subst e2
          exact law_64 h0 h1 l0 l1 w
        · exact law_hi h0 h1 l0 l1 (m := n - 64) (by omega) (by omega) (by omega) w
end Go.Proofs.Qxb6623325a
