import Derived.Test.Qxb6623325aTr3
set_option linter.unusedVariables false
namespace Go.Proofs.Qxb6623325a
open Go.RowKit

theorem gives_eq {f : FuncId} {h l x y x' y' : Int} {n : Nat} (g : Gives f h l n x y) (hx : x = x') (hy : y = y') : Gives f h l n x' y' := by
  subst hx; subst hy; exact g

/-- What ZZTruncate hands back. -/
def Trunc (h l wd : Int) (b : Bool) (y1 y2 : Int) : Prop := ∀ w, Calls Try.prog 4 #[.int .u64 h, .int .u64 l, .int .u64 wd, .bool b] w fun e w' => e = .returned (.tuple #[.int .u64 y1, .int .u64 y2]) ∧ Below w.heap.size w w'

theorem t_big {h l wd : Int} (hw : 128 ≤ wd) (b : Bool) : Trunc h l wd b h l := fun w => zz_of h l wd h l b w (fun w => trunc_big h l wd b hw w)

theorem up_bounds {P N r : Int} (hPN : P * N = 18446744073709551616) (hN : 0 < N) (hr : 0 ≤ r) (hrP : r < P) : 0 ≤ r * N ∧ r * N < 18446744073709551616 := by
  have h2 : 0 ≤ r * N := Int.mul_nonneg hr (by omega)
  have : (r + 1) * N ≤ P * N := Int.mul_le_mul_of_nonneg_right (by omega) (by omega)
  rw [Int.add_mul, Int.one_mul] at this
  omega


/-- Up to 64 bits. -/
theorem t_lo {h l : Int} (h0 : 0 ≤ h) (h1 : h < 18446744073709551616) (l0 : 0 ≤ l) (l1 : l < 18446744073709551616) {wd : Nat} (hw : 1 ≤ wd) (hw' : wd ≤ 64) :
    Trunc h l wd false 0 (l % 2 ^ wd) ∧ Trunc h l wd true (if l % 2 ^ wd < 2 ^ (wd - 1) then 0 else 18446744073709551615) (if l % 2 ^ wd < 2 ^ (wd - 1) then l % 2 ^ wd else 18446744073709551616 + l % 2 ^ wd - 2 ^ wd) := by
  have hPN := pow_split hw'
  have hP := pow_pos wd
  have hN := pow_pos (64 - wd)
  have hPQ := pow_half hw
  have hPle : (2 : Int) ^ wd ≤ 18446744073709551616 := by
    have : (2 : Int) ^ wd * 1 ≤ 2 ^ wd * 2 ^ (64 - wd) := Int.mul_le_mul_of_nonneg_left (by omega) (by omega)
    omega
  have r0 : 0 ≤ l % 2 ^ wd := Int.emod_nonneg _ (by omega)
  have r1 : l % 2 ^ wd < 2 ^ wd := Int.emod_lt_of_pos _ hP
  have hb := up_bounds hPN hN r0 r1
  have e : 128 - wd - 64 = 64 - wd := by omega
  have g1 : Gives 9 h l (128 - wd) (l % 2 ^ wd * 2 ^ (64 - wd)) 0 := gives_eq (fun w => shl_hi h l (128 - wd) (by omega) (by omega) h0 h1 l0 l1 w) (by rw [wr, e, up_mod hPN hN]) rfl
  have g2 : Gives 11 (l % 2 ^ wd * 2 ^ (64 - wd)) 0 (128 - wd) 0 (l % 2 ^ wd) := gives_eq (fun w => shr_hi _ 0 (128 - wd) (by omega) (by omega) hb.1 hb.2 (by decide) (by decide) w) rfl (by rw [e, Int.mul_ediv_cancel _ (by omega)])
  have d := down_signed (t := 0) hPQ hPN hN r0 r1 (Int.le_refl _) hN
  have sg := sign_of hPQ hPN hN r0 r1
  rw [Int.add_zero] at d
  have g3 : Gives 10 (l % 2 ^ wd * 2 ^ (64 - wd)) 0 (128 - wd) (if l % 2 ^ wd < 2 ^ (wd - 1) then 0 else 18446744073709551615) (if l % 2 ^ wd < 2 ^ (wd - 1) then l % 2 ^ wd else 18446744073709551616 + l % 2 ^ wd - 2 ^ wd) :=
    gives_eq (fun w => sar_hi _ 0 (128 - wd) (by omega) (by omega) hb.1 hb.2 (by decide) (by decide) w) (by rw [wr, sg]; split <;> rfl) (by
      rw [wr, e, d]
      split
      · omega
      · omega)
  exact ⟨fun w => zz_of h l wd _ _ false w (fun w => trunc_u h l wd (128 - wd) (by omega) (by omega) _ _ _ _ g1 g2 w), fun w => zz_of h l wd _ _ true w (fun w => trunc_s h l wd (128 - wd) (by omega) (by omega) _ _ _ _ g1 g3 w)⟩

/-- 0 bits. -/
theorem t_zero {h l : Int} (h0 : 0 ≤ h) (h1 : h < 18446744073709551616) (l0 : 0 ≤ l) (l1 : l < 18446744073709551616) (b : Bool) : Trunc h l 0 b 0 0 := by
  have e64 : (2 : Int) ^ (128 - 64) = 18446744073709551616 := by decide
  have g1 : Gives 9 h l 128 0 0 := gives_eq (fun w => shl_hi h l 128 (by omega) (by omega) h0 h1 l0 l1 w) (by rw [wr, e64]; omega) rfl
  have g2 : Gives 11 0 0 128 0 0 := gives_eq (fun w => shr_hi 0 0 128 (by omega) (by omega) (by decide) (by decide) (by decide) (by decide) w) rfl (by decide)
  have g3 : Gives 10 0 0 128 0 0 := gives_eq (fun w => sar_hi 0 0 128 (by omega) (by omega) (by decide) (by decide) (by decide) (by decide) w) (by rw [wr]; unfold wrap64; decide) (by rw [wr, e64]; unfold wrap64; decide)
  cases b
  · exact fun w => zz_of h l 0 _ _ false w (fun w => trunc_u h l 0 128 (by omega) (by omega) _ _ _ _ g1 g2 w)
  · exact fun w => zz_of h l 0 _ _ true w (fun w => trunc_s h l 0 128 (by omega) (by omega) _ _ _ _ g1 g3 w)

/-- More than 64 bits. -/
theorem t_hi {h l : Int} (h0 : 0 ≤ h) (h1 : h < 18446744073709551616) (l0 : 0 ≤ l) (l1 : l < 18446744073709551616) {wd m : Nat} (hm : 1 ≤ m) (hm' : m ≤ 63) (hwd : wd = 64 + m) :
    Trunc h l wd false (h % 2 ^ m) l ∧ Trunc h l wd true (if h % 2 ^ m < 2 ^ (m - 1) then h % 2 ^ m else 18446744073709551616 + h % 2 ^ m - 2 ^ m) l := by
  have hPN := pow_split (m := m) (by omega)
  have hP := pow_pos m
  have hN := pow_pos (64 - m)
  have hPQ := pow_half hm
  have hPle : (2 : Int) ^ m ≤ 18446744073709551616 := by
    have : (2 : Int) ^ m * 1 ≤ 2 ^ m * 2 ^ (64 - m) := Int.mul_le_mul_of_nonneg_left (by omega) (by omega)
    omega
  have r0 : 0 ≤ h % 2 ^ m := Int.emod_nonneg _ (by omega)
  have r1 : h % 2 ^ m < 2 ^ m := Int.emod_lt_of_pos _ hP
  have s0 : 0 ≤ l % 2 ^ m := Int.emod_nonneg _ (by omega)
  have s1 : l % 2 ^ m < 2 ^ m := Int.emod_lt_of_pos _ hP
  have hb := up_bounds hPN hN r0 r1
  have hc := up_bounds hPN hN s0 s1
  have q0 : 0 ≤ l / 2 ^ m := Int.ediv_nonneg l0 (by omega)
  have q1 : l / 2 ^ m < 2 ^ (64 - m) := Int.ediv_lt_of_lt_mul hP (by rw [Int.mul_comm, hPN]; exact l1)
  have q2 : l / 2 ^ m * 2 ^ m + l % 2 ^ m = l := by rw [Int.mul_comm]; exact Int.mul_ediv_add_emod l _
  have hNle : (2 : Int) ^ (64 - m) ≤ 18446744073709551616 := by
    have : 1 * (2 : Int) ^ (64 - m) ≤ 2 ^ m * 2 ^ (64 - m) := Int.mul_le_mul_of_nonneg_right (by omega) (by omega)
    omega
  have e : 64 - (64 - m) = m := by omega
  have n1 : (128 - wd) = 64 - m := by omega
  have hx : h % 2 ^ m * 2 ^ (64 - m) + l / 2 ^ m < 18446744073709551616 := by
    have : (h % 2 ^ m + 1) * 2 ^ (64 - m) ≤ 2 ^ m * 2 ^ (64 - m) := Int.mul_le_mul_of_nonneg_right (by omega) (by omega)
    rw [Int.add_mul, Int.one_mul] at this
    omega
  have g1 : Gives 9 h l (64 - m) (h % 2 ^ m * 2 ^ (64 - m) + l / 2 ^ m) (l % 2 ^ m * 2 ^ (64 - m)) :=
    gives_eq (fun w => shl_lo h l (64 - m) (by omega) (by omega) h0 h1 l0 l1 w) (by rw [wr, e, up_mod hPN hN, or_up r0 q0 q1 hb.2 (by omega)]) (by rw [wr, up_mod hPN hN])
  have eo : bits BinOp.or IntKind.u64 (l % 2 ^ m * 2 ^ (64 - m) / 2 ^ (64 - m)) (IntKind.u64.wrap ((h % 2 ^ m * 2 ^ (64 - m) + l / 2 ^ m) * 2 ^ (64 - (64 - m)))) = l := by
    rw [Int.mul_ediv_cancel _ (by omega), wr, e, up_mod (l := h % 2 ^ m * 2 ^ (64 - m) + l / 2 ^ m) (P := 2 ^ (64 - m)) (N := 2 ^ m) (by rw [Int.mul_comm]; exact hPN) hP]
    have e2 : (h % 2 ^ m * 2 ^ (64 - m) + l / 2 ^ m) % 2 ^ (64 - m) = l / 2 ^ m := by
      rw [Int.add_comm, Int.add_mul_emod_self_right, Int.emod_eq_of_lt q0 q1]
    rw [e2, or_up' q0 s0 s1 (by omega) (by omega)]
    omega
  have e3 : (h % 2 ^ m * 2 ^ (64 - m) + l / 2 ^ m) / 2 ^ (64 - m) = h % 2 ^ m := by
    rw [Int.add_comm, Int.add_mul_ediv_right _ _ (by omega), Int.ediv_eq_zero_of_lt q0 q1, Int.zero_add]
  have g2 : Gives 11 (h % 2 ^ m * 2 ^ (64 - m) + l / 2 ^ m) (l % 2 ^ m * 2 ^ (64 - m)) (64 - m) (h % 2 ^ m) l :=
    gives_eq (fun w => shr_lo _ _ (64 - m) (by omega) (by omega) (by omega) hx hc.1 hc.2 w) e3 eo
  have d := down_signed hPQ hPN hN r0 r1 q0 q1
  have g3 : Gives 10 (h % 2 ^ m * 2 ^ (64 - m) + l / 2 ^ m) (l % 2 ^ m * 2 ^ (64 - m)) (64 - m) (if h % 2 ^ m < 2 ^ (m - 1) then h % 2 ^ m else 18446744073709551616 + h % 2 ^ m - 2 ^ m) l :=
    gives_eq (fun w => sar_lo _ _ (64 - m) (by omega) (by omega) (by omega) hx hc.1 hc.2 w) (by
      rw [wr, d]
      split
      · omega
      · omega) eo
  exact ⟨fun w => zz_of h l wd _ _ false w (fun w => trunc_u h l wd (64 - m) (by omega) (by omega) _ _ _ _ g1 g2 w), fun w => zz_of h l wd _ _ true w (fun w => trunc_s h l wd (64 - m) (by omega) (by omega) _ _ _ _ g1 g3 w)⟩
end Go.Proofs.Qxb6623325a
