import Derived.Test.Qxb6623325aRows
import Derived.WalkKit
import Derived.Below
set_option linter.unusedVariables false
namespace Go.Proofs.Qxb6623325a
open Go.RowKit

set_option maxRecDepth 100000 in
theorem shl_hi (h l : Int) (n : Nat) (hn : 64 ≤ n) (hn' : n ≤ 128) (h0 : 0 ≤ h) (h1 : h < 18446744073709551616) (l0 : 0 ≤ l) (l1 : l < 18446744073709551616) (w : World) :
    Calls Try.prog 9 #[.agg #[.int .u64 h, .int .u64 l], .int .u64 (n : Int)] w fun e w' => e = .returned (.agg #[.int .u64 (IntKind.u64.wrap (l * 2 ^ (n - 64))), .int .u64 (0)]) ∧ Below w.heap.size w w' := by
  go_enter Try.func9, Try.ntmps9
  go_wp2
  refine bodyPost_ret (v := .agg #[.int .u64 (IntKind.u64.wrap (l * 2 ^ (n - 64))), .int .u64 (0)]) (by simp [results, Try.results9, go_sem]) rfl ?_
  exact ⟨rfl, ((Below.refl _ _).alloc (Nat.le_refl _) _).alloc (by simp) _⟩

set_option maxRecDepth 100000 in
theorem shl_lo (h l : Int) (n : Nat) (hn : n < 64) (hn' : 1 ≤ n) (h0 : 0 ≤ h) (h1 : h < 18446744073709551616) (l0 : 0 ≤ l) (l1 : l < 18446744073709551616) (w : World) :
    Calls Try.prog 9 #[.agg #[.int .u64 h, .int .u64 l], .int .u64 (n : Int)] w fun e w' => e = .returned (.agg #[.int .u64 (bits BinOp.or IntKind.u64 (IntKind.u64.wrap (h * 2 ^ n)) (l / 2 ^ (64 - n))), .int .u64 (IntKind.u64.wrap (l * 2 ^ n))]) ∧ Below w.heap.size w w' := by
  go_enter Try.func9, Try.ntmps9
  go_wp2
  refine bodyPost_ret (v := .agg #[.int .u64 (bits BinOp.or IntKind.u64 (IntKind.u64.wrap (h * 2 ^ n)) (l / 2 ^ (64 - n))), .int .u64 (IntKind.u64.wrap (l * 2 ^ n))]) (by simp [results, Try.results9, go_sem]) rfl ?_
  exact ⟨rfl, ((Below.refl _ _).alloc (Nat.le_refl _) _).alloc (by simp) _⟩

set_option maxRecDepth 100000 in
theorem shr_hi (h l : Int) (n : Nat) (hn : 64 ≤ n) (hn' : n ≤ 128) (h0 : 0 ≤ h) (h1 : h < 18446744073709551616) (l0 : 0 ≤ l) (l1 : l < 18446744073709551616) (w : World) :
    Calls Try.prog 11 #[.agg #[.int .u64 h, .int .u64 l], .int .u64 (n : Int)] w fun e w' => e = .returned (.agg #[.int .u64 (0), .int .u64 (h / 2 ^ (n - 64))]) ∧ Below w.heap.size w w' := by
  go_enter Try.func11, Try.ntmps11
  go_wp2
  refine bodyPost_ret (v := .agg #[.int .u64 (0), .int .u64 (h / 2 ^ (n - 64))]) (by simp [results, Try.results11, go_sem]) rfl ?_
  exact ⟨rfl, ((Below.refl _ _).alloc (Nat.le_refl _) _).alloc (by simp) _⟩

set_option maxRecDepth 100000 in
theorem shr_lo (h l : Int) (n : Nat) (hn : n < 64) (hn' : 1 ≤ n) (h0 : 0 ≤ h) (h1 : h < 18446744073709551616) (l0 : 0 ≤ l) (l1 : l < 18446744073709551616) (w : World) :
    Calls Try.prog 11 #[.agg #[.int .u64 h, .int .u64 l], .int .u64 (n : Int)] w fun e w' => e = .returned (.agg #[.int .u64 (h / 2 ^ n), .int .u64 (bits BinOp.or IntKind.u64 (l / 2 ^ n) (IntKind.u64.wrap (h * 2 ^ (64 - n))))]) ∧ Below w.heap.size w w' := by
  go_enter Try.func11, Try.ntmps11
  go_wp2
  refine bodyPost_ret (v := .agg #[.int .u64 (h / 2 ^ n), .int .u64 (bits BinOp.or IntKind.u64 (l / 2 ^ n) (IntKind.u64.wrap (h * 2 ^ (64 - n))))]) (by simp [results, Try.results11, go_sem]) rfl ?_
  exact ⟨rfl, ((Below.refl _ _).alloc (Nat.le_refl _) _).alloc (by simp) _⟩

set_option maxRecDepth 100000 in
theorem sar_hi (h l : Int) (n : Nat) (hn : 64 ≤ n) (hn' : n ≤ 128) (h0 : 0 ≤ h) (h1 : h < 18446744073709551616) (l0 : 0 ≤ l) (l1 : l < 18446744073709551616) (w : World) :
    Calls Try.prog 10 #[.agg #[.int .u64 h, .int .u64 l], .int .u64 (n : Int)] w fun e w' => e = .returned (.agg #[.int .u64 (IntKind.u64.wrap (wrap64 h / 9223372036854775808)), .int .u64 (IntKind.u64.wrap (wrap64 h / 2 ^ (n - 64)))]) ∧ Below w.heap.size w w' := by
  go_enter Try.func10, Try.ntmps10
  go_wp2
  refine bodyPost_ret (v := .agg #[.int .u64 (IntKind.u64.wrap (wrap64 h / 9223372036854775808)), .int .u64 (IntKind.u64.wrap (wrap64 h / 2 ^ (n - 64)))]) (by simp [results, Try.results10, go_sem]) rfl ?_
  exact ⟨rfl, ((Below.refl _ _).alloc (Nat.le_refl _) _).alloc (by simp) _⟩

set_option maxRecDepth 100000 in
theorem sar_lo (h l : Int) (n : Nat) (hn : n < 64) (hn' : 1 ≤ n) (h0 : 0 ≤ h) (h1 : h < 18446744073709551616) (l0 : 0 ≤ l) (l1 : l < 18446744073709551616) (w : World) :
    Calls Try.prog 10 #[.agg #[.int .u64 h, .int .u64 l], .int .u64 (n : Int)] w fun e w' => e = .returned (.agg #[.int .u64 (IntKind.u64.wrap (wrap64 h / 2 ^ n)), .int .u64 (bits BinOp.or IntKind.u64 (l / 2 ^ n) (IntKind.u64.wrap (h * 2 ^ (64 - n))))]) ∧ Below w.heap.size w w' := by
  go_enter Try.func10, Try.ntmps10
  go_wp2
  refine bodyPost_ret (v := .agg #[.int .u64 (IntKind.u64.wrap (wrap64 h / 2 ^ n)), .int .u64 (bits BinOp.or IntKind.u64 (l / 2 ^ n) (IntKind.u64.wrap (h * 2 ^ (64 - n))))]) (by simp [results, Try.results10, go_sem]) rfl ?_
  exact ⟨rfl, ((Below.refl _ _).alloc (Nat.le_refl _) _).alloc (by simp) _⟩

end Go.Proofs.Qxb6623325a
