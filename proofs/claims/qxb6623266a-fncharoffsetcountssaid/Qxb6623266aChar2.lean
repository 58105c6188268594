import Derived.Test.Qxb6623266aRows
import Derived.Test.Qxb6623266aChar1
import Derived.WalkKit
import Derived.Below
set_option linter.unusedVariables false
namespace Go.Proofs.Qxb6623266a
open Go.RowKit

theorem below_iter (w : World) (s : ByteArray) (p : Nat) : Below w.heap.size w (w.iter s p) := (Below.refl _ _).alloc (Nat.le_refl _) _
theorem ret_int {a b : Int} (h : a = b) : Ending.returned (.int .i64 a) = .returned (.int .i64 b) := by rw [h]

set_option maxRecDepth 100000 in
theorem offset_any (s : ByteArray) (n : Nat) (hn : n ≤ 8388608) (hs : s.size ≤ 1048576) (w : World) :
    Calls Try.prog 9 #[.string s, .int .i64 (n : Int)] w fun e w' => e = .returned (.int .i64 (off s 0 n : Nat)) ∧ Below w.heap.size w w' := by
  go_enter Try.func9, Try.ntmps9
  go_wp2
  go_loopw [1] (fun v w' => ∃ (pos b : Nat), w' = w.iter s pos ∧ v = .int .i64 (b : Int) ∧ b ≤ n ∧ pos ≤ s.size ∧ off s pos b = off s 0 n) (fun _ w' => s.size - w'.iterPos w.heap.size)
  case atStart => exact ⟨0, n, rfl, rfl, Nat.le_refl _, Nat.zero_le _, rfl⟩
  case round =>
    obtain ⟨pos, b, rfl, rfl, hb, hp, ho⟩ := hrel
    by_cases h : pos < s.size
    · have hnx := fun ty => run_next_any (P := Try.prog) w s pos ty h
      by_cases h0 : b = 0
      · subst h0
        have HO : Hid (off s 0 n = pos) := ho.symm
        clear ho
        go_wp2
        go_ret
        exact ⟨ret_int (by rw [HO.out]), below_iter _ _ _⟩
      · have h1 : (b : Int) ≠ 0 := by omega
        have HO : Hid (off s pos b = off s 0 n) := ho
        clear ho
        go_wp2
        go_roundw
        case rel =>
          refine ⟨pos + (Utf8.decode s pos).2, b - 1, rfl, by congr 1; omega, by omega, adv_le s pos h, ?_⟩
          rw [← HO.out]
          obtain ⟨c, rfl⟩ : ∃ c, b = c + 1 := ⟨b - 1, by omega⟩
          rw [off, if_pos h]
          rfl
        case measure =>
          have := adv_pos s pos
          unfold adv at this
          simp
          omega
    · have hnx := fun ty => run_next_end (P := Try.prog) w s pos ty h
      have HO : Hid (off s 0 n = s.size) := by rw [← ho, off_end s h]; show pos = s.size; omega
      clear ho
      go_wp2
      go_ret
      exact ⟨ret_int (by rw [HO.out]), below_iter _ _ _⟩

theorem zzOffset_any (s : ByteArray) (n : Nat) (hn : n ≤ 8388608) (hs : s.size ≤ 1048576) (w : World) :
    Calls Try.prog 6 #[.string s, .int .i64 (n : Int)] w fun e w' => e = .returned (.int .i64 (off s 0 n : Nat)) ∧ Below w.heap.size w w' := by
  go_enter Try.func6, Try.ntmps6
  go_wp2_with fail
  refine (offset_any s n hn hs _).mono ?_
  rintro e w' ⟨rfl, hg⟩
  have HG : Hid (Below w.heap.size w w') := hg
  clear hg
  go_wp2
  go_ret
  exact ⟨rfl, HG.out⟩
end Go.Proofs.Qxb6623266a
