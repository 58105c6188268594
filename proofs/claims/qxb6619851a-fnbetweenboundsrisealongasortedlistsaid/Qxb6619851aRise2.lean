import Derived.Test.Qxb6619851aRise1
set_option linter.unusedVariables false
namespace Go.Proofs.Qxb6619851a
open Go.RowKit

set_option maxRecDepth 100000 in
set_option maxHeartbeats 1000000 in
theorem rise_early (a0 a1 : Option Addr) (c0 c1 n0 n1 : Nat) (w : World) (h : 4096 < n0 ∨ 4096 < n1 ∨ n0 ≠ n1) :
    Calls Try.prog 4 #[.slice a0 n0 c0, .slice a1 n1 c1] w fun e w' => e = .returned (.bool true) ∧ Below w.heap.size w w' := by
  go_enter Try.func4, Try.ntmps4
  go_wp2_with fail
  refine (zzBytes10_any _ _ _ _ _ _ _).mono ?_
  rintro e w' ⟨⟨r, rfl⟩, hw⟩
  have hw := hw.symm
  subst hw
  cases r
  · go_wp2
    go_ret
    exact ⟨rfl, Below.refl _ _⟩
  by_cases h0 : 4096 < n0
  · clear h
    go_wp2
    go_ret
    exact ⟨rfl, Below.refl _ _⟩
  · by_cases h1 : 4096 < n1
    · clear h
      go_wp2
      go_ret
      exact ⟨rfl, Below.refl _ _⟩
    · have h2 : (n0 : Int) ≠ n1 := by omega
      clear h
      go_wp2
      go_ret
      exact ⟨rfl, Below.refl _ _⟩

theorem rise_any (a0 a1 : Option Addr) (c0 c1 : Nat) (T : List Int) (X : List (List UInt8)) (w : World) (hT : TsAt w a0 T) (hX : IdsAt w a1 X) :
    Calls Try.prog 4 #[.slice a0 T.length c0, .slice a1 X.length c1] w fun e w' => e = .returned (.bool true) ∧ Below w.heap.size w w' := by
  by_cases h : 4096 < T.length ∨ 4096 < X.length ∨ T.length ≠ X.length
  · exact rise_early a0 a1 c0 c1 _ _ w h
  · have e : T.length = X.length := by omega
    rw [e]
    exact rise_main a0 a1 c0 c1 T X w hT hX e (by omega)
end Go.Proofs.Qxb6619851a
