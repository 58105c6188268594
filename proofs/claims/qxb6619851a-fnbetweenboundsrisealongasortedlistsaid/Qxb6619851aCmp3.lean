import Derived.Test.Qxb6619851aCmp2
namespace Go.Proofs.Qxb6619851a
open Go.RowKit

/-- It returned a bool. -/
def IsB (e : Ending) : Prop := ∃ r, e = .returned (.bool r)
theorem isB (r : Bool) : IsB (.returned (.bool r)) := ⟨r, rfl⟩

set_option maxHeartbeats 800000 in
theorem zzBytes11_any (a0 a1 a2 a3 : Option Addr) (n0 n1 n2 n3 c0 c1 c2 c3 : Nat) (w : World) :
    Calls Try.prog 11 #[.slice a0 n0 c0, .slice a1 n1 c1, .slice a2 n2 c2, .slice a3 n3 c3] w fun e w' => IsB e ∧ w' = w := by
  go_enter Try.func11, Try.ntmps11
  go_wp2
  · go_ret; exact ⟨isB _, rfl⟩
  · go_ret; exact ⟨isB _, rfl⟩
  · go_ret; exact ⟨isB _, rfl⟩
  go_loop [9, 10] (fun z i => ∃ (v : Int) (k : Nat), 0 ≤ v ∧ v ≤ 1048576 ∧ k ≤ n1 ∧ z = .int .i64 v ∧ i = .int .i64 k) (fun _ i => n1 - (intOf i).toNat)
  case atStart => exact ⟨_, 0, by omega, by omega, Nat.zero_le _, rfl, rfl⟩
  case round =>
    obtain ⟨v, k, hv0, hv1, hk, rfl, rfl⟩ := hrel
    by_cases hlt : k < n1
    · go_wp2
      · go_ret; exact ⟨isB _, rfl⟩
      · go_round
        case rel => exact ⟨_, k + 1, by omega, by omega, by omega, rfl, by go_num⟩
        case measure => simp [intOf]; omega
    · go_wp2
      · go_ret; exact ⟨isB _, rfl⟩
      · go_ret; exact ⟨isB _, rfl⟩
      · go_ret; exact ⟨isB _, rfl⟩
      · go_ret; exact ⟨isB _, rfl⟩
      go_loop [9, 11] (fun z i => ∃ (v : Int) (k : Nat), 0 ≤ v ∧ v ≤ 1048576 ∧ k ≤ n3 ∧ z = .int .i64 v ∧ i = .int .i64 k) (fun _ i => n3 - (intOf i).toNat)
      case atStart => exact ⟨_, 0, by omega, by omega, Nat.zero_le _, rfl, rfl⟩
      case round =>
        obtain ⟨v, k, hv0, hv1, hk, rfl, rfl⟩ := hrel
        by_cases hlt : k < n3
        · go_wp2
          · go_ret; exact ⟨isB _, rfl⟩
          · go_round
            case rel => exact ⟨_, k + 1, by omega, by omega, by omega, rfl, by go_num⟩
            case measure => simp [intOf]; omega
        · go_wp2
          go_ret; exact ⟨isB _, rfl⟩
end Go.Proofs.Qxb6619851a
