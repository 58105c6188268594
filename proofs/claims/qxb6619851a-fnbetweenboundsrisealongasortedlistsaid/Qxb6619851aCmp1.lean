import Derived.Test.Qxb6619851aIds
namespace Go.Proofs.Qxb6619851a
open Go.RowKit

/-- The first k of X are pairwise different. -/
def DistTo (X : List (List UInt8)) (k : Nat) : Prop := ∀ i j : Nat, j < i → i < k → X[i]? ≠ X[j]?
/-- element i differs from the first j. -/
def DistAt (X : List (List UInt8)) (i j : Nat) : Prop := ∀ j' : Nat, j' < j → X[i]? ≠ X[j']?
/-- Some element of X stands there twice. -/
def dupB (X : List (List UInt8)) : Bool := !decide X.Nodup

theorem nodup_of_dist {X : List (List UInt8)} (h : DistTo X X.length) : X.Nodup := by
  rw [List.nodup_iff_pairwise_ne, List.pairwise_iff_getElem]
  intro i j hi hj hij he
  refine h j i hij hj ?_
  rw [List.getElem?_eq_getElem hi, List.getElem?_eq_getElem hj, he]
theorem dup_of_eq {X : List (List UInt8)} {i j : Nat} (hi : i < X.length) (hj : j < i) (h : X[i]? = X[j]?) : dupB X = true := by
  unfold dupB
  simp only [Bool.not_eq_true', decide_eq_false_iff_not]
  intro hn
  rw [List.nodup_iff_pairwise_ne, List.pairwise_iff_getElem] at hn
  refine hn j i (by omega) hi hj ?_
  rw [List.getElem?_eq_getElem hi, List.getElem?_eq_getElem (show j < X.length by omega)] at h
  exact (Option.some.inj h).symm

theorem ret_bool {a b : Bool} (h : a = b) : Ending.returned (.bool a) = .returned (.bool b) := by rw [h]

set_option maxHeartbeats 400000 in
theorem hasDup_any (a : Option Addr) (cap : Nat) (X : List (List UInt8)) (w : World) (hX : IdsAt w a X) (hl : X.length ≤ 1048576) :
    Calls Try.prog 12 #[.slice a X.length cap] w fun e w' => e = .returned (.bool (dupB X)) ∧ ∃ n, w' = w.drewN n := by
  go_enter Try.func12, Try.ntmps12
  go_wp2
  go_loopw [3] (fun i wr => ∃ k : Nat, k ≤ X.length ∧ i = .int .i64 k ∧ DistTo X k ∧ ∃ n, wr = w.drewN n) (fun i _ => X.length - (intOf i).toNat)
  case atStart => exact ⟨0, Nat.zero_le _, rfl, fun i j h1 h2 => by omega, 0, rfl⟩
  case round =>
    obtain ⟨k, hk, rfl, hd, n, rfl⟩ := hrel
    by_cases hlt : k < X.length
    · go_wp2
      go_loopw [4] (fun i wr => ∃ j : Nat, j ≤ k ∧ i = .int .i64 j ∧ DistAt X k j ∧ ∃ n, wr = w.drewN n) (fun i _ => k - (intOf i).toNat)
      case atStart => exact ⟨0, Nat.zero_le _, rfl, fun j h1 => by omega, n, rfl⟩
      case round =>
        obtain ⟨j, hj, rfl, hdj, m, rfl⟩ := hrel
        by_cases hjk : j < k
        · have e1 : X[k]? = some X[k] := List.getElem?_eq_getElem hlt
          have e2 : X[j]? = some X[j] := List.getElem?_eq_getElem (by omega)
          obtain ⟨b, off, ha, hi1⟩ := hX k _ e1
          obtain ⟨b', off', ha', hi2⟩ := hX j _ e2
          rw [ha] at ha'
          obtain ⟨rfl, rfl⟩ : b = b' ∧ off = off' := by simpa using ha'
          clear ha' e1 e2
          have hb : (k : Int) < X.length := by omega
          have hb' : (j : Int) < X.length := by omega
          go_wp2
          refine wp_region_quiet_lit (by kernel_rfl) (by kernel_rfl) ?_
          iterate 3 (go_big_quiet_step (fail))
          go_big_quiet_want
          refine quiet_load_id _ rfl b (off + k * 32) rfl X[k] (fun w' hw' => by obtain ⟨q, rfl⟩ := hw'; exact (hi1.drewN _).drewN _) ?_
          go_frame
          go_big_quiet_on
          iterate 3 (go_big_quiet_step (fail))
          go_big_quiet_want
          refine quiet_load_id _ rfl b (off + j * 32) rfl X[j] (fun w' hw' => by obtain ⟨q, rfl⟩ := hw'; exact (hi2.drewN _).drewN _) ?_
          go_frame
          go_big_quiet_on
          go_big_quiet_want
          refine quiet_eql_id _ _ _ rfl X[k] X[j] rfl rfl hi1.1 hi2.1 ?_
          go_frame
          go_big_quiet_on
          refine wpQuiet_nil ?_
          intro _ hw'
          obtain ⟨nq, rfl⟩ := hw'
          by_cases hxx : X[k] = X[j]
          · have hdup : dupB X = true := dup_of_eq hlt hjk (by rw [List.getElem?_eq_getElem hlt, List.getElem?_eq_getElem (show j < X.length by omega), hxx])
            have HD : Hid (dupB X = true) := hdup
            clear hdup
            go_wp2
            go_ret
            exact ⟨ret_bool HD.out.symm, m + nq, by first | rfl | rw [World.drewN_drewN]⟩
          · go_wp2
            go_roundw
            case rel =>
              refine ⟨j + 1, by omega, by go_num, ?_, m + nq, by first | rfl | rw [World.drewN_drewN]⟩
              intro j' hj'
              by_cases hjj : j' = j
              · subst hjj
                rw [List.getElem?_eq_getElem hlt, List.getElem?_eq_getElem (show j' < X.length by omega)]
                simpa using hxx
              · exact hdj j' (by omega)
            case measure => simp [intOf]; omega
        · obtain rfl : j = k := by omega
          go_wp2
          go_roundw
          case rel =>
            refine ⟨j + 1, by omega, by go_num, ?_, m, rfl⟩
            intro i' j' h1 h2
            by_cases hii : i' = j
            · subst hii; exact hdj j' h1
            · exact hd i' j' h1 (by omega)
          case measure => simp [intOf]; omega
    · obtain rfl : k = X.length := by omega
      have hnd : dupB X = false := by unfold dupB; simpa using nodup_of_dist hd
      have HD : Hid (dupB X = false) := hnd
      clear hnd
      go_wp2
      go_ret
      exact ⟨ret_bool HD.out.symm, n, rfl⟩
end Go.Proofs.Qxb6619851a
