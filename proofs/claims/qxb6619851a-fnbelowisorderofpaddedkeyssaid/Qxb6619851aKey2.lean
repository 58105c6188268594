import Derived.Test.Qxb6619851aBnd3
import Derived.Test.Qxb6619851aKey1
import Derived.Deep.OwnRows
namespace Go.Proofs.Qxb6619851a
open Go.RowKit
open Go.Lib (compareBytes)

theorem row_cell {w : World} {g : Nat} {x : List UInt8} {ty : TypeId} (h : w.heap[g]? = some (.cells (idV x) ty (0, 0))) (j : Nat) (v : UInt8) (hv : x[j]? = some v) : w.cell? ⟨g, j, none⟩ = some (.int .u8 (v.toNat : Int)) := by
  rw [cell_of_row w g _ _ _ _ h]
  exact idV_get hv

theorem same_all' {x y : List UInt8} {n : Nat} (hx : x.length = n) (hy : y.length = n) (h : SameB x y n) : ltB x y = false := by
  have e : x = y := by
    apply List.ext_getElem?
    intro i
    by_cases hi : i < n
    · exact h i hi
    · rw [List.getElem?_eq_none (by omega), List.getElem?_eq_none (by omega)]
  subst e
  unfold ltB
  simp [cmp_self]

set_option maxHeartbeats 1000000 in
theorem keyLess_any (x y : List UInt8) (hx : x.length = 40) (hy : y.length = 40) (w : World) :
    Calls Try.prog 18 #[.agg (idV x), .agg (idV y)] w fun e w' => e = .returned (.bool (ltB x y)) ∧ Below w.heap.size w w' := by
  obtain ⟨b1, b2⟩ := alloc2 w (.cells (idV x) 39) (.cells (idV y) 39)
  have HB : Hid (Below w.heap.size w ((w.alloc (.cells (idV x) 39)).alloc (.cells (idV y) 39))) := ((Below.refl _ _).alloc (Nat.le_refl _) _).alloc (by simp) _
  have HX' : Hid (∀ (j : Nat) (v : UInt8), x[j]? = some v → ((w.alloc (.cells (idV x) 39)).alloc (.cells (idV y) 39)).cell? ⟨w.heap.size, j, none⟩ = some (.int .u8 (v.toNat : Int))) := row_cell b1
  have HY' : Hid (∀ (j : Nat) (v : UInt8), y[j]? = some v → ((w.alloc (.cells (idV x) 39)).alloc (.cells (idV y) 39)).cell? ⟨w.heap.size + 1, j, none⟩ = some (.int .u8 (v.toNat : Int))) := row_cell b2
  clear b1 b2
  go_enter Try.func18, Try.ntmps18
  go_upto_region 1 with (fail)
  generalize (w.alloc (.cells (idV x) 39)).alloc (.cells (idV y) 39) = W at *
  go_wp2
  go_loopw [5] (fun i wr => ∃ k : Nat, k ≤ 40 ∧ i = .int .i64 k ∧ SameB x y k ∧ ∃ n, wr = W.drewN n) (fun i _ => 40 - (intOf i).toNat)
  case atStart => exact ⟨0, by omega, rfl, fun j h => by omega, 0, rfl⟩
  case round =>
    obtain ⟨k, hk, rfl, hs, n, rfl⟩ := hrel
    by_cases hlt : k < 40
    · obtain ⟨u, hu⟩ : ∃ u, x[k]? = some u := ⟨_, List.getElem?_eq_getElem (by omega)⟩
      obtain ⟨v, hv⟩ : ∃ v, y[k]? = some v := ⟨_, List.getElem?_eq_getElem (by omega)⟩
      have c1 : W.cell? ⟨w.heap.size, k, none⟩ = some (.int .u8 (u.toNat : Int)) := HX'.out k u hu
      have c2 : W.cell? ⟨w.heap.size + 1, k, none⟩ = some (.int .u8 (v.toNat : Int)) := HY'.out k v hv
      have hb : (k : Int) < 40 := by omega
      have HU : Hid (x[k]? = some u) := hu
      have HV : Hid (y[k]? = some v) := hv
      clear hu hv
      by_cases huv : u = v
      · subst huv
        go_wp2
        go_quiet (fail)
        go_wp2
        go_roundw
        case rel =>
          refine ⟨k + 1, by omega, by go_num, fun j hj => ?_, n + nq, by first | rfl | rw [World.drewN_drewN]⟩
          by_cases hjk : j = k
          · subst hjk; rw [HU.out, HV.out]
          · exact hs j (by omega)
        case measure => simp [intOf]; omega
      · have hne : ((u.toNat : Int) != (v.toNat : Int)) = true := by
          rw [bne_iff_ne]
          intro e
          exact huv (UInt8.toNat_inj.1 (by omega))
        have HR : Hid (ltB x y = decide (u.toNat < v.toNat)) := ltB_at hs HU.out HV.out huv
        clear hs huv
        go_wp2
        go_quiet (fail)
        go_wp2
        go_quiet (fail)
        go_wp2
        go_ret
        exact ⟨ret_bool HR.out.symm, by repeat (first | exact HB.out | refine below_drewN ?_ _)⟩
    · obtain rfl : k = 40 := by omega
      have HR : Hid (ltB x y = false) := same_all' hx hy hs
      clear hs
      go_wp2
      go_ret
      exact ⟨ret_bool HR.out.symm, below_drewN HB.out _⟩

theorem zzBytes16_any (t s k : Int) (a0 a1 : Option Addr) (n0 n1 c0 c1 : Nat) (w : World) :
    Calls Try.prog 16 #[.int .u64 t, .slice a0 n0 c0, .int .u64 s, .slice a1 n1 c1, .int .i64 k] w fun e w' => IsB e ∧ w' = w := by
  go_enter Try.func16, Try.ntmps16
  go_wp2
  all_goals (go_ret; exact ⟨isB _, rfl⟩)
end Go.Proofs.Qxb6619851a
