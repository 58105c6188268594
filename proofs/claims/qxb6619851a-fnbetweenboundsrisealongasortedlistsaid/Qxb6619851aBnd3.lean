import Derived.Test.Qxb6619851aBnd2
namespace Go.Proofs.Qxb6619851a
open Go.RowKit
open Go.Lib (compareBytes)

/-- The first k bytes are alike. -/
def SameB (x y : List UInt8) (k : Nat) : Prop := ∀ j : Nat, j < k → x[j]? = y[j]?

theorem alloc2 (w : World) (A B : Obj) : (((w.alloc A).alloc B).heap[w.heap.size]? = some A) ∧ (((w.alloc A).alloc B).heap[w.heap.size + 1]? = some B) := ⟨heap_alloc2_old w A B, heap_alloc2_new w A B⟩

theorem ltB_at {x y : List UInt8} {k : Nat} {u v : UInt8} (h : SameB x y k) (hu : x[k]? = some u) (hv : y[k]? = some v) (hne : u ≠ v) : ltB x y = decide (u.toNat < v.toNat) := by
  unfold ltB
  rcases u8_lt_or hne with h1 | h1
  · rw [lt_at h hu hv h1]
    rw [UInt8.lt_iff_toNat_lt] at h1
    simp [h1]
  · rw [gt_at h hu hv h1]
    rw [UInt8.lt_iff_toNat_lt] at h1
    simp; omega

theorem same_all {x y : List UInt8} (hx : x.length = 32) (hy : y.length = 32) (h : SameB x y 32) : ltB x y = false := by
  have e : x = y := by
    apply List.ext_getElem?
    intro i
    by_cases hi : i < 32
    · exact h i hi
    · rw [List.getElem?_eq_none (by omega), List.getElem?_eq_none (by omega)]
  subst e
  unfold ltB
  simp [cmp_self]

set_option maxHeartbeats 1000000 in
theorem itemLess_any (t s : Int) (x y : List UInt8) (hx : x.length = 32) (hy : y.length = 32) (w : World) :
    Calls Try.prog 7 #[.int .u64 t, .agg (idV x), .int .u64 s, .agg (idV y)] w fun e w' => e = .returned (.bool (itemB t x s y)) ∧ Below w.heap.size w w' := by
  by_cases hts : t = s
  · subst hts
    have hb : itemB t x t y = ltB x y := by unfold itemB; rw [if_pos rfl]
    rw [hb]
    clear hb
    obtain ⟨b1, b2⟩ := alloc2 w (.cells (idV x) 23) (.cells (idV y) 23)
    have hX := idAt_row hx b1
    have hY := idAt_row hy b2
    have HB : Hid (Below w.heap.size w ((w.alloc (.cells (idV x) 23)).alloc (.cells (idV y) 23))) := ((Below.refl _ _).alloc (Nat.le_refl _) _).alloc (by simp) _
    have HX := hX.2
    have HY := hY.2
    have HX' : Hid (∀ (j : Nat) (v : UInt8), x[j]? = some v → ((w.alloc (.cells (idV x) 23)).alloc (.cells (idV y) 23)).cell? ⟨w.heap.size, 0 + j, none⟩ = some (.int .u8 (v.toNat : Int))) := HX
    have HY' : Hid (∀ (j : Nat) (v : UInt8), y[j]? = some v → ((w.alloc (.cells (idV x) 23)).alloc (.cells (idV y) 23)).cell? ⟨w.heap.size + 1, 0 + j, none⟩ = some (.int .u8 (v.toNat : Int))) := HY
    clear HX HY hX hY b1 b2
    go_enter Try.func7, Try.ntmps7
    go_upto_region 1 with (fail)
    generalize (w.alloc (.cells (idV x) 23)).alloc (.cells (idV y) 23) = W at *
    go_wp2
    go_loopw [9] (fun i wr => ∃ k : Nat, k ≤ 32 ∧ i = .int .i64 k ∧ SameB x y k ∧ ∃ n, wr = W.drewN n) (fun i _ => 32 - (intOf i).toNat)
    case atStart => exact ⟨0, by omega, rfl, fun j h => by omega, 0, rfl⟩
    case round =>
      obtain ⟨k, hk, rfl, hs, n, rfl⟩ := hrel
      by_cases hlt : k < 32
      · obtain ⟨u, hu⟩ : ∃ u, x[k]? = some u := ⟨_, List.getElem?_eq_getElem (by omega)⟩
        obtain ⟨v, hv⟩ : ∃ v, y[k]? = some v := ⟨_, List.getElem?_eq_getElem (by omega)⟩
        have c1 : W.cell? ⟨w.heap.size, k, none⟩ = some (.int .u8 (u.toNat : Int)) := by have := HX'.out k u hu; rwa [Nat.zero_add] at this
        have c2 : W.cell? ⟨w.heap.size + 1, k, none⟩ = some (.int .u8 (v.toNat : Int)) := by have := HY'.out k v hv; rwa [Nat.zero_add] at this
        have hb : (k : Int) < 32 := by omega
        have HU : Hid (x[k]? = some u) := hu
        have HV : Hid (y[k]? = some v) := hv
        clear hu hv
        by_cases huv : u = v
        · subst huv
          go_wp2
          go_quiet (fail)
          go_wp2
          go_roundw
          case rel =>
            refine ⟨k + 1, by omega, by go_num, fun j hj => ?_, n + nq, by first | rfl | rw [World.drewN_drewN]⟩
            by_cases hjk : j = k
            · subst hjk; rw [HU.out, HV.out]
            · exact hs j (by omega)
          case measure => simp [intOf]; omega
        · have hne : ((u.toNat : Int) != (v.toNat : Int)) = true := by
            rw [bne_iff_ne]
            intro e
            exact huv (UInt8.toNat_inj.1 (by omega))
          have HR : Hid (ltB x y = decide (u.toNat < v.toNat)) := ltB_at hs HU.out HV.out huv
          clear hs huv
          go_wp2
          go_quiet (fail)
          go_wp2
          go_quiet (fail)
          go_wp2
          go_ret
          exact ⟨ret_bool HR.out.symm, by repeat (first | exact HB.out | refine below_drewN ?_ _)⟩
      · obtain rfl : k = 32 := by omega
        have HR : Hid (ltB x y = false) := same_all hx hy hs
        clear hs
        go_wp2
        go_ret
        exact ⟨ret_bool HR.out.symm, below_drewN HB.out _⟩
  · have hne : (t != s) = true := by rw [bne_iff_ne]; exact hts
    have hb : itemB t x s y = decide (t < s) := by unfold itemB; rw [if_neg hts]
    rw [hb]
    clear hb
    go_enter Try.func7, Try.ntmps7
    go_wp2
    go_ret
    exact ⟨rfl, ((Below.refl _ _).alloc (Nat.le_refl _) _).alloc (by simp) _⟩
end Go.Proofs.Qxb6619851a
