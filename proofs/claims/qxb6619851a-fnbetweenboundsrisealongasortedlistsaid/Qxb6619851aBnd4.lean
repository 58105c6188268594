import Derived.Test.Qxb6619851aBnd3
namespace Go.Proofs.Qxb6619851a
open Go.RowKit

/-- What between hands back: next's timestamp and what separates of next's id. -/
def BtwPost (t s : Int) (x y : List UInt8) (w : World) (e : Ending) (w' : World) : Prop :=
  ∃ a c k, e = .returned (.agg #[.int .u64 s, .slice a (sepOf t s y k).length c]) ∧ BsAt w' a (sepOf t s y k) ∧ (t = s → Shared x y k) ∧ Below w.heap.size w w'

theorem item_ids {w : World} {b : Nat} {t : Int} {x : List UInt8} {ty : TypeId} (hx : x.length = 32) (h : w.heap[b]? = some (.cells (itemL t x).toArray ty (0, 0))) : w.cell? ⟨b, 0, none⟩ = some (.int .u64 t) ∧ IdAt w b 1 x := by
  refine ⟨by rw [cell_of_row w b 0 _ _ _ h]; rfl, idAt_of_cells h hx (fun j v hv => ?_)⟩
  rw [Nat.add_comm, List.getElem?_toArray]
  simp [itemL, hv]

theorem sepOf_ne {t s : Int} (h : t ≠ s) (y : List UInt8) (k : Nat) : sepOf t s y k = [] := by unfold sepOf; rw [if_neg h]
theorem sepOf_eq (s : Int) (y : List UInt8) (k : Nat) : sepOf s s y k = y.take (k + 1) := by unfold sepOf; rw [if_pos rfl]

set_option maxHeartbeats 1000000 in
theorem between_ne (t s : Int) (x y : List UInt8) (hx : x.length = 32) (hy : y.length = 32) (hts : t ≠ s) (w : World) :
    Calls Try.prog 19 #[.agg (itemL t x).toArray, .agg (itemL s y).toArray] w fun e w' => BtwPost t s x y w e w' := by
  obtain ⟨b1, b2⟩ := alloc2 w (.cells (itemL t x).toArray 46) (.cells (itemL s y).toArray 46)
  obtain ⟨c1, _⟩ := item_ids hx b1
  obtain ⟨c2, _⟩ := item_ids hy b2
  have hne : (t != s) = true := by rw [bne_iff_ne]; exact hts
  have HB : Hid (Below w.heap.size w ((w.alloc (.cells (itemL t x).toArray 46)).alloc (.cells (itemL s y).toArray 46))) := ((Below.refl _ _).alloc (Nat.le_refl _) _).alloc (by simp) _
  have hsz : ((w.alloc (.cells (itemL t x).toArray 46)).alloc (.cells (itemL s y).toArray 46)).heap.size = w.heap.size + 1 + 1 := by simp
  clear b1 b2
  go_enter Try.func19, Try.ntmps19
  go_upto_region 1 with (fail)
  generalize (w.alloc (.cells (itemL t x).toArray 46)).alloc (.cells (itemL s y).toArray 46) = W0 at *
  go_wp2
  refine bodyPost_ret (v := .agg #[.int .u64 s, .slice none 0 0]) (by simp [results, Try.results19, go_sem, hsz]) rfl ⟨none, 0, 0, ?_, ?_, fun h => absurd h hts, ?_⟩
  · rw [sepOf_ne hts]; rfl
  · rw [sepOf_ne hts]; intro i v hv; simp at hv
  · have h := HB.out.alloc (by rw [hsz]; omega) (.cells #[.int .u64 s, .slice none 0 0] 43)
    exact h

theorem run_slice23_to {b o : Nat} {h : Int} (h0 : 0 ≤ h) (h32 : h ≤ 32) (w : World) : (Instr.sliceAt 23 (.pointer (some ⟨b, o, none⟩)) none (some (.int .i64 h)) none).run Try.prog w = .ok (.slice (some ⟨b, o, none⟩) h.toNat 32) w := by
  have hs : (sizeOf 5).run Try.prog w = .ok 1 w := by kernel_rfl
  simp [Instr.sliceAt, run_underlying Try.underlying23, Instr.sureAddr, Instr.sliceBounds, Instr.sliceBound, asIntOf, h0, h32, hs, Addr.add]

theorem alloc3 (w : World) (A B C : Obj) : ((((w.alloc A).alloc B).alloc C).heap[w.heap.size]? = some A) ∧ ((((w.alloc A).alloc B).alloc C).heap[w.heap.size + 1]? = some B) ∧ ((((w.alloc A).alloc B).alloc C).heap[w.heap.size + 1 + 1]? = some C) := by
  have e : (((w.alloc A).alloc B).alloc C).heap = ((w.heap.push A).push B).push C := rfl
  rw [e]
  simp only [Array.getElem?_push, Array.size_push]
  refine ⟨?_, ?_, ?_⟩
  · rw [if_neg (by omega), if_neg (by omega), if_pos trivial]
  · rw [if_neg (by omega), if_pos trivial]
  · rw [if_pos trivial]

theorem btw_fin {s : Int} {x y : List UInt8} {w W : World} {k : Nat} (hY : IdAt W (w.heap.size + 1) 1 y) (hy : y.length = 32) (HB : Below w.heap.size w W) (HS : Shared x y k) (m : Nat) (v v' : Value) :
    BtwPost s s x y w (.returned (.agg #[.int .u64 s, .slice (some ⟨w.heap.size + 1, 1, none⟩) (k + 1) 32])) (((W.drewN m).setCell ⟨w.heap.size + 1 + 1, 0, none⟩ v).setCell ⟨w.heap.size + 1 + 1, 1, none⟩ v') := by
  refine ⟨some ⟨w.heap.size + 1, 1, none⟩, 32, k, ?_, ?_, fun _ => HS, ?_⟩
  · have hl : (sepOf s s y k).length = k + 1 := by rw [sepOf_eq, List.length_take, hy]; have := HS.le; omega
    rw [hl]
  · rw [sepOf_eq]
    exact bs_of_id (((hY.drewN m).grown (grown_setCell _ _ _ _) (by simp)).grown (grown_setCell _ _ _ _) (by simp)) _
  · exact ((below_drewN HB m).setCell (by simp; omega) _).setCell (by simp; omega) _

set_option maxHeartbeats 1000000 in
theorem between_eq (s : Int) (x y : List UInt8) (hx : x.length = 32) (hy : y.length = 32) (w : World) :
    Calls Try.prog 19 #[.agg (itemL s x).toArray, .agg (itemL s y).toArray] w fun e w' => BtwPost s s x y w e w' := by
  obtain ⟨b1, b2, b3⟩ := alloc3 w (.cells (itemL s x).toArray 46) (.cells (itemL s y).toArray 46) (.cells #[.int .u64 0, .slice none 0 0] 43)
  obtain ⟨c1, hX⟩ := item_ids hx b1
  obtain ⟨c2, hY⟩ := item_ids hy b2
  have HB : Hid (Below w.heap.size w (((w.alloc (.cells (itemL s x).toArray 46)).alloc (.cells (itemL s y).toArray 46)).alloc (.cells #[.int .u64 0, .slice none 0 0] 43))) := (((Below.refl _ _).alloc (Nat.le_refl _) _).alloc (by simp) _).alloc (by simp; omega) _
  clear b1 b2
  go_enter Try.func19, Try.ntmps19
  go_upto_region 1 with (fail)
  generalize ((w.alloc (.cells (itemL s x).toArray 46)).alloc (.cells (itemL s y).toArray 46)).alloc (.cells #[.int .u64 0, .slice none 0 0] 43) = W at *
  have r0 : W.cell? ⟨w.heap.size + 1 + 1, 0, none⟩ = some (.int .u64 0) := by rw [cell_of_row W _ 0 _ _ _ b3]; rfl
  have r1 : W.cell? ⟨w.heap.size + 1 + 1, 1, none⟩ = some (.slice none 0 0) := by rw [cell_of_row W _ 1 _ _ _ b3]; rfl
  have f0 : W.frozen? ⟨w.heap.size + 1 + 1, 0, none⟩ = false := frozen_of_row W _ 0 _ _ b3
  have f1 : W.frozen? ⟨w.heap.size + 1 + 1, 1, none⟩ = false := frozen_of_row W _ 1 _ _ b3
  clear b3
  go_wp2
  go_loopw [5] (fun i wr => ∃ k : Nat, k ≤ 31 ∧ i = .int .i64 k ∧ SameB x y k ∧ ∃ n, wr = W.drewN n) (fun i _ => 31 - (intOf i).toNat)
  case atStart => exact ⟨0, by omega, rfl, fun j h => by omega, 0, rfl⟩
  case round =>
    obtain ⟨k, hk, rfl, hs, n, rfl⟩ := hrel
    by_cases hlt : k < 31
    · obtain ⟨u, hu⟩ : ∃ u, x[k]? = some u := ⟨_, List.getElem?_eq_getElem (by omega)⟩
      obtain ⟨v, hv⟩ : ∃ v, y[k]? = some v := ⟨_, List.getElem?_eq_getElem (by omega)⟩
      have d1 := hX.2 k u hu
      have d2 := hY.2 k v hv
      have hb : (k : Int) < 32 := by omega
      have hb' : (k : Int) < 31 := by omega
      have HU : Hid (x[k]? = some u) := hu
      have HV : Hid (y[k]? = some v) := hv
      clear hu hv
      by_cases huv : u = v
      · subst huv
        go_wp2
        go_quiet (fail)
        go_wp2
        go_roundw
        case rel =>
          refine ⟨k + 1, by omega, by go_num, fun j hj => ?_, n + nq, by first | rfl | rw [World.drewN_drewN]⟩
          by_cases hjk : j = k
          · subst hjk; rw [HU.out, HV.out]
          · exact hs j (by omega)
        case measure => simp [intOf]; omega
      · have hne : ((u.toNat : Int) == (v.toNat : Int)) = false := by
          rw [beq_eq_false_iff_ne]
          intro e
          exact huv (UInt8.toNat_inj.1 (by omega))
        have HS : Hid (Shared x y k) := ⟨hk, hs, fun _ e => by rw [HU.out, HV.out] at e; exact huv (Option.some.inj e)⟩
        have hsl : ∀ (b o : Nat) (w : World), (Instr.sliceAt 23 (.pointer (some ⟨b, o, none⟩)) none (some (.int .i64 ((k : Int) + 1))) none).run Try.prog w = .ok (.slice (some ⟨b, o, none⟩) (k + 1) 32) w := fun b o w => by
          rw [run_slice23_to (by omega) (by omega) w, show ((k : Int) + 1).toNat = k + 1 by omega]
        clear hs
        go_wp2
        go_quiet (fail)
        go_wp2
        refine wp_region_quiet_tail 7 (by kernel_rfl) (by kernel_rfl) ?_
        simp only [List.take_succ_cons, List.take_zero, List.drop_succ_cons, List.drop_zero]
        iterate 7 (go_big_quiet_step (fail))
        refine wpQuiet_nil ?_
        go_wp2
        refine bodyPost_ret (v := .agg #[.int .u64 s, .slice (some ⟨w.heap.size + 1, 1, none⟩) (k + 1) 32]) (by simp [results, Try.results19, go_sem, r0, r1]) rfl ?_
        exact btw_fin hY hy HB.out HS.out _ _ _
    · obtain rfl : k = 31 := by omega
      have HS : Hid (Shared x y 31) := ⟨hk, hs, fun h => absurd h (by omega)⟩
      clear hs
      go_wp2
      go_quiet (fail)
      go_wp2
      refine wp_region_quiet_tail 7 (by kernel_rfl) (by kernel_rfl) ?_
      simp only [List.take_succ_cons, List.take_zero, List.drop_succ_cons, List.drop_zero]
      iterate 7 (go_big_quiet_step (fail))
      refine wpQuiet_nil ?_
      go_wp2
      refine bodyPost_ret (v := .agg #[.int .u64 s, .slice (some ⟨w.heap.size + 1, 1, none⟩) (31 + 1) 32]) (by simp [results, Try.results19, go_sem, r0, r1]) rfl ?_
      exact btw_fin hY hy HB.out HS.out _ _ _
end Go.Proofs.Qxb6619851a
