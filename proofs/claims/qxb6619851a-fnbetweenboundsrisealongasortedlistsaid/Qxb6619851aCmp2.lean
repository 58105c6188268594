import Derived.Test.Qxb6619851aCmp1
namespace Go.Proofs.Qxb6619851a
open Go.RowKit

theorem idAt_of_cells {w : World} {b o : Nat} {cs : Array Value} {t : TypeId} {fr : Nat × Nat} {x : List UInt8} (hb : w.heap[b]? = some (.cells cs t fr)) (hl : x.length = 32)
    (h : ∀ (j : Nat) (v : UInt8), x[j]? = some v → cs[o + j]? = some (.int .u8 (v.toNat : Int))) : IdAt w b o x :=
  ⟨hl, fun j v hv => by rw [cell_of_row w b (o + j) cs t fr hb]; exact h j v hv⟩

theorem idV_get {x : List UInt8} {j : Nat} {v : UInt8} (h : x[j]? = some v) : (idV x)[j]? = some (.int .u8 (v.toNat : Int)) := by
  simp [idV, h]

/-- The box of an id. -/
theorem idAt_new (w : World) {x : List UInt8} (hl : x.length = 32) (t : TypeId) : IdAt (w.alloc (.cells (idV x) t)) w.heap.size 0 x :=
  idAt_of_cells (heap_alloc_new w _) hl (fun j v hv => by rw [Nat.zero_add]; exact idV_get hv)

theorem IdAt.lt {w : World} {b o : Nat} {x : List UInt8} (h : IdAt w b o x) : b < w.heap.size :=
  block_lt_of_cell (h.2 0 (x[0]'(by rw [h.1]; decide)) (List.getElem?_eq_getElem _))

theorem IdAt.below {B : Nat} {w w' : World} {b o : Nat} {x : List UInt8} (h : IdAt w b o x) (hB : Below B w w') (hb : b < B) : IdAt w' b o x :=
  ⟨h.1, fun j v hv => (hB.cell (p := ⟨b, o + j, none⟩) hb).trans (h.2 j v hv)⟩

/-- Ids that lay there before the call lie there still. -/
theorem IdsAt.below {w w' : World} {a : Option Addr} {X : List (List UInt8)} (h : IdsAt w a X) (hB : Below w.heap.size w w') : IdsAt w' a X := by
  intro i x hx
  obtain ⟨b, off, ha, hi⟩ := h i x hx
  exact ⟨b, off, ha, hi.below hB hi.lt⟩

theorem below_drewN {B : Nat} {w w' : World} (h : Below B w w') (n : Nat) : Below B w (w'.drewN n) := by
  induction n with
  | zero => exact h
  | succ n ih => exact ih.drew

set_option maxHeartbeats 400000 in
theorem contains_any (a : Option Addr) (cap : Nat) (X : List (List UInt8)) (x : List UInt8) (hx : x.length = 32) (w : World) (hX : IdsAt w a X) (hl : X.length ≤ 1048576) :
    Calls Try.prog 15 #[.slice a X.length cap, .agg (idV x)] w fun e w' => e = .returned (.bool (decide (x ∈ X))) ∧ Below w.heap.size w w' := by
  have hXn : IdsAt (w.alloc (.cells (idV x) 23)) a X := hX.below ((Below.refl _ _).alloc (Nat.le_refl _) _)
  have hbox := idAt_new w hx 23
  have hB : Below w.heap.size w (w.alloc (.cells (idV x) 23)) := (Below.refl _ _).alloc (Nat.le_refl _) _
  go_enter Try.func15, Try.ntmps15
  go_wp2
  go_loopw [5] (fun i wr => ∃ k : Nat, k ≤ X.length ∧ i = .int .i64 k ∧ (x ∉ X.take k) ∧ ∃ n, wr = (w.alloc (.cells (idV x) 23)).drewN n) (fun i _ => X.length - (intOf i).toNat)
  case atStart => exact ⟨0, Nat.zero_le _, rfl, by simp, 0, rfl⟩
  case round =>
    obtain ⟨k, hk, rfl, hd, n, rfl⟩ := hrel
    by_cases hlt : k < X.length
    · have e1 : X[k]? = some X[k] := List.getElem?_eq_getElem hlt
      obtain ⟨b, off, ha, hi1⟩ := hXn k _ e1
      have hb : (k : Int) < X.length := by omega
      have HB : Hid (Below w.heap.size w (w.alloc (.cells (idV x) 23))) := hB
      clear hB e1
      go_wp2
      refine wp_region_quiet_lit (by kernel_rfl) (by kernel_rfl) ?_
      iterate 3 (go_big_quiet_step (fail))
      go_big_quiet_want
      refine quiet_load_id _ rfl b (off + k * 32) rfl X[k] (fun w' hw' => by obtain ⟨q, rfl⟩ := hw'; exact (hi1.drewN _).drewN _) ?_
      go_frame
      go_big_quiet_on
      go_big_quiet_want
      refine quiet_load_id _ rfl w.heap.size 0 rfl x (fun w' hw' => by obtain ⟨q, rfl⟩ := hw'; exact (hbox.drewN _).drewN _) ?_
      go_frame
      go_big_quiet_on
      go_big_quiet_want
      refine quiet_eql_id _ _ _ rfl X[k] x rfl rfl hi1.1 hx ?_
      go_frame
      go_big_quiet_on
      refine wpQuiet_nil ?_
      intro _ hw'
      obtain ⟨nq, rfl⟩ := hw'
      by_cases hxx : X[k] = x
      · have HM : Hid (decide (x ∈ X) = true) := by
          show decide (x ∈ X) = true
          simp only [decide_eq_true_iff]; rw [← hxx]; exact List.getElem_mem hlt
        go_wp2
        go_ret
        exact ⟨ret_bool HM.out.symm, below_drewN (below_drewN HB.out _) _⟩
      · go_wp2
        go_roundw
        case rel =>
          refine ⟨k + 1, by omega, by go_num, ?_, n + nq, by first | rfl | rw [World.drewN_drewN]⟩
          rw [List.take_succ_eq_append_getElem hlt, List.mem_append, not_or]
          exact ⟨hd, by simpa using fun h => hxx h.symm⟩
        case measure => simp [intOf]; omega
    · have HM : Hid (decide (x ∈ X) = false) := by
        show decide (x ∈ X) = false
        rw [List.take_of_length_le (by omega)] at hd
        simpa using hd
      have HB : Hid (Below w.heap.size w (w.alloc (.cells (idV x) 23))) := hB
      clear hB
      go_wp2
      go_ret
      exact ⟨ret_bool HM.out.symm, below_drewN HB.out _⟩

/-- The first k of X and Y are alike. -/
def SameTo (X Y : List (List UInt8)) (k : Nat) : Prop := ∀ i : Nat, i < k → X[i]? = Y[i]?

set_option maxHeartbeats 400000 in
theorem eqIDs_any (a c : Option Addr) (cap cap' : Nat) (X Y : List (List UInt8)) (w : World) (hX : IdsAt w a X) (hY : IdsAt w c Y) (hl : X.length ≤ 1048576) :
    Calls Try.prog 14 #[.slice a X.length cap, .slice c Y.length cap'] w fun e w' => e = .returned (.bool (decide (X = Y))) ∧ ∃ n, w' = w.drewN n := by
  by_cases hlen : X.length = Y.length
  · have hle : ((X.length : Int) != Y.length) = false := by simp [hlen]
    have hne : ((X.length : Int) = Y.length) := by omega
    go_enter Try.func14, Try.ntmps14
    go_wp2
    go_loopw [5] (fun i wr => ∃ k : Nat, k ≤ X.length ∧ i = .int .i64 k ∧ SameTo X Y k ∧ ∃ n, wr = w.drewN n) (fun i _ => X.length - (intOf i).toNat)
    case atStart => exact ⟨0, Nat.zero_le _, rfl, fun i h => by omega, 0, rfl⟩
    case round =>
      obtain ⟨k, hk, rfl, hd, n, rfl⟩ := hrel
      by_cases hlt : k < X.length
      · have hlt' : k < Y.length := by omega
        have e1 : X[k]? = some X[k] := List.getElem?_eq_getElem hlt
        have e2 : Y[k]? = some Y[k] := List.getElem?_eq_getElem hlt'
        obtain ⟨b, off, ha, hi1⟩ := hX k _ e1
        obtain ⟨b', off', ha', hi2⟩ := hY k _ e2
        have hb : (k : Int) < X.length := by omega
        have hb' : (k : Int) < Y.length := by omega
        have HL : Hid (X.length = Y.length) := hlen
        clear e1 e2 hlen hle hne
        go_wp2
        refine wp_region_quiet_lit (by kernel_rfl) (by kernel_rfl) ?_
        iterate 3 (go_big_quiet_step (fail))
        go_big_quiet_want
        refine quiet_load_id _ rfl b (off + k * 32) rfl X[k] (fun w' hw' => by obtain ⟨q, rfl⟩ := hw'; exact (hi1.drewN _).drewN _) ?_
        go_frame
        go_big_quiet_on
        iterate 3 (go_big_quiet_step (fail))
        go_big_quiet_want
        refine quiet_load_id _ rfl b' (off' + k * 32) rfl Y[k] (fun w' hw' => by obtain ⟨q, rfl⟩ := hw'; exact (hi2.drewN _).drewN _) ?_
        go_frame
        go_big_quiet_on
        go_big_quiet_want
        refine quiet_neq_id _ _ _ rfl X[k] Y[k] rfl rfl hi1.1 hi2.1 ?_
        go_frame
        go_big_quiet_on
        refine wpQuiet_nil ?_
        intro _ hw'
        obtain ⟨nq, rfl⟩ := hw'
        by_cases hxx : X[k] = Y[k]
        · have hn : (!decide (X[k] = Y[k])) = false := by simp [hxx]
          rw [hn]
          go_wp2
          go_roundw
          case rel =>
            refine ⟨k + 1, by omega, by go_num, ?_, n + nq, by first | rfl | rw [World.drewN_drewN]⟩
            intro i hi
            by_cases hik : i = k
            · subst hik; rw [List.getElem?_eq_getElem hlt, List.getElem?_eq_getElem hlt', hxx]
            · exact hd i (by omega)
          case measure => simp [intOf]; omega
        · have HM : Hid (decide (X = Y) = false) := by
            show decide (X = Y) = false
            simp only [decide_eq_false_iff_not]
            intro h
            apply hxx
            subst h
            rfl
          have hn : (!decide (X[k] = Y[k])) = true := by simp [hxx]
          rw [hn]
          go_wp2
          go_ret
          exact ⟨ret_bool HM.out.symm, n + nq, by first | rfl | rw [World.drewN_drewN]⟩
      · have HM : Hid (decide (X = Y) = true) := by
          show decide (X = Y) = true
          simp only [decide_eq_true_iff]
          apply List.ext_getElem?
          intro i
          by_cases hi : i < k
          · exact hd i hi
          · rw [List.getElem?_eq_none (by omega), List.getElem?_eq_none (by omega)]
        clear hlen hle hne
        go_wp2
        go_ret
        exact ⟨ret_bool HM.out.symm, n, rfl⟩
  · have HM : Hid (decide (X = Y) = false) := by
      show decide (X = Y) = false
      simp only [decide_eq_false_iff_not]; intro h; exact hlen (by rw [h])
    have hne : ¬ ((X.length : Int) = Y.length) := by omega
    go_enter Try.func14, Try.ntmps14
    go_wp2
    go_ret
    exact ⟨ret_bool HM.out.symm, 0, rfl⟩
end Go.Proofs.Qxb6619851a
