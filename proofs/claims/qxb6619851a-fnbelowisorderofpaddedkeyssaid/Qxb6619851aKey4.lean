import Derived.Test.Qxb6619851aKey3
import Derived.BigFrame
set_option linter.unusedVariables false
namespace Go.Proofs.Qxb6619851a
open Go.RowKit
open Go.Lib (compareBytes)

/-! ### rows of bytes -/
def bsL (p : List UInt8) : List Value := p.map fun b => Value.int .u8 (b.toNat : Int)
theorem bs_new {w : World} {g : Nat} {p : List UInt8} {t : TypeId} (h : w.heap[g]? = some (.cells (bsL p).toArray t (0, 0))) : BsAt w (some ⟨g, 0, none⟩) p := by
  intro i v hv
  refine ⟨g, 0, rfl, ?_⟩
  rw [cell_of_row w g _ _ _ _ h]
  simp [bsL, hv]
theorem bs_src {w : World} {ad : Addr} {p : List UInt8} (h : BsAt w (some ad) p) : ∀ (j : Nat) (v : Value), (bsL p)[j]? = some v → w.cell? (ad.add j) = some v := by
  intro j v hv
  unfold bsL at hv
  rw [List.getElem?_map] at hv
  cases ht : p[j]? with
  | none => rw [ht] at hv; cases hv
  | some t =>
    rw [ht] at hv
    cases hv
    obtain ⟨b, off, ha, hc⟩ := h j t ht
    cases ha
    rw [add_none]
    exact hc
theorem BsAt.drewN {w : World} {a : Option Addr} {p : List UInt8} (h : BsAt w a p) (n : Nat) : BsAt (w.drewN n) a p := h.below (below_drewN (Below.refl _ _) n)
theorem bs_none {w : World} {p : List UInt8} (h : BsAt w none p) : p = [] := by
  cases p with
  | nil => rfl
  | cons v p =>
    obtain ⟨_, _, h, _⟩ := h 0 v rfl
    cases h
theorem info5 : (Try.prog.info? 5).map (fun i => (i.zero, i.size, i.bytes)) = some (some (.int .u8 0), 1, 1) := by kernel_rfl

theorem made_zero {w : World} {base g n : Nat} (h : w.ownsRow base 5 1 (.slice (some ⟨g, 0, none⟩) n n) n (madeCells (Value.int .u8 0).cells (n * 1)).toList) : w.rowIs g 5 n (fun _ => .int .u8 0) := by
  rcases h.2 with ⟨h, _⟩ | ⟨g', cap, cur, h, _, hg, _, _, hs, hx⟩
  · simp at h
  · simp at h
    obtain ⟨rfl, rfl⟩ := h
    refine ⟨cur, hg, by simpa using hs, fun i hi => ?_⟩
    have e : cur.toList = (madeCells (Value.int .u8 0).cells (n * 1)).toList := by
      rw [← hx, List.take_of_length_le (by simp; omega)]
    rw [Array.toList_inj.1 e]
    simp [madeCells, Value.cells, hi, Nat.mod_one]

/-- The padded copy after k rounds. -/
def pf (p : List UInt8) (k : Nat) : Nat → Value := fun j => if j < k then .int .u8 ((p.getD j 0).toNat : Int) else .int .u8 0
theorem bs_of_pf {w : World} {g m k : Nat} {p : List UInt8} (hk : p.length ≤ k) (h : w.rowIs g 5 (p.length + m) (pf p k)) : BsAt w (some ⟨g, 0, none⟩) (p ++ List.replicate m 0) := by
  intro i v hv
  refine ⟨g, 0, rfl, ?_⟩
  have hi : i < p.length + m := by have := (List.getElem?_eq_some_iff.1 hv).1; simpa using this
  rw [Nat.zero_add, h.cell hi]
  unfold pf
  by_cases h1 : i < p.length
  · rw [List.getElem?_append_left h1] at hv
    rw [if_pos (by omega), List.getD_eq_getElem?_getD, hv]
    rfl
  · rw [List.getElem?_append_right (by omega), List.getElem?_replicate, if_pos (by omega)] at hv
    cases hv
    split
    · rw [List.getD_eq_getElem?_getD, List.getElem?_eq_none (by omega)]; rfl
    · rfl

theorem z40_alloc (w : World) : (Instr.alloc 39 true (.tuple #[])).run Try.prog w = .ok (.pointer (some ⟨w.heap.size, 0, none⟩)) (w.alloc (.cells (Array.replicate 40 (.int .u8 0)) 39)) := by kernel_rfl
theorem wpList_alloc_key {w : World} {ops : Array Oper} {rest : List Oper} {o : Oper} {a : Act} {Q : Exit → Act → World → Prop}
    (hg : o.guard = none) (ho : o.op = .alloc 39) (hK : wpList Try.prog ops Q rest (a.put o.dst (.pointer (some ⟨w.heap.size, 0, none⟩))) (w.alloc (.cells (Array.replicate 40 (.int .u8 0)) 39))) : wpList Try.prog ops Q (o :: rest) a w := by
  refine wpList_plain hg fun K' hK' => ?_
  unfold Oper.wp execOp
  simp only [ho, Sem.run_bind, z40_alloc, Result.andThen_ok, Sem.run_pure]
  exact hK' _ _ hK
theorem wpList_store_newkey {w : World} {ops : Array Oper} {rest : List Oper} {o : Oper} {a : Act} {Q : Exit → Act → World → Prop}
    (hg : o.guard = none) (p v : Operand) (ho : o.op = .store 39 p v) (c : Array Value) (hc : c.size = 40) (h1 : c.all (·.oneCell') = true) (hp : a.eval p = .pointer (some ⟨w.heap.size, 0, none⟩)) (hv : a.eval v = .agg c)
    (hK : wpList Try.prog ops Q rest (a.put o.dst undef) (w.alloc (.cells c 39))) : wpList Try.prog ops Q (o :: rest) a (w.alloc (.cells (Array.replicate 40 (.int .u8 0)) 39)) := by
  refine wpList_plain hg fun K' hK' => ?_
  have h := run_storeAt_new (P := Try.prog) w 39 (Array.replicate 40 (.int .u8 0)) c (by rw [info39, hc]) (by rw [hc]; simp) h1
  unfold Oper.wp execOp
  simp only [ho, hp, hv, Sem.run_bind, h, Result.andThen_ok, Sem.run_pure]
  exact hK' _ _ hK
theorem wpList_load_key_g {w : World} {ops : Array Oper} {rest : List Oper} {o : Oper} {a : Act} {Q : Exit → Act → World → Prop}
    (x : Operand) (ho : o.op = .load 39 x) (hw : Region.wanted o (yielded ops a.tmps) = true) (b : Nat) (hx : a.eval x = .pointer (some ⟨b, 0, none⟩)) (c : Array Value) (hc : c.size = 40) (h : w.heap[b]? = some (.cells c 39 (0, 0)))
    (hK : wpList Try.prog ops Q rest (a.put o.dst (.agg c)) w) : wpList Try.prog ops Q (o :: rest) a w := by
  refine BigFrame.wpList_want hw fun K' hK' => ?_
  have hl := run_loadVar_row (P := Try.prog) w b 39 39 c (0, 0) _ h Try.underlying39 rfl (by rw [info39, hc])
  unfold Oper.wp execOp
  simp only [ho, hx, Instr.loadAt, Instr.sureAddr, Sem.run_bind, hl, Result.andThen_ok, Sem.run_pure]
  exact hK' _ _ hK
end Go.Proofs.Qxb6619851a
