import Derived.Test.Qxb6619851aWld
import Derived.Deep.WholeRow
import Derived.Test.Qxb6619851aReg
import Derived.Maps.OwnOps
namespace Go.Proofs.Qxb6619851a
open Go.RowKit

/-! ### the variable of an id that a round makes -/
def z32 : Array Value := Array.replicate 32 (.int .u8 0)
theorem run_alloc_id (w : World) : (Instr.alloc 23 true (.tuple #[])).run Try.prog w = .ok (.pointer (some ⟨w.heap.size, 0, none⟩)) (w.alloc (.cells z32 23)) := by kernel_rfl

theorem wpList_alloc_id {w : World} {ops : Array Oper} {rest : List Oper} {o : Oper} {a : Act} {Q : Exit → Act → World → Prop}
    (hg : o.guard = none) (ho : o.op = .alloc 23) (hK : wpList Try.prog ops Q rest (a.put o.dst (.pointer (some ⟨w.heap.size, 0, none⟩))) (w.alloc (.cells z32 23))) : wpList Try.prog ops Q (o :: rest) a w := by
  refine wpList_plain hg fun K' hK' => ?_
  unfold Oper.wp execOp
  simp only [ho, Sem.run_bind, run_alloc_id, Result.andThen_ok, Sem.run_pure]
  exact hK' _ _ hK

theorem idV_one (x : List UInt8) : (idV x).all (·.oneCell') = true := by
  unfold idV
  exact all_oneCell_toArray (oneCell_id x)

theorem wpList_store_new {w : World} {ops : Array Oper} {rest : List Oper} {o : Oper} {a : Act} {Q : Exit → Act → World → Prop}
    (hg : o.guard = none) (p v : Operand) (ho : o.op = .store 23 p v) (x : List UInt8) (hx : x.length = 32) (hp : a.eval p = .pointer (some ⟨w.heap.size, 0, none⟩)) (hv : a.eval v = .agg (idV x))
    (hK : wpList Try.prog ops Q rest (a.put o.dst undef) (w.alloc (.cells (idV x) 23))) : wpList Try.prog ops Q (o :: rest) a (w.alloc (.cells z32 23)) := by
  refine wpList_plain hg fun K' hK' => ?_
  have hs : (idV x).size = 32 := by simp [idV, hx]
  have h := run_storeAt_new (P := Try.prog) w 23 z32 (idV x) (by rw [info23, hs]) (by rw [hs]; rfl) (idV_one x)
  unfold Oper.wp execOp
  simp only [ho, hp, hv, Sem.run_bind, h, Result.andThen_ok, Sem.run_pure]
  exact hK' _ _ hK

theorem run_makeMap_hint (n : Int) (w : World) : (Instr.makeMap 55 (some (.int .i64 n))).run Try.prog w = .ok (.map (some w.heap.size)) (w.alloc (.map #[] 0)) := by kernel_rfl

/-! ### the items -/
/-- The ids of the items of the slice at a are X. -/
def ItemsAt (w : World) (a : Option Addr) (X : List (List UInt8)) : Prop :=
  ∀ (i : Nat) (x : List UInt8), X[i]? = some x → ∃ b off, a = some ⟨b, off, none⟩ ∧ IdAt w b (off + i * 33 + 1) x

/-- The client's block holds no id. -/
theorem idAt_ne {w : World} {b o cb : Nat} {x : List UInt8} {v0 v1 v2 : Value} (h : IdAt w b o x) (hc : w.heap[cb]? = some (.cells #[v0, v1, v2] 51 (0, 0))) : b ≠ cb := by
  intro e
  subst e
  have h3 := h.2 3 (x[3]'(by rw [h.1]; decide)) (List.getElem?_eq_getElem _)
  rw [cell_of_row w b _ _ _ _ hc] at h3
  simp at h3

theorem IdAt.grown {w w' : World} {row : Option Nat} {b o : Nat} {x : List UInt8} (h : IdAt w b o x) (hg : w.grownBy w' row) (hb : some b ≠ row) : IdAt w' b o x :=
  ⟨h.1, fun j v hv => hg.cell (h.2 j v hv) hb⟩

def memTo (Y : List (List UInt8)) (k : Nat) (x : List UInt8) : Bool := decide (x ∈ Y.take k)

theorem rep_step1 {D : DataW Unit} {Y : List (List UInt8)} {k : Nat} (h : Rep D (memTo Y k)) (hD : Maps.IsMap D) (hk : k < Y.length) (hy : Y[k].length = 32) :
    Rep (D.put (idK Y[k]) (.lit (.bool true))) (memTo Y (k + 1)) := by
  refine (h.put hD hy).congr fun x => ?_
  unfold memTo
  rw [Bool.eq_iff_iff, List.take_succ_eq_append_getElem hk]
  simp only [Bool.or_eq_true, decide_eq_true_eq, List.mem_append, List.mem_singleton]
  exact Or.comm

/-- Of Y, and not of the first k of X. -/
def leftTo (X Y : List (List UInt8)) (k : Nat) (x : List UInt8) : Bool := decide (x ∈ Y) && !decide (x ∈ X.take k)
/-- Those of the first k of X that Y lacks. -/
def haveTo (X Y : List (List UInt8)) (k : Nat) : List (List UInt8) := (X.take k).filter fun x => !decide (x ∈ Y)

theorem leftTo_zero (X Y : List (List UInt8)) (k : Nat) (hk : ¬ k < Y.length) (x : List UInt8) : memTo Y k x = leftTo X Y 0 x := by
  unfold memTo leftTo
  rw [List.take_of_length_le (by omega)]
  simp
theorem leftTo_at {X Y : List (List UInt8)} (hn : X.Nodup) {k : Nat} (hk : k < X.length) : leftTo X Y k X[k] = decide (X[k] ∈ Y) := by
  unfold leftTo
  have : X[k] ∉ X.take k := by
    intro hm
    obtain ⟨i, hi, he⟩ := List.mem_iff_getElem.1 hm
    have hi' : i < k := by simp at hi; omega
    rw [List.getElem_take] at he
    rw [List.nodup_iff_pairwise_ne, List.pairwise_iff_getElem] at hn
    exact hn i k (by omega) hk hi' he
  simp [this]
theorem rep_step2 {D : DataW Unit} {X Y : List (List UInt8)} {k : Nat} (h : Rep D (leftTo X Y k)) (hk : k < X.length) (hx : X[k].length = 32) : Rep (D.del (idK X[k])) (leftTo X Y (k + 1)) := by
  refine (h.del hx).congr fun x => ?_
  unfold leftTo
  rw [Bool.eq_iff_iff, List.take_succ_eq_append_getElem hk]
  simp only [Bool.and_eq_true, Bool.not_eq_true', decide_eq_false_iff_not, decide_eq_true_eq, List.mem_append, List.mem_singleton, not_or]
  constructor
  · rintro ⟨h1, h2, h3⟩; exact ⟨h2, h3, h1⟩
  · rintro ⟨h1, h2, h3⟩; exact ⟨h3, h1, h2⟩
theorem haveTo_len (X Y : List (List UInt8)) (k : Nat) : (haveTo X Y k).length ≤ k := by
  unfold haveTo
  exact Nat.le_trans (List.length_filter_le _ _) (List.length_take_le _ _)
theorem haveTo_in {X Y : List (List UInt8)} {k : Nat} (hk : k < X.length) (h : X[k] ∈ Y) : haveTo X Y (k + 1) = haveTo X Y k := by
  unfold haveTo
  rw [List.take_succ_eq_append_getElem hk, List.filter_append]
  simp [h]
theorem haveTo_out {X Y : List (List UInt8)} {k : Nat} (hk : k < X.length) (h : ¬ X[k] ∈ Y) : haveTo X Y (k + 1) = haveTo X Y k ++ [X[k]] := by
  unfold haveTo
  rw [List.take_succ_eq_append_getElem hk, List.filter_append]
  simp [h]

theorem info46 : (Try.prog.info? 46).map (·.size) = some 33 := by kernel_rfl
theorem run_index48 {b off n cap k : Nat} (hk : k < n) (w : World) : (Instr.indexAt 48 (.slice (some ⟨b, off, none⟩) n cap) (.int .i64 (k : Int))).run Try.prog w = .ok (.pointer (some ⟨b, off + k * 33, none⟩)) w := by
  cases hq : Try.prog.info? 46 with
  | none => have := info46; rw [hq] at this; cases this
  | some i =>
    have hs : i.size = 33 := by have := info46; rw [hq] at this; simpa using this
    simp [Instr.indexAt, asIntOf, run_underlying Try.underlying48, sizeOf, typeInfo, hq, hs, hk, add_none]
theorem yi_index48 {ops : Array Oper} {S : World → Prop} {o : Oper} {a : Act} {ia : Option Addr} {b off n cap k : Nat} (hg : o.guard = none) (x ix : Operand) (ho : o.op = .indexAddr 48 x ix)
    (hx : a.eval x = .slice ia n cap) (ha : ia = some ⟨b, off, none⟩) (hi : a.eval ix = .int .i64 (k : Int)) (hk : k < n) : YieldsIf Try.prog ops S o (.pointer (some ⟨b, off + k * 33, none⟩)) a :=
  yi_run hg _ fun w _ => by subst ha; simp [execOp, ho, hx, hi, run_index48 hk]
theorem yi_load {ops : Array Oper} {S : World → Prop} {o : Oper} {a : Act} {b off : Nat} {id : List UInt8} (hg : o.guard = none) (x : Operand) (ho : o.op = .load 23 x)
    (hx : a.eval x = .pointer (some ⟨b, off, none⟩)) (hS : ∀ w, S w → IdAt w b off id) : YieldsIf Try.prog ops S o (.agg (idV id)) a :=
  yi_run hg _ fun w hw => by simp [execOp, ho, hx, run_loadAt_id (hS w hw)]

/-! ### the append of one id to a field of the client: what it does to the call's own memory -/
theorem own_ne_map {w : World} {base n m b : Nat} {v : Value} {xs : List Value} {D : DataW Unit} (h : w.ownsRow base 23 32 v n xs) (hm : w.ownsMap Try.prog 23 (plainElem Try.prog 4) b m D) : v.ownBlock ≠ some b := by
  rcases h.2 with ⟨rfl, _⟩ | ⟨g, cap, cur, rfl, _, hg, _⟩
  · simp [Value.ownBlock]
  · obtain ⟨es, clock, hb, _⟩ := hm
    intro e
    simp [Value.ownBlock] at e
    subst e
    rw [hg] at hb
    cases hb
theorem own_ne_client {w : World} {base n cb : Nat} {v : Value} {xs : List Value} {cs : Array Value} (h : w.ownsRow base 23 32 v n xs) (hc : w.heap[cb]? = some (.cells cs 51 (0, 0))) : v.ownBlock ≠ some cb := by
  rcases h.2 with ⟨rfl, _⟩ | ⟨g, cap, cur, rfl, _, hg, _⟩
  · simp [Value.ownBlock]
  · intro e
    simp [Value.ownBlock] at e
    subst e
    rw [hg] at hc
    simp at hc
theorem grown_setCell (w : World) (b j : Nat) (u : Value) : w.grownBy (w.setCell ⟨b, j, none⟩ u) (some b) :=
  ⟨rfl, rfl, rfl, by simp, fun k _ hk => heap_setCell_other w ⟨b, j, none⟩ k u (fun e => hk (by simp [e]))⟩
theorem own_one {w : World} {base n : Nat} {v : Value} {xs : List Value} (h : w.ownsRow base 23 32 v n xs) : v.oneCell' = true := by
  rcases h.2 with ⟨rfl, _⟩ | ⟨g, cap, cur, rfl, _⟩ <;> rfl

theorem step_app {w wr w2 : World} {cb base n m f : Nat} {cs : Array Value} {v0 v v' : Value} {xs news : List Value} {x : List UInt8} {D : DataW Unit} (hc : w.heap[cb]? = some (.cells #[v0, .slice none 0 0, .slice none 0 0] 51 (0, 0)))
    (hb : w.heap.size ≤ base) (hown : wr.ownsMap Try.prog 23 (plainElem Try.prog 4) w.heap.size m D) (hcb : wr.heap[cb]? = some (.cells cs 51 (0, 0))) (hrow : wr.ownsRow base 23 32 v n xs) (hgr : w.grownBy wr (some cb))
    (hgrow : (wr.drew.alloc (.cells (idV x) 23)).grownBy w2 v.ownBlock) (hown' : w2.ownsRow base 23 32 v' (n + 1) (xs ++ news)) :
    (w2.setCell ⟨cb, f, none⟩ v').ownsMap Try.prog 23 (plainElem Try.prog 4) w.heap.size m D ∧ (w2.setCell ⟨cb, f, none⟩ v').heap[cb]? = some (.cells (cs.setIfInBounds f v') 51 (0, 0)) ∧
    (w2.setCell ⟨cb, f, none⟩ v').ownsRow base 23 32 v' (n + 1) (xs ++ news) ∧ w.grownBy (w2.setCell ⟨cb, f, none⟩ v') (some cb) ∧ w2.heap[cb]? = some (.cells cs 51 (0, 0)) := by
  have hcl : cb < w.heap.size := lt_of_block hc
  have h1 : (wr.drew.alloc (.cells (idV x) 23)).ownsMap Try.prog 23 (plainElem Try.prog 4) w.heap.size m D := hown.drew.alloc _
  have hv0 := own_ne_map hrow hown
  have hvc := own_ne_client hrow hcb
  have h2 := h1.kept hgrow (fun e => hv0 e.symm)
  have hcb1 : (wr.drew.alloc (.cells (idV x) 23)).heap[cb]? = some (.cells cs 51 (0, 0)) := ((World.grownBy_alloc wr.drew _ none).block cb (lt_of_block hcb) (by simp)).trans hcb
  have hcb2 : w2.heap[cb]? = some (.cells cs 51 (0, 0)) := (hgrow.block cb (lt_of_block hcb1) (fun e => hvc e.symm)).trans hcb1
  have hvc' := own_ne_client hown' hcb2
  have g1 : w.grownBy (wr.drew.alloc (.cells (idV x) 23)) (some cb) := World.grownBy.trans (b := wr.drew) ⟨hgr.os, hgr.tape, hgr.output, hgr.size, hgr.block⟩ (World.grownBy_alloc wr.drew _ _)
  have g2 : w.grownBy w2 (some cb) := g1.andThen hgrow (fun j hj => .inl (Nat.le_trans hb (hrow.lt j hj).1))
  refine ⟨h2.kept (grown_setCell w2 cb f v') (by simp; omega), heap_setCell_same w2 cb f cs 51 v' hcb2, hown'.kept (grown_setCell w2 cb f v') (.inr hvc'), g2.trans (grown_setCell w2 cb f v'), hcb2⟩

theorem step_del {w w3 w4 : World} {cb n m base : Nat} {cs : Array Value} {v : Value} {xs : List Value} {D : DataW Unit} (hcl : cb < w.heap.size) (j1 : w3.ownsMap Try.prog 23 (plainElem Try.prog 4) w.heap.size m D)
    (hturn : w3.mapTurned w4 w.heap.size) (j2 : w3.heap[cb]? = some (.cells cs 51 (0, 0))) (j3 : w3.ownsRow base 23 32 v n xs) (j4 : w.grownBy w3 (some cb)) :
    w4.heap[cb]? = some (.cells cs 51 (0, 0)) ∧ w4.ownsRow base 23 32 v n xs ∧ w.grownBy w4 (some cb) :=
  ⟨(hturn.grown.block cb (lt_of_block j2) (by simp; omega)).trans j2, j3.kept hturn.grown (.inr (own_ne_map j3 j1)), j4.andThen hturn.grown (fun j hj => by cases hj; exact .inl (Nat.le_refl _))⟩

/-- Another row of the call's own lies beside. -/
theorem beside_app {wr w2 : World} {cb base base' n n' f : Nat} {cs : Array Value} {v v' vo : Value} {xs ys news : List Value} {x : List UInt8}
    (hcb2 : w2.heap[cb]? = some (.cells cs 51 (0, 0))) (hrow : wr.ownsRow base 23 32 v n xs) (hgrow : (wr.drew.alloc (.cells (idV x) 23)).grownBy w2 v.ownBlock) (_hown' : w2.ownsRow base 23 32 v' (n + 1) (xs ++ news))
    (ho : wr.ownsRow base' 23 32 vo n' ys) (hlt : ∀ g, vo.ownBlock = some g → g < base) : (w2.setCell ⟨cb, f, none⟩ v').ownsRow base' 23 32 vo n' ys := by
  have h1 : (wr.drew.alloc (.cells (idV x) 23)).ownsRow base' 23 32 vo n' ys := ho.drew.alloc _
  have h2 : w2.ownsRow base' 23 32 vo n' ys := h1.kept hgrow (by
    cases hb : vo.ownBlock with
    | none => exact .inl rfl
    | some g =>
      refine .inr fun e => ?_
      have h3 := hlt g hb
      have h4 := (hrow.lt g (e ▸ rfl)).1
      omega)
  exact h2.kept (grown_setCell w2 cb f v') (.inr (own_ne_client h2 hcb2))

/-- Of Y, not of X, not of the first k of Y. -/
def needLeft (X Y : List (List UInt8)) (k : Nat) (x : List UInt8) : Bool := decide (x ∈ Y) && !decide (x ∈ X) && !decide (x ∈ Y.take k)
theorem needLeft_zero {X Y : List (List UInt8)} {k : Nat} (hk : ¬ k < X.length) (x : List UInt8) : leftTo X Y k x = needLeft X Y 0 x := by
  unfold leftTo needLeft
  rw [List.take_of_length_le (by omega)]
  simp
theorem not_mem_take {Y : List (List UInt8)} (hn : Y.Nodup) {k : Nat} (hk : k < Y.length) : Y[k] ∉ Y.take k := by
  intro hm
  obtain ⟨i, hi, he⟩ := List.mem_iff_getElem.1 hm
  have hi' : i < k := by simp at hi; omega
  rw [List.getElem_take] at he
  rw [List.nodup_iff_pairwise_ne, List.pairwise_iff_getElem] at hn
  exact hn i k (by omega) hk hi' he
theorem needLeft_at {X Y : List (List UInt8)} (hn : Y.Nodup) {k : Nat} (hk : k < Y.length) : needLeft X Y k Y[k] = !decide (Y[k] ∈ X) := by
  unfold needLeft
  simp [not_mem_take hn hk]
theorem rep_step3 {D : DataW Unit} {X Y : List (List UInt8)} {k : Nat} (h : Rep D (needLeft X Y k)) (hk : k < Y.length) (hy : Y[k].length = 32) : Rep (D.del (idK Y[k])) (needLeft X Y (k + 1)) := by
  refine (h.del hy).congr fun x => ?_
  unfold needLeft
  rw [Bool.eq_iff_iff, List.take_succ_eq_append_getElem hk]
  simp only [Bool.and_eq_true, Bool.not_eq_true', decide_eq_false_iff_not, decide_eq_true_eq, List.mem_append, List.mem_singleton, not_or]
  constructor
  · rintro ⟨h1, h2, h3⟩; exact ⟨h2, h3, h1⟩
  · rintro ⟨h1, h2, h3⟩; exact ⟨h3, h1, h2⟩
theorem rep_step3' {D : DataW Unit} {X Y : List (List UInt8)} {k : Nat} (h : Rep D (needLeft X Y k)) (hk : k < Y.length) (hy : Y[k] ∈ X) : Rep D (needLeft X Y (k + 1)) := by
  refine h.congr fun x => ?_
  unfold needLeft
  rw [Bool.eq_iff_iff, List.take_succ_eq_append_getElem hk]
  simp only [Bool.and_eq_true, Bool.not_eq_true', decide_eq_false_iff_not, decide_eq_true_eq, List.mem_append, List.mem_singleton, not_or]
  constructor
  · rintro ⟨h1, h2⟩; exact ⟨h1, h2, fun e => h1.2 (e ▸ hy)⟩
  · rintro ⟨h1, h2, h3⟩; exact ⟨h1, h2⟩

/-! ### the operations of that region that turn the world -/
section
variable {o : Oper} {a : Act} {w : World} {K : Act → World → Prop} {Q : Exit → Act → World → Prop}
theorem run_op_load30 (x : Operand) (ho : o.op = .load 30 x) {b off : Nat} {v : Value} (hx : a.eval x = .pointer (some ⟨b, off, none⟩)) (hc : w.cell? ⟨b, off, none⟩ = some v) : (execOp a.eval o).run Try.prog w = .ok (.value v) w := by
  have hagg : (isAgg 30).run Try.prog w = .ok false w := by kernel_rfl
  simp [execOp, ho, hx, Instr.loadAt, Instr.sureAddr, loadVar, hagg, hc]
theorem run_op_build1 (x : Operand) (ho : o.op = .buildSlice 30 1 #[(0, x)]) {id : List UInt8} (hl : id.length = 32) (hx : a.eval x = .agg (idV id)) :
    (execOp a.eval o).run Try.prog w = .ok (.value (.slice (some ⟨w.heap.size, 0, none⟩) 1 1)) (w.alloc (.cells (idV id) 23)) := by
  simp [execOp, ho, hx, run_buildSlice_id hl]
theorem wp_store30 (p x : Operand) (ho : o.op = .store 30 p x) {b off : Nat} {v u : Value} (hp : a.eval p = .pointer (some ⟨b, off, none⟩)) (hx : a.eval x = v) (hc : w.cell? ⟨b, off, none⟩ = some u) (hf : w.frozen? ⟨b, off, none⟩ = false)
    (h1 : v.oneCell' = true) (hs : v.cells.size = 1) (hs' : v.cells.toList = [v]) (hK : K (a.put o.dst undef) (w.setCell ⟨b, off, none⟩ v)) : o.wp Try.prog a w K Q := by
  refine wp_skip _ ?_ hK
  have hsz : (sizeOf 30).run Try.prog w = .ok 1 w := by kernel_rfl
  have hst : (store ⟨b, off, none⟩ v).run Try.prog w = .ok () (w.setCell ⟨b, off, none⟩ v) := by rw [run_store _ _ _ _ _ h1, hc]; simp [hf]
  simp [execOp, ho, hp, hx, Instr.storeAt, Instr.sureAddr, storeVar, hsz, hs, hs', storeCells, add_none, hst]
end
theorem idV_cells (W : World) {x : List UInt8} (hx : x.length = 32) : ∀ (j : Nat) (u : Value), (x.map fun b => Value.int .u8 (b.toNat : Int))[j]? = some u → (W.alloc (.cells (idV x) 23)).cell? ((⟨W.heap.size, 0, none⟩ : Addr).add j) = some u := by
  intro j u hu
  rw [add_none]
  rw [List.getElem?_map] at hu
  cases he : x[j]? with
  | none => rw [he] at hu; cases hu
  | some b => rw [he] at hu; cases hu; exact (idAt_new W hx 23).2 j b he
theorem slice_cells {w : World} {base n : Nat} {v : Value} {xs : List Value} (h : w.ownsRow base 23 32 v n xs) : v.cells.size = 1 ∧ v.cells.toList = [v] := by
  rcases h.2 with ⟨rfl, _⟩ | ⟨g, cap, cur, rfl, _⟩ <;> exact ⟨rfl, rfl⟩

end Go.Proofs.Qxb6619851a
