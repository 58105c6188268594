import Derived.Test.Qxb6619851aCmp5
namespace Go.Proofs.Qxb6619851a
open Go.RowKit

/-- The numbers of a []uint64. -/
def TsAt (w : World) (a : Option Addr) (T : List Int) : Prop :=
  ∀ (i : Nat) (t : Int), T[i]? = some t → ∃ b off, a = some ⟨b, off, none⟩ ∧ w.cell? ⟨b, off + i, none⟩ = some (.int .u64 t)

theorem IdsAt.len {w : World} {a : Option Addr} {X : List (List UInt8)} (h : IdsAt w a X) : ∀ x ∈ X, x.length = 32 := by
  intro x hx
  obtain ⟨i, hi⟩ := List.mem_iff_getElem?.1 hx
  obtain ⟨_, _, _, hd⟩ := h i x hi
  exact hd.1

/-! ### the row of items -/
theorem itemL_len {t : Int} {x : List UInt8} (h : x.length = 32) : (itemL t x).length = 33 := by simp [itemL, h]
theorem itemL_one (t : Int) (x : List UInt8) : ∀ u ∈ itemL t x, u.oneCell' = true := by
  intro u hu
  rcases List.mem_cons.1 hu with rfl | hu
  · rfl
  · exact oneCell_id x u hu

/-- The row behind the store of item k. -/
def putItem (cur : Array Value) (k : Nat) (t : Int) (x : List UInt8) : Array Value := (cur.toList.take (k * 33) ++ itemL t x ++ cur.toList.drop (k * 33 + 33)).toArray
theorem putItem_size {cur : Array Value} {k n : Nat} {t : Int} {x : List UInt8} (hx : x.length = 32) (hs : cur.size = n * 33) (hk : k < n) : (putItem cur k t x).size = n * 33 := by
  simp [putItem, itemL_len hx]
  omega
theorem putItem_new {cur : Array Value} {k n : Nat} {t : Int} {x : List UInt8} (hs : cur.size = n * 33) (hk : k < n) {j : Nat} {v : UInt8} (hj : x[j]? = some v) : (putItem cur k t x)[k * 33 + 1 + j]? = some (.int .u8 (v.toNat : Int)) := by
  have hjl : j < x.length := (List.getElem?_eq_some_iff.1 hj).1
  have hl : (cur.toList.take (k * 33)).length = k * 33 := by simp; omega
  simp only [putItem, List.getElem?_toArray]
  rw [List.append_assoc, List.getElem?_append_right (by rw [hl]; omega), hl, List.getElem?_append_left (by simp [itemL]; omega)]
  rw [show k * 33 + 1 + j - k * 33 = j + 1 by omega]
  simp [itemL, hj]
theorem putItem_old {cur : Array Value} {k n : Nat} {t : Int} {x : List UInt8} (hs : cur.size = n * 33) (hk : k < n) {i : Nat} (hi : i < k * 33) : (putItem cur k t x)[i]? = cur[i]? := by
  have hl : (cur.toList.take (k * 33)).length = k * 33 := by simp; omega
  simp only [putItem, List.getElem?_toArray]
  rw [List.append_assoc, List.getElem?_append_left (by rw [hl]; exact hi), List.getElem?_take, if_pos hi]
  simp

/-- The first k items lie in block I. -/
structure Filled (w : World) (I n k : Nat) (X : List (List UInt8)) : Prop where
  row : ∃ cur, w.heap[I]? = some (.cells cur 46 (0, 0)) ∧ cur.size = n * 33
  ids : ∀ (i : Nat) (x : List UInt8), i < k → X[i]? = some x → IdAt w I (i * 33 + 1) x

theorem info46b : (Try.prog.info? 46).map (·.size) = some 33 := by kernel_rfl
theorem run_storeAt_item (w : World) {I k n : Nat} {cur : Array Value} {t : Int} {x : List UInt8} (hx : x.length = 32) (hr : w.heap[I]? = some (.cells cur 46 (0, 0))) (hs : cur.size = n * 33) (hk : k < n) :
    (Instr.storeAt 46 (.pointer (some ⟨I, k * 33, none⟩)) (.agg (itemL t x).toArray)).run Try.prog w = .ok () (w.setRow I (putItem cur k t x)) := by
  have hst := run_storeCells_at Try.prog I (k * 33) 46 (itemL t x) 0 cur w hr (by rw [itemL_len hx]; omega) (itemL_one t x)
  simp only [Nat.add_zero, itemL_len hx] at hst
  cases hq : Try.prog.info? 46 with
  | none => have := info46b; rw [hq] at this; cases this
  | some i =>
    have hi : i.size = 33 := by have := info46b; rw [hq] at this; simpa using this
    have hsz : (itemL t x).toArray.size = 33 := by simp [itemL_len hx]
    simp [Instr.storeAt, Instr.sureAddr, storeVar, sizeOf, typeInfo, hq, Value.cells, hi, itemL_len hx, hst, putItem]

theorem filled_step {w : World} {I k n : Nat} {cur : Array Value} {t : Int} {x : List UInt8} {X : List (List UInt8)} (hx : x.length = 32) (hr : w.heap[I]? = some (.cells cur 46 (0, 0))) (hs : cur.size = n * 33) (hk : k < n)
    (hX : X[k]? = some x) (h : Filled w I n k X) : Filled (w.setRow I (putItem cur k t x)) I n (k + 1) X := by
  have hr' := setRow_heap w I cur (putItem cur k t x) 46 (0, 0) hr
  refine ⟨⟨_, hr', putItem_size hx hs hk⟩, fun i y hi hy => ?_⟩
  by_cases hik : i = k
  · subst hik
    rw [hX] at hy
    cases hy
    exact idAt_of_cells hr' hx (fun j v hv => putItem_new hs hk hv)
  · have hold := h.ids i y (by omega) hy
    refine idAt_of_cells hr' hold.1 (fun j v hv => ?_)
    have hj : j < 32 := by have := (List.getElem?_eq_some_iff.1 hv).1; have := hold.1; omega
    rw [putItem_old hs hk (by omega)]
    have := hold.2 j v hv
    rwa [cell_of_row w I _ _ _ _ hr] at this

theorem grown_setRow (w : World) (g : Nat) (cs : Array Value) : w.grownBy (w.setRow g cs) (some g) :=
  ⟨rfl, rfl, rfl, by simp, fun k _ hk => setRow_other w g k cs (fun e => hk (by rw [e]))⟩

theorem wpList_store_item {w : World} {ops : Array Oper} {rest : List Oper} {o : Oper} {a : Act} {Q : Exit → Act → World → Prop} (hg : o.guard = none) (p v : Operand) (ho : o.op = .store 46 p v)
    {I k n : Nat} {cur : Array Value} {t : Int} {x : List UInt8} (hx : x.length = 32) (hp : a.eval p = .pointer (some ⟨I, k * 33, none⟩)) (hv : a.eval v = .agg (itemL t x).toArray) (hr : w.heap[I]? = some (.cells cur 46 (0, 0))) (hs : cur.size = n * 33) (hk : k < n)
    (hK : wpList Try.prog ops Q rest (a.put o.dst undef) (w.setRow I (putItem cur k t x))) : wpList Try.prog ops Q (o :: rest) a w := by
  refine wpList_plain hg fun K' hK' => ?_
  unfold Oper.wp execOp
  simp only [ho, hp, hv, Sem.run_bind, run_storeAt_item w hx hr hs hk, Result.andThen_ok, Sem.run_pure]
  exact hK' _ _ hK

section
variable {o : Oper} {a : Act} {C : World → Prop} {K : Act → Prop}
theorem quiet_build_item (x y : Operand) (ho : o.op = .build 46 #[(0, x), (1, y)]) (t : Int) (id : List UInt8) (hx : a.eval x = .int .u64 t) (hy : a.eval y = .agg (idV id)) (hl : id.length = 32)
    (hk : K (a.put o.dst (.agg (itemL t id).toArray))) : o.quiet Try.prog a C K :=
  ⟨_, fun w _ => by unfold Oper.quietAt execOp; simp only [ho, List.map_toArray, List.map_cons, List.map_nil, hx, hy, Sem.run_bind, run_build_item t hl w, Result.andThen_ok, Sem.run_pure]; exact ⟨rfl, rfl⟩, hk⟩
end
theorem info46c : (Try.prog.info? 46).map (fun i => (i.zero, i.size, i.bytes)) = some (some (.agg (Array.mk (.int .u64 0 :: List.replicate 32 (.int .u8 0)))), 33, 40) := by kernel_rfl
end Go.Proofs.Qxb6619851a
