import Derived.Test.Qxb6619851aCmp7
namespace Go.Proofs.Qxb6619851a
open Go.RowKit

/-! ### 'copy' over the whole of a row that the call has just made, elements of any size -/
theorem run_copy_whole {P : Program} (w : World) (dT sT ty elem : TypeId) (g n dCap size : Nat) (a : Addr) (sCap : Nat) (cur : Array Value) (t : TypeId) (cs : List Value)
    (hu : P.underlying dT = some (.slice elem)) (hs : (P.info? elem).map (·.size) = some size)
    (hg : w.heap[g]? = some (.cells cur t (0, 0))) (hn : cs.length = n * size) (hc : cur.size = n * size)
    (hsrc : ∀ j v, cs[j]? = some v → w.cell? (a.add j) = some v) (h1 : ∀ v ∈ cs, v.oneCell' = true) :
    (Builtin.copy_ #[dT, sT] ty #[.slice (some ⟨g, 0, none⟩) n dCap, .slice (some a) n sCap]).run P w = .ok (goInt n) (w.setRow g cs.toArray) := by
  have hl := run_loadCells_list (P := P) w a cs hsrc
  have hst := run_storeCells_at P g 0 t cs 0 cur w hg (by omega) h1
  have hd : cur.toList.drop cs.length = [] := List.drop_eq_nil_of_le (by simp; omega)
  simp only [Nat.add_zero, Nat.zero_add, List.take_zero, List.nil_append, hd, List.append_nil] at hst
  cases hq : P.info? elem with
  | none => simp [hq] at hs
  | some i =>
    have hi : i.size = size := by simpa [hq] using hs
    rw [hn] at hl
    simp [Builtin.copy_, run_underlying hu, Builtin.lenOf, Builtin.firstCells, sizeOf, typeInfo, hq, hi, hl, hst]

theorem wpList_copy_whole {P : Program} {w : World} {ops : Array Oper} {rest : List Oper} {o : Oper} {a : Act} {Q : Exit → Act → World → Prop} (hgd : o.guard = none) (d s : Operand) (dT sT : TypeId)
    (ho : o.op = .call { callee := .builtin .copy, args := #[d, s], argTypes := #[dT, sT] }) (elem : TypeId) (size : Nat) (hu : P.underlying dT = some (.slice elem)) (hs : (P.info? elem).map (·.size) = some size)
    {g n dCap : Nat} {ad : Addr} {sCap : Nat} (hd : a.eval d = .slice (some ⟨g, 0, none⟩) n dCap) (hx : a.eval s = .slice (some ad) n sCap)
    (cur : Array Value) {t : TypeId} (hg : w.heap[g]? = some (.cells cur t (0, 0))) (cs : List Value) (hn : cs.length = n * size) (hc : cur.size = n * size)
    (hsrc : ∀ j v, cs[j]? = some v → w.cell? (ad.add j) = some v) (h1 : ∀ v ∈ cs, v.oneCell' = true)
    (h : wpList P ops Q rest (a.put o.dst (goInt n)) (w.setRow g cs.toArray)) : wpList P ops Q (o :: rest) a w := by
  refine wpList_plain hgd fun K hK => ?_
  have hrun := run_copy_whole (P := P) w dT sT o.type elem g n dCap size ad sCap cur t cs hu hs hg hn hc hsrc h1
  unfold Oper.wp
  simp [execOp, ho, resolve, invoke, builtin, hd, hx, hrun, Result.andThen]
  exact hK _ _ h

/-! ### the two kinds of rows -/
theorem ts_new {w : World} {g : Nat} {T : List Int} {t : TypeId} (h : w.heap[g]? = some (.cells (T.map (Value.int .u64)).toArray t (0, 0))) : TsAt w (some ⟨g, 0, none⟩) T := by
  intro i v hv
  refine ⟨g, 0, rfl, ?_⟩
  rw [cell_of_row w g _ _ _ _ h]
  simp [hv]
theorem ts_src {w : World} {ad : Addr} {T : List Int} (h : TsAt w (some ad) T) : ∀ (j : Nat) (v : Value), (T.map (Value.int .u64))[j]? = some v → w.cell? (ad.add j) = some v := by
  intro j v hv
  rw [List.getElem?_map] at hv
  cases ht : T[j]? with
  | none => rw [ht] at hv; cases hv
  | some t =>
    rw [ht] at hv
    cases hv
    obtain ⟨b, off, ha, hc⟩ := h j t ht
    cases ha
    rw [add_none]
    exact hc
theorem ts_one (T : List Int) : ∀ v ∈ T.map (Value.int .u64), v.oneCell' = true := by
  intro v hv
  obtain ⟨t, _, rfl⟩ := List.mem_map.1 hv
  rfl
theorem TsAt.below {w w' : World} {a : Option Addr} {T : List Int} (h : TsAt w a T) (hB : Below w.heap.size w w') : TsAt w' a T := by
  intro i t ht
  obtain ⟨b, off, ha, hc⟩ := h i t ht
  exact ⟨b, off, ha, (hB.cell (p := ⟨b, off + i, none⟩) (block_lt_of_cell hc)).trans hc⟩

theorem flat_len {L : List (List UInt8)} (hL : ∀ x ∈ L, x.length = 32) : (flat L).length = L.length * 32 := by
  induction L with
  | nil => rfl
  | cons y L ih =>
    have e : flat (y :: L) = (y.map fun b => Value.int .u8 (b.toNat : Int)) ++ flat L := by simp [flat]
    rw [e, List.length_append, ih (fun x hx => hL x (by simp [hx])), List.length_map, hL y (by simp), List.length_cons]
    omega
theorem flat_one (L : List (List UInt8)) : ∀ v ∈ flat L, v.oneCell' = true := by
  intro v hv
  obtain ⟨x, _, hx⟩ := List.mem_flatMap.1 hv
  exact oneCell_id x v hx
theorem ids_new {w : World} {g : Nat} {X : List (List UInt8)} {t : TypeId} (hL : ∀ x ∈ X, x.length = 32) (h : w.heap[g]? = some (.cells (flat X).toArray t (0, 0))) : IdsAt w (some ⟨g, 0, none⟩) X := by
  intro i x hx
  refine ⟨g, 0, rfl, idAt_of_cells h (hL x (List.mem_of_getElem? hx)) (fun j v hv => ?_)⟩
  rw [Nat.zero_add, List.getElem?_toArray]
  exact flat_get hL hx hv
theorem ids_src {w : World} {ad : Addr} {X : List (List UInt8)} (h : IdsAt w (some ad) X) : ∀ (j : Nat) (v : Value), (flat X)[j]? = some v → w.cell? (ad.add j) = some v := by
  intro j v hv
  have hL := h.len
  have hj : j < X.length * 32 := by rw [← flat_len hL]; exact (List.getElem?_eq_some_iff.1 hv).1
  have hi : j / 32 < X.length := by omega
  have e1 : X[j / 32]? = some X[j / 32] := List.getElem?_eq_getElem hi
  have hl : X[j / 32].length = 32 := hL _ (List.getElem_mem hi)
  have e2 : X[j / 32][j % 32]? = some (X[j / 32][j % 32]'(by omega)) := List.getElem?_eq_getElem (by omega)
  obtain ⟨b, off, ha, hd⟩ := h _ _ e1
  cases ha
  have e3 := flat_get hL e1 e2
  rw [show j / 32 * 32 + j % 32 = j by omega, hv] at e3
  rw [Option.some.inj e3, add_none, show off + j = off + j / 32 * 32 + j % 32 by omega]
  exact hd.2 _ _ e2

theorem made_row {w : World} {base e size g n : Nat} {xs : List Value} (h : w.ownsRow base e size (.slice (some ⟨g, 0, none⟩) n n) n xs) : ∃ cur, w.heap[g]? = some (.cells cur e (0, 0)) ∧ cur.size = n * size := by
  rcases h.2 with ⟨h, _⟩ | ⟨g', cap, cur, h, _, hg, _, _, hs, _⟩
  · simp at h
  · simp at h
    obtain ⟨rfl, rfl⟩ := h
    exact ⟨cur, hg, hs⟩
theorem below_grown {w w' : World} (h : w.grownBy w' none) : Below w.heap.size w w' := (Below.refl _ _).grown h (Nat.le_refl _) (by simp)
theorem below_row {w w1 : World} (h : w.grownBy w1 none) (cs : Array Value) : Below w.heap.size w (w1.setRow w.heap.size cs) := below_setRow (below_grown h) (Nat.le_refl _) cs

theorem info22 : (Try.prog.info? 22).map (fun i => (i.zero, i.size, i.bytes)) = some (some (.int .u64 0), 1, 8) := by kernel_rfl
theorem size22 : (Try.prog.info? 22).map (·.size) = some 1 := by kernel_rfl
end Go.Proofs.Qxb6619851a
