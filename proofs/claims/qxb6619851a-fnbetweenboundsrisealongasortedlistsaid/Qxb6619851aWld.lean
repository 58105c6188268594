import Derived.Test.Qxb6619851aOps
import Derived.Maps.Range
import Derived.Maps.AppendAt
import Derived.Maps.Views
namespace Go.Proofs.Qxb6619851a
open Go.RowKit

/-! ### the set of ids in the map -/
/-- The map reads as the set p. -/
def Rep (D : DataW Unit) (p : List UInt8 → Bool) : Prop := ∀ x : List UInt8, x.length = 32 → D.atKey (idK x) (.lit (.bool false)) = .lit (.bool (p x))

theorem isKeyLit_id (x : List UInt8) : WideAt.IsKeyLit (idK x) := by unfold idK; trivial

theorem rep_empty : Rep (.map []) (fun _ => false) := fun _ _ => rfl
theorem Rep.put {D : DataW Unit} {p : List UInt8 → Bool} (h : Rep D p) (hD : Maps.IsMap D) {y : List UInt8} (hy : y.length = 32) :
    Rep (D.put (idK y) (.lit (.bool true))) (fun x => decide (x = y) || p x) := by
  intro x hx
  by_cases he : x = y
  · subst he
    rw [Maps.atKey_put_same hD (isKeyLit_id x)]
    simp
  · rw [Maps.atKey_put_other (fun e => he (idK_inj hx hy e)), h x hx]
    simp [he]
theorem Rep.del {D : DataW Unit} {p : List UInt8 → Bool} (h : Rep D p) {y : List UInt8} (hy : y.length = 32) :
    Rep (D.del (idK y)) (fun x => !decide (x = y) && p x) := by
  intro x hx
  by_cases he : x = y
  · subst he
    rw [Maps.atKey_del_same]
    simp
  · rw [Maps.atKey_del_other (fun e => he (idK_inj hx hy e)), h x hx]
    simp [he]
theorem Rep.congr {D : DataW Unit} {p q : List UInt8 → Bool} (h : Rep D p) (hpq : ∀ x, p x = q x) : Rep D q := fun x hx => by rw [h x hx, hpq]

/-! ### a look-up in a map of bools that the call made -/
theorem zero4 (w : World) : (zeroValue 4).run Try.prog w = .ok (.bool false) w := by kernel_rfl

theorem plainElem_bool_inv {v : Value} {z : DataW Unit × List MemPlace} (h : plainElem Try.prog 4 v = some z) : ∃ b, v = .bool b ∧ z = (.lit (.bool b), []) := by
  unfold plainElem at h
  rw [Try.underlying4] at h
  cases v <;> simp at h
  exact ⟨_, rfl, h.symm⟩

theorem lookup_id {w : World} {b n : Nat} {D : DataW Unit} {p : List UInt8 → Bool} (h : w.ownsMap Try.prog 23 (plainElem Try.prog 4) b n D) (hr : Rep D p) {x : List UInt8} (hx : x.length = 32) :
    (Instr.lookup 55 (.map (some b)) (.agg (idV x)) false).run Try.prog w = .ok (.bool (p x)) w := by
  obtain ⟨v, ps, hrun, hv⟩ := h.lookup Try.keyed23 Try.underlying55 (zero4 w) (plainElem_bool Try.underlying4 false) (keyOf_id hx)
  obtain ⟨c, rfl, hc⟩ := plainElem_bool_inv hv
  simp only [Prod.mk.injEq] at hc
  rw [hr x hx] at hc
  have : p x = c := by simpa using hc.1
  rw [hrun, this]

theorem wpList_lookup_id {w : World} {ops : Array Oper} {rest : List Oper} {o : Oper} {a : Act} {Q : Exit → Act → World → Prop}
    (hg : o.guard = none) (m k : Operand) (hop : o.op = Op.lookup 55 m k false) {b n : Nat} {D : DataW Unit} {p : List UInt8 → Bool} (h : w.ownsMap Try.prog 23 (plainElem Try.prog 4) b n D) (hr : Rep D p)
    (x : List UInt8) (hx : x.length = 32) (hm : a.eval m = .map (some b)) (hk : a.eval k = .agg (idV x))
    (hK : wpList Try.prog ops Q rest (a.put o.dst (.bool (p x))) w) : wpList Try.prog ops Q (o :: rest) a w := by
  refine wpList_plain hg fun K' hK' => ?_
  unfold Oper.wp
  simp [execOp, hop, hm, hk, lookup_id h hr hx, Result.andThen]
  exact hK' _ _ hK

/-! ### the laws at an operation of a plain region -/
theorem wpList_load_id {w : World} {ops : Array Oper} {rest : List Oper} {o : Oper} {a : Act} {Q : Exit → Act → World → Prop}
    (hg : o.guard = none) (x : Operand) (ho : o.op = .load 23 x) (b off : Nat) (hx : a.eval x = .pointer (some ⟨b, off, none⟩)) (id : List UInt8) (h : IdAt w b off id)
    (hK : wpList Try.prog ops Q rest (a.put o.dst (.agg (idV id))) w) : wpList Try.prog ops Q (o :: rest) a w := by
  refine wpList_plain hg fun K' hK' => ?_
  unfold Oper.wp execOp
  simp only [ho, hx, Sem.run_bind, run_loadAt_id h, Result.andThen_ok, Sem.run_pure]
  exact hK' _ _ hK

theorem oneCell_id (x : List UInt8) : ∀ u ∈ (x.map fun b => Value.int .u8 (b.toNat : Int)), u.oneCell' = true := by
  intro u hu
  obtain ⟨b, _, rfl⟩ := List.mem_map.1 hu
  rfl

theorem info23b : (Try.prog.info? 23).map (fun i => (i.zero, i.size, i.bytes)) = some (some (.agg (Array.replicate 32 (.int .u8 0))), 32, 32) := by kernel_rfl

/-! ### a row of ids that the call owns -/
/-- The cells of the ids of L, one behind the other. -/
def flat (L : List (List UInt8)) : List Value := L.flatMap fun x => x.map fun b => Value.int .u8 (b.toNat : Int)

theorem flat_snoc (L : List (List UInt8)) (x : List UInt8) : flat (L ++ [x]) = flat L ++ x.map fun b => Value.int .u8 (b.toNat : Int) := by simp [flat]

theorem flat_get {L : List (List UInt8)} (hL : ∀ x ∈ L, x.length = 32) {i : Nat} {x : List UInt8} (hi : L[i]? = some x) {j : Nat} {v : UInt8} (hj : x[j]? = some v) : (flat L)[i * 32 + j]? = some (.int .u8 (v.toNat : Int)) := by
  induction L generalizing i with
  | nil => simp at hi
  | cons y L ih =>
    have hy : y.length = 32 := hL y (by simp)
    have e : flat (y :: L) = (y.map fun b => Value.int .u8 (b.toNat : Int)) ++ flat L := by simp [flat]
    rw [e]
    cases i with
    | zero =>
      simp at hi
      subst hi
      have hjl : j < y.length := (List.getElem?_eq_some_iff.1 hj).1
      rw [Nat.zero_mul, Nat.zero_add, List.getElem?_append_left (by simpa using hjl), List.getElem?_map, hj]
      rfl
    | succ i =>
      have hi' : L[i]? = some x := by simpa using hi
      rw [List.getElem?_append_right (by simp [hy]; omega)]
      have e2 : (i + 1) * 32 + j - (y.map fun b => Value.int .u8 (b.toNat : Int)).length = i * 32 + j := by simp [hy]; omega
      rw [e2]
      exact ih (fun x hx => hL x (by simp [hx])) hi'

/-- What the call owns, as a slice of ids. -/
theorem idsAt_of_own {w : World} {base n : Nat} {v : Value} {L : List (List UInt8)} (hL : ∀ x ∈ L, x.length = 32) (h : w.ownsRow base 23 32 v n (flat L)) (hn : n = L.length) :
    ∃ a cap, v = .slice a L.length cap ∧ IdsAt w a L := by
  rcases h.2 with ⟨rfl, rfl⟩ | ⟨g, cap, cur, rfl, hb, hg, hnc, hcm, hcs, htake⟩
  · have : L = [] := List.eq_nil_of_length_eq_zero hn.symm
    subst this
    exact ⟨none, 0, rfl, fun i x hx => by simp at hx⟩
  · subst hn
    refine ⟨some ⟨g, 0, none⟩, cap, rfl, fun i x hx => ⟨g, 0, rfl, ?_⟩⟩
    have hil : i < L.length := (List.getElem?_eq_some_iff.1 hx).1
    refine ⟨hL x (List.mem_of_getElem? hx), fun j u hu => ?_⟩
    have hj : j < 32 := by have := (List.getElem?_eq_some_iff.1 hu).1; have := hL x (List.mem_of_getElem? hx); omega
    have := h.cellAt (i * 32 + j) (by omega)
    rw [Nat.zero_add, this]
    exact flat_get hL hx hu

end Go.Proofs.Qxb6619851a
