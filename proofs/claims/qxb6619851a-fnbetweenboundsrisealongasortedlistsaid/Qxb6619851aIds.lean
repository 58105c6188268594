import Derived.Test.Qxb6619851aRows
import Derived.WalkKit
import Derived.WalkLawsBesides
import Derived.WalkSpells
import Derived.BigQuiet
import Derived.Laws.CopyOwn
import Derived.Outline
import Derived.DeepKeys4
import Derived.Maps.OwnSet
import Derived.Deep.Slices
namespace Go.Proofs.Qxb6619851a
open Go.RowKit

/-- The 32 cells of an id. -/
def idV (x : List UInt8) : Array Value := (x.map fun b => Value.int .u8 (b.toNat : Int)).toArray

/-- The cells of block b from o on hold the id x. -/
def IdAt (w : World) (b o : Nat) (x : List UInt8) : Prop :=
  x.length = 32 ∧ ∀ (j : Nat) (v : UInt8), x[j]? = some v → w.cell? ⟨b, o + j, none⟩ = some (.int .u8 (v.toNat : Int))

theorem add_none (b o j : Nat) : (⟨b, o, none⟩ : Addr).add j = ⟨b, o + j, none⟩ := by unfold Addr.add; split <;> simp_all

theorem info23 : (Try.prog.info? 23).map (·.size) = some 32 := by kernel_rfl

theorem run_loadVar_id {w : World} {b o : Nat} {x : List UInt8} (h : IdAt w b o x) :
    (loadVar 23 ⟨b, o, none⟩).run Try.prog w = .ok (.agg (idV x)) w := by
  obtain ⟨hl, hc⟩ := h
  have hcs : ∀ (j : Nat) (v : Value), (x.map fun b => Value.int .u8 (b.toNat : Int))[j]? = some v → w.cell? ((⟨b, o, none⟩ : Addr).add j) = some v := by
    intro j v hv
    rw [add_none]
    rw [List.getElem?_map] at hv
    cases hx : x[j]? with
    | none => rw [hx] at hv; cases hv
    | some u => rw [hx] at hv; cases hv; exact hc j u hx
  have hl2 := run_loadCells_list (P := Try.prog) w ⟨b, o, none⟩ _ hcs
  have hlen : (x.map fun b => Value.int .u8 (b.toNat : Int)).length = 32 := by simpa using hl
  rw [hlen] at hl2
  cases hq : Try.prog.info? 23 with
  | none => have := info23; rw [hq] at this; cases this
  | some i =>
    have hs : i.size = 32 := by have := info23; rw [hq] at this; simpa using this
    have hagg : (isAgg 23).run Try.prog w = .ok true w := by
      unfold isAgg
      rw [Sem.run_bind, run_underlying Try.underlying23 w]
      rfl
    simp [loadVar, Sem.run_bind, hagg, sizeOf, typeInfo, hq, hs, hl2, idV]

theorem run_loadAt_id {w : World} {b o : Nat} {x : List UInt8} (h : IdAt w b o x) :
    (Instr.loadAt 23 (.pointer (some ⟨b, o, none⟩))).run Try.prog w = .ok (.agg (idV x)) w := by
  simp only [Instr.loadAt, Instr.sureAddr, Sem.run_bind, Sem.run_pure, Result.andThen_ok, run_loadVar_id h]

theorem idV_inj {x y : List UInt8} (h : idV x = idV y) : x = y := by
  unfold idV at h
  have h1 := congrArg Array.toList h
  simp only at h1
  have h2 := congrArg (List.map fun v => match v with | Value.int _ n => UInt8.ofNat n.toNat | _ => 0) h1
  simpa [Function.comp_def] using h2

/-! ### an id as a map's key; '==' between two ids -/
theorem Try.laidOut : laidOutB Try.prog = true := by kernel_rfl
theorem Try.row23 : 23 < Try.prog.types.size := of_decide_eq_true (by kernel_rfl)
theorem Try.wide23 : (match Try.prog.underlying 23 with | some (.array _ _) | some (.struct _) => true | _ => false) = true := by kernel_rfl
theorem Try.law23 : WideMaps.KeyLaw Try.prog 23 := deep_law_laid Try.laidOut (m := 2) (by omega) Try.row23 (by kernel_rfl) Try.wide23
theorem Try.keyed23 : Maps.Keyed Try.prog 23 := Maps.Keyed.of_law Try.law23
theorem Try.cells23 : Try.prog.cellsOf 23 = 32 := by kernel_rfl
theorem Try.cells5 : Try.prog.cellsOf 5 = 1 := by kernel_rfl
theorem Try.keyType23 : Try.prog.keyType 23 = true := by kernel_rfl
theorem Try.keyTypeAt23 : Try.prog.keyTypeAt 2 23 = true := by kernel_rfl

/-- The id as a key's datum. -/
def idK (x : List UInt8) : Lit := .string (keyBytes (x.map fun b => Lit.int .u8 (b.toNat : Int)))

theorem keyOf_id {x : List UInt8} (h : x.length = 32) : keyOf Try.prog 23 (.agg (idV x)) = some (idK x) := by
  have hs : (idV x).size = 32 := by simp [idV, h]
  have hsz : ∃ d, Try.prog.types.size + 1 = d + 2 := ⟨Try.prog.types.size - 1, by have := Try.row23; omega⟩
  obtain ⟨d, hd⟩ := hsz
  have hf : (Value.agg (idV x)).formed Try.prog 23 = true := by simp [Value.formed, Try.underlying23, hs, Try.cells23]
  have one : ∀ i, i < 32 → Try.prog.keyLits (d + 1) 5 (((Value.agg (idV x)).cells.toList.drop (i * Try.prog.cellsOf 5)).take (Try.prog.cellsOf 5)) = some [Lit.int .u8 ((x.getD i 0).toNat : Int)] := by
    intro i hi
    have e : ((Value.agg (idV x)).cells.toList.drop (i * Try.prog.cellsOf 5)).take (Try.prog.cellsOf 5) = [Value.int .u8 ((x.getD i 0).toNat : Int)] := by
      rw [Try.cells5, Nat.mul_one]
      have hl : i < (Value.agg (idV x)).cells.toList.length := by simp [Value.cells, hs]; exact hi
      rw [List.drop_eq_getElem_cons hl]
      simp [Value.cells, idV, List.getD, List.getElem?_eq_getElem (show i < x.length by omega)]
    rw [e]
    have hw : (Lit.int .u8 ((x.getD i 0).toNat : Int)).wf = true := by
      have := UInt8.toNat_lt (x.getD i 0)
      exact WalkArith.wf_u8 (by omega)
    simp only [Program.keyLits, Try.underlying5, hw, and_self, if_true]
  have hL : Try.prog.keyLits (d + 2) 23 (Value.agg (idV x)).cells.toList = some (x.map fun b => Lit.int .u8 (b.toNat : Int)) := by
    have hl : (Value.agg (idV x)).cells.toList.length = Try.prog.cellsOf 23 := by simp [Value.cells, hs, Try.cells23]
    unfold Program.keyLits
    simp only [Try.underlying23]
    rw [if_pos hl, ChangeShapes.mapM_range_of 32 one, Option.map_some]
    congr 1
    rw [Deep.map_by_index x 0, h, ← List.flatMap_def]
    generalize List.range 32 = l
    induction l with
    | nil => rfl
    | cons i r ih => rw [List.flatMap_cons, ih]; rfl
  simp only [keyOf, Try.underlying23, Try.keyType23, hf, Bool.and_self, if_true, hd, hL, Option.map_some, idK]

theorem idK_inj {x y : List UInt8} (hx : x.length = 32) (hy : y.length = 32) (h : idK x = idK y) : x = y := by
  have h1 := keyOf_id hx
  have h2 := keyOf_id hy
  rw [← h] at h2
  have := Try.keyed23.inj h1 h2
  exact idV_inj (by simpa using this)

theorem run_equal_id (w : World) {x y : List UInt8} (hx : x.length = 32) (hy : y.length = 32) : (Op.equal 23 (.agg (idV x)) (.agg (idV y))).run Try.prog w = .ok (decide (x = y)) w := by
  obtain ⟨r, hr, hiff⟩ := run_equal_deep (P := Try.prog) w (m := 2) (by omega) Try.keyTypeAt23 Try.wide23 (keyOf_id hx) (keyOf_id hy)
  rw [hr]
  congr 1
  rw [Bool.eq_iff_iff, hiff, decide_eq_true_iff]
  exact ⟨fun e => idK_inj hx hy e, fun e => by rw [e]⟩

theorem run_eql_id (w : World) {x y : List UInt8} (hx : x.length = 32) (hy : y.length = 32) : (binOp .eql 23 (.agg (idV x)) (.agg (idV y))).run Try.prog w = .ok (.bool (decide (x = y))) w := by
  simp only [binOp]
  simp [run_equal_id w hx hy]

theorem run_neq_id (w : World) {x y : List UInt8} (hx : x.length = 32) (hy : y.length = 32) : (binOp .neq 23 (.agg (idV x)) (.agg (idV y))).run Try.prog w = .ok (.bool (!decide (x = y))) w := by
  simp only [binOp]
  simp [run_equal_id w hx hy]

theorem eqGuard23 : Try.prog.eqGuardType Try.prog.depth 23 = false := by kernel_rfl

/-! ### the two operations, in a region that only reads -/
section
variable {o : Oper} {a : Act} {C : World → Prop} {K : Act → Prop}
theorem quiet_load_id (x : Operand) (ho : o.op = .load 23 x) (b off : Nat) (hx : a.eval x = .pointer (some ⟨b, off, none⟩)) (id : List UInt8) (hC : ∀ w, C w → IdAt w b off id)
    (hk : K (a.put o.dst (.agg (idV id)))) : o.quiet Try.prog a C K :=
  ⟨_, fun w hw => by unfold Oper.quietAt execOp; simp only [ho, hx, Sem.run_bind, run_loadAt_id (hC w hw), Result.andThen_ok, Sem.run_pure]; exact ⟨rfl, rfl⟩, hk⟩
theorem quiet_eql_id (x y : Operand) (ty : TypeId) (ho : o.op = .binOp .eql 23 x y ty) (p q : List UInt8) (hx : a.eval x = .agg (idV p)) (hy : a.eval y = .agg (idV q)) (hp : p.length = 32) (hq : q.length = 32)
    (hk : K (a.put o.dst (.bool (decide (p = q))))) : o.quiet Try.prog a C K :=
  ⟨_, fun w _ => by unfold Oper.quietAt execOp; simp only [ho, hx, hy, Sem.run_bind, run_eqGuard_agg w _ _ _ _ _ _ eqGuard23, run_eql_id w hp hq, Result.andThen_ok, Sem.run_pure]; exact ⟨rfl, rfl⟩, hk⟩
theorem quiet_neq_id (x y : Operand) (ty : TypeId) (ho : o.op = .binOp .neq 23 x y ty) (p q : List UInt8) (hx : a.eval x = .agg (idV p)) (hy : a.eval y = .agg (idV q)) (hp : p.length = 32) (hq : q.length = 32)
    (hk : K (a.put o.dst (.bool (!decide (p = q))))) : o.quiet Try.prog a C K :=
  ⟨_, fun w _ => by unfold Oper.quietAt execOp; simp only [ho, hx, hy, Sem.run_bind, run_eqGuard_agg w _ _ _ _ _ _ eqGuard23, run_neq_id w hp hq, Result.andThen_ok, Sem.run_pure]; exact ⟨rfl, rfl⟩, hk⟩
end

/-! ### a slice of ids -/
/-- The slice's elements, from its address on, are the ids X. -/
def IdsAt (w : World) (a : Option Addr) (X : List (List UInt8)) : Prop :=
  ∀ (i : Nat) (x : List UInt8), X[i]? = some x → ∃ b off, a = some ⟨b, off, none⟩ ∧ IdAt w b (off + i * 32) x

theorem IdAt.drewN {w : World} {b o : Nat} {x : List UInt8} (h : IdAt w b o x) (n : Nat) : IdAt (w.drewN n) b o x :=
  ⟨h.1, fun j v hv => by simpa using h.2 j v hv⟩

end Go.Proofs.Qxb6619851a
