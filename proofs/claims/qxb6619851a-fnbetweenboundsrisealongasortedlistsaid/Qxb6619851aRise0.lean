import Derived.Test.Qxb6619851aSep1
set_option linter.unusedVariables false
namespace Go.Proofs.Qxb6619851a
open Go.RowKit

theorem run_index29 {b off n cap k : Nat} {K : Int} (hK : K = (k : Int)) (hk : k < n) (w : World) : (Instr.indexAt 29 (.slice (some ⟨b, off, none⟩) n cap) (.int .i64 K)).run Try.prog w = .ok (.pointer (some ⟨b, off + k, none⟩)) w := by
  subst hK
  cases hq : Try.prog.info? 22 with
  | none => have := size22; rw [hq] at this; cases this
  | some i =>
    have hs : i.size = 1 := by have := size22; rw [hq] at this; simpa using this
    simp [Instr.indexAt, asIntOf, run_underlying Try.underlying29, sizeOf, typeInfo, hq, hs, hk, add_none]
theorem run_index30 {b off n cap k : Nat} {K : Int} (hK : K = (k : Int)) (hk : k < n) (w : World) : (Instr.indexAt 30 (.slice (some ⟨b, off, none⟩) n cap) (.int .i64 K)).run Try.prog w = .ok (.pointer (some ⟨b, off + k * 32, none⟩)) w := by
  subst hK
  cases hq : Try.prog.info? 23 with
  | none => have := info23; rw [hq] at this; cases this
  | some i =>
    have hs : i.size = 32 := by have := info23; rw [hq] at this; simpa using this
    simp [Instr.indexAt, asIntOf, run_underlying Try.underlying30, sizeOf, typeInfo, hq, hs, hk, add_none]
section
variable {ops : Array Oper} {S : World → Prop} {o : Oper} {a : Act}
theorem yi_index29 {b off n cap k : Nat} {K : Int} (hg : o.guard = none) (x ix : Operand) (ho : o.op = .indexAddr 29 x ix)
    (hx : a.eval x = .slice (some ⟨b, off, none⟩) n cap) (hi : a.eval ix = .int .i64 K) (hK : K = (k : Int)) (hk : k < n) : YieldsIf Try.prog ops S o (.pointer (some ⟨b, off + k, none⟩)) a :=
  yi_run hg _ fun w _ => by simp [execOp, ho, hx, hi, run_index29 hK hk]
theorem yi_index30 {b off n cap k : Nat} {K : Int} (hg : o.guard = none) (x ix : Operand) (ho : o.op = .indexAddr 30 x ix)
    (hx : a.eval x = .slice (some ⟨b, off, none⟩) n cap) (hi : a.eval ix = .int .i64 K) (hK : K = (k : Int)) (hk : k < n) : YieldsIf Try.prog ops S o (.pointer (some ⟨b, off + k * 32, none⟩)) a :=
  yi_run hg _ fun w _ => by simp [execOp, ho, hx, hi, run_index30 hK hk]
theorem run_load22 {w : World} {b off : Nat} {t : Int} (h : w.cell? ⟨b, off, none⟩ = some (.int .u64 t)) : (Instr.loadAt 22 (.pointer (some ⟨b, off, none⟩))).run Try.prog w = .ok (.int .u64 t) w := by
  simp [Instr.loadAt, Instr.sureAddr, loadVar, isAgg, run_underlying Try.underlying22, h]
theorem yi_load22 {b off : Nat} {t : Int} (hg : o.guard = none) (x : Operand) (ho : o.op = .load 22 x)
    (hx : a.eval x = .pointer (some ⟨b, off, none⟩)) (hS : ∀ w, S w → w.cell? ⟨b, off, none⟩ = some (.int .u64 t)) : YieldsIf Try.prog ops S o (.int .u64 t) a :=
  yi_run hg _ fun w hw => by simp [execOp, ho, hx, run_load22 (hS w hw)]
theorem run_add1 {w : World} {k : Nat} (hk : k ≤ 4096) : (binOp .add 3 (.int .i64 (k : Int)) (.int .i64 1)).run Try.prog w = .ok (.int .i64 ((k : Int) + 1)) w := by
  simp [binOp, go_sem]
  simp [IntKind.wrap, IntKind.bits, IntKind.signed]
  omega
theorem yi_add1 {k : Nat} (hg : o.guard = none) (x : Operand) (ho : o.op = .binOp .add 3 x (.const (.int .i64 1)) 3)
    (hx : a.eval x = .int .i64 (k : Int)) (hk : k ≤ 4096) : YieldsIf Try.prog ops S o (.int .i64 ((k : Int) + 1)) a :=
  yi_run hg _ fun w hw => by
    have e : a.eval (.const (.int .i64 1)) = .int .i64 1 := rfl
    simp [execOp, ho, hx, eqGuard, e, run_add1 hk]
theorem wp_call {P : Program} {K : Act → World → Prop} {Q : Exit → Act → World → Prop} {w : World} {f : FuncId} {args : Array Value} (h : (execOp a.eval o).run P w = .ok (.enter f args) w)
    {R : Value → World → Prop} (hc : Calls P f args w fun e w' => ∃ v, e = .returned v ∧ R v w') (hK : ∀ v w', R v w' → K (a.put o.dst v) w') : o.wp P a w K Q := by
  unfold Oper.wp
  rw [h]
  unfold Oper.upon
  refine hc.mono ?_
  rintro e w' ⟨v, rfl, hR⟩
  exact hK v w' hR
end
end Go.Proofs.Qxb6619851a
