import Derived.Test.Qxb6623325aTr1
import Derived.Test.Qxb6623325aTr2
import Derived.WalkLawsBesides
import Derived.WalkSpells
import Derived.BigFrame
import Derived.Outline
import Derived.Maps.OwnOps
import Derived.BigQuiet
import Derived.Deep.WholeRow
import Derived.Laws.CopyOwn
set_option linter.unusedVariables false
namespace Go.Proofs.Qxb6623325a
open Go.RowKit

theorem below_drewN {B : Nat} {a w : World} (h : Below B a w) (n : Nat) : Below B a (w.drewN n) := ⟨h.os, h.tape, h.output, h.size, h.block⟩
theorem info31 : (Try.prog.info? 31).map (·.size) = some 2 := by kernel_rfl
theorem wpList_store31 {w : World} {ops : Array Oper} {rest : List Oper} {o : Oper} {a : Act} {Q : Exit → Act → World → Prop}
    (hg : o.guard = none) (p v : Operand) (ho : o.op = .store 31 p v) (b : Nat) (hp : a.eval p = .pointer (some ⟨b, 0, none⟩)) (u1 u2 : Value) (x y : Int) (h : w.heap[b]? = some (.cells #[u1, u2] 31 (0, 0)))
    (hv : a.eval v = .agg #[.int .u64 x, .int .u64 y]) (hK : wpList Try.prog ops Q rest (a.put o.dst undef) (w.setRow b #[.int .u64 x, .int .u64 y])) : wpList Try.prog ops Q (o :: rest) a w := by
  refine wpList_plain hg fun K' hK' => ?_
  have hl := run_storeVar_row (P := Try.prog) w b 31 31 #[u1, u2] #[.int .u64 x, .int .u64 y] h (by rw [info31]; rfl) rfl (by kernel_rfl)
  unfold Oper.wp execOp
  simp only [ho, hp, hv, Instr.storeAt, Instr.sureAddr, Sem.run_bind, hl, Result.andThen_ok, Sem.run_pure]
  exact hK' _ _ hK
theorem results8 {tm : Array Value} {w : World} {g : Nat} {v : Value} (h6 : tm.getD 6 undef = .pointer (some ⟨g, 0, none⟩)) (hl : (loadVar 31 ⟨g, 0, none⟩).run Try.prog w = .ok v w) : (results Try.f8 tm).run Try.prog w = .ok v w := by
  unfold results
  rw [Try.results8]
  have e : (asAddr (tm.getD 6 undef)).run Try.prog w = .ok ⟨g, 0, none⟩ w := by rw [h6]; rfl
  have e' : (asAddr (tm[6]?.getD undef)).run Try.prog w = .ok ⟨g, 0, none⟩ w := by simpa using e
  simp [Sem.run_bind, e', hl]

/-- What a call on two words hands back. -/
def Gives (f : FuncId) (h l : Int) (n : Nat) (x y : Int) : Prop := ∀ w, Calls Try.prog f #[.agg #[.int .u64 h, .int .u64 l], .int .u64 (n : Int)] w fun e w' => e = .returned (.agg #[.int .u64 x, .int .u64 y]) ∧ Below w.heap.size w w'

theorem row_two (w : World) (A B : Obj) : ((w.alloc A).alloc B).heap[w.heap.size + 1]? = some B := by
  show ((w.heap.push A).push B)[w.heap.size + 1]? = some B
  simp [Array.getElem_push]

set_option maxRecDepth 100000 in
theorem trunc_s (h l : Int) (wd n : Nat) (hw : wd < 128) (hn : n + wd = 128) (x1 x2 y1 y2 : Int) (g1 : Gives 9 h l n x1 x2) (g2 : Gives 10 x1 x2 n y1 y2) (w : World) :
    Calls Try.prog 8 #[.agg #[.int .u64 h, .int .u64 l], .int .u64 (wd : Int), .bool true] w fun e w' => e = .returned (.agg #[.int .u64 y1, .int .u64 y2]) ∧ Below w.heap.size w w' := by
  have en : (128 : Int) - wd = (n : Int) := by omega
  have HN : Hid ((128 : Int) - wd = (n : Int)) := en
  have hR := row_two w (.cells #[.int .u64 h, .int .u64 l] 31) (.cells #[.int .u64 0, .int .u64 0] 31)
  have HR : Hid (((w.alloc (.cells #[.int .u64 h, .int .u64 l] 31)).alloc (.cells #[.int .u64 0, .int .u64 0] 31)).heap[w.heap.size + 1]? = some (.cells #[.int .u64 0, .int .u64 0] 31 (0, 0))) := hR
  have HB : Hid (Below w.heap.size w ((w.alloc (.cells #[.int .u64 h, .int .u64 l] 31)).alloc (.cells #[.int .u64 0, .int .u64 0] 31))) := ((Below.refl _ _).alloc (Nat.le_refl _) _).alloc (by simp) _
  have hw' : (wd : Int) < 128 := by omega
  clear en hR
  go_enter Try.func8, Try.ntmps8
  go_wp2_with fail
  rw [HN.out]
  refine (g1 _).mono ?_
  rintro e w1 ⟨rfl, hB1⟩
  have HR1 : Hid (w1.heap[w.heap.size + 1]? = some (.cells #[.int .u64 0, .int .u64 0] 31 (0, 0))) := (hB1.block _ (by simp)).trans HR.out
  have HB1 : Hid (Below w.heap.size w w1) := HB.out.trans (hB1.mono HB.out.size)
  clear HR HB hB1
  go_wp2_with fail
  try rw [HN.out]
  refine (g2 _).mono ?_
  rintro e w2 ⟨rfl, hB2⟩
  have HR2 : Hid (w2.heap[w.heap.size + 1]? = some (.cells #[.int .u64 0, .int .u64 0] 31 (0, 0))) := (hB2.block _ (Array.getElem?_eq_some_iff.1 HR1.out).1).trans HR1.out
  have HB2 : Hid (Below w.heap.size w w2) := HB1.out.trans (hB2.mono HB1.out.size)
  clear HR1 HB1 hB2
  have HR3 : Hid ((w2.setRow (w.heap.size + 1) #[.int .u64 y1, .int .u64 y2]).heap[w.heap.size + 1]? = some (.cells #[.int .u64 y1, .int .u64 y2] 31 (0, 0))) := setRow_heap _ _ _ _ _ _ HR2.out
  go_wp2_with (refine wpList_store31 rfl _ _ rfl (w.heap.size + 1) rfl _ _ y1 y2 HR2.out rfl ?_; go_frame)
  have hl := run_loadVar_row (P := Try.prog) (w2.setRow (w.heap.size + 1) #[.int .u64 y1, .int .u64 y2]) (w.heap.size + 1) 31 31 _ (0, 0) _ HR3.out Try.underlying31 rfl (by rw [info31]; rfl)
  refine bodyPost_ret (v := .agg #[.int .u64 y1, .int .u64 y2]) (results8 rfl hl) rfl ?_
  exact ⟨rfl, below_setRow HB2.out (by omega) _⟩
set_option maxRecDepth 100000 in
theorem trunc_u (h l : Int) (wd n : Nat) (hw : wd < 128) (hn : n + wd = 128) (x1 x2 y1 y2 : Int) (g1 : Gives 9 h l n x1 x2) (g2 : Gives 11 x1 x2 n y1 y2) (w : World) :
    Calls Try.prog 8 #[.agg #[.int .u64 h, .int .u64 l], .int .u64 (wd : Int), .bool false] w fun e w' => e = .returned (.agg #[.int .u64 y1, .int .u64 y2]) ∧ Below w.heap.size w w' := by
  have en : (128 : Int) - wd = (n : Int) := by omega
  have HN : Hid ((128 : Int) - wd = (n : Int)) := en
  have hR := row_two w (.cells #[.int .u64 h, .int .u64 l] 31) (.cells #[.int .u64 0, .int .u64 0] 31)
  have HR : Hid (((w.alloc (.cells #[.int .u64 h, .int .u64 l] 31)).alloc (.cells #[.int .u64 0, .int .u64 0] 31)).heap[w.heap.size + 1]? = some (.cells #[.int .u64 0, .int .u64 0] 31 (0, 0))) := hR
  have HB : Hid (Below w.heap.size w ((w.alloc (.cells #[.int .u64 h, .int .u64 l] 31)).alloc (.cells #[.int .u64 0, .int .u64 0] 31))) := ((Below.refl _ _).alloc (Nat.le_refl _) _).alloc (by simp) _
  have hw' : (wd : Int) < 128 := by omega
  clear en hR
  go_enter Try.func8, Try.ntmps8
  go_wp2_with fail
  rw [HN.out]
  refine (g1 _).mono ?_
  rintro e w1 ⟨rfl, hB1⟩
  have HR1 : Hid (w1.heap[w.heap.size + 1]? = some (.cells #[.int .u64 0, .int .u64 0] 31 (0, 0))) := (hB1.block _ (by simp)).trans HR.out
  have HB1 : Hid (Below w.heap.size w w1) := HB.out.trans (hB1.mono HB.out.size)
  clear HR HB hB1
  go_wp2_with fail
  try rw [HN.out]
  refine (g2 _).mono ?_
  rintro e w2 ⟨rfl, hB2⟩
  have HR2 : Hid (w2.heap[w.heap.size + 1]? = some (.cells #[.int .u64 0, .int .u64 0] 31 (0, 0))) := (hB2.block _ (Array.getElem?_eq_some_iff.1 HR1.out).1).trans HR1.out
  have HB2 : Hid (Below w.heap.size w w2) := HB1.out.trans (hB2.mono HB1.out.size)
  clear HR1 HB1 hB2
  have HR3 : Hid ((w2.setRow (w.heap.size + 1) #[.int .u64 y1, .int .u64 y2]).heap[w.heap.size + 1]? = some (.cells #[.int .u64 y1, .int .u64 y2] 31 (0, 0))) := setRow_heap _ _ _ _ _ _ HR2.out
  go_wp2_with (refine wpList_store31 rfl _ _ rfl (w.heap.size + 1) rfl _ _ y1 y2 HR2.out rfl ?_; go_frame)
  have hl := run_loadVar_row (P := Try.prog) (w2.setRow (w.heap.size + 1) #[.int .u64 y1, .int .u64 y2]) (w.heap.size + 1) 31 31 _ (0, 0) _ HR3.out Try.underlying31 rfl (by rw [info31]; rfl)
  refine bodyPost_ret (v := .agg #[.int .u64 y1, .int .u64 y2]) (results8 rfl hl) rfl ?_
  exact ⟨rfl, below_setRow HB2.out (by omega) _⟩

set_option maxRecDepth 100000 in
theorem trunc_big (h l : Int) (wd : Int) (b : Bool) (hw : 128 ≤ wd) (w : World) :
    Calls Try.prog 8 #[.agg #[.int .u64 h, .int .u64 l], .int .u64 wd, .bool b] w fun e w' => e = .returned (.agg #[.int .u64 h, .int .u64 l]) ∧ Below w.heap.size w w' := by
  go_enter Try.func8, Try.ntmps8
  go_wp2
  refine bodyPost_ret (v := .agg #[.int .u64 h, .int .u64 l]) (by simp [results, Try.results8, go_sem]) rfl ?_
  exact ⟨rfl, ((Below.refl _ _).alloc (Nat.le_refl _) _).alloc (by simp) _⟩

/-- ZZTruncate, out of what truncate hands back. -/
theorem zz_of (h l wd y1 y2 : Int) (b : Bool) (w : World) (hc : ∀ w, Calls Try.prog 8 #[.agg #[.int .u64 h, .int .u64 l], .int .u64 wd, .bool b] w fun e w' => e = .returned (.agg #[.int .u64 y1, .int .u64 y2]) ∧ Below w.heap.size w w') :
    Calls Try.prog 4 #[.int .u64 h, .int .u64 l, .int .u64 wd, .bool b] w fun e w' => e = .returned (.tuple #[.int .u64 y1, .int .u64 y2]) ∧ Below w.heap.size w w' := by
  go_enter Try.func4, Try.ntmps4
  go_wp2_with fail
  refine (hc _).mono ?_
  rintro e w1 ⟨rfl, hB1⟩
  have HB1 : Hid (Below w.heap.size w w1) := hB1
  clear hB1
  go_wp2
  go_quiet (fail)
  go_wp2
  go_ret2
  exact ⟨rfl, below_drewN (HB1.out.alloc HB1.out.size _) _⟩
end Go.Proofs.Qxb6623325a
