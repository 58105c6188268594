import Derived.Test.Qxb6619851aCmp3
import Derived.Deep.MidRow
namespace Go.Proofs.Qxb6619851a
open Go.RowKit

/-! ### the building of an item and of a slice of one id -/
theorem list32 {x : List UInt8} (h : x.length = 32) : x = [x.getD 0 0, x.getD 1 0, x.getD 2 0, x.getD 3 0, x.getD 4 0, x.getD 5 0, x.getD 6 0, x.getD 7 0, x.getD 8 0, x.getD 9 0, x.getD 10 0, x.getD 11 0, x.getD 12 0, x.getD 13 0, x.getD 14 0, x.getD 15 0, x.getD 16 0, x.getD 17 0, x.getD 18 0, x.getD 19 0, x.getD 20 0, x.getD 21 0, x.getD 22 0, x.getD 23 0, x.getD 24 0, x.getD 25 0, x.getD 26 0, x.getD 27 0, x.getD 28 0, x.getD 29 0, x.getD 30 0, x.getD 31 0] := by
  apply List.ext_getElem?
  intro i
  by_cases hi : i < 32
  · rw [List.getElem?_eq_getElem (by omega)]
    have e : x[i] = x.getD i 0 := by simp [List.getD, List.getElem?_eq_getElem (show i < x.length by omega)]
    rw [e]
    rcases i with _ | _ | _ | _ | _ | _ | _ | _ | _ | _ | _ | _ | _ | _ | _ | _ | _ | _ | _ | _ | _ | _ | _ | _ | _ | _ | _ | _ | _ | _ | _ | _ | i
    all_goals first | rfl | omega
  · rw [List.getElem?_eq_none (by omega), List.getElem?_eq_none (by simp; omega)]

/-- An item's cells. -/
def itemL (t : Int) (x : List UInt8) : List Value := .int .u64 t :: x.map fun b => Value.int .u8 (b.toNat : Int)

theorem run_build_item32 (t : Int) (b0 b1 b2 b3 b4 b5 b6 b7 b8 b9 b10 b11 b12 b13 b14 b15 b16 b17 b18 b19 b20 b21 b22 b23 b24 b25 b26 b27 b28 b29 b30 b31 : UInt8) (w : World) :
    (Instr.build 46 #[(0, .int .u64 t), (1, .agg (idV [b0, b1, b2, b3, b4, b5, b6, b7, b8, b9, b10, b11, b12, b13, b14, b15, b16, b17, b18, b19, b20, b21, b22, b23, b24, b25, b26, b27, b28, b29, b30, b31]))]).run Try.prog w = .ok (.agg (itemL t [b0, b1, b2, b3, b4, b5, b6, b7, b8, b9, b10, b11, b12, b13, b14, b15, b16, b17, b18, b19, b20, b21, b22, b23, b24, b25, b26, b27, b28, b29, b30, b31]).toArray) w := by kernel_rfl
theorem run_build_item (t : Int) {x : List UInt8} (h : x.length = 32) (w : World) :
    (Instr.build 46 #[(0, .int .u64 t), (1, .agg (idV x))]).run Try.prog w = .ok (.agg (itemL t x).toArray) w := by
  rw [list32 h]
  exact run_build_item32 t (x.getD 0 0) (x.getD 1 0) (x.getD 2 0) (x.getD 3 0) (x.getD 4 0) (x.getD 5 0) (x.getD 6 0) (x.getD 7 0) (x.getD 8 0) (x.getD 9 0) (x.getD 10 0) (x.getD 11 0) (x.getD 12 0) (x.getD 13 0) (x.getD 14 0) (x.getD 15 0) (x.getD 16 0) (x.getD 17 0) (x.getD 18 0) (x.getD 19 0) (x.getD 20 0) (x.getD 21 0) (x.getD 22 0) (x.getD 23 0) (x.getD 24 0) (x.getD 25 0) (x.getD 26 0) (x.getD 27 0) (x.getD 28 0) (x.getD 29 0) (x.getD 30 0) (x.getD 31 0) w

theorem run_buildSlice_id32 (b0 b1 b2 b3 b4 b5 b6 b7 b8 b9 b10 b11 b12 b13 b14 b15 b16 b17 b18 b19 b20 b21 b22 b23 b24 b25 b26 b27 b28 b29 b30 b31 : UInt8) (w : World) :
    (Instr.buildSlice 30 1 #[(0, .agg (idV [b0, b1, b2, b3, b4, b5, b6, b7, b8, b9, b10, b11, b12, b13, b14, b15, b16, b17, b18, b19, b20, b21, b22, b23, b24, b25, b26, b27, b28, b29, b30, b31]))]).run Try.prog w = .ok (.slice (some ⟨w.heap.size, 0, none⟩) 1 1) (w.alloc (.cells (idV [b0, b1, b2, b3, b4, b5, b6, b7, b8, b9, b10, b11, b12, b13, b14, b15, b16, b17, b18, b19, b20, b21, b22, b23, b24, b25, b26, b27, b28, b29, b30, b31]) 23)) := by kernel_rfl
theorem run_buildSlice_id {x : List UInt8} (h : x.length = 32) (w : World) :
    (Instr.buildSlice 30 1 #[(0, .agg (idV x))]).run Try.prog w = .ok (.slice (some ⟨w.heap.size, 0, none⟩) 1 1) (w.alloc (.cells (idV x) 23)) := by
  rw [list32 h]
  exact run_buildSlice_id32 (x.getD 0 0) (x.getD 1 0) (x.getD 2 0) (x.getD 3 0) (x.getD 4 0) (x.getD 5 0) (x.getD 6 0) (x.getD 7 0) (x.getD 8 0) (x.getD 9 0) (x.getD 10 0) (x.getD 11 0) (x.getD 12 0) (x.getD 13 0) (x.getD 14 0) (x.getD 15 0) (x.getD 16 0) (x.getD 17 0) (x.getD 18 0) (x.getD 19 0) (x.getD 20 0) (x.getD 21 0) (x.getD 22 0) (x.getD 23 0) (x.getD 24 0) (x.getD 25 0) (x.getD 26 0) (x.getD 27 0) (x.getD 28 0) (x.getD 29 0) (x.getD 30 0) (x.getD 31 0) w

end Go.Proofs.Qxb6619851a
