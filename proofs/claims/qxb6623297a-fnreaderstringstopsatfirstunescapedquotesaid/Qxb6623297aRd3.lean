import Derived.Test.Qxb6623297aRd2
set_option linter.unusedVariables false
namespace Go.Proofs.Qxb6623297a
open Go.RowKit

/-- It returned a bool. -/
def IsB (e : Ending) : Prop := ∃ r, e = .returned (.bool r)
theorem isB (r : Bool) : IsB (.returned (.bool r)) := ⟨r, rfl⟩

theorem zzBytes4_any (a0 a1 a3 : Option Addr) (n0 n1 n3 c0 c1 c3 : Nat) (k : Int) (w : World) : Calls Try.prog 4 #[.slice a0 n0 c0, .slice a1 n1 c1, .int .i64 k, .slice a3 n3 c3] w fun e w' => IsB e ∧ w' = w := by
  go_enter Try.func4, Try.ntmps4
  go_wp2
  all_goals (go_ret; exact ⟨isB _, rfl⟩)

set_option maxRecDepth 100000 in
theorem zzReader_any (D : List UInt8) (b off c a e : Nat) (w : World) (hb : b < w.heap.size) (hD : BytesAt w b off D) (hE : Ends D (a + 1) e) (hl : D.length ≤ 4194304) (hcap : D.length ≤ c) :
    Calls Try.prog 5 #[.slice (some ⟨b, off, none⟩) D.length c, .int .i64 (a : Int)] w fun ee w' => ee = .returned (.tuple #[.slice (some ⟨b, off + (a + 1), none⟩) (e - (a + 1)) (c - (a + 1)), .int .i64 ((e : Int) + 1)]) ∧ Below w.heap.size w w' := by
  have hr0 : Rdr (w.alloc (.cells #[.slice (some ⟨b, off, none⟩) D.length c, .int .i64 (a : Int)] 28)) w.heap.size (.slice (some ⟨b, off, none⟩) D.length c) (a : Int) := by
    unfold Rdr
    show (w.heap.push _)[w.heap.size]? = _
    simp
  have hB0 : Below w.heap.size w (w.alloc (.cells #[.slice (some ⟨b, off, none⟩) D.length c, .int .i64 (a : Int)] 28)) := (Below.refl _ _).alloc (Nat.le_refl _) _
  have HR0 : Hid (Rdr (w.alloc (.cells #[.slice (some ⟨b, off, none⟩) D.length c, .int .i64 (a : Int)] 28)) w.heap.size (.slice (some ⟨b, off, none⟩) D.length c) (a : Int)) := hr0
  have HB0 : Hid (Below w.heap.size w (w.alloc (.cells #[.slice (some ⟨b, off, none⟩) D.length c, .int .i64 (a : Int)] 28))) := hB0
  clear hr0 hB0
  go_enter Try.func5, Try.ntmps5
  go_wp2_with fail
  refine (string_any D b off c a e w.heap.size w _ hb (Nat.le_refl _) (by exact HB0.out) hD (by exact HR0.out) hE hl hcap).mono ?_
  rintro ee w1 ⟨rfl, hr, hB⟩
  have HB1 : Hid (Below w.heap.size w w1) := hB
  have j1 := hr.cell1
  clear HR0 HB0 hr hB
  go_wp2
  go_quiet (fail)
  go_wp2
  go_ret2
  exact ⟨rfl, below_drewN HB1.out _⟩
end Go.Proofs.Qxb6623297a
