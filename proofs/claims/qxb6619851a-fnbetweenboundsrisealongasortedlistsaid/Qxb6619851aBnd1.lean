import Derived.Test.Qxb6619851aCmp8
import Derived.Test.Qxb6619851aLex
import Derived.Laws.Externs
namespace Go.Proofs.Qxb6619851a
open Go.RowKit
open Go.Lib (compareBytes)

/-! ### bytes.Compare over two rows of 32 bytes -/
theorem run_loadBytes {P : Program} (w : World) : ∀ (l : List UInt8) (acc : ByteArray) (a : Addr), (∀ (j : Nat) (v : UInt8), l[j]? = some v → w.cell? (a.add j) = some (.int .u8 (v.toNat : Int))) →
    (Extern.Bytes.loadBytes a l.length acc).run P w = .ok ⟨acc.data ++ l.toArray⟩ w
  | [], acc, a, _ => by simp [Extern.Bytes.loadBytes]
  | x :: l, acc, a, h => by
    have h0 := h 0 x rfl
    have e0 : a.add 0 = a := by simp [Addr.add]
    rw [e0] at h0
    have ih := run_loadBytes (P := P) w l (acc.push x) (a.add 1) (fun j v hv => by
      rw [Deep.add_add, Nat.add_comm]
      exact h (j + 1) v (by simpa using hv))
    have ex : UInt8.ofNat x.toNat = x := UInt8.ofNat_toNat
    simp only [List.length_cons, Extern.Bytes.loadBytes, Sem.run_bind]
    simp [h0]
    simp [ih]
theorem run_bytesOf_id {w : World} {b o c : Nat} {x : List UInt8} (h : IdAt w b o x) : (Extern.Bytes.bytesOf (.slice (some ⟨b, o, none⟩) 32 c)).run Try.prog w = .ok ⟨x.toArray⟩ w := by
  have := run_loadBytes (P := Try.prog) w x .empty ⟨b, o, none⟩ (fun j v hv => by rw [add_none]; exact h.2 j v hv)
  rw [h.1] at this
  simpa [Extern.Bytes.bytesOf] using this

theorem run_callCompare {w : World} {b o c b' o' c' : Nat} {x y : List UInt8} (h : IdAt w b o x) (h' : IdAt w b' o' y) :
    (callFunc 23 #[.slice (some ⟨b, o, none⟩) 32 c, .slice (some ⟨b', o', none⟩) 32 c']).run Try.prog w = .ok (.value (.int .i64 (compareBytes x y))) w := by
  rw [run_callFunc_extern Try.func23 (by kernel_rfl) (by kernel_rfl) (by kernel_rfl) (e := Extern.BytealgCompare.compare) (by kernel_rfl)]
  change (Sem.run Try.prog (do pure (goInt (Extern.BytealgCompare.cmp (← Extern.Bytes.bytesOf (.slice (some ⟨b, o, none⟩) 32 c)) (← Extern.Bytes.bytesOf (.slice (some ⟨b', o', none⟩) 32 c'))))) w).andThen _ = _
  simp only [Sem.run_bind, run_bytesOf_id h, run_bytesOf_id h', Result.andThen_ok, Sem.run_pure, Lib.cmp_eq]
  rfl

theorem cmp_any {b o c b' o' c' : Nat} {x y : List UInt8} (w : World) (h : IdAt w b o x) (h' : IdAt w b' o' y) :
    Calls Try.prog 22 #[.slice (some ⟨b, o, none⟩) 32 c, .slice (some ⟨b', o', none⟩) 32 c'] w fun e w' => e = .returned (.int .i64 (compareBytes x y)) ∧ w' = w := by
  have hc := run_callCompare (c := c) (c' := c') h h'
  go_enter Try.func22, Try.ntmps22
  go_wp2
  go_ret
  exact ⟨rfl, rfl⟩
end Go.Proofs.Qxb6619851a
