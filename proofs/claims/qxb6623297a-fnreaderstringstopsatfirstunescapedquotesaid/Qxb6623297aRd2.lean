import Derived.Test.Qxb6623297aRows
import Derived.Test.Qxb6623297aRd1
import Derived.WalkKit
import Derived.WalkLawsBesides
import Derived.WalkSpells
import Derived.BigQuiet
import Derived.Laws.CopyOwn
import Derived.Outline
import Derived.Deep.Slices
import Derived.Deep.OwnRows
set_option linter.unusedVariables false
namespace Go.Proofs.Qxb6623297a
open Go.RowKit

/-- The bytes from an address on. -/
def BytesAt (w : World) (b off : Nat) (D : List UInt8) : Prop := ∀ (i : Nat) (v : UInt8), D[i]? = some v → w.cell? ⟨b, off + i, none⟩ = some (.int .u8 (v.toNat : Int))
theorem BytesAt.below {w w' : World} {B b off : Nat} {D : List UInt8} (h : BytesAt w b off D) (hB : Below B w w') (hb : b < B) : BytesAt w' b off D := by
  intro i v hv
  exact (hB.cell (p := ⟨b, off + i, none⟩) hb).trans (h i v hv)
theorem below_drewN {B : Nat} {a w : World} (h : Below B a w) (n : Nat) : Below B a (w.drewN n) := ⟨h.os, h.tape, h.output, h.size, h.block⟩

/-- Block rb is the reader: its data, its place. -/
def Rdr (w : World) (rb : Nat) (v : Value) (i : Int) : Prop := w.heap[rb]? = some (.cells #[v, .int .i64 i] 28 (0, 0))
theorem Rdr.cell0 {w : World} {rb : Nat} {v : Value} {i : Int} (h : Rdr w rb v i) : w.cell? ⟨rb, 0, none⟩ = some v := by rw [cell_of_row w rb 0 _ _ _ h]; rfl
theorem Rdr.cell1 {w : World} {rb : Nat} {v : Value} {i : Int} (h : Rdr w rb v i) : w.cell? ⟨rb, 1, none⟩ = some (.int .i64 i) := by rw [cell_of_row w rb 1 _ _ _ h]; rfl
theorem Rdr.frozen1 {w : World} {rb : Nat} {v : Value} {i : Int} (h : Rdr w rb v i) : w.frozen? ⟨rb, 1, none⟩ = false := by simp [World.frozen?, show w.heap[rb]? = _ from h]
theorem Rdr.set {w : World} {rb : Nat} {v : Value} {i : Int} (h : Rdr w rb v i) (j : Int) : Rdr (w.setCell ⟨rb, 1, none⟩ (.int .i64 j)) rb v j := by
  unfold Rdr at *
  rw [setCell_eq_setRow w rb 1 _ _ _ _ h, setRow_heap w rb _ _ _ _ h]
  rfl
theorem Rdr.drewN {w : World} {rb : Nat} {v : Value} {i : Int} (h : Rdr w rb v i) (n : Nat) : Rdr (w.drewN n) rb v i := h
/-- The reader's place. -/
def atOf (w : World) (rb : Nat) : Nat := match w.cell? ⟨rb, 1, none⟩ with | some (.int _ i) => i.toNat | _ => 0
theorem atOf_eq {w : World} {rb : Nat} {v : Value} {i : Int} (h : Rdr w rb v i) : atOf w rb = i.toNat := by unfold atOf; rw [h.cell1]

set_option maxRecDepth 100000 in
set_option maxHeartbeats 1000000 in
theorem string_any (D : List UInt8) (b off c a e rb : Nat) (w0 w : World) (hb : b < w0.heap.size) (hrb : w0.heap.size ≤ rb) (hB : Below w0.heap.size w0 w) (hD : BytesAt w0 b off D) (hr : Rdr w rb (.slice (some ⟨b, off, none⟩) D.length c) (a : Int))
    (hE : Ends D (a + 1) e) (hl : D.length ≤ 4194304) (hcap : D.length ≤ c) :
    Calls Try.prog 6 #[.pointer (some ⟨rb, 0, none⟩)] w fun ee w' => ee = .returned (.slice (some ⟨b, off + (a + 1), none⟩) (e - (a + 1)) (c - (a + 1))) ∧ Rdr w' rb (.slice (some ⟨b, off, none⟩) D.length c) ((e : Int) + 1) ∧ Below w0.heap.size w0 w' := by
  have hel := hE.lt
  have hae := hE.1
  have k0 := hr.cell0
  have k1 := hr.cell1
  have k2 := hr.frozen1
  have HR : Hid (Rdr w rb (.slice (some ⟨b, off, none⟩) D.length c) (a : Int)) := hr
  have HB : Hid (Below w0.heap.size w0 w) := hB
  have HE : Hid (Ends D (a + 1) e) := hE
  clear hr hB hE
  go_enter Try.func6, Try.ntmps6
  go_wp2
  go_loopw [23] (fun _ wr => ∃ i : Nat, Ends D i e ∧ a + 1 ≤ i ∧ Rdr wr rb (.slice (some ⟨b, off, none⟩) D.length c) (i : Int) ∧ Below w0.heap.size w0 wr) (fun _ wr => e + 1 - atOf wr rb)
  case atStart => exact ⟨a + 1, HE.out, Nat.le_refl _, HR.out.set _, HB.out.setCell (by simp; omega) _⟩
  case round =>
    obtain ⟨i, hE, hai, hr, hB⟩ := hrel
    have hie := hE.1
    obtain ⟨v, hv⟩ : ∃ v, D[i]? = some v := ⟨_, List.getElem?_eq_getElem (by omega)⟩
    have hcell := (hD.below hB hb) i v hv
    have j0 := hr.cell0
    have j1 := hr.cell1
    have j2 := hr.frozen1
    have hil : (i : Int) < D.length := by omega
    have HV : Hid (D[i]? = some v) := hv
    have HR2 : Hid (Rdr wr rb (.slice (some ⟨b, off, none⟩) D.length c) (i : Int)) := hr
    have HB2 : Hid (Below w0.heap.size w0 wr) := hB
    have HE2 : Hid (Ends D i e) := hE
    clear hr hB hE hv HR HB HE k0 k1 k2
    by_cases h34 : v = 34
    · subst h34
      have hei : e = i := HE2.out.quote HV.out
      subst hei
      have hst : ((e : Int) + 1 - 1) = e := by omega
      go_wp2
      go_quiet (fail)
      go_wp2
      go_quiet (fail)
      go_wp2
      go_ret
      exact ⟨rfl, (((HR2.out.drewN _).set _).drewN _), below_drewN ((below_drewN HB2.out _).setCell (by simp; omega) _) _⟩
    · have n34 : (v.toNat : Int) ≠ 34 := fun h => h34 (UInt8.toNat_inj.1 (by rw [show v.toNat = 34 by omega]; rfl))
      have b34 : ((v.toNat : Int) != 34) = true := by rw [bne_iff_ne]; exact n34
      by_cases h92 : v = 92
      · subst h92
        have hE' := HE2.out.back HV.out
        have hle := hE'.1
        go_wp2
        go_quiet (fail)
        obtain ⟨mq, hmq⟩ : ∃ m, m = nq := ⟨_, rfl⟩
        subst hmq
        go_wp2
        go_quiet (fail)
        go_wp2
        go_roundw
        case rel => exact ⟨i + 2, hE', by omega, by have h := ((HR2.out.drewN (mq + nq)).set ((i : Int) + 1)).set ((i : Int) + 1 + 1); rw [show ((i + 2 : Nat) : Int) = (i : Int) + 1 + 1 by omega]; exact h, ((below_drewN HB2.out _).setCell (by simp; omega) _).setCell (by simp; omega) _⟩
        case measure =>
          rw [atOf_eq (((HR2.out.drewN (mq + nq)).set ((i : Int) + 1)).set ((i : Int) + 1 + 1)), atOf_eq HR2.out]
          omega
      · have n92 : (v.toNat : Int) ≠ 92 := fun h => h92 (UInt8.toNat_inj.1 (by rw [show v.toNat = 92 by omega]; rfl))
        have b92 : ((v.toNat : Int) == 92) = false := by simpa using n92
        have hE' := HE2.out.other HV.out h34 h92
        have hle := hE'.1
        go_wp2
        go_quiet (fail)
        obtain ⟨mq, hmq⟩ : ∃ m, m = nq := ⟨_, rfl⟩
        subst hmq
        go_wp2
        go_quiet (fail)
        go_wp2
        go_roundw
        case rel => exact ⟨i + 1, hE', by omega, by have h := (HR2.out.drewN (mq + nq)).set ((i : Int) + 1); rw [show ((i + 1 : Nat) : Int) = (i : Int) + 1 by omega]; exact h, (below_drewN HB2.out _).setCell (by simp; omega) _⟩
        case measure =>
          rw [atOf_eq ((HR2.out.drewN (mq + nq)).set ((i : Int) + 1)), atOf_eq HR2.out]
          omega
end Go.Proofs.Qxb6623297a
