import Derived.Test.Qxb6619851aCmp6
import Derived.ProofKit
import Derived.OpenShut
namespace Go.Proofs.Qxb6619851a
open Go.ChangeShapes Go.WideShapes Go.ChangeAt Go.RowKit

/-! ### from what the row's reader read to what the walks are told -/
theorem wf_u8_bounds {n : Int} (h : (Lit.int .u8 n).wf = true) : 0 ≤ n ∧ n < 256 := by
  have := bounds_u8 h
  omega

section
variable {H : Type} {enc : TypeId × Value → H} {W : World} {base : Nat} {spare : Nat → Bool} {held : Bool}

theorem id_of_cells {n : Nat} {cs : List Value} {y : DataW H × List MemPlace} (h : DataW.trod enc Try.prog W base spare held n 23 cs = some y) : ∃ x : List UInt8, x.length = 32 ∧ cs = x.map fun b => Value.int .u8 (b.toNat : Int) := by
  obtain ⟨xs, m, _, _, hlen, hxl, hx⟩ := DataW.trod_array Try.underlying23 h
  rw [Try.cells23] at hlen
  have one : ∀ i, i < 32 → ∃ b : UInt8, cs[i]? = some (Value.int .u8 (b.toNat : Int)) := by
    intro i hi
    have h1 := hx i hi
    rw [Try.cells5, Nat.mul_one, List.drop_eq_getElem_cons (by omega), List.getElem?_eq_getElem (by omega)] at h1
    simp only [List.take_succ_cons, List.take_zero] at h1
    obtain ⟨v, hv, _, hw⟩ := DataW.trod_int Try.underlying5 h1
    simp only [List.cons.injEq, and_true] at hv
    obtain ⟨h0, h256⟩ := wf_u8_bounds hw
    refine ⟨UInt8.ofNat v.toNat, ?_⟩
    rw [List.getElem?_eq_getElem (by omega), hv]
    have : (UInt8.ofNat v.toNat).toNat = v.toNat := by rw [UInt8.toNat_ofNat_of_lt']; simp [UInt8.size]; omega
    rw [this, Int.toNat_of_nonneg h0]
  obtain ⟨f, hf⟩ := Deep.choose_lt one
  refine ⟨(List.range 32).map f, by simp, ?_⟩
  apply List.ext_getElem?
  intro i
  by_cases hi : i < 32
  · rw [hf i hi]
    simp [hi]
  · rw [List.getElem?_eq_none (by omega), List.getElem?_eq_none (by simp; omega)]

theorem ids_open {a : Option Addr} {len cap fuel : Nat} {x : DataW H × List MemPlace} (h : DataW.trod enc Try.prog W base spare held fuel 30 [.slice a len cap] = some x) : ∃ X : List (List UInt8), IdsAt W a X ∧ X.length = len := by
  rcases Deep.open_slice Try.underlying30 h with ⟨hcs, _⟩ | ⟨ad, len', cap', m, n, D, Pl, hcs, _, hl, hm, hmm, _, hx⟩
  · simp at hcs
    obtain ⟨rfl, rfl, rfl⟩ := hcs
    exact ⟨[], fun i x hx => by simp at hx, rfl⟩
  · simp at hcs
    obtain ⟨rfl, rfl, rfl⟩ := hcs
    have hlm : len ≤ m := by rw [hmm]; split <;> omega
    rw [Try.cells23] at hx
    have one : ∀ i, i < len → ∃ x : List UInt8, x.length = 32 ∧ ∀ (j : Nat) (v : UInt8), x[j]? = some v → W.cell? (ad.add (i * 32 + j)) = some (.int .u8 (v.toNat : Int)) := by
      intro i hi
      obtain ⟨cs', h1, h2⟩ := hx i (by omega)
      obtain ⟨x, hxl, rfl⟩ := id_of_cells h2
      refine ⟨x, hxl, fun j v hv => ?_⟩
      have hj : j < 32 := by have := (List.getElem?_eq_some_iff.1 hv).1; omega
      have := (World.cells?_some h1).2.2 j hj
      rw [Deep.add_add] at this
      rw [this]
      simp [hv]
    obtain ⟨f, hf⟩ := Deep.choose_lt one
    refine ⟨(List.range len).map f, ?_, by simp⟩
    intro i x hx'
    have hi : i < len := by have := (List.getElem?_eq_some_iff.1 hx').1; simpa using this
    obtain rfl : f i = x := by simpa [hi] using hx'
    obtain ⟨hl32, hc⟩ := hf i hi
    obtain ⟨b, off, spot⟩ := ad
    have h0 := hc 0 ((f i)[0]'(by omega)) (List.getElem?_eq_getElem _)
    have hs : spot = none := by
      by_cases hi0 : i = 0
      · subst hi0; simpa [Addr.add] using World.cell?_spot h0
      · obtain ⟨_, hc0⟩ := hf 0 (by omega)
        have h00 := hc0 0 ((f 0)[0]'(by have := (hf 0 (by omega)).1; omega)) (List.getElem?_eq_getElem _)
        simpa [Addr.add] using World.cell?_spot h00
    subst hs
    refine ⟨b, off, rfl, hl32, fun j v hv => ?_⟩
    have := hc j v hv
    rw [add_none] at this
    rw [show off + i * 32 + j = off + (i * 32 + j) by omega]
    exact this

theorem ts_open {a : Option Addr} {len cap fuel : Nat} {x : DataW H × List MemPlace} (h : DataW.trod enc Try.prog W base spare held fuel 29 [.slice a len cap] = some x) : ∃ T : List Int, TsAt W a T ∧ T.length = len := by
  rcases open_ints Try.underlying29 Try.underlying22 (by kernel_rfl) h with ⟨hcs, _⟩ | ⟨ad, l, c, zs, hcs, _, hl, hm, hz, _, hcell, hwz⟩
  · simp at hcs
    obtain ⟨rfl, rfl, rfl⟩ := hcs
    exact ⟨[], fun i x hx => by simp at hx, rfl⟩
  · simp at hcs
    obtain ⟨rfl, rfl, rfl⟩ := hcs
    have hzl : len ≤ zs.length := by rw [hz]; split <;> omega
    refine ⟨zs.take len, ?_, by simp; omega⟩
    intro i t ht
    rw [List.getElem?_take] at ht
    split at ht
    · rename_i hi
      have hc := hcell i (by omega)
      obtain ⟨b, off, spot⟩ := ad
      have hs : spot = none := by
        have h0 := hcell 0 (by omega)
        simpa [Addr.add] using World.cell?_spot h0
      subst hs
      refine ⟨b, off, rfl, ?_⟩
      rw [add_none] at hc
      rw [hc]
      simp [List.getD, ht]
    · cases ht
end
end Go.Proofs.Qxb6619851a
