import Derived.Test.Qxb6623325aTr4
set_option linter.unusedVariables false
namespace Go.Proofs.Qxb6623325a
open Go.RowKit

def Pow (n : Int) (x y : Int) : Prop := ∀ w, Calls Try.prog 5 #[.int .u64 n] w fun e w' => e = .returned (.tuple #[.int .u64 x, .int .u64 y]) ∧ w' = w
def Less (ah al bh bl : Int) (b : Bool) : Prop := ∀ w, Calls Try.prog 6 #[.int .u64 ah, .int .u64 al, .int .u64 bh, .int .u64 bl] w fun e w' => e = .returned (.bool b) ∧ w' = w
def Sub (ah al bh bl x y : Int) : Prop := ∀ w, Calls Try.prog 7 #[.int .u64 ah, .int .u64 al, .int .u64 bh, .int .u64 bl] w fun e w' => e = .returned (.tuple #[.int .u64 x, .int .u64 y]) ∧ w' = w
theorem pow_eq {n x y x' y' : Int} (h : Pow n x y) (hx : x = x') (hy : y = y') : Pow n x' y' := by subst hx; subst hy; exact h
theorem sub_eq {ah al bh bl x y x' y' : Int} (h : Sub ah al bh bl x y) (hx : x = x') (hy : y = y') : Sub ah al bh bl x' y' := by subst hx; subst hy; exact h

theorem pow_lo {n : Nat} (hn : n < 64) : Pow n 0 (IntKind.u64.wrap (2 ^ n)) := by
  intro w
  go_enter Try.func5, Try.ntmps5
  go_wp2
  go_ret2
  exact ⟨rfl, rfl⟩
theorem pow_hi {n : Nat} (hn : 64 ≤ n) (hn' : n < 128) : Pow n (IntKind.u64.wrap (2 ^ (n - 64))) 0 := by
  intro w
  go_enter Try.func5, Try.ntmps5
  go_wp2
  go_ret2
  exact ⟨rfl, rfl⟩
theorem less_ne {ah al bh bl : Int} (h : ah ≠ bh) : Less ah al bh bl (decide (ah < bh)) := by
  intro w
  go_enter Try.func6, Try.ntmps6
  go_wp2
  go_ret
  exact ⟨rfl, rfl⟩
theorem less_eq {ah al bl : Int} : Less ah al ah bl (decide (al < bl)) := by
  intro w
  go_enter Try.func6, Try.ntmps6
  go_wp2
  go_ret
  exact ⟨rfl, rfl⟩
theorem sub_ge {ah al bh bl : Int} (h : ¬ al < bl) : Sub ah al bh bl (IntKind.u64.wrap (IntKind.u64.wrap (ah - bh))) (IntKind.u64.wrap (al - bl)) := by
  intro w
  go_enter Try.func7, Try.ntmps7
  go_wp2
  go_ret2
  exact ⟨rfl, rfl⟩
theorem sub_lt {ah al bh bl : Int} (h : al < bl) : Sub ah al bh bl (IntKind.u64.wrap (IntKind.u64.wrap (ah - bh) - 1)) (IntKind.u64.wrap (al - bl)) := by
  intro w
  go_enter Try.func7, Try.ntmps7
  go_wp2
  go_ret2
  exact ⟨rfl, rfl⟩

set_option maxRecDepth 100000 in
set_option maxHeartbeats 1000000 in
theorem law_big (h l wd : Int) (hw : 128 ≤ wd) (w : World) :
    Calls Try.prog 3 #[.int .u64 h, .int .u64 l, .int .u64 wd] w fun e w' => e = .returned (.bool true) ∧ Below w.heap.size w w' := by
  have hu : Trunc h l wd false h l := t_big hw false
  have hs : Trunc h l wd true h l := t_big hw true
  go_enter Try.func3, Try.ntmps3
  go_wp2_with fail
  refine (hu _).mono ?_
  rintro e w1 ⟨rfl, hB1⟩
  have HB1 : Hid (Below w.heap.size w w1) := hB1
  clear hB1
  go_wp2_with fail
  refine (hs _).mono ?_
  rintro e w2 ⟨rfl, hB2⟩
  have HB2 : Hid (Below w.heap.size w w2) := HB1.out.trans (hB2.mono HB1.out.size)
  clear hB2 HB1
  go_wp2
  go_ret
  exact ⟨rfl, HB2.out⟩

set_option maxRecDepth 100000 in
set_option maxHeartbeats 1000000 in
theorem law_zero (h l : Int) (h0 : 0 ≤ h) (h1 : h < 18446744073709551616) (l0 : 0 ≤ l) (l1 : l < 18446744073709551616) (w : World) :
    Calls Try.prog 3 #[.int .u64 h, .int .u64 l, .int .u64 0] w fun e w' => e = .returned (.bool true) ∧ Below w.heap.size w w' := by
  have hu : Trunc h l 0 false 0 0 := t_zero h0 h1 l0 l1 false
  have hs : Trunc h l 0 true 0 0 := t_zero h0 h1 l0 l1 true
  go_enter Try.func3, Try.ntmps3
  go_wp2_with fail
  refine (hu _).mono ?_
  rintro e w1 ⟨rfl, hB1⟩
  have HB1 : Hid (Below w.heap.size w w1) := hB1
  clear hB1
  go_wp2_with fail
  refine (hs _).mono ?_
  rintro e w2 ⟨rfl, hB2⟩
  have HB2 : Hid (Below w.heap.size w w2) := HB1.out.trans (hB2.mono HB1.out.size)
  clear hB2 HB1
  go_wp2
  go_ret
  exact ⟨rfl, HB2.out⟩

set_option maxRecDepth 100000 in
set_option maxHeartbeats 1000000 in
theorem law_gen (h l : Int) (wd : Nat) (hw : 1 ≤ wd) (hw' : wd < 128) (uh ul sh sl ph pl dh dl mh ml hh hl : Int) (b : Bool) (hu : Trunc h l wd false uh ul) (hs : Trunc h l wd true sh sl)
    (hp : Pow wd ph pl) (hq : Pow ((wd - 1 : Nat) : Int) hh hl) (l1 : Less uh ul ph pl true) (s1 : Sub h l uh ul dh dl) (s2 : Sub ph pl 0 1 mh ml) (b1 : bits .and .u64 dh mh = 0) (b2 : bits .and .u64 dl ml = 0) (l2 : Less uh ul hh hl b)
    (ht : b = true → sh = uh ∧ sl = ul) (hf : b = false → Sub uh ul ph pl sh sl) (w : World) :
    Calls Try.prog 3 #[.int .u64 h, .int .u64 l, .int .u64 (wd : Int)] w fun e w' => e = .returned (.bool true) ∧ Below w.heap.size w w' := by
  have hne : (wd : Int) ≠ 0 := by omega
  have hlt : (wd : Int) < 128 := by omega
  have HN : Hid ((wd : Int) - 1 = ((wd - 1 : Nat) : Int)) := by show (wd : Int) - 1 = ((wd - 1 : Nat) : Int); omega
  go_enter Try.func3, Try.ntmps3
  go_wp2_with fail
  refine (hu _).mono ?_
  rintro e w1 ⟨rfl, hB1⟩
  have HB1 : Hid (Below w.heap.size w w1) := hB1
  clear hB1
  go_wp2_with fail
  refine (hs _).mono ?_
  rintro e w2 ⟨rfl, hB2⟩
  have HB2 : Hid (Below w.heap.size w w2) := HB1.out.trans (hB2.mono HB1.out.size)
  clear hB2 HB1
  go_wp2_with fail
  refine (hp _).mono ?_
  rintro e w3 ⟨rfl, rfl⟩
  go_wp2_with fail
  refine (l1 _).mono ?_
  rintro e w3 ⟨rfl, rfl⟩
  go_wp2_with fail
  refine (s1 _).mono ?_
  rintro e w3 ⟨rfl, rfl⟩
  go_wp2_with fail
  refine (s2 _).mono ?_
  rintro e w3 ⟨rfl, rfl⟩
  go_wp2_with fail
  rw [HN.out]
  refine (hq _).mono ?_
  rintro e w3 ⟨rfl, rfl⟩
  go_wp2_with fail
  refine (l2 _).mono ?_
  rintro e w3 ⟨rfl, rfl⟩
  cases b
  · have s3 := hf rfl
    clear ht hf
    go_wp2_with fail
    refine (s3 _).mono ?_
    rintro e w3 ⟨rfl, rfl⟩
    go_wp2
    go_ret
    exact ⟨rfl, HB2.out⟩
  · obtain ⟨rfl, rfl⟩ := ht rfl
    clear ht hf
    go_wp2
    go_ret
    exact ⟨rfl, HB2.out⟩
end Go.Proofs.Qxb6623325a
