import Derived.Test.Qxb6623266aChar2
set_option linter.unusedVariables false
namespace Go.Proofs.Qxb6623266a
open Go.RowKit

/-- It returned a bool. -/
def IsB (e : Ending) : Prop := ∃ r, e = .returned (.bool r)
theorem isB (r : Bool) : IsB (.returned (.bool r)) := ⟨r, rfl⟩

theorem zzBytes5_any (s : ByteArray) (m j : Int) (w : World) : Calls Try.prog 5 #[.string s, .int .i64 m, .int .i64 j] w fun e w' => IsB e ∧ w' = w := by
  go_enter Try.func5, Try.ntmps5
  go_wp2
  all_goals (go_ret; exact ⟨isB _, rfl⟩)
theorem zzBytes7_any (s : ByteArray) (m : Int) (w : World) : Calls Try.prog 7 #[.string s, .int .i64 m] w fun e w' => IsB e ∧ w' = w := by
  go_enter Try.func7, Try.ntmps7
  go_wp2
  all_goals (go_ret; exact ⟨isB _, rfl⟩)

theorem cut_main (s : ByteArray) (m j : Nat) (hs : s.size ≤ 1048576) (hm : m ≤ 2097152) (hj : j ≤ 2097152) (w : World) :
    Calls Try.prog 3 #[.string s, .int .i64 (m : Int), .int .i64 (j : Int)] w fun e w' => e = .returned (.bool true) ∧ Below w.heap.size w w' := by
  have HK := off_le s m 0 (Nat.zero_le _)
  have hcut := off_cut s m j
  have hend := off_full s s.size 0 (Nat.zero_le _) (by omega)
  go_enter Try.func3, Try.ntmps3
  go_wp2_with fail
  refine (zzBytes5_any _ _ _ _).mono ?_
  rintro e w' ⟨⟨r, rfl⟩, hw⟩
  have hw := hw.symm
  subst hw
  cases r
  · go_wp2
    go_ret
    exact ⟨rfl, Below.refl _ _⟩
  go_wp2_with fail
  refine (zzOffset_any s m (by omega) hs _).mono ?_
  rintro e w1 ⟨rfl, hB1⟩
  have HB1 : Hid (Below w.heap.size w w1) := hB1
  clear hB1
  have hk0 : (0 : Int) ≤ (off s 0 m : Nat) := by omega
  have hk1 : ((off s 0 m : Nat) : Int) ≤ s.size := by omega
  obtain ⟨k, hkd⟩ : ∃ k, k = off s 0 m := ⟨_, rfl⟩
  rw [← hkd] at hk0 hk1 hcut ⊢
  have hkle : k ≤ s.size := by omega
  have HC : Hid (off s 0 (m + j) = k + off (s.extract k s.size) 0 j) := hcut
  have HE : Hid (off s 0 s.size = s.size) := hend
  have hl3 := off_le (s.extract k s.size) j 0 (Nat.zero_le _)
  have hes : (s.extract k s.size).size = s.size - k := by rw [ByteArray.size_extract]; omega
  clear hcut HK hkd hend
  go_wp2_with fail
  have hc2 := zzOffset_any s (m + j) (by omega) hs w1
  rw [Int.natCast_add] at hc2
  refine hc2.mono ?_
  rintro e w2 ⟨rfl, hB2⟩
  rw [HC.out]
  have HB2 : Hid (Below w.heap.size w w2) := HB1.out.trans (hB2.mono HB1.out.size)
  clear hc2 hB2 HB1
  go_wp2_with fail
  refine (zzOffset_any (s.extract k s.size) j (by omega) (by omega) _).mono ?_
  rintro e w3 ⟨rfl, hB3⟩
  have HB3 : Hid (Below w.heap.size w w3) := HB2.out.trans (hB3.mono HB2.out.size)
  clear hB3 HB2
  generalize off (s.extract k s.size) 0 j = r at *
  go_wp2_with fail
  refine (zzOffset_any s s.size (by omega) hs _).mono ?_
  rintro e w4 ⟨rfl, hB4⟩
  rw [HE.out]
  have HB4 : Hid (Below w.heap.size w w4) := HB3.out.trans (hB4.mono HB3.out.size)
  clear hB4 HB3
  go_wp2
  go_ret
  exact ⟨rfl, HB4.out⟩

theorem cut_any (s : ByteArray) (m j : Int) (w : World) :
    Calls Try.prog 3 #[.string s, .int .i64 m, .int .i64 j] w fun e w' => e = .returned (.bool true) ∧ Below w.heap.size w w' := by
  by_cases h : (s.size ≤ 1048576 ∧ 0 ≤ m ∧ m ≤ 2097152) ∧ 0 ≤ j ∧ j ≤ 2097152
  · obtain ⟨m', rfl⟩ := Int.eq_ofNat_of_zero_le h.1.2.1
    obtain ⟨j', rfl⟩ := Int.eq_ofNat_of_zero_le h.2.1
    exact cut_main s m' j' h.1.1 (by omega) (by omega) w
  · go_enter Try.func3, Try.ntmps3
    go_wp2_with fail
    refine (zzBytes5_any _ _ _ _).mono ?_
    rintro e w' ⟨⟨r, rfl⟩, hw⟩
    have hw := hw.symm
    subst hw
    cases r
    · go_wp2
      go_ret
      exact ⟨rfl, Below.refl _ _⟩
    by_cases h1 : s.size ≤ 1048576
    · by_cases h2 : 0 ≤ m
      · by_cases h3 : m ≤ 2097152
        · by_cases h4 : 0 ≤ j
          · have h5 : 2097152 < j := by omega
            clear h
            go_wp2
            go_ret
            exact ⟨rfl, Below.refl _ _⟩
          · have h5 : j < 0 := by omega
            clear h
            go_wp2
            go_ret
            exact ⟨rfl, Below.refl _ _⟩
        · have h5 : 2097152 < m := by omega
          clear h
          go_wp2
          go_ret
          exact ⟨rfl, Below.refl _ _⟩
      · have h5 : m < 0 := by omega
        clear h
        go_wp2
        go_ret
        exact ⟨rfl, Below.refl _ _⟩
    · have h5 : (1048576 : Int) < s.size := by omega
      clear h
      go_wp2
      go_ret
      exact ⟨rfl, Below.refl _ _⟩
end Go.Proofs.Qxb6623266a
