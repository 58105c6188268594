import Derived.Test.Qxb6623266aChar3
set_option linter.unusedVariables false
namespace Go.Proofs.Qxb6623266a
open Go.RowKit

/-- c characters have been read, and that is where one stands. -/
def Read (s : ByteArray) (c pos : Nat) : Prop := off s 0 c = pos ∧ pos ≤ s.size ∧ ∀ c', c' < c → off s 0 c' < s.size
theorem read_zero (s : ByteArray) : Read s 0 0 := ⟨rfl, Nat.zero_le _, fun _ h => by omega⟩
theorem read_step {s : ByteArray} {c pos : Nat} (h : Read s c pos) (hp : pos < s.size) : Read s (c + 1) (pos + (Utf8.decode s pos).2) := by
  obtain ⟨h1, h2, h3⟩ := h
  subst h1
  refine ⟨by rw [off_succ s c hp]; rfl, adv_le s _ hp, fun c' hc => ?_⟩
  by_cases e : c' = c
  · subst e; exact hp
  · exact h3 c' (by omega)
theorem read_le {s : ByteArray} {c pos : Nat} (h : Read s c pos) : c ≤ s.size := by
  by_cases hc : c = 0
  · omega
  · have := h.2.2 (c - 1) (by omega)
    have h2 : ∀ d, d ≤ c - 1 → d ≤ off s 0 d := by
      intro d
      induction d with
      | zero => intro _; omega
      | succ d ih =>
        intro hd
        have h4 := h.2.2 d (by omega)
        rw [off_succ s d h4]
        have := adv_pos s (off s 0 d)
        have := ih (by omega)
        omega
    have := h2 (c - 1) (Nat.le_refl _)
    omega

set_option maxRecDepth 100000 in
theorem count_any (s : ByteArray) (hs : s.size ≤ 1048576) (w : World) :
    Calls Try.prog 8 #[.string s] w fun e w' => (∃ c : Nat, e = .returned (.int .i64 (c : Int)) ∧ Read s c s.size) ∧ Below w.heap.size w w' := by
  go_enter Try.func8, Try.ntmps8
  go_wp2
  go_loopw [3] (fun v w' => ∃ (pos c : Nat), w' = w.iter s pos ∧ v = .int .i64 (c : Int) ∧ Read s c pos) (fun _ w' => s.size - w'.iterPos w.heap.size)
  case atStart => exact ⟨0, 0, rfl, rfl, read_zero s⟩
  case round =>
    obtain ⟨pos, c, rfl, rfl, hr⟩ := hrel
    have hc := read_le hr
    have hp := hr.2.1
    have HR : Hid (Read s c pos) := hr
    clear hr
    by_cases h : pos < s.size
    · have hnx := fun ty => run_next_any (P := Try.prog) w s pos ty h
      go_wp2
      go_roundw
      case rel => exact ⟨pos + (Utf8.decode s pos).2, c + 1, rfl, by go_num, read_step HR.out h⟩
      case measure =>
        have := adv_pos s pos
        unfold adv at this
        simp
        omega
    · have hnx := fun ty => run_next_end (P := Try.prog) w s pos ty h
      obtain rfl : pos = s.size := by omega
      go_wp2
      go_ret
      exact ⟨⟨c, rfl, HR.out⟩, below_iter _ _ _⟩

set_option maxRecDepth 100000 in
set_option maxHeartbeats 1000000 in
theorem counts_main (s : ByteArray) (n : Nat) (hs : s.size ≤ 1048576) (hn : n ≤ 2097152) (w : World) :
    Calls Try.prog 4 #[.string s, .int .i64 (n : Int)] w fun e w' => e = .returned (.bool true) ∧ Below w.heap.size w w' := by
  have HK := off_le s n 0 (Nat.zero_le _)
  go_enter Try.func4, Try.ntmps4
  go_wp2_with fail
  refine (zzBytes7_any _ _ _).mono ?_
  rintro e w' ⟨⟨r, rfl⟩, hw⟩
  have hw := hw.symm
  subst hw
  cases r
  · go_wp2
    go_ret
    exact ⟨rfl, Below.refl _ _⟩
  go_wp2_with fail
  refine (zzOffset_any s n (by omega) hs _).mono ?_
  rintro e w1 ⟨rfl, hB1⟩
  have HB1 : Hid (Below w.heap.size w w1) := hB1
  clear hB1
  obtain ⟨k, hkd⟩ : ∃ k, k = off s 0 n := ⟨_, rfl⟩
  rw [← hkd] at HK ⊢
  have HKD : Hid (k = off s 0 n) := hkd
  clear hkd
  have hk0 : (0 : Int) ≤ k := by omega
  have hk1 : (k : Int) ≤ s.size := by omega
  by_cases hks : k = s.size
  · subst hks
    go_wp2_with fail
    refine (count_any s hs _).mono ?_
    rintro e w2 ⟨⟨c, rfl, hr⟩, hB2⟩
    have hcn : c ≤ n := by
      apply Decidable.byContradiction
      intro h
      have := hr.2.2 n (by omega)
      have := HKD.out
      omega
    have hcn' : (c : Int) ≤ n := by omega
    have HB2 : Hid (Below w.heap.size w w2) := HB1.out.trans (hB2.mono HB1.out.size)
    clear hr hB2 HB1
    go_wp2
    go_ret
    exact ⟨by simp, HB2.out⟩
  · have hkne : (k : Int) ≠ s.size := by omega
    go_wp2
    go_loopw [6] (fun v w' => ∃ (pos b : Nat), w' = w1.iter s pos ∧ v = .int .i64 (b : Int) ∧ b ≤ n ∧ off s 0 b = pos) (fun _ w' => s.size - w'.iterPos w1.heap.size)
    case atStart => exact ⟨0, 0, rfl, rfl, Nat.zero_le _, rfl⟩
    case round =>
      obtain ⟨pos, b, rfl, rfl, hb, ho⟩ := hrel
      have hpk : pos ≤ k := by rw [HKD.out, ← ho]; exact off_mono s hb
      have hps : pos < s.size := by omega
      have hnx := fun ty => run_next_any (P := Try.prog) w1 s pos ty hps
      have HO : Hid (off s 0 b = pos) := ho
      clear ho
      by_cases hpe : pos = k
      · subst hpe
        obtain rfl : b = n := by
          apply Decidable.byContradiction
          intro h
          have h1 := off_strict s (b := b) (n := n) (by rw [HO.out]; exact hps) (by omega)
          rw [HO.out, ← HKD.out] at h1
          omega
        go_wp2
        go_ret
        exact ⟨rfl, HB1.out.trans ((below_iter _ _ _).mono HB1.out.size)⟩
      · have hlt : pos < k := by omega
        have hlt' : (pos : Int) < k := by omega
        have hbn : b < n := by
          apply Decidable.byContradiction
          intro h
          obtain rfl : b = n := by omega
          have := HO.out
          have := HKD.out
          omega
        go_wp2
        go_roundw
        case rel => exact ⟨pos + (Utf8.decode s pos).2, b + 1, rfl, by go_num, by omega, by have h1 := off_succ s b (by rw [HO.out]; exact hps); rw [h1, HO.out]; rfl⟩
        case measure =>
          have := adv_pos s pos
          unfold adv at this
          simp
          omega

theorem counts_any (s : ByteArray) (n : Int) (w : World) :
    Calls Try.prog 4 #[.string s, .int .i64 n] w fun e w' => e = .returned (.bool true) ∧ Below w.heap.size w w' := by
  by_cases h : s.size ≤ 1048576 ∧ 0 ≤ n ∧ n ≤ 2097152
  · obtain ⟨m, rfl⟩ := Int.eq_ofNat_of_zero_le h.2.1
    exact counts_main s m h.1 (by omega) w
  · go_enter Try.func4, Try.ntmps4
    go_wp2_with fail
    refine (zzBytes7_any _ _ _).mono ?_
    rintro e w' ⟨⟨r, rfl⟩, hw⟩
    have hw := hw.symm
    subst hw
    cases r
    · go_wp2
      go_ret
      exact ⟨rfl, Below.refl _ _⟩
    by_cases h1 : s.size ≤ 1048576
    · by_cases h2 : 0 ≤ n
      · have h5 : 2097152 < n := by omega
        clear h
        go_wp2
        go_ret
        exact ⟨rfl, Below.refl _ _⟩
      · have h5 : n < 0 := by omega
        clear h
        go_wp2
        go_ret
        exact ⟨rfl, Below.refl _ _⟩
    · have h5 : (1048576 : Int) < s.size := by omega
      clear h
      go_wp2
      go_ret
      exact ⟨rfl, Below.refl _ _⟩
end Go.Proofs.Qxb6623266a
