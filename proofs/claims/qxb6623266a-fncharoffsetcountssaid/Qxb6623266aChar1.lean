import Derived.Laws.RangeAny
namespace Go.Proofs.Qxb6623266a

/-! ### the plain law: where the n-th character starts. No Go in sight. -/
/-- How many bytes the character at p takes. -/
def adv (s : ByteArray) (p : Nat) : Nat := (Utf8.decode s p).2

theorem adv_pos (s : ByteArray) (p : Nat) : 1 ≤ adv s p := by
  unfold adv
  simp only [Utf8.decode]
  repeat' split
  all_goals omega

theorem adv_le (s : ByteArray) (p : Nat) (h : p < s.size) : p + adv s p ≤ s.size := by
  unfold adv
  simp only [Utf8.decode]
  repeat' split
  all_goals simp_all
  all_goals omega

theorem get_extract (s : ByteArray) (k i : Nat) : (s.extract k s.size).get! i = s.get! (k + i) := by
  have e : ∀ (b : ByteArray) (j : Nat), b.get! j = b.data.toList.getD j 0 := by
    intro b j
    show b.data.get!Internal j = _
    rw [Array.get!Internal_eq_getElem!]
    by_cases h : j < b.data.size
    · rw [getElem!_pos b.data j h]; simp [List.getD, Array.getElem?_eq_getElem h]
    · rw [getElem!_neg b.data j h]; simp [List.getD, Array.getElem?_eq_none (Nat.le_of_not_lt h)]; rfl
  rw [e, e]
  simp only [ByteArray.data_extract, Array.toList_extract, List.getD_eq_getElem?_getD]
  have hs : s.size = s.data.toList.length := by rw [Array.length_toList]; rfl
  rw [hs]
  simp only [List.extract_eq_take_drop, List.getElem?_take, List.getElem?_drop]
  split
  · rfl
  · rw [List.getElem?_eq_none (by omega)]

theorem decode_extract (s : ByteArray) (k p : Nat) : Utf8.decode (s.extract k s.size) p = Utf8.decode s (k + p) := by
  have hc : ∀ j, decide (p + j < (s.extract k s.size).size) = decide (k + p + j < s.size) := by
    intro j
    rw [decide_eq_decide, ByteArray.size_extract]
    omega
  simp only [Utf8.decode, get_extract, hc, Nat.add_assoc]

theorem adv_extract (s : ByteArray) (k p : Nat) : adv (s.extract k s.size) p = adv s (k + p) := by unfold adv; rw [decode_extract]

/-- Where one stands n characters behind p. -/
def off (s : ByteArray) : Nat → Nat → Nat
  | p, 0 => p
  | p, n + 1 => if p < s.size then off s (p + adv s p) n else p

theorem off_end (s : ByteArray) {p : Nat} (h : ¬ p < s.size) (n : Nat) : off s p n = p := by
  cases n with
  | zero => rfl
  | succ n => rw [off, if_neg h]
theorem off_add (s : ByteArray) : ∀ (m p j : Nat), off s p (m + j) = off s (off s p m) j
  | 0, p, j => by rw [Nat.zero_add]; rfl
  | m + 1, p, j => by
    rw [show m + 1 + j = (m + j) + 1 by omega, off, off]
    by_cases h : p < s.size
    · rw [if_pos h, if_pos h]; exact off_add s m _ j
    · rw [if_neg h, if_neg h, off_end s h]
theorem off_le (s : ByteArray) : ∀ (n p : Nat), p ≤ s.size → p ≤ off s p n ∧ off s p n ≤ s.size
  | 0, p, h => ⟨Nat.le_refl _, h⟩
  | n + 1, p, h => by
    rw [off]
    by_cases hp : p < s.size
    · rw [if_pos hp]
      have h1 := adv_le s p hp
      have := off_le s n (p + adv s p) h1
      omega
    · rw [if_neg hp]; omega
theorem off_one (s : ByteArray) (p : Nat) (h : p < s.size) : off s p 1 = p + adv s p := by rw [off, if_pos h]; rfl
theorem off_succ (s : ByteArray) (n : Nat) (h : off s 0 n < s.size) : off s 0 (n + 1) = off s 0 n + adv s (off s 0 n) := by
  rw [off_add s n 0 1, off_one s _ h]
theorem off_strict (s : ByteArray) {b n : Nat} (h : off s 0 b < s.size) (hbn : b < n) : off s 0 b < off s 0 n := by
  obtain ⟨d, rfl⟩ : ∃ d, n = b + 1 + d := ⟨n - b - 1, by omega⟩
  rw [off_add s (b + 1) 0 d, off_succ s b h]
  have h1 := adv_le s _ h
  have h2 := adv_pos s (off s 0 b)
  have := (off_le s d _ h1).1
  omega
theorem off_mono (s : ByteArray) {b n : Nat} (hbn : b ≤ n) : off s 0 b ≤ off s 0 n := by
  by_cases h : b = n
  · subst h; exact Nat.le_refl _
  · by_cases h1 : off s 0 b < s.size
    · exact Nat.le_of_lt (off_strict s h1 (by omega))
    · obtain ⟨d, rfl⟩ : ∃ d, n = b + d := ⟨n - b, by omega⟩
      rw [off_add s b 0 d, off_end s h1]
      exact Nat.le_refl _
theorem off_full (s : ByteArray) : ∀ (n p : Nat), p ≤ s.size → s.size - p ≤ n → off s p n = s.size
  | 0, p, h, h1 => by rw [off]; omega
  | n + 1, p, h, h1 => by
    rw [off]
    by_cases hp : p < s.size
    · rw [if_pos hp]
      have h2 := adv_le s p hp
      have h3 := adv_pos s p
      exact off_full s n _ h2 (by omega)
    · rw [if_neg hp]; omega
theorem off_extract (s : ByteArray) (k : Nat) (hk : k ≤ s.size) : ∀ (n p : Nat), off s (k + p) n = k + off (s.extract k s.size) p n
  | 0, p => rfl
  | n + 1, p => by
    rw [off, off]
    have hs : (s.extract k s.size).size = s.size - k := by rw [ByteArray.size_extract]; omega
    by_cases h : k + p < s.size
    · rw [if_pos h, if_pos (by omega), adv_extract, Nat.add_assoc, ← off_extract s k hk n]
    · rw [if_neg h, if_neg (by omega)]
/-- The law of the cut. -/
theorem off_cut (s : ByteArray) (m j : Nat) : off s 0 (m + j) = off s 0 m + off (s.extract (off s 0 m) s.size) 0 j := by
  rw [off_add, ← off_extract s _ (off_le s m 0 (Nat.zero_le _)).2 j 0]
  rfl
end Go.Proofs.Qxb6623266a
