import Derived.Test.Qxb6619851aLex
namespace Go.Proofs.Qxb6619851a
open Go.Lib (compareBytes)

/-! ### the 40-byte key: the timestamp big-endian, then the padded bytes -/
/-- The lowest k bytes of n, the highest of them first. -/
def be : Nat → Nat → List UInt8
  | 0, _ => []
  | k + 1, n => UInt8.ofNat (n / 256 ^ k % 256) :: be k n

theorem be_length : ∀ k n : Nat, (be k n).length = k
  | 0, _ => rfl
  | k + 1, n => by simp [be, be_length k n]
theorem be_get : ∀ (k n i : Nat), i < k → (be k n)[i]? = some (UInt8.ofNat (n / 256 ^ (k - 1 - i) % 256))
  | 0, _, _, h => by omega
  | k + 1, n, 0, _ => by simp [be]
  | k + 1, n, i + 1, h => by
    rw [be, List.getElem?_cons_succ, be_get k n i (by omega)]
    congr 5
    omega

theorem be_cmp : ∀ (k n m : Nat), n / 256 ^ k = m / 256 ^ k → compareBytes (be k n) (be k m) = (if n < m then -1 else if m < n then 1 else 0)
  | 0, n, m, h => by
    simp at h
    subst h
    simp [be, compareBytes]
  | k + 1, n, m, h => by
    have en : n / 256 ^ (k + 1) = n / 256 ^ k / 256 := by rw [Nat.pow_succ, Nat.div_div_eq_div_mul]
    have em : m / 256 ^ (k + 1) = m / 256 ^ k / 256 := by rw [Nat.pow_succ, Nat.div_div_eq_div_mul]
    rw [en, em] at h
    have tn : (UInt8.ofNat (n / 256 ^ k % 256)).toNat = n / 256 ^ k % 256 := by rw [UInt8.toNat_ofNat']; omega
    have tm : (UInt8.ofNat (m / 256 ^ k % 256)).toNat = m / 256 ^ k % 256 := by rw [UInt8.toNat_ofNat']; omega
    rw [be, be, compareBytes]
    simp only [UInt8.lt_iff_toNat_lt, tn, tm]
    by_cases h1 : n / 256 ^ k % 256 < m / 256 ^ k % 256
    · rw [if_pos h1]
      have h2 : n / 256 ^ k < m / 256 ^ k := by omega
      have h3 : n < m := by
        apply Decidable.byContradiction
        intro h4
        have := Nat.div_le_div_right (c := 256 ^ k) (show m ≤ n by omega)
        omega
      rw [if_pos h3]
    · rw [if_neg h1]
      by_cases h2 : m / 256 ^ k % 256 < n / 256 ^ k % 256
      · rw [if_pos h2]
        have h2 : m / 256 ^ k < n / 256 ^ k := by omega
        have h3 : m < n := by
          apply Decidable.byContradiction
          intro h4
          have := Nat.div_le_div_right (c := 256 ^ k) (show n ≤ m by omega)
          omega
        rw [if_neg (by omega), if_pos h3]
      · rw [if_neg h2]
        exact be_cmp k n m (by omega)

theorem cmp_append : ∀ {a b : List UInt8} (c d : List UInt8), a.length = b.length → compareBytes (a ++ c) (b ++ d) = (if compareBytes a b = 0 then compareBytes c d else compareBytes a b)
  | [], [], c, d, _ => by simp [compareBytes]
  | [], _ :: _, _, _, h => by simp at h
  | _ :: _, [], _, _, h => by simp at h
  | x :: a, y :: b, c, d, h => by
    have ih := cmp_append c d (show a.length = b.length by simpa using h)
    simp only [List.cons_append, compareBytes]
    by_cases h1 : x < y
    · simp [h1]
    · by_cases h2 : y < x
      · simp [h1, h2]
      · simp only [h1, h2, if_false]
        exact ih

/-- boundKey. -/
def keyB (t : Int) (p : List UInt8) : List UInt8 := be 8 t.toNat ++ pad p
theorem keyB_length (t : Int) (p : List UInt8) : (keyB t p).length = 40 := by simp [keyB, be_length, pad_length]

/-- The order of the keys is 'below'. -/
theorem key_below {t s : Int} (p q : List UInt8) (ht : 0 ≤ t) (ht' : t < 2 ^ 64) (hs : 0 ≤ s) (hs' : s < 2 ^ 64) : ltB (keyB t p) (keyB s q) = belowB t p s q := by
  have e : t.toNat / 256 ^ 8 = s.toNat / 256 ^ 8 := by omega
  unfold ltB keyB belowB
  rw [cmp_append _ _ (by rw [be_length, be_length]), be_cmp 8 _ _ e]
  by_cases h : t = s
  · subst h
    simp [ltB]
  · rw [if_neg h]
    by_cases h1 : t < s
    · have h2 : t.toNat < s.toNat := by omega
      simp [h1, h2]
    · have h2 : ¬ t.toNat < s.toNat := by omega
      have h3 : s.toNat < t.toNat := by omega
      simp [h1, h2, h3]

/-- Not both ways. -/
theorem below_asym (t s : Int) (p q : List UInt8) : (belowB t p s q && belowB s q t p) = false := by
  unfold belowB
  by_cases h : t = s
  · subst h
    rw [if_pos rfl, if_pos rfl]
    have hl : (pad p).length = (pad q).length := by rw [pad_length, pad_length]
    unfold ltB
    rcases first_diff hl with e | ⟨k, u, v, h1, h2, h3, h4⟩
    · rw [e, cmp_self]; decide
    · rcases u8_lt_or h4 with h5 | h5
      · rw [lt_at h1 h2 h3 h5, gt_at (fun j hj => (h1 j hj).symm) h3 h2 h5]; decide
      · rw [gt_at h1 h2 h3 h5, lt_at (fun j hj => (h1 j hj).symm) h3 h2 h5]; decide
  · rw [if_neg h, if_neg (fun e => h e.symm)]
    by_cases h1 : t < s
    · have : ¬ s < t := by omega
      simp [this]
    · simp [h1]

/-- Zeros behind change nothing. -/
theorem pad_zeros (p : List UInt8) (k : Nat) : pad (p ++ List.replicate k 0) = pad p := by
  unfold pad
  rw [List.append_assoc, List.replicate_append_replicate]
  rw [List.take_append, List.take_append]
  congr 1
  simp only [List.take_replicate]
  congr 1
  omega
theorem below_zeros_left (t s : Int) (p q : List UInt8) (k : Nat) : belowB t (p ++ List.replicate k 0) s q = belowB t p s q := by
  unfold belowB; rw [pad_zeros]
theorem below_zeros_right (t s : Int) (p q : List UInt8) (k : Nat) : belowB t p s (q ++ List.replicate k 0) = belowB t p s q := by
  unfold belowB; rw [pad_zeros]
end Go.Proofs.Qxb6619851a
