import Derived.Lib.Bytealg
namespace Go.Proofs.Qxb6619851a
open Go.Lib (compareBytes)

/-! ### the plain law: the order of ids and of padded bytes. No Go in sight. -/
/-- The first 32 bytes, zeros behind. -/
def pad (p : List UInt8) : List UInt8 := (p ++ List.replicate 32 0).take 32

theorem pad_length (p : List UInt8) : (pad p).length = 32 := by simp [pad]
theorem pad_get (p : List UInt8) (j : Nat) (hj : j < 32) : (pad p)[j]? = some (p.getD j 0) := by
  unfold pad
  rw [List.getElem?_take, if_pos hj]
  by_cases h : j < p.length
  · rw [List.getElem?_append_left h]
    simp [List.getD, List.getElem?_eq_getElem h]
  · rw [List.getElem?_append_right (by omega)]
    rw [List.getElem?_replicate, if_pos (by omega)]
    simp [List.getD, List.getElem?_eq_none (show p.length ≤ j by omega)]
theorem pad_self {p : List UInt8} (h : p.length = 32) : pad p = p := by
  unfold pad
  rw [List.take_append_of_le_length (by omega), List.take_of_length_le (by omega)]

/-- a < b, byte by byte. -/
def ltB (a b : List UInt8) : Bool := decide (compareBytes a b < 0)

theorem u8_irr (x : UInt8) : ¬ x < x := by simp

theorem lt_at : ∀ {a b : List UInt8} {k : Nat} {u v : UInt8}, (∀ j : Nat, j < k → a[j]? = b[j]?) → a[k]? = some u → b[k]? = some v → u < v → compareBytes a b = -1
  | [], _, _, _, _, _, ha, _, _ => by simp at ha
  | _ :: _, [], _, _, _, _, _, hb, _ => by simp at hb
  | x :: a, y :: b, 0, u, v, _, ha, hb, h => by
    simp at ha hb
    subst ha; subst hb
    simp [compareBytes, h]
  | x :: a, y :: b, k + 1, u, v, he, ha, hb, h => by
    have h0 := he 0 (by omega)
    simp at h0
    subst h0
    have hx : ¬ x < x := u8_irr x
    simp only [compareBytes, hx, if_false]
    exact lt_at (k := k) (fun j hj => by have := he (j + 1) (by omega); simpa using this) (by simpa using ha) (by simpa using hb) h

theorem gt_at : ∀ {a b : List UInt8} {k : Nat} {u v : UInt8}, (∀ j : Nat, j < k → a[j]? = b[j]?) → a[k]? = some u → b[k]? = some v → v < u → compareBytes a b = 1
  | [], _, _, _, _, _, ha, _, _ => by simp at ha
  | _ :: _, [], _, _, _, _, _, hb, _ => by simp at hb
  | x :: a, y :: b, 0, u, v, _, ha, hb, h => by
    simp at ha hb
    subst ha; subst hb
    have : ¬ x < y := by simp [UInt8.lt_iff_toNat_lt] at h ⊢; exact UInt8.le_iff_toNat_le.2 (by omega)
    simp [compareBytes, h, this]
  | x :: a, y :: b, k + 1, u, v, he, ha, hb, h => by
    have h0 := he 0 (by omega)
    simp at h0
    subst h0
    have hx : ¬ x < x := u8_irr x
    simp only [compareBytes, hx, if_false]
    exact gt_at (k := k) (fun j hj => by have := he (j + 1) (by omega); simpa using this) (by simpa using ha) (by simpa using hb) h

theorem cmp_self : ∀ a : List UInt8, compareBytes a a = 0
  | [] => rfl
  | x :: a => by
    have hx : ¬ x < x := u8_irr x
    simp only [compareBytes, hx, if_false]
    exact cmp_self a

/-- Two lists of one length: alike, or a first place where they part. -/
theorem first_diff : ∀ {a b : List UInt8}, a.length = b.length → a = b ∨ ∃ (k : Nat) (u v : UInt8), (∀ j : Nat, j < k → a[j]? = b[j]?) ∧ a[k]? = some u ∧ b[k]? = some v ∧ u ≠ v
  | [], [], _ => .inl rfl
  | [], _ :: _, h => by simp at h
  | _ :: _, [], h => by simp at h
  | x :: a, y :: b, h => by
    by_cases e : x = y
    · subst e
      rcases first_diff (a := a) (b := b) (by simpa using h) with rfl | ⟨k, u, v, h1, h2, h3, h4⟩
      · exact .inl rfl
      · refine .inr ⟨k + 1, u, v, fun j hj => ?_, by simpa using h2, by simpa using h3, h4⟩
        cases j with
        | zero => rfl
        | succ j => simpa using h1 j (by omega)
    · exact .inr ⟨0, x, y, fun j hj => by omega, rfl, rfl, e⟩

theorem u8_lt_or {u v : UInt8} (h : u ≠ v) : u < v ∨ v < u := by
  rw [UInt8.lt_iff_toNat_lt, UInt8.lt_iff_toNat_lt]
  have : u.toNat ≠ v.toNat := fun e => h (UInt8.toNat_inj.1 e)
  omega

/-- Byte by byte no less: not below. -/
theorem not_lt_of_ge {a b : List UInt8} (hl : a.length = b.length) (h : ∀ (j : Nat) (u v : UInt8), a[j]? = some u → b[j]? = some v → v.toNat ≤ u.toNat) : ltB a b = false := by
  unfold ltB
  rcases first_diff hl with rfl | ⟨k, u, v, h1, h2, h3, h4⟩
  · simp [cmp_self]
  · rcases u8_lt_or h4 with h5 | h5
    · have := h k u v h2 h3
      rw [UInt8.lt_iff_toNat_lt] at h5
      omega
    · rw [gt_at h1 h2 h3 h5]; decide

/-- Where a is below b: the first place at which they part. -/
theorem diff_of_lt {a b : List UInt8} (hl : a.length = b.length) (h : ltB a b = true) : ∃ (k : Nat) (u v : UInt8), (∀ j : Nat, j < k → a[j]? = b[j]?) ∧ a[k]? = some u ∧ b[k]? = some v ∧ u < v := by
  unfold ltB at h
  rcases first_diff hl with rfl | ⟨k, u, v, h1, h2, h3, h4⟩
  · simp [cmp_self] at h
  · rcases u8_lt_or h4 with h5 | h5
    · exact ⟨k, u, v, h1, h2, h3, h5⟩
    · rw [gt_at h1 h2 h3 h5] at h; simp at h

/-- below: the timestamps, then the padded bytes. -/
def belowB (t : Int) (p : List UInt8) (s : Int) (q : List UInt8) : Bool := if t = s then ltB (pad p) (pad q) else decide (t < s)
/-- itemLess. -/
def itemB (t : Int) (x : List UInt8) (s : Int) (y : List UInt8) : Bool := if t = s then ltB x y else decide (t < s)

/-- k is where between stops: the first k bytes are shared; k is 31 or the next two differ. -/
structure Shared (x y : List UInt8) (k : Nat) : Prop where
  le : k ≤ 31
  same : ∀ j : Nat, j < k → x[j]? = y[j]?
  stop : k < 31 → x[k]? ≠ y[k]?

theorem shared_diff {x y : List UInt8} {k d : Nat} {u v : UInt8} (hx : x.length = 32) (hs : Shared x y k) (h1 : ∀ j : Nat, j < d → x[j]? = y[j]?) (h2 : x[d]? = some u) (h3 : y[d]? = some v) (h4 : u < v) : k = d := by
  have hd : d < 32 := by have := (List.getElem?_eq_some_iff.1 h2).1; omega
  have hne : x[d]? ≠ y[d]? := by
    rw [h2, h3]
    intro e
    have : u = v := Option.some.inj e
    subst this
    exact u8_irr u h4
  rcases Nat.lt_trichotomy k d with h | h | h
  · exact absurd (h1 k h) (hs.stop (by omega))
  · exact h
  · exact absurd (hs.same d h) hne

/-- What the bound keeps of next's id. -/
def sepOf (t : Int) (s : Int) (y : List UInt8) (k : Nat) : List UInt8 := if t = s then y.take (k + 1) else []

theorem pad_take_le {y : List UInt8} (hy : y.length = 32) (m : Nat) : ∀ (j : Nat) (u v : UInt8), y[j]? = some u → (pad (y.take m))[j]? = some v → v.toNat ≤ u.toNat := by
  intro j u v hu hv
  have hj : j < 32 := by have := (List.getElem?_eq_some_iff.1 hu).1; omega
  rw [pad_get _ _ hj] at hv
  have hv := Option.some.inj hv
  subst hv
  simp only [List.getD, List.getElem?_take]
  split
  · rw [hu]; simp
  · simp

/-- next is not below the bound. -/
theorem next_not_below {t s : Int} {y : List UInt8} (hy : y.length = 32) (k : Nat) : belowB s y s (sepOf t s y k) = false := by
  unfold belowB sepOf
  rw [if_pos rfl, pad_self hy]
  by_cases h : t = s
  · rw [if_pos h]
    exact not_lt_of_ge (by rw [pad_length, hy]) (pad_take_le hy _)
  · rw [if_neg h]
    exact not_lt_of_ge (by rw [pad_length, hy]) (pad_take_le hy 0)

/-- prev is below the bound. -/
theorem prev_below {t s : Int} {x y : List UInt8} (hx : x.length = 32) (hy : y.length = 32) {k : Nat} (hs : t = s → Shared x y k) (h : itemB t x s y = true) : belowB t x s (sepOf t s y k) = true := by
  unfold belowB sepOf
  unfold itemB at h
  by_cases e : t = s
  · rw [if_pos e] at h ⊢
    rw [if_pos e, pad_self hx]
    obtain ⟨d, u, v, h1, h2, h3, h4⟩ := diff_of_lt (by omega) h
    obtain rfl := shared_diff hx (hs e) h1 h2 h3 h4
    have hd : k < 32 := by have := (List.getElem?_eq_some_iff.1 h2).1; omega
    have hp : ∀ j : Nat, j < k + 1 → (pad (y.take (k + 1)))[j]? = y[j]? := by
      intro j hj
      rw [pad_get _ _ (by omega)]
      simp only [List.getD, List.getElem?_take, if_pos hj]
      rw [List.getElem?_eq_getElem (by omega)]
      simp
    have := lt_at (a := x) (b := pad (y.take (k + 1))) (k := k) (fun j hj => by rw [hp j (by omega)]; exact h1 j hj) h2 (by rw [hp k (by omega)]; exact h3) h4
    unfold ltB
    rw [this]
    decide
  · rw [if_neg e] at h ⊢
    exact h

/-- Nothing shorter holds prev. -/
theorem shorter_not {s : Int} {x y : List UInt8} (hx : x.length = 32) {k : Nat} (hs : Shared x y k) : belowB s x s (y.take k) = false := by
  unfold belowB
  rw [if_pos rfl, pad_self hx]
  refine not_lt_of_ge (by rw [pad_length, hx]) ?_
  intro j u v hu hv
  have hj : j < 32 := by have := (List.getElem?_eq_some_iff.1 hu).1; omega
  rw [pad_get _ _ hj] at hv
  have hv := Option.some.inj hv
  subst hv
  simp only [List.getD, List.getElem?_take]
  split
  · rename_i hjk
    rw [← hs.same j hjk, hu]; simp
  · simp
end Go.Proofs.Qxb6619851a
