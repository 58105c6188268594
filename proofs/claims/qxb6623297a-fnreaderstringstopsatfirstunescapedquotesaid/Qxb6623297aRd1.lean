import Derived.WalkKit
namespace Go.Proofs.Qxb6623297a

/-! ### the plain law: the first quote behind an even run of backslashes. No Go in sight. -/
/-- Where the first unescaped quote lies; 'o': an odd run of backslashes stands before. -/
def fin : List UInt8 → Bool → Option Nat
  | [], _ => none
  | c :: r, o => if c = 34 ∧ o = false then some 0 else (fin r (if c = 92 then !o else false)).map (· + 1)

theorem fin_get : ∀ (l : List UInt8) (o : Bool) (k : Nat), fin l o = some k → l[k]? = some 34
  | [], _, _, h => by simp [fin] at h
  | c :: r, o, k, h => by
    unfold fin at h
    split at h
    · rename_i hc
      cases h
      simp [hc.1]
    · cases hf : fin r (if c = 92 then !o else false) with
      | none => rw [hf] at h; cases h
      | some j =>
        rw [hf] at h
        cases h
        simpa using fin_get r _ j hf
theorem fin_take : ∀ (l : List UInt8) (o : Bool) (k : Nat) (t : List UInt8), fin l o = some k → fin (l.take (k + 1) ++ t) o = some k
  | [], _, _, _, h => by simp [fin] at h
  | c :: r, o, k, t, h => by
    unfold fin at h
    split at h
    · rename_i hc
      cases h
      simp [fin, hc]
    · rename_i hc
      cases hf : fin r (if c = 92 then !o else false) with
      | none => rw [hf] at h; cases h
      | some j =>
        rw [hf] at h
        cases h
        have := fin_take r _ j t hf
        simp only [List.take_succ_cons, List.cons_append]
        rw [fin, if_neg hc, this]
        rfl

/-- A scan from i comes to its end at e. -/
def Ends (D : List UInt8) (i e : Nat) : Prop := i ≤ e ∧ fin (D.drop i) false = some (e - i)

theorem drop_cons {D : List UInt8} {i : Nat} {c : UInt8} (h : D[i]? = some c) : D.drop i = c :: D.drop (i + 1) := by
  obtain ⟨hl, rfl⟩ := List.getElem?_eq_some_iff.1 h
  exact List.drop_eq_getElem_cons hl
theorem Ends.get {D : List UInt8} {i e : Nat} (h : Ends D i e) : D[e]? = some 34 := by
  have := fin_get _ _ _ h.2
  rw [List.getElem?_drop, show i + (e - i) = e by have := h.1; omega] at this
  exact this
theorem Ends.lt {D : List UInt8} {i e : Nat} (h : Ends D i e) : e < D.length := (List.getElem?_eq_some_iff.1 h.get).1
theorem Ends.quote {D : List UInt8} {i e : Nat} (h : Ends D i e) (hc : D[i]? = some 34) : e = i := by
  have h2 := h.2
  rw [drop_cons hc, fin, if_pos ⟨rfl, rfl⟩] at h2
  have := Option.some.inj h2
  have := h.1
  omega
theorem Ends.other {D : List UInt8} {i e : Nat} {c : UInt8} (h : Ends D i e) (hc : D[i]? = some c) (h1 : c ≠ 34) (h2 : c ≠ 92) : Ends D (i + 1) e := by
  have h3 := h.2
  rw [drop_cons hc, fin, if_neg (fun x => h1 x.1), if_neg h2] at h3
  cases hf : fin (D.drop (i + 1)) false with
  | none => rw [hf] at h3; cases h3
  | some j =>
    rw [hf] at h3
    simp only [Option.map_some, Option.some.injEq] at h3
    have := h.1
    exact ⟨by omega, by rw [hf]; congr 1; omega⟩
theorem Ends.back {D : List UInt8} {i e : Nat} (h : Ends D i e) (hc : D[i]? = some 92) : Ends D (i + 2) e := by
  have h3 := h.2
  rw [drop_cons hc, fin, if_neg (by decide), if_pos rfl] at h3
  cases hf : fin (D.drop (i + 1)) (!false) with
  | none => rw [hf] at h3; cases h3
  | some j =>
    rw [hf] at h3
    simp only [Option.map_some, Option.some.injEq] at h3
    have hi := h.1
    cases hd : D[i + 1]? with
    | none =>
      have : D.drop (i + 1) = [] := List.drop_eq_nil_of_le (List.getElem?_eq_none_iff.1 hd)
      rw [this] at hf
      simp [fin] at hf
    | some c =>
      rw [drop_cons hd, fin, if_neg (by simp)] at hf
      have e : (if c = 92 then !(!false) else false) = false := by split <;> rfl
      rw [e] at hf
      cases hg : fin (D.drop (i + 1 + 1)) false with
      | none => rw [hg] at hf; cases hf
      | some m =>
        rw [hg] at hf
        simp only [Option.map_some, Option.some.injEq] at hf
        refine ⟨by omega, ?_⟩
        show fin (D.drop (i + 1 + 1)) false = _
        rw [hg]
        congr 1
        omega

theorem Ends.join {D : List UInt8} {i e : Nat} (h : Ends D i e) (pre tail : List UInt8) : Ends (pre ++ (D.take (e + 1) ++ tail)) (pre.length + i) (pre.length + e) := by
  have hi := h.1
  have hl := h.lt
  refine ⟨by omega, ?_⟩
  rw [List.drop_append, List.drop_eq_nil_of_le (by omega), List.nil_append, show pre.length + i - pre.length = i by omega, show pre.length + e - (pre.length + i) = e - i by omega]
  rw [List.drop_append, List.drop_take, show i - (D.take (e + 1)).length = 0 by simp; omega, List.drop_zero, show e + 1 - i = e - i + 1 by omega]
  exact fin_take _ _ _ _ h.2

/-- What the first loop knows, ahead of the look at i: 'o' the parity of the run. -/
def Scan (D : List UInt8) (s i : Nat) (o : Bool) : Prop := s ≤ i ∧ fin (D.drop s) false = (fin (D.drop i) o).map (· + (i - s))
theorem scan_start (D : List UInt8) (s : Nat) : Scan D s s false := ⟨Nat.le_refl _, by simp⟩
theorem Scan.hit {D : List UInt8} {s i : Nat} (h : Scan D s i false) (hc : D[i]? = some 34) : Ends D s i := by
  refine ⟨h.1, ?_⟩
  rw [h.2, drop_cons hc, fin, if_pos ⟨rfl, rfl⟩]
  simp
theorem Scan.step {D : List UInt8} {s i : Nat} {o : Bool} {c : UInt8} (h : Scan D s i o) (hc : D[i]? = some c) (hn : ¬ (c = 34 ∧ o = false)) : Scan D s (i + 1) (if c = 92 then !o else false) := by
  have := h.1
  refine ⟨by omega, ?_⟩
  rw [h.2, drop_cons hc, fin, if_neg hn, Option.map_map]
  congr 1
  funext x
  simp only [Function.comp_apply]
  omega
end Go.Proofs.Qxb6623297a
