import Derived.Test.Qxb6619851aProg
import Derived.OrdersHeld
import Derived.Deep.RegionHeld
import Derived.StillTail
import Derived.Deep.Quiet
namespace Go.Proofs.Qxb6619851a

section
variable {P : Program} {ops : Array Oper} {Q : Exit → Act → World → Prop} {md : Region.Mode} {S : World → Prop} {o : Oper} {a : Act} {w : World} {K : Act → World → Prop}

theorem wanted_plain (hg : o.guard = none) (ys : Nat → Option Bool) : Region.wanted o ys = true := by simp [Region.wanted, hg]

theorem yi_run (hg : o.guard = none) (v : Value) (h : ∀ w, S w → (execOp a.eval o).run P w = .ok (.value v) w) : YieldsIf P ops S o v a :=
  .inl ⟨wanted_plain hg _, h⟩
theorem yi_move (hg : o.guard = none) (x : Operand) (v : Value) (ho : o.op = .move x) (hv : a.eval x = v) : YieldsIf P ops S o v a :=
  yi_run hg v fun w _ => by simp [execOp, ho, hv]

theorem wp_value (v : Value) (w' : World) (h : (execOp a.eval o).run P w = .ok (.value v) w') (hK : K (a.put o.dst v) w') : o.wp P a w K Q := by
  unfold Oper.wp
  rw [h]
  exact hK
theorem wp_skip (w' : World) (h : (execOp a.eval o).run P w = .ok .skip w') (hK : K (a.put o.dst undef) w') : o.wp P a w K Q := by
  unfold Oper.wp
  rw [h]
  exact hK

/-- One operation alone may come up. -/
theorem only {l : List Oper} {i fuel : Nat} {listed : Array Bool} (hr : Region.ready md l.toArray listed = [i]) (ho : l[i]? = some o) (hg : o.guard = none)
    (h : ∀ K' : Act → World → Prop, (∀ a w, S w → wpAnyH P md l.toArray Q S fuel (listed.setIfInBounds i true) a w → K' a w) → o.wp P a w K' Q) : wpAnyH P md l.toArray Q S (fuel + 1) listed a w :=
  wpAnyH_ready hr (by simp) (AllReadyH.cons (by simpa using ho) (fun K' hK => by rw [if_pos (wanted_plain hg _)]; exact h K' (fun a w hS hw => hK.out a w hS (fun _ => hw))) AllReadyH.nil)

/-- One of two may come up. -/
theorem either {l : List Oper} {i j fuel : Nat} {oi oj : Oper} {listed : Array Bool} (hr : Region.ready md l.toArray listed = [i, j]) (hoi : l[i]? = some oi) (hoj : l[j]? = some oj) (hgi : oi.guard = none) (hgj : oj.guard = none)
    (hi : ∀ K' : Act → World → Prop, (∀ a w, S w → wpAnyH P md l.toArray Q S fuel (listed.setIfInBounds i true) a w → K' a w) → oi.wp P a w K' Q)
    (hj : ∀ K' : Act → World → Prop, (∀ a w, S w → wpAnyH P md l.toArray Q S fuel (listed.setIfInBounds j true) a w → K' a w) → oj.wp P a w K' Q) : wpAnyH P md l.toArray Q S (fuel + 1) listed a w :=
  wpAnyH_ready hr (by simp) (AllReadyH.cons (by simpa using hoi) (fun K' hK => by rw [if_pos (wanted_plain hgi _)]; exact hi K' (fun a w hS hw => hK.out a w hS (fun _ => hw)))
    (AllReadyH.cons (by simpa using hoj) (fun K' hK => by rw [if_pos (wanted_plain hgj _)]; exact hj K' (fun a w hS hw => hK.out a w hS (fun _ => hw))) AllReadyH.nil))

/-- Q, and no panic. -/
def NoPan (Q : Exit → Act → World → Prop) : Exit → Act → World → Prop
  | .panic _, _, _ => False
  | e, a, w => Q e a w
theorem noPan_put {d : Option Tmp} {v : Value} : ∀ (c : List PanicEntry) (a : Act) (w : World), NoPan Q (.panic c) (a.put d v) w → NoPan Q (.panic c) a w := fun _ _ _ h => h
theorem noPan_imp : ∀ (e : Exit) (a : Act) (w : World), NoPan Q e a w → Q e a w := fun e a w h => by
  cases e <;> first | exact h | exact (h : False).elim

/-- The beginning. -/
theorem begin_held {id n : Nat} {l : List Oper} (hm : P.follows .mixedOrders = true) (hn : l.length = n)
    (h : wpAnyH P .any l.toArray (NoPan Q) S n (Array.replicate n false) a w.drew) : (Code.region id l.toArray true).wp P Q a w := by
  subst hn
  exact Code.wp_mono noPan_imp (wp_region_held hm (by simpa using h))

def takeB (l : List Oper) (listed : Array Bool) (i : Nat) : Bool := Region.noSelect l.toArray && Region.free .any l.toArray listed i && (Region.ready .any l.toArray listed).contains i
/-- Number i is taken first. -/
theorem take {l : List Oper} {i fuel : Nat} {oi : Oper} (v : Value) {listed : Array Bool} (hB : takeB l listed i = true) (hi : l[i]? = some oi) (hy : YieldsIf P l.toArray S oi v a) (hS : S w)
    (h : wpAnyH P .any l.toArray (NoPan Q) S fuel (listed.setIfInBounds i true) (a.put oi.dst v) w) : wpAnyH P .any l.toArray (NoPan Q) S (fuel + 1) listed a w := by
  simp only [takeB, Bool.and_eq_true] at hB
  exact wpAnyH_take (by simpa using hi) hB.1.1 hB.1.2 hB.2 noPan_put hy hS h
/-- All have come up. -/
theorem finish {l : List Oper} {fuel : Nat} {listed : Array Bool} (hr : Region.ready .any l.toArray listed = []) (h : Q .normal a w) : wpAnyH P .any l.toArray (NoPan Q) S fuel listed a w :=
  wpAnyH_done (Q := NoPan Q) hr h fuel

/-- One of two may come up: the first only reads, the second makes memory; either way the same comes of it. -/
theorem either_same {l : List Oper} {i j fuel : Nat} {oi oj : Oper} {listed : Array Bool} {vi vj : Value} {w1 : World} (hr : Region.ready md l.toArray listed = [i, j]) (hri : Region.ready md l.toArray (listed.setIfInBounds i true) = [j])
    (hrj : Region.ready md l.toArray (listed.setIfInBounds j true) = [i]) (hij : i ≠ j) (hoi : l[i]? = some oi) (hoj : l[j]? = some oj) (hgi : oi.guard = none) (hgj : oj.guard = none)
    (Ri : (execOp a.eval oi).run P w = .ok (.value vi) w) (Rj' : (execOp (a.put oi.dst vi).eval oj).run P w = .ok (.value vj) w1)
    (Rj : (execOp a.eval oj).run P w = .ok (.value vj) w1) (Ri' : (execOp (a.put oj.dst vj).eval oi).run P w1 = .ok (.value vi) w1)
    (hcomm : (a.put oj.dst vj).put oi.dst vi = (a.put oi.dst vi).put oj.dst vj) (hS : S w) (hS1 : S w1)
    (h : wpAnyH P md l.toArray Q S fuel ((listed.setIfInBounds i true).setIfInBounds j true) ((a.put oi.dst vi).put oj.dst vj) w1) : wpAnyH P md l.toArray Q S (fuel + 2) listed a w := by
  refine either hr hoi hoj hgi hgj (fun K' hK => wp_value _ _ Ri (hK _ _ hS ?_)) (fun K' hK => wp_value _ _ Rj (hK _ _ hS1 ?_))
  · exact only hri hoj hgj (fun K' hK => wp_value _ _ Rj' (hK _ _ hS1 h))
  · refine only hrj hoi hgi (fun K' hK => wp_value _ _ Ri' (hK _ _ hS1 ?_))
    rw [hcomm, Array.setIfInBounds_comm _ _ (Ne.symm hij)]
    exact h

/-- A quiet walk in the one world is a still walk. -/
theorem still_of_quiet {Q : Act → Prop} : ∀ (l : List Oper) (a : Act), wpQuiet P ops (fun w' => w' = w) Q l a → wpStill P ops w Q l a
  | [], _, h => h
  | o :: rest, a, h => by
    unfold wpQuiet at h
    unfold wpStill
    split
    · rename_i hw
      rw [if_pos hw] at h
      obtain ⟨v, h1, h2⟩ := h
      have h3 := h1 w rfl
      unfold Oper.quietAt at h3
      unfold Oper.still
      have h4 := still_of_quiet rest _ h2
      generalize (execOp a.eval o).run P w = r at *
      cases r with
      | ok n w' =>
        cases n <;> simp only [Oper.quietUpon] at h3 <;> simp only [Oper.stillUpon]
        case value u => exact ⟨h3.1, by rw [h3.2]; exact h4⟩
        case skip => exact ⟨h3.1, by rw [← h3.2]; exact h4⟩
        case enter f args => exact ⟨h3.1, v, h3.2, h4⟩
      | halt x w' => simp only [Oper.quietUpon] at h3
    · rename_i hw
      rw [if_neg hw] at h
      exact still_of_quiet rest _ h

/-- The first n operations only read, in whatever order; the others come behind them, one by one. -/
theorem wp_region_quiet_tail {id : Nat} {l : List Oper} (n : Nat) (hm : P.follows .mixedOrders = true) (hB : Region.lexTailB .any l.toArray n = true)
    (h : wpQuiet P l.toArray (fun w' => w' = w.drew) (fun a' => wpList P l.toArray Q (l.drop n) a' w.drew) (l.take n) a) : (Code.region id l.toArray true).wp P Q a w :=
  wp_region_still_tail n hm hB (still_of_quiet _ _ h)
end
end Go.Proofs.Qxb6619851a
