import Derived.Test.Qxb6619851aRise0
set_option linter.unusedVariables false
namespace Go.Proofs.Qxb6619851a
open Go.RowKit

/-! ### the plain law: a bound that does not hold x lies below a bound that does -/
theorem lt_of_ge_lt {x l s : List UInt8} (h1 : x.length = l.length) (h2 : l.length = s.length) (hl : ltB x l = false) (hs : ltB x s = true) : ltB l s = true := by
  obtain ⟨d, a, b, e1, e2, e3, e4⟩ := diff_of_lt (by omega) hs
  rcases first_diff h2 with rfl | ⟨k, u, v, f1, f2, f3, f4⟩
  · rw [hl] at hs; cases hs
  · rcases u8_lt_or f4 with h | h
    · unfold ltB; rw [lt_at f1 f2 f3 h]; decide
    · exfalso
      have ht : ltB x l = true := by
        rcases Nat.lt_trichotomy d k with hd | hd | hd
        · unfold ltB
          rw [lt_at (k := d) (fun j hj => by rw [e1 j hj, f1 j (by omega)]) e2 (by rw [f1 d hd]; exact e3) e4]; decide
        · subst hd
          have : b = v := by rw [e3] at f3; exact Option.some.inj f3
          subst this
          unfold ltB
          rw [lt_at (k := d) (fun j hj => by rw [e1 j hj, f1 j hj]) e2 f2 (by rw [UInt8.lt_iff_toNat_lt] at *; omega)]; decide
        · unfold ltB
          rw [lt_at (k := k) (fun j hj => by rw [e1 j (by omega), f1 j hj]) (by rw [e1 k hd]; exact f3) f2 h]; decide
      rw [hl] at ht; cases ht
theorem below_step {t s : Int} {x L S : List UInt8} (h1 : belowB t x s S = true) (h2 : belowB t x t L = false) : belowB t L s S = true := by
  unfold belowB at *
  rw [if_pos rfl] at h2
  by_cases e : t = s
  · rw [if_pos e] at h1 ⊢
    exact lt_of_ge_lt (by rw [pad_length, pad_length]) (by rw [pad_length, pad_length]) h2 h1
  · rw [if_neg e] at h1 ⊢
    exact h1

theorem zzBytes10_any (a0 a1 : Option Addr) (n0 n1 c0 c1 : Nat) (w : World) :
    Calls Try.prog 10 #[.slice a0 n0 c0, .slice a1 n1 c1] w fun e w' => IsB e ∧ w' = w := by
  go_enter Try.func10, Try.ntmps10
  go_wp2
  · go_ret; exact ⟨isB _, rfl⟩
  · go_ret; exact ⟨isB _, rfl⟩
  · go_ret; exact ⟨isB _, rfl⟩
  go_loop [5, 6] (fun z i => ∃ (v : Int) (k : Nat), 0 ≤ v ∧ v ≤ 1048576 ∧ k ≤ n1 ∧ z = .int .i64 v ∧ i = .int .i64 k) (fun _ i => n1 - (intOf i).toNat)
  case atStart => exact ⟨_, 0, by omega, by omega, Nat.zero_le _, rfl, rfl⟩
  case round =>
    obtain ⟨v, k, hv0, hv1, hk, rfl, rfl⟩ := hrel
    by_cases hlt : k < n1
    · go_wp2
      · go_ret; exact ⟨isB _, rfl⟩
      · go_round
        case rel => exact ⟨_, k + 1, by omega, by omega, by omega, rfl, by go_num⟩
        case measure => simp [intOf]; omega
    · go_wp2
      go_ret; exact ⟨isB _, rfl⟩

/-- The list is sorted up to k. -/
def SortedTo (T : List Int) (X : List (List UInt8)) (k : Nat) : Prop := ∀ (j : Nat) (t s : Int) (x y : List UInt8), j < k → T[j]? = some t → T[j + 1]? = some s → X[j]? = some x → X[j + 1]? = some y → itemB t x s y = true

/-- What the last bound is, ahead of round k. -/
def LastIs (T : List Int) (X : List (List UInt8)) (k : Nat) (wr : World) (v6 v7 : Value) : Prop :=
  k = 0 ∨ ∃ (t : Int) (x L : List UInt8) (a : Option Addr) (c : Nat), T[k]? = some t ∧ X[k]? = some x ∧ v6 = .int .u64 t ∧ v7 = .slice a L.length c ∧ BsAt wr a L ∧ belowB t x t L = false

theorem LastIs.below {T : List Int} {X : List (List UInt8)} {k : Nat} {w w' : World} {u v : Value} (h : LastIs T X k w u v) (hB : Below w.heap.size w w') : LastIs T X k w' u v := by
  rcases h with h | ⟨t, x, L, a, c, h1, h2, h3, h4, h5, h6⟩
  · exact .inl h
  · exact .inr ⟨t, x, L, a, c, h1, h2, h3, h4, h5.below hB, h6⟩

set_option maxRecDepth 100000 in
set_option maxHeartbeats 4000000 in
theorem rise_main (a0 a1 : Option Addr) (c0 c1 : Nat) (T : List Int) (X : List (List UInt8)) (w : World) (hT : TsAt w a0 T) (hX : IdsAt w a1 X) (hTX : T.length = X.length) (hxl : X.length ≤ 4096) :
    Calls Try.prog 4 #[.slice a0 X.length c0, .slice a1 X.length c1] w fun e w' => e = .returned (.bool true) ∧ Below w.heap.size w w' := by
  have HTX : Hid (T.length = X.length) := hTX
  clear hTX
  go_enter Try.func4, Try.ntmps4
  go_wp2_with fail
  refine (zzBytes10_any _ _ _ _ _ _ _).mono ?_
  rintro e w' ⟨⟨r, rfl⟩, hw⟩
  have hw := hw.symm
  subst hw
  cases r
  · go_wp2
    go_ret
    exact ⟨rfl, Below.refl _ _⟩
  go_wp2
  go_loopw [5] (fun i wr => ∃ k : Nat, k ≤ X.length ∧ i = .int .i64 k ∧ SortedTo T X k ∧ Below w.heap.size w wr) (fun i _ => X.length - (intOf i).toNat)
  case atStart => exact ⟨0, Nat.zero_le _, rfl, fun j _ _ _ _ h => by omega, Below.refl _ _⟩
  case round =>
    obtain ⟨k, hk, rfl, hs, hB⟩ := hrel
    by_cases hlt : k + 1 < X.length
    · have e1 : X[k]? = some X[k] := List.getElem?_eq_getElem (by omega)
      have e2 : X[k + 1]? = some X[k + 1] := List.getElem?_eq_getElem (by omega)
      obtain ⟨t, f1⟩ : ∃ t, T[k]? = some t := ⟨_, List.getElem?_eq_getElem (by have := HTX.out; omega)⟩
      obtain ⟨s, f2⟩ : ∃ t, T[k + 1]? = some t := ⟨_, List.getElem?_eq_getElem (by have := HTX.out; omega)⟩
      obtain ⟨b, off, ha, hi1⟩ := (hX.below hB) k _ e1
      subst ha
      obtain ⟨b', off', ha', hi2⟩ := (hX.below hB) (k + 1) _ e2
      cases ha'
      obtain ⟨d, doff, hd, hc1⟩ := (hT.below hB) k _ f1
      subst hd
      obtain ⟨d', doff', hd', hc2⟩ := (hT.below hB) (k + 1) _ f2
      cases hd'
      have hb : (k : Int) + 1 < X.length := by omega
      have HB : Hid (Below w.heap.size w wr) := hB
      have HS : Hid (SortedTo T X k) := hs
      have HE : Hid (T[k]? = some t ∧ T[k + 1]? = some s ∧ X[k]? = some X[k] ∧ X[k + 1]? = some X[k + 1]) := ⟨f1, f2, e1, e2⟩
      have hx := hi1.1
      have hy := hi2.1
      clear hB hs f1 f2 e1 e2
      generalize X[k] = x at *
      generalize X[k + 1] = y at *
      go_wp2
      refine wp_region_quiet_tail 18 (by kernel_rfl) (by kernel_rfl) ?_
      simp only [List.take_succ_cons, List.take_zero, List.drop_succ_cons, List.drop_zero]
      iterate 7 (go_big_quiet_step (fail))
      go_big_quiet_want
      refine quiet_load_id _ rfl b (off + k * 32) rfl x (fun w' hw' => by rw [hw']; exact hi1) ?_
      go_frame
      go_big_quiet_on
      iterate 9 (go_big_quiet_step (fail))
      go_big_quiet_want
      refine quiet_load_id _ rfl b (off + (k + 1) * 32) rfl y (fun w' hw' => by rw [hw']; exact hi2) ?_
      go_frame
      go_big_quiet_on
      refine wpQuiet_nil ?_
      go_wp2_with fail
      refine (itemLess_any t s x y hx hy _).mono ?_
      rintro e w1 ⟨rfl, hB1⟩
      have HB1 : Hid (Below w.heap.size w w1) := HB.out.drew.trans (hB1.mono HB.out.size)
      clear hB1 HB hi1 hi2 hc1 hc2
      cases hit : itemB t x s y
      · go_wp2
        go_ret
        exact ⟨rfl, HB1.out⟩
      · have HIT : Hid (itemB t x s y = true) := hit
        clear hit
        go_wp2
        go_roundw
        case rel =>
          refine ⟨k + 1, by omega, by go_num, ?_, HB1.out⟩
          intro j t' s' x' y' hj g1 g2 g3 g4
          by_cases hjk : j = k
          · subst hjk
            obtain ⟨f1, f2, e1, e2⟩ := HE.out
            rw [f1] at g1; rw [f2] at g2; rw [e1] at g3; rw [e2] at g4
            cases g1; cases g2; cases g3; cases g4
            exact HIT.out
          · exact HS.out j t' s' x' y' (by omega) g1 g2 g3 g4
        case measure => simp [intOf]; omega
    · have HALL : Hid (∀ (j : Nat) (t s : Int) (x y : List UInt8), T[j]? = some t → T[j + 1]? = some s → X[j]? = some x → X[j + 1]? = some y → itemB t x s y = true) := fun j t s x y g1 g2 g3 g4 =>
        hs j t s x y (by have := (List.getElem?_eq_some_iff.1 g4).1; omega) g1 g2 g3 g4
      have HB : Hid (Below w.heap.size w wr) := hB
      have hb : ¬ (k : Int) + 1 < X.length := by omega
      clear hs hB
      go_wp2
      go_loopw [6, 7, 8] (fun l p i w2 => ∃ k : Nat, k ≤ X.length ∧ i = .int .i64 k ∧ Below w.heap.size w w2 ∧ LastIs T X k w2 l p) (fun _ _ i _ => X.length - (intOf i).toNat)
      case atStart => exact ⟨0, Nat.zero_le _, rfl, HB.out, .inl rfl⟩
      case round =>
        clear HB hb hlt hk
        obtain ⟨k, hk, rfl, hB, hlast⟩ := hrel
        by_cases hlt : k + 1 < X.length
        · have e1 : X[k]? = some X[k] := List.getElem?_eq_getElem (by omega)
          have e2 : X[k + 1]? = some X[k + 1] := List.getElem?_eq_getElem (by omega)
          obtain ⟨t, f1⟩ : ∃ t, T[k]? = some t := ⟨_, List.getElem?_eq_getElem (by have := HTX.out; omega)⟩
          obtain ⟨s, f2⟩ : ∃ t, T[k + 1]? = some t := ⟨_, List.getElem?_eq_getElem (by have := HTX.out; omega)⟩
          obtain ⟨b, off, ha, hi1⟩ := (hX.below hB) k _ e1
          subst ha
          obtain ⟨b', off', ha', hi2⟩ := (hX.below hB) (k + 1) _ e2
          cases ha'
          obtain ⟨d, doff, hd, hc1⟩ := (hT.below hB) k _ f1
          subst hd
          obtain ⟨d', doff', hd', hc2⟩ := (hT.below hB) (k + 1) _ f2
          cases hd'
          have hb : (k : Int) + 1 < X.length := by omega
          have HB : Hid (Below w.heap.size w wr) := hB
          have HIT : Hid (itemB t X[k] s X[k + 1] = true) := HALL.out k _ _ _ _ f1 f2 e1 e2
          have HE : Hid (T[k]? = some t ∧ T[k + 1]? = some s ∧ X[k]? = some X[k] ∧ X[k + 1]? = some X[k + 1]) := ⟨f1, f2, e1, e2⟩
          have HL : Hid (LastIs T X k wr u6 u7) := hlast
          have hx := hi1.1
          have hy := hi2.1
          clear hB f1 f2 e1 e2 hlast
          generalize X[k] = x at *
          generalize X[k + 1] = y at *
          go_wp2
          have hS0 : Below wr.heap.size wr wr.drew := (Below.refl _ _).drew
          refine begin_held (n := 24) (S := fun w' => Below wr.heap.size wr w') (by kernel_rfl) rfl ?_
          refine take (i := 0) (.slice (some ⟨d, doff, none⟩) X.length c0) (by kernel_rfl) rfl (yi_move rfl _ _ rfl rfl) hS0 ?_
          go_frame
          refine take (i := 1) (.int .i64 (k : Int)) (by kernel_rfl) rfl (yi_move rfl _ _ rfl rfl) hS0 ?_
          go_frame
          refine take (i := 2) (.pointer (some ⟨d, doff + k, none⟩)) (by kernel_rfl) rfl (yi_index29 rfl _ _ rfl rfl rfl rfl (by omega)) hS0 ?_
          go_frame
          refine take (i := 3) (.int .u64 t) (by kernel_rfl) rfl (yi_load22 rfl _ rfl rfl (fun w' h => (h.cell (block_lt_of_cell hc1)).trans hc1)) hS0 ?_
          go_frame
          refine take (i := 4) (.slice (some ⟨b, off, none⟩) X.length c1) (by kernel_rfl) rfl (yi_move rfl _ _ rfl rfl) hS0 ?_
          go_frame
          refine take (i := 5) (.int .i64 (k : Int)) (by kernel_rfl) rfl (yi_move rfl _ _ rfl rfl) hS0 ?_
          go_frame
          refine take (i := 6) (.pointer (some ⟨b, off + k * 32, none⟩)) (by kernel_rfl) rfl (yi_index30 rfl _ _ rfl rfl rfl rfl (by omega)) hS0 ?_
          go_frame
          refine take (i := 7) (.agg (idV x)) (by kernel_rfl) rfl (yi_load rfl _ rfl rfl (fun w' h => hi1.below h hi1.lt)) hS0 ?_
          go_frame
          refine take (i := 8) (.slice (some ⟨d, doff, none⟩) X.length c0) (by kernel_rfl) rfl (yi_move rfl _ _ rfl rfl) hS0 ?_
          go_frame
          refine take (i := 9) (.int .i64 (k : Int)) (by kernel_rfl) rfl (yi_move rfl _ _ rfl rfl) hS0 ?_
          go_frame
          refine take (i := 10) (.int .i64 ((k : Int) + 1)) (by kernel_rfl) rfl (yi_add1 rfl _ rfl rfl (by omega)) hS0 ?_
          go_frame
          refine take (i := 11) (.pointer (some ⟨d, doff + (k + 1), none⟩)) (by kernel_rfl) rfl (yi_index29 rfl _ _ rfl rfl rfl rfl (by omega)) hS0 ?_
          go_frame
          refine take (i := 12) (.int .u64 s) (by kernel_rfl) rfl (yi_load22 rfl _ rfl rfl (fun w' h => (h.cell (block_lt_of_cell hc2)).trans hc2)) hS0 ?_
          go_frame
          refine take (i := 13) (.slice (some ⟨b, off, none⟩) X.length c1) (by kernel_rfl) rfl (yi_move rfl _ _ rfl rfl) hS0 ?_
          go_frame
          refine take (i := 14) (.int .i64 (k : Int)) (by kernel_rfl) rfl (yi_move rfl _ _ rfl rfl) hS0 ?_
          go_frame
          refine take (i := 15) (.int .i64 ((k : Int) + 1)) (by kernel_rfl) rfl (yi_add1 rfl _ rfl rfl (by omega)) hS0 ?_
          go_frame
          refine take (i := 16) (.pointer (some ⟨b, off + (k + 1) * 32, none⟩)) (by kernel_rfl) rfl (yi_index30 rfl _ _ rfl rfl rfl rfl (by omega)) hS0 ?_
          go_frame
          refine take (i := 17) (.agg (idV y)) (by kernel_rfl) rfl (yi_load rfl _ rfl rfl (fun w' h => hi2.below h hi2.lt)) hS0 ?_
          go_frame
          refine only (i := 18) (by kernel_rfl) rfl rfl ?_
          intro K' hK
          refine wp_call (f := 8) (args := #[.int .u64 t, .agg (idV x), .int .u64 s, .agg (idV y)]) (by kernel_rfl) (R := fun v w' => ∃ a c q, v = .tuple #[.int .u64 s, .slice a (sepOf t s y q).length c] ∧ BsAt w' a (sepOf t s y q) ∧ (t = s → Shared x y q) ∧ Below wr.heap.size wr w')
            ((zzBetween_any t s x y hx hy wr.drew).mono (fun e w' h => by obtain ⟨a, c, q, he, h1, h2, h3⟩ := h; exact ⟨_, he, a, c, q, rfl, h1, h2, hS0.trans h3⟩)) ?_
          rintro v W1 ⟨a, c, q, rfl, hbs, hsh, hB1⟩
          refine hK _ _ hB1 ?_
          clear hK K' hS0
          go_frame
          refine take (i := 19) (.tuple #[.int .u64 s, .slice a (sepOf t s y q).length c]) (by kernel_rfl) rfl (yi_move rfl _ _ rfl rfl) hB1 ?_
          go_frame
          refine take (i := 20) (.int .u64 s) (by kernel_rfl) rfl (yi_run rfl _ (fun _ _ => by kernel_rfl)) hB1 ?_
          go_frame
          refine take (i := 21) (.slice a (sepOf t s y q).length c) (by kernel_rfl) rfl (yi_run rfl _ (fun _ _ => by kernel_rfl)) hB1 ?_
          go_frame
          refine take (i := 22) (.int .u64 s) (by kernel_rfl) rfl (yi_run rfl _ (fun _ _ => by kernel_rfl)) hB1 ?_
          go_frame
          refine take (i := 23) (.slice a (sepOf t s y q).length c) (by kernel_rfl) rfl (yi_run rfl _ (fun _ _ => by kernel_rfl)) hB1 ?_
          go_frame
          refine finish (by kernel_rfl) ?_
          have hT1 : W1.cell? ⟨d, doff + k, none⟩ = some (.int .u64 t) := (hB1.cell (block_lt_of_cell hc1)).trans hc1
          have hT2 : W1.cell? ⟨d, doff + (k + 1), none⟩ = some (.int .u64 s) := (hB1.cell (block_lt_of_cell hc2)).trans hc2
          have hI1 : IdAt W1 b (off + k * 32) x := hi1.below hB1 hi1.lt
          have hI2 : IdAt W1 b (off + (k + 1) * 32) y := hi2.below hB1 hi2.lt
          have HL1 : Hid (LastIs T X k W1 u6 u7) := HL.out.below hB1
          have HB1 : Hid (Below w.heap.size w W1) := HB.out.trans (hB1.mono HB.out.size)
          clear hc1 hc2 hi1 hi2 hB1 HL HB
          have hpb := prev_below hx hy hsh HIT.out
          have hnb := next_not_below (t := t) (s := s) hy q
          have hPl : (sepOf t s y q).length ≤ 32 := by unfold sepOf; split <;> simp <;> omega
          have HPG : Hid (∀ (i : Nat) (v : UInt8), (sepOf t s y q)[i]? = some v → y[i]? = some v) := sep_get t s y q
          generalize sepOf t s y q = P at *
          have HPB : Hid (belowB t x s P = true) := hpb
          have HNB : Hid (belowB s y s P = false) := hnb
          clear hsh hpb hnb
          have hB2 : Below W1.heap.size W1 ((W1.alloc (.cells (idV y) 23)).alloc (.cells (idV x) 23)) := ((Below.refl _ _).alloc (Nat.le_refl _) _).alloc (by simp) _
          have hI1' : IdAt (W1.alloc (.cells (idV y) 23)) b (off + k * 32) x := hI1.below ((Below.refl _ _).alloc (Nat.le_refl _) _) hI1.lt
          go_upto_region 23 with (first
            | (refine wpList_load_id rfl _ rfl b (off + (k + 1) * 32) rfl y hI2 ?_; go_frame)
            | (refine wpList_alloc_id rfl rfl ?_; go_frame)
            | (refine wpList_store_new (w := W1) rfl _ _ rfl y hy rfl rfl ?_; go_frame))
          go_upto_region 24 with (first
            | (refine wpList_load_id rfl _ rfl b (off + k * 32) rfl x hI1' ?_; go_frame)
            | (refine wpList_alloc_id rfl rfl ?_; go_frame)
            | (refine wpList_store_new (w := W1.alloc (.cells (idV y) 23)) rfl _ _ rfl x hx rfl rfl ?_; go_frame))
          obtain ⟨b1, b2⟩ := alloc2 W1 (.cells (idV y) 23) (.cells (idV x) 23)
          have hN := idAt_row hy b1
          have hC := idAt_row hx b2
          have hU1 : ((W1.alloc (.cells (idV y) 23)).alloc (.cells (idV x) 23)).cell? ⟨d, doff + k, none⟩ = some (.int .u64 t) := (hB2.cell (block_lt_of_cell hT1)).trans hT1
          have hU2 : ((W1.alloc (.cells (idV y) 23)).alloc (.cells (idV x) 23)).cell? ⟨d, doff + (k + 1), none⟩ = some (.int .u64 s) := (hB2.cell (block_lt_of_cell hT2)).trans hT2
          have hbs2 := hbs.below hB2
          have HL2 : Hid (LastIs T X k ((W1.alloc (.cells (idV y) 23)).alloc (.cells (idV x) 23)) u6 u7) := HL1.out.below hB2
          have HB2 : Hid (Below w.heap.size w ((W1.alloc (.cells (idV y) 23)).alloc (.cells (idV x) 23))) := HB1.out.trans (hB2.mono HB1.out.size)
          simp only [World.size_alloc]
          clear b1 b2 hT1 hT2 hI1 hI2 hI1' hbs HL1 HB1 hB2
          generalize hg1 : W1.heap.size = g at *
          clear hg1
          generalize (W1.alloc (.cells (idV y) 23)).alloc (.cells (idV x) 23) = W3 at *
          go_wp2
          go_loopw [13] (fun i wi => ∃ m : Nat, m ≤ P.length ∧ i = .int .i64 m ∧ ∃ n, wi = W3.drewN n) (fun i _ => P.length - (intOf i).toNat)
          case atStart => exact ⟨0, Nat.zero_le _, rfl, 0, rfl⟩
          case round =>
            obtain ⟨m, hm, rfl, n, rfl⟩ := hrel
            by_cases hmlt : m < P.length
            · obtain ⟨v, hv⟩ : ∃ v, P[m]? = some v := ⟨_, List.getElem?_eq_getElem hmlt⟩
              obtain ⟨pb, poff, pa, hc⟩ := hbs2 m v hv
              subst pa
              have hcy : W3.cell? ⟨g, m, none⟩ = some (.int .u8 (v.toNat : Int)) := by have := hN.2 m v (HPG.out m v hv); rwa [Nat.zero_add] at this
              have hbm : (m : Int) < P.length := by omega
              have hbm' : (m : Int) < 32 := by omega
              clear hv hU1 hU2 hN hC hbs2 HL2 HB2
              go_wp2
              go_quiet (fail)
              go_wp2
              go_roundw
              case rel => exact ⟨m + 1, by omega, by go_num, n + nq, by first | rfl | rw [World.drewN_drewN]⟩
              case measure => simp [intOf]; omega
            · have hbs5 := hbs2.below (below_drewN (Below.refl _ _) n)
              have hN5 := hN.drewN n
              have hC5 := hC.drewN n
              have hV1 : (W3.drewN n).cell? ⟨d, doff + k, none⟩ = some (.int .u64 t) := by simpa using hU1
              have hV2 : (W3.drewN n).cell? ⟨d, doff + (k + 1), none⟩ = some (.int .u64 s) := by simpa using hU2
              have HL5 : Hid (LastIs T X k (W3.drewN n) u6 u7) := HL2.out.below (below_drewN (Below.refl _ _) n)
              have HB5 : Hid (Below w.heap.size w (W3.drewN n)) := below_drewN HB2.out n
              have hsl := run_slice23
              clear hbs2 hN hC hU1 hU2 HL2 HB2 hm
              generalize W3.drewN n = W5 at *
              have hbC := bs_of_id hC5 32
              have hbN := bs_of_id hN5 32
              rw [List.take_of_length_le (by omega)] at hbC hbN
              clear hC5 hN5
              go_wp2
              refine wp_region_quiet_tail 7 (by kernel_rfl) (by kernel_rfl) ?_
              simp only [List.take_succ_cons, List.take_zero, List.drop_succ_cons, List.drop_zero]
              iterate 7 (go_big_quiet_step (fail))
              refine wpQuiet_nil ?_
              go_wp2_with fail
              have hcc := zzBelow_any t s (some ⟨g + 1, 0, none⟩) a 32 c x P W5.drew (by exact hbC) (by exact hbs5)
              rw [hx] at hcc
              refine hcc.mono ?_
              rintro e W6 ⟨rfl, hB0⟩
              rw [HPB.out]
              have hB : Below W5.heap.size W5 W6 := ((Below.refl _ _).drew).trans hB0
              have hbN6 := hbN.below hB
              have hbs6 := hbs5.below hB
              have hV26 : W6.cell? ⟨d, doff + (k + 1), none⟩ = some (.int .u64 s) := (hB.cell (block_lt_of_cell hV2)).trans hV2
              have HL6 : Hid (LastIs T X k W6 u6 u7) := HL5.out.below hB
              have HB6 : Hid (Below w.heap.size w W6) := HB5.out.trans (hB.mono HB5.out.size)
              clear hcc hB hB0 hbC hbN hbs5 hV1 hV2 HL5 HB5
              go_wp2
              refine wp_region_quiet_tail 8 (by kernel_rfl) (by kernel_rfl) ?_
              simp only [List.take_succ_cons, List.take_zero, List.drop_succ_cons, List.drop_zero]
              iterate 8 (go_big_quiet_step (fail))
              refine wpQuiet_nil ?_
              go_wp2_with fail
              have hcc := zzBelow_any s s (some ⟨g, 0, none⟩) a 32 c y P W6.drew (by exact hbN6) (by exact hbs6)
              rw [hy] at hcc
              refine hcc.mono ?_
              rintro e W7 ⟨rfl, hB0⟩
              rw [HNB.out]
              have hB : Below W6.heap.size W6 W7 := ((Below.refl _ _).drew).trans hB0
              have hbs7 := hbs6.below hB
              have HL7 : Hid (LastIs T X k W7 u6 u7) := HL6.out.below hB
              have HB7 : Hid (Below w.heap.size w W7) := HB6.out.trans (hB.mono HB6.out.size)
              clear hcc hB hB0 hbN6 hbs6 hV26 HL6 HB6 hsl
              by_cases hk0 : k = 0
              · subst hk0
                have HBS : Hid (BsAt W7 a P) := hbs7
                clear hbs7
                go_wp2
                go_roundw
                case rel => exact ⟨0 + 1, by omega, by go_num, HB7.out, .inr ⟨s, y, P, a, c, HE.out.2.1, HE.out.2.2.2, rfl, rfl, HBS.out, HNB.out⟩⟩
                case measure => simp [intOf]; omega
              · rcases HL7.out with h0 | ⟨t', x', L, aL, cL, g1, g2, rfl, rfl, hL, hnl⟩
                · exact absurd h0 hk0
                · obtain rfl : t' = t := by have := HE.out.1; rw [g1] at this; exact Option.some.inj this
                  obtain rfl : x' = x := by have := HE.out.2.2.1; rw [g2] at this; exact Option.some.inj this
                  have hst := below_step HPB.out hnl
                  have hkp : (0 : Int) < k := by omega
                  clear HL7 g1 g2 hnl
                  go_wp2_with fail
                  refine (zzBelow_any t' s aL a cL c L P W7 (by exact hL) (by exact hbs7)).mono ?_
                  rintro e W8 ⟨rfl, hB⟩
                  rw [hst]
                  have HBS : Hid (BsAt W8 a P) := hbs7.below hB
                  have HB8 : Hid (Below w.heap.size w W8) := HB7.out.trans (hB.mono HB7.out.size)
                  clear hbs7 hL hB HB7 hst
                  go_wp2
                  go_roundw
                  case rel => exact ⟨k + 1, by omega, by go_num, HB8.out, .inr ⟨s, y, P, a, c, HE.out.2.1, HE.out.2.2.2, rfl, rfl, HBS.out, HNB.out⟩⟩
                  case measure => simp [intOf]; omega
        · go_wp2
          go_ret
          exact ⟨rfl, hB⟩
end Go.Proofs.Qxb6619851a
