import Derived.Test.Qxb6619851aBnd5
namespace Go.Proofs.Qxb6619851a
open Go.RowKit

theorem sep_get (t s : Int) (y : List UInt8) (k : Nat) : ∀ (i : Nat) (v : UInt8), (sepOf t s y k)[i]? = some v → y[i]? = some v := by
  intro i v h
  unfold sepOf at h
  split at h
  · rw [List.getElem?_take] at h
    split at h
    · exact h
    · cases h
  · simp at h

set_option maxRecDepth 100000 in
set_option maxHeartbeats 1000000 in
theorem sep_walk (t s : Int) (x y : List UInt8) (hx : x.length = 32) (hy : y.length = 32) (w : World) :
    Calls Try.prog 3 #[.int .u64 t, .agg (idV x), .int .u64 s, .agg (idV y)] w fun e w' => e = .returned (.bool true) ∧ Below w.heap.size w w' := by
  obtain ⟨b1, b2⟩ := alloc2 w (.cells (idV x) 23) (.cells (idV y) 23)
  have hX := idAt_row hx b1
  have hY := idAt_row hy b2
  have HB : Hid (Below w.heap.size w ((w.alloc (.cells (idV x) 23)).alloc (.cells (idV y) 23))) := ((Below.refl _ _).alloc (Nat.le_refl _) _).alloc (by simp) _
  clear b1 b2
  go_enter Try.func3, Try.ntmps3
  go_upto_region 1 with (fail)
  generalize (w.alloc (.cells (idV x) 23)).alloc (.cells (idV y) 23) = W at *
  go_wp2_with (first
    | (refine wpList_load_id rfl _ rfl w.heap.size 0 rfl x hX ?_; go_frame)
    | (refine wpList_load_id rfl _ rfl (w.heap.size + 1) 0 rfl y hY ?_; go_frame))
  refine (itemLess_any t s x y hx hy _).mono ?_
  rintro e W1 ⟨rfl, hB⟩
  have hX1 := hX.below hB hX.lt
  have hY1 := hY.below hB hY.lt
  have HB1 : Hid (Below w.heap.size w W1) := HB.out.trans (hB.mono HB.out.size)
  clear hX hY hB HB
  cases hlt : itemB t x s y
  · go_wp2
    go_ret
    exact ⟨rfl, HB1.out⟩
  have HLT : Hid (itemB t x s y = true) := hlt
  clear hlt
  have hX2 : IdAt (W1.alloc (.cells (idV x) 23)) w.heap.size 0 x := hX1.grown (World.grownBy_alloc _ _ none) (by simp)
  have hY2 : IdAt (W1.alloc (.cells (idV x) 23)) (w.heap.size + 1) 0 y := hY1.grown (World.grownBy_alloc _ _ none) (by simp)
  have hY3 : IdAt ((W1.alloc (.cells (idV x) 23)).alloc (.cells (idV y) 23)) (w.heap.size + 1) 0 y := hY2.grown (World.grownBy_alloc _ _ none) (by simp)
  have hX3 : IdAt ((W1.alloc (.cells (idV x) 23)).alloc (.cells (idV y) 23)) w.heap.size 0 x := hX2.grown (World.grownBy_alloc _ _ none) (by simp)
  go_upto_region 5 with (first
    | (refine wpList_load_id rfl _ rfl w.heap.size 0 rfl x hX1 ?_; go_frame)
    | (refine wpList_alloc_id rfl rfl ?_; go_frame)
    | (refine wpList_store_new (w := W1) rfl _ _ rfl x hx rfl rfl ?_; go_frame)
    | (refine wpList_load_id rfl _ rfl (w.heap.size + 1) 0 rfl y hY2 ?_; go_frame)
    | (refine wpList_store_new (w := W1.alloc (.cells (idV x) 23)) rfl _ _ rfl y hy rfl rfl ?_; go_frame))
  obtain ⟨b1, b2⟩ := alloc2 W1 (.cells (idV x) 23) (.cells (idV y) 23)
  have hP := idAt_row hx b1
  have hN := idAt_row hy b2
  have HB3 : Hid (Below w.heap.size w ((W1.alloc (.cells (idV x) 23)).alloc (.cells (idV y) 23))) := (HB1.out.alloc HB1.out.size _).alloc (Nat.le_trans HB1.out.size (by simp)) _
  simp only [World.size_alloc]
  clear b1 b2 hX1 hY1 hX2 hY2 HB1
  generalize (W1.alloc (.cells (idV x) 23)).alloc (.cells (idV y) 23) = W3 at *
  go_wp2_with (first
    | (refine wpList_load_id rfl _ rfl w.heap.size 0 rfl x hX3 ?_; go_frame)
    | (refine wpList_load_id rfl _ rfl (w.heap.size + 1) 0 rfl y hY3 ?_; go_frame))
  refine (zzBetween_any t s x y hx hy _).mono ?_
  rintro e W4 ⟨a, c, k, rfl, hbs, hsh, hB⟩
  have hP4 := hP.below hB hP.lt
  have hN4 := hN.below hB hN.lt
  have HB4 : Hid (Below w.heap.size w W4) := HB3.out.trans (hB.mono HB3.out.size)
  have HSH : Hid (t = s → Shared x y k) := hsh
  clear hX3 hY3 hP hN hB HB3 hsh
  have hpb := prev_below hx hy HSH.out HLT.out
  have hnb := next_not_below (t := t) (s := s) hy k
  have hPl : (sepOf t s y k).length ≤ 32 := by unfold sepOf; split <;> simp <;> omega
  have HPG : Hid (∀ (i : Nat) (v : UInt8), (sepOf t s y k)[i]? = some v → y[i]? = some v) := sep_get t s y k
  obtain ⟨P, hPd⟩ : ∃ P, P = sepOf t s y k := ⟨_, rfl⟩
  rw [← hPd] at hbs hpb hnb hPl HPG ⊢
  have HPd : Hid (P = sepOf t s y k) := hPd
  clear hPd
  go_wp2
  go_loopw [14] (fun i wr => ∃ k : Nat, k ≤ P.length ∧ i = .int .i64 k ∧ ∃ n, wr = W4.drewN n) (fun i _ => P.length - (intOf i).toNat)
  case atStart => exact ⟨0, Nat.zero_le _, rfl, 0, rfl⟩
  case round =>
    obtain ⟨j, hj, rfl, n, rfl⟩ := hrel
    by_cases hlt : j < P.length
    · obtain ⟨v, hv⟩ : ∃ v, P[j]? = some v := ⟨_, List.getElem?_eq_getElem hlt⟩
      obtain ⟨b, off, ha, hc⟩ := hbs j v hv
      have hc2 : W4.cell? ⟨W1.heap.size + 1, j, none⟩ = some (.int .u8 (v.toNat : Int)) := by have := hN4.2 j v (HPG.out j v hv); rwa [Nat.zero_add] at this
      have hb : (j : Int) < P.length := by omega
      have hb' : (j : Int) < 32 := by omega
      clear hv
      go_wp2
      go_quiet (fail)
      go_wp2
      go_roundw
      case rel => exact ⟨j + 1, by omega, by go_num, n + nq, by first | rfl | rw [World.drewN_drewN]⟩
      case measure => simp [intOf]; omega
    · have hbs5 := hbs.below (below_drewN (Below.refl _ _) n)
      have hP5 := hP4.drewN n
      have hN5 := hN4.drewN n
      have HB5 : Hid (Below w.heap.size w (W4.drewN n)) := below_drewN HB4.out n
      have hsl := run_slice23
      clear hbs hP4 hN4 HB4 hj
      generalize W4.drewN n = W5 at *
      have hb1 := bs_of_id hP5 32
      have hb2 := bs_of_id hN5 32
      rw [List.take_of_length_le (by omega)] at hb1 hb2
      go_wp2_with fail
      have hc1 := zzBelow_any t s (some ⟨W1.heap.size, 0, none⟩) a 32 c x P W5 hb1 hbs5
      rw [hx] at hc1
      refine hc1.mono ?_
      rintro e W6 ⟨rfl, hB⟩
      rw [hpb]
      have hb1' := hb1.below hB
      have hb2' := hb2.below hB
      have hbs6 := hbs5.below hB
      have hN6 := hN5.below hB hN5.lt
      have HB6 : Hid (Below w.heap.size w W6) := HB5.out.trans (hB.mono HB5.out.size)
      clear hc1 hB HB5 hb1 hb2 hbs5 hP5 hN5
      go_wp2_with fail
      have hc2 := zzBelow_any s s (some ⟨W1.heap.size + 1, 0, none⟩) a 32 c y P W6 hb2' hbs6
      rw [hy] at hc2
      refine hc2.mono ?_
      rintro e W7 ⟨rfl, hB⟩
      rw [hnb]
      have hb1 := hb1'.below hB
      have hN7 := hN6.below hB hN6.lt
      have HB7 : Hid (Below w.heap.size w W7) := HB6.out.trans (hB.mono HB6.out.size)
      clear hc2 hB HB6 hb1' hb2' hbs6 hN6
      by_cases hts : t = s
      · subst hts
        have hPk : P = y.take (k + 1) := by rw [HPd.out, sepOf_eq]
        have hkl := (HSH.out rfl).le
        have hPlen : P.length = k + 1 := by rw [hPk, List.length_take]; omega
        have hsn := shorter_not (s := t) hx (HSH.out rfl)
        have hbk := bs_of_id hN7 k
        have hyk : (y.take k).length = k := by rw [List.length_take]; omega
        have HPL : Hid (P.length = k + 1) := hPlen
        clear hPk
        have hslk : ∀ (b o : Nat) (w : World), (Instr.sliceAt 23 (.pointer (some ⟨b, o, none⟩)) none (some (.int .i64 (k : Int))) none).run Try.prog w = .ok (.slice (some ⟨b, o, none⟩) k 32) w := fun b o w => by
          rw [run_slice23_to (by omega) (by omega) w, Int.toNat_natCast]
        go_wp2
        refine wp_region_quiet_tail 9 (by kernel_rfl) (by kernel_rfl) ?_
        simp only [List.take_succ_cons, List.take_zero, List.drop_succ_cons, List.drop_zero]
        iterate 9 (go_big_quiet_step (fail))
        refine wpQuiet_nil ?_
        go_wp2_with fail
        have hc3 := zzBelow_any t t (some ⟨W1.heap.size, 0, none⟩) (some ⟨W1.heap.size + 1, 0, none⟩) 32 32 x (y.take k) W7.drew (by exact hb1) (by exact hbk)
        rw [hx, hyk] at hc3
        refine hc3.mono ?_
        rintro e W8 ⟨rfl, hB⟩
        rw [hsn]
        have HB8 : Hid (Below w.heap.size w W8) := HB7.out.drew.trans (hB.mono HB7.out.size)
        clear hc3 hB HB7 hb1 hbk hN7
        go_wp2
        go_ret
        exact ⟨rfl, HB8.out⟩
      · have hP0 : P = [] := by rw [HPd.out, sepOf_ne hts]
        have hPlen : P.length = 0 := by rw [hP0]; rfl
        clear hP0
        go_wp2
        go_quiet (fail)
        go_wp2
        go_ret
        exact ⟨rfl, below_drewN HB7.out _⟩
end Go.Proofs.Qxb6619851a
