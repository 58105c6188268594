import Derived.Test.Qxb6619851aKey4
set_option linter.unusedVariables false
namespace Go.Proofs.Qxb6619851a
open Go.RowKit
open Go.Lib (compareBytes)

/-- The variable b holds a key. -/
def KAt (w : World) (b : Nat) (x : List UInt8) : Prop := w.heap[b]? = some (.cells (idV x) 39 (0, 0))
theorem KAt.lt {w : World} {b : Nat} {x : List UInt8} (h : KAt w b x) : b < w.heap.size := (Array.getElem?_eq_some_iff.1 h).1
theorem KAt.below {w w' : World} {b : Nat} {x : List UInt8} (h : KAt w b x) (hB : Below w.heap.size w w') : KAt w' b x := (hB.block b h.lt).trans h
theorem KAt.new (w : World) (x : List UInt8) : KAt (w.alloc (.cells (idV x) 39)) w.heap.size x := heap_alloc_last w _

set_option maxRecDepth 100000 in
set_option maxHeartbeats 2000000 in
theorem key_main (t s : Int) (k : Nat) (ht0 : 0 ≤ t) (ht1 : t < 18446744073709551616) (hs0 : 0 ≤ s) (hs1 : s < 18446744073709551616) (a0 a1 : Option Addr) (c0 c1 : Nat) (p q : List UInt8) (w : World) (hp : BsAt w a0 p) (hq : BsAt w a1 q)
    (hpl : p.length ≤ 4096) (hql : q.length ≤ 4096) (hk : k ≤ 32) :
    Calls Try.prog 6 #[.int .u64 t, .slice a0 p.length c0, .int .u64 s, .slice a1 q.length c1, .int .i64 (k : Int)] w fun e w' => e = .returned (.bool true) ∧ Below w.heap.size w w' := by
  obtain ⟨i0, hi, hz0, hz1, hz2⟩ := info_parts info5
  have HI : Hid (Try.prog.info? 5 = some i0 ∧ i0.zero = some (.int .u8 0) ∧ i0.size = 1 ∧ i0.bytes = 1) := ⟨hi, hz0, hz1, hz2⟩
  have HT : Hid (0 ≤ t ∧ t < 18446744073709551616 ∧ 0 ≤ s ∧ s < 18446744073709551616) := ⟨ht0, ht1, hs0, hs1⟩
  clear hi hz0 hz1 hz2 ht0 ht1 hs0 hs1
  go_enter Try.func6, Try.ntmps6
  go_wp2_with fail
  refine (zzBytes16_any _ _ _ _ _ _ _ _ _ _).mono ?_
  rintro e w' ⟨⟨r, rfl⟩, hw⟩
  have hw := hw.symm
  subst hw
  cases r
  · go_wp2
    go_ret
    exact ⟨rfl, Below.refl _ _⟩
  go_upto_if 43 with (fail)
  go_cut [1] from 21 (fun v wc => ∃ a c, v = .slice a p.length c ∧ BsAt wc a p ∧ Below w.heap.size w wc)
  case first =>
    cases a0 with
    | none =>
      go_wp2
      go_meet
      case rel => exact ⟨_, _, rfl, hp, Below.refl _ _⟩
    | some ad =>
      have HS : Hid (∀ (j : Nat) (v : Value), (bsL p)[j]? = some v → w.cell? (ad.add j) = some v) := bs_src hp
      clear hp hq
      go_wp2_with (first
        | (at_make; refine wpList_make_full _ rfl _ _ 25 rfl w.heap.size 5 i0 _ 1 Try.underlying25 HI.out.1 HI.out.2.1 HI.out.2.2.1 .i64 .i64 _ _ p.length rfl rfl rfl rfl (by rw [HI.out.2.2.2]; omega) (by unfold maxLen; omega) (Nat.le_refl _) ?_; intro wm hmk hg2; obtain ⟨cur, hcur, hcs⟩ := made_row hmk; have HG2 : Hid (w.grownBy wm none) := hg2; clear hmk hg2; go_frame)
        | (refine wpList_copy_whole rfl _ _ 25 25 rfl 5 1 Try.underlying25 size5 rfl rfl cur hcur (bsL p) (by simp [bsL]) hcs (fun j v hv => HG2.out.cell (HS.out j v hv) (by simp)) (oneCell_id p) ?_; go_frame))
      go_meet
      case rel => exact ⟨_, _, rfl, bs_new (setRow_heap _ _ _ _ _ _ hcur), below_row HG2.out _⟩
  case rest =>
    rename_i K hK
    obtain ⟨a0', c0', rfl, hp1, hB1⟩ := hcut
    have hq1 := hq.below hB1
    refine hK _ _ ?_
    clear hK K hp hq
    obtain ⟨wb, hwb⟩ : ∃ wb, wb = wc := ⟨_, rfl⟩
    subst hwb
    have HB1 : Hid (Below w.heap.size w wb) := hB1
    clear hB1
    go_upto_if 52 with (fail)
    go_cut [3] from 21 (fun v wd => ∃ a c, v = .slice a q.length c ∧ BsAt wd a q ∧ Below wb.heap.size wb wd)
    case first =>
      cases a1 with
      | none =>
        go_wp2
        go_meet
        case rel => exact ⟨_, _, rfl, hq1, Below.refl _ _⟩
      | some ad =>
        have HS : Hid (∀ (j : Nat) (v : Value), (bsL q)[j]? = some v → wb.cell? (ad.add j) = some v) := bs_src hq1
        clear hp1 hq1
        go_wp2_with (first
          | (at_make; refine wpList_make_full _ rfl _ _ 25 rfl wb.heap.size 5 i0 _ 1 Try.underlying25 HI.out.1 HI.out.2.1 HI.out.2.2.1 .i64 .i64 _ _ q.length rfl rfl rfl rfl (by rw [HI.out.2.2.2]; omega) (by unfold maxLen; omega) (Nat.le_refl _) ?_; intro wm hmk hg2; obtain ⟨cur, hcur, hcs⟩ := made_row hmk; have HG2 : Hid (wb.grownBy wm none) := hg2; clear hmk hg2; go_frame)
          | (refine wpList_copy_whole rfl _ _ 25 25 rfl 5 1 Try.underlying25 size5 rfl rfl cur hcur (bsL q) (by simp [bsL]) hcs (fun j v hv => HG2.out.cell (HS.out j v hv) (by simp)) (oneCell_id q) ?_; go_frame))
        go_meet
        case rel => exact ⟨_, _, rfl, bs_new (setRow_heap _ _ _ _ _ _ hcur), below_row HG2.out _⟩
    case rest =>
      rename_i K hK
      obtain ⟨wd, hwd⟩ : ∃ wd, wd = wc := ⟨_, rfl⟩
      subst hwd
      obtain ⟨a1', c1', rfl, hq2, hB2⟩ := hcut
      have hp2 := hp1.below hB2
      refine hK _ _ ?_
      clear hK K hp1 hq1
      have HB2 : Hid (Below w.heap.size w wd) := HB1.out.trans (hB2.mono HB1.out.size)
      clear HB1 hB2
      go_wp2_with (at_make; refine wpList_make_full _ rfl _ _ 25 rfl wd.heap.size 5 i0 _ 1 Try.underlying25 HI.out.1 HI.out.2.1 HI.out.2.2.1 .i64 .i64 _ _ (p.length + k) rfl rfl (by omega) (by omega) (by rw [HI.out.2.2.2]; omega) (by unfold maxLen; omega) (Nat.le_refl _) ?_; intro wm hmk hg2; have hrow := made_zero hmk; have HG2 : Hid (wd.grownBy wm none) := hg2; clear hmk hg2; go_frame)
      go_loopw [14] (fun i wr => ∃ j : Nat, j ≤ p.length ∧ i = .int .i64 j ∧ wr.rowIs wd.heap.size 5 (p.length + k) (pf p j) ∧ Below wd.heap.size wd wr) (fun i _ => p.length - (intOf i).toNat)
      case atStart => exact ⟨0, Nat.zero_le _, rfl, hrow.congr (fun i _ => by simp [pf]), below_grown HG2.out⟩
      case round =>
        clear hrow HG2
        obtain ⟨j, hj, rfl, hr, hB⟩ := hrel
        have HB : Hid (Below wd.heap.size wd wr) := hB
        have HR : Hid (wr.rowIs wd.heap.size 5 (p.length + k) (pf p j)) := hr
        have hpr := hp2.below hB
        clear hr hB
        by_cases hlt : j < p.length
        · obtain ⟨v, hv⟩ : ∃ v, p[j]? = some v := ⟨_, List.getElem?_eq_getElem hlt⟩
          obtain ⟨b, off, ha, hcp⟩ := hpr j v hv
          subst ha
          have HV : Hid (p[j]? = some v) := hv
          have hc := HR.out.cell (i := j) (by omega)
          have hf := HR.out.frozen j
          have hb : (j : Int) < p.length := by omega
          clear hv hpr hp2 hq2
          go_wp2
          go_roundw
          case rel =>
            refine ⟨j + 1, by omega, by go_num, (HR.out.set j _).congr fun i hi => ?_, HB.out.setCell (by simp) _⟩
            unfold pf
            by_cases h1 : i = j
            · subst h1
              rw [if_pos rfl, if_pos (by omega), List.getD_eq_getElem?_getD, HV.out]
              rfl
            · by_cases h2 : i < j
              · simp [h1, h2, show i < j + 1 by omega]
              · simp [h1, h2, show ¬ i < j + 1 by omega]
          case measure => simp [intOf]; omega
        · obtain rfl : j = p.length := by omega
          have hpd := bs_of_pf (Nat.le_refl _) HR.out
          have hqr := hq2.below HB.out
          have hpadl : (p ++ List.replicate k (0 : UInt8)).length = p.length + k := by simp
          have HB3 : Hid (Below w.heap.size w wr) := HB2.out.trans (HB.out.mono HB2.out.size)
          clear hp2 hq2 HB HR HB2
          obtain ⟨P, hP⟩ : ∃ P, P = p ++ List.replicate k (0 : UInt8) := ⟨_, rfl⟩
          have e3 : belowB t P s q = belowB t p s q := by rw [hP, below_zeros_left]
          have e4 : belowB s q t P = belowB s q t p := by rw [hP, below_zeros_right]
          rw [← hP] at hpd hpadl
          rw [← hpadl]
          clear hpadl hP
          have hkl := fun t p => show (idV (keyB t p)).size = 40 by simp [idV, keyB_length]
          have HKL : Hid (∀ (t : Int) (p : List UInt8), (idV (keyB t p)).size = 40) := hkl
          clear hkl
          go_wp2_with fail
          refine (boundKey_any t HT.out.1 HT.out.2.1 a0' c0' p (by omega) _ (by exact hpr)).mono ?_
          rintro e w4 ⟨rfl, hB⟩
          have hp4 := hpr.below hB
          have hq4 := hqr.below hB
          have hd4 := hpd.below hB
          have HB4 : Hid (Below w.heap.size w w4) := HB3.out.trans (hB.mono HB3.out.size)
          clear hpr hqr hpd HB3 hB
          have hk1 := idV_one (keyB t p)
          have hs1 := HKL.out t p
          have hB5 : Below w4.heap.size w4 (w4.alloc (.cells (idV (keyB t p)) 39)) := (Below.refl _ _).alloc (Nat.le_refl _) _
          have hp5 := hp4.below hB5
          have hq5 := hq4.below hB5
          have hd5 := hd4.below hB5
          have hK5 := KAt.new w4 (keyB t p)
          have HB5 : Hid (Below w.heap.size w (w4.alloc (.cells (idV (keyB t p)) 39))) := HB4.out.trans (hB5.mono HB4.out.size)
          clear hp4 hq4 hd4 HB4 hB5
          go_wp2_with (first
            | (refine wpList_alloc_key rfl rfl ?_; go_frame)
            | (refine wpList_store_newkey (w := w4) rfl _ _ rfl (idV (keyB t p)) hs1 hk1 rfl rfl ?_; go_frame))
          generalize hw4 : w4.heap.size = g1 at *
          generalize w4.alloc (.cells (idV (keyB t p)) 39) = w5 at *
          clear hw4
          refine (boundKey_any s HT.out.2.2.1 HT.out.2.2.2 a1' c1' q (by omega) _ (by exact hq5)).mono ?_
          rintro e w6 ⟨rfl, hB⟩
          have hp6 := hp5.below hB
          have hq6 := hq5.below hB
          have hd6 := hd5.below hB
          have hK6 := hK5.below hB
          have HB6 : Hid (Below w.heap.size w w6) := HB5.out.trans (hB.mono HB5.out.size)
          clear hp5 hq5 hd5 hK5 HB5 hB
          have hk2 := idV_one (keyB s q)
          have hs2 := HKL.out s q
          have hB7 : Below w6.heap.size w6 (w6.alloc (.cells (idV (keyB s q)) 39)) := (Below.refl _ _).alloc (Nat.le_refl _) _
          have hp7 := hp6.below hB7
          have hq7 := hq6.below hB7
          have hd7 := hd6.below hB7
          have hK7 := hK6.below hB7
          have hJ7 := KAt.new w6 (keyB s q)
          have HB7 : Hid (Below w.heap.size w (w6.alloc (.cells (idV (keyB s q)) 39))) := HB6.out.trans (hB7.mono HB6.out.size)
          clear hp6 hq6 hd6 hK6 HB6 hB7
          go_wp2_with (first
            | (refine wpList_alloc_key rfl rfl ?_; go_frame)
            | (refine wpList_store_newkey (w := w6) rfl _ _ rfl (idV (keyB s q)) hs2 hk2 rfl rfl ?_; go_frame))
          generalize hw6 : w6.heap.size = g2 at *
          generalize w6.alloc (.cells (idV (keyB s q)) 39) = w7 at *
          clear hw6
          refine (zzBelow_any t s a0' a1' c0' c1' p q w7 (by exact hp7) (by exact hq7)).mono ?_
          rintro e w8 ⟨rfl, hB⟩
          have hp8 := hp7.below hB
          have hq8 := hq7.below hB
          have hd8 := hd7.below hB
          have hK8 := hK7.below hB
          have hJ8 := hJ7.below hB
          have HB8 : Hid (Below w.heap.size w w8) := HB7.out.trans (hB.mono HB7.out.size)
          clear hp7 hq7 hd7 hK7 hJ7 HB7 hB
          go_wp2_with fail
          refine (zzBelow_any s t a1' a0' c1' c0' q p w8 (by exact hq8) (by exact hp8)).mono ?_
          rintro e w9 ⟨rfl, hB⟩
          have hp9 := hp8.below hB
          have hq9 := hq8.below hB
          have hd9 := hd8.below hB
          have hK9 := hK8.below hB
          have hJ9 := hJ8.below hB
          have HB9 : Hid (Below w.heap.size w w9) := HB8.out.trans (hB.mono HB8.out.size)
          clear hp8 hq8 hd8 hK8 hJ8 HB8 hB
          go_wp2_with fail
          refine (zzBelow_any t s (some ⟨wd.heap.size, 0, none⟩) a1' P.length c1' P q w9 (by exact hd9) (by exact hq9)).mono ?_
          rintro e w10 ⟨rfl, hB⟩
          rw [e3]
          have hp10 := hp9.below hB
          have hq10 := hq9.below hB
          have hd10 := hd9.below hB
          have hK10 := hK9.below hB
          have hJ10 := hJ9.below hB
          have HB10 : Hid (Below w.heap.size w w10) := HB9.out.trans (hB.mono HB9.out.size)
          clear hp9 hq9 hd9 hK9 hJ9 HB9 hB
          go_wp2_with fail
          refine (zzBelow_any s t a1' (some ⟨wd.heap.size, 0, none⟩) c1' P.length q P w10 (by exact hq10) (by exact hd10)).mono ?_
          rintro e w11 ⟨rfl, hB⟩
          rw [e4]
          have hK11 := hK10.below hB
          have hJ11 := hJ10.below hB
          have HB11 : Hid (Below w.heap.size w w11) := HB10.out.trans (hB.mono HB10.out.size)
          clear hp10 hq10 hd10 hK10 hJ10 HB10 hB e3 e4
          have hl1 := keyB_length t p
          have hl2 := keyB_length s q
          have HL1 : Hid (ltB (keyB t p) (keyB s q) = belowB t p s q) := key_below p q HT.out.1 HT.out.2.1 HT.out.2.2.1 HT.out.2.2.2
          have HL2 : Hid (ltB (keyB s q) (keyB t p) = belowB s q t p) := key_below q p HT.out.2.2.1 HT.out.2.2.2 HT.out.1 HT.out.2.1
          have has := below_asym t s p q
          generalize belowB t p s q = r1 at *
          generalize belowB s q t p = r2 at *
          generalize keyB t p = x at *
          generalize keyB s q = y at *
          go_wp2_with (first
            | (refine wpList_load_key rfl _ rfl g1 rfl _ hs1 hK11 ?_; go_frame)
            | (refine wpList_load_key rfl _ rfl g2 rfl _ hs2 hJ11 ?_; go_frame))
          refine (keyLess_any x y hl1 hl2 _).mono ?_
          rintro e w12 ⟨rfl, hB⟩
          rw [HL1.out]
          have hK12 := hK11.below hB
          have hJ12 := hJ11.below hB
          have HB12 : Hid (Below w.heap.size w w12) := HB11.out.trans (hB.mono HB11.out.size)
          clear hK11 hJ11 HB11 hB
          cases r1 <;> cases r2
          case true.true => simp at has
          all_goals
            clear has
            go_wp2_with (first
              | (refine wpList_load_key_g _ rfl (by kernel_rfl) g2 rfl _ hs2 hJ12 ?_; go_frame)
              | (refine wpList_load_key_g _ rfl (by kernel_rfl) g1 rfl _ hs1 hK12 ?_; go_frame))
            refine (keyLess_any y x hl2 hl1 _).mono ?_
            rintro e w13 ⟨rfl, hB⟩
            rw [HL2.out]
            have HB13 : Hid (Below w.heap.size w w13) := HB12.out.trans (hB.mono HB12.out.size)
            clear hK12 hJ12 HB12 hB
            go_wp2
            go_ret
            exact ⟨rfl, HB13.out⟩

theorem key_early (t s : Int) (k : Int) (a0 a1 : Option Addr) (c0 c1 n0 n1 : Nat) (w : World) (hk : (k < 0 ∨ 32 < k) ∨ 4096 < n0 ∨ 4096 < n1) :
    Calls Try.prog 6 #[.int .u64 t, .slice a0 n0 c0, .int .u64 s, .slice a1 n1 c1, .int .i64 k] w fun e w' => e = .returned (.bool true) ∧ Below w.heap.size w w' := by
  go_enter Try.func6, Try.ntmps6
  go_wp2_with fail
  refine (zzBytes16_any _ _ _ _ _ _ _ _ _ _).mono ?_
  rintro e w' ⟨⟨r, rfl⟩, hw⟩
  have hw := hw.symm
  subst hw
  cases r
  · go_wp2
    go_ret
    exact ⟨rfl, Below.refl _ _⟩
  by_cases h0 : 4096 < n0
  · clear hk
    go_wp2
    go_ret
    exact ⟨rfl, Below.refl _ _⟩
  · by_cases h1 : 4096 < n1
    · clear hk
      go_wp2
      go_ret
      exact ⟨rfl, Below.refl _ _⟩
    · by_cases h2 : k < 0
      · clear hk
        go_wp2
        go_ret
        exact ⟨rfl, Below.refl _ _⟩
      · have h3 : 32 < k := by omega
        clear hk
        go_wp2
        go_ret
        exact ⟨rfl, Below.refl _ _⟩

theorem key_any (t s : Int) (k : Int) (ht0 : 0 ≤ t) (ht1 : t < 18446744073709551616) (hs0 : 0 ≤ s) (hs1 : s < 18446744073709551616) (a0 a1 : Option Addr) (c0 c1 : Nat) (p q : List UInt8) (w : World) (hp : BsAt w a0 p) (hq : BsAt w a1 q) :
    Calls Try.prog 6 #[.int .u64 t, .slice a0 p.length c0, .int .u64 s, .slice a1 q.length c1, .int .i64 k] w fun e w' => e = .returned (.bool true) ∧ Below w.heap.size w w' := by
  by_cases h : (k < 0 ∨ 32 < k) ∨ 4096 < p.length ∨ 4096 < q.length
  · exact key_early t s k a0 a1 c0 c1 _ _ w h
  · obtain ⟨n, rfl⟩ := Int.eq_ofNat_of_zero_le (show 0 ≤ k by omega)
    exact key_main t s n ht0 ht1 hs0 hs1 a0 a1 c0 c1 p q w hp hq (by omega) (by omega) (by omega)
end Go.Proofs.Qxb6619851a
