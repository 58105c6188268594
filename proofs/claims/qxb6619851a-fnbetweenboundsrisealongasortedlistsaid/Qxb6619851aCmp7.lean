import Derived.Test.Qxb6619851aCmp6
namespace Go.Proofs.Qxb6619851a
open Go.RowKit

/-- What ZZCompare hands back. -/
def ZZPost (X Y : List (List UInt8)) (w : World) (e : Ending) (w' : World) : Prop :=
  ∃ ah ch an cn, e = .returned (.tuple #[.slice ah (haveTo X Y X.length).length ch, .slice an (haveTo Y X Y.length).length cn]) ∧ IdsAt w' ah (haveTo X Y X.length) ∧ IdsAt w' an (haveTo Y X Y.length) ∧ Below w.heap.size w w'

theorem IdsAt.grown {w w' : World} {a : Option Addr} {X : List (List UInt8)} (h : IdsAt w a X) (hg : w.grownBy w' none) : IdsAt w' a X := by
  intro i x hx
  obtain ⟨b, off, ha, hi⟩ := h i x hx
  exact ⟨b, off, ha, hi.grown hg (by simp)⟩

theorem IdsAt.drewN {w : World} {a : Option Addr} {X : List (List UInt8)} (h : IdsAt w a X) (n : Nat) : IdsAt (w.drewN n) a X := by
  intro i x hx
  obtain ⟨b, off, ha, hi⟩ := h i x hx
  exact ⟨b, off, ha, hi.drewN n⟩

set_option maxHeartbeats 1000000 in
theorem zzCompare_any (a0 a1 a2 : Option Addr) (c0 c1 c2 : Nat) (T : List Int) (X Y : List (List UInt8)) (w : World) (hT : TsAt w a0 T) (hX : IdsAt w a1 X) (hY : IdsAt w a2 Y) (hTX : T.length = X.length) (hxn : X.Nodup) (hyn : Y.Nodup)
    (hxl : X.length ≤ 4096) (hyl : Y.length ≤ 4096) :
    Calls Try.prog 13 #[.slice none 0 0, .slice none 0 0, .slice a0 X.length c0, .slice a1 X.length c1, .slice a2 Y.length c2] w fun e w' => ZZPost X Y w e w' := by
  obtain ⟨i0, hi, hz0, hz1, hz2⟩ := info_parts info46c
  go_enter Try.func13, Try.ntmps13
  go_wp2_with (at_make; refine wpList_make_full _ rfl _ _ 48 rfl w.heap.size 46 i0 _ 33 Try.underlying48 hi hz0 hz1 .i64 .i64 _ _ X.length rfl rfl rfl rfl (by rw [hz2]; omega) (by unfold maxLen; omega) (Nat.le_refl _) ?_; intro w1 hmk hg1; go_frame)
  have hF0 : Filled w1 w.heap.size X.length 0 X := by
    refine ⟨?_, fun i x h _ => by omega⟩
    rcases hmk.2 with ⟨h, _⟩ | ⟨g, cap, cur, h, _, hg, _, _, hs, _⟩
    · simp at h
    · simp at h
      obtain ⟨rfl, rfl⟩ := h
      exact ⟨cur, hg, hs⟩
  have HG1 : Hid (w.grownBy w1 none) := hg1
  clear hmk hg1 hi hz0 hz1 hz2
  go_loopw [20] (fun i wr => ∃ k : Nat, k ≤ X.length ∧ i = .int .i64 k ∧ Filled wr w.heap.size X.length k X ∧ w.grownBy wr none) (fun i _ => X.length - (intOf i).toNat)
  case atStart => exact ⟨0, Nat.zero_le _, rfl, hF0, HG1.out⟩
  case round =>
    clear hF0 HG1
    obtain ⟨k, hk, rfl, hF, hgr⟩ := hrel
    by_cases hlt : k < X.length
    · have e1 : X[k]? = some X[k] := List.getElem?_eq_getElem hlt
      obtain ⟨t, e2⟩ : ∃ t, T[k]? = some t := ⟨_, List.getElem?_eq_getElem (by omega)⟩
      obtain ⟨b, off, ha, hi0⟩ := hX k _ e1
      obtain ⟨b', off', ha', hc0⟩ := hT k _ e2
      have hi1 : IdAt wr b (off + k * 32) X[k] := hi0.grown hgr (by simp)
      have hc1 : wr.cell? ⟨b', off' + k, none⟩ = some (.int .u64 t) := hgr.cell hc0 (by simp)
      have hx := hi1.1
      have hb : (k : Int) < X.length := by omega
      obtain ⟨cur, hr, hs⟩ := hF.row
      have HR : Hid (wr.heap[w.heap.size]? = some (.cells cur 46 (0, 0))) := hr
      have HG : Hid (w.grownBy wr none) := hgr
      have HE : Hid (X[k]? = some X[k]) := e1
      have HTX : Hid (T.length = X.length) := hTX
      clear e1 e2 hi0 hc0 hr hgr hTX
      go_wp2
      refine wp_region_quiet_tail 12 (by kernel_rfl) (by kernel_rfl) ?_
      simp only [List.take_succ_cons, List.take_zero, List.drop_succ_cons, List.drop_zero]
      have hi2 : IdAt wr.drew b (off + k * 32) X[k] := hi1
      have hc2 : wr.drew.cell? ⟨b', off' + k, none⟩ = some (.int .u64 t) := hc1
      iterate 9 (go_big_quiet_step (fail))
      go_big_quiet_want
      refine quiet_load_id _ rfl b (off + k * 32) rfl X[k] (fun w' hw' => by rw [hw']; exact hi2) ?_
      go_frame
      go_big_quiet_on
      go_big_quiet_want
      refine quiet_build_item _ _ rfl t X[k] rfl rfl hx ?_
      go_frame
      go_big_quiet_on
      go_big_quiet_step (fail)
      refine wpQuiet_nil ?_
      refine wpList_store_item rfl _ _ rfl (t := t) (cur := cur) (n := X.length) (k := k) hx rfl rfl HR.out hs hlt ?_
      go_frame
      have hF1 : Filled (wr.drew.setRow w.heap.size (putItem cur k t X[k])) w.heap.size X.length (k + 1) X := filled_step (w := wr.drew) hx HR.out hs hlt HE.out ⟨hF.row, hF.ids⟩
      have hG1 : w.grownBy (wr.drew.setRow w.heap.size (putItem cur k t X[k])) none :=
        World.grownBy.andThen (b' := wr.drew) ⟨HG.out.os, HG.out.tape, HG.out.output, HG.out.size, HG.out.block⟩ (grown_setRow wr.drew _ _) (fun j hj => by cases hj; exact .inl (Nat.le_refl _))
      have HG2 : Hid (w.grownBy (wr.drew.setRow w.heap.size (putItem cur k t X[k])) none) := hG1
      clear hG1 hc1 hc2 hi1 hi2 hF
      generalize wr.drew.setRow w.heap.size (putItem cur k t X[k]) = w2 at *
      go_wp2
      go_roundw
      case rel => exact ⟨k + 1, by omega, by go_num, hF1, HG2.out⟩
      case measure => simp [intOf]; omega
    · obtain rfl : k = X.length := by omega
      have HG : Hid (w.grownBy wr none) := hgr
      have HF : Hid (Filled wr w.heap.size X.length X.length X) := hF
      clear hgr hF
      go_wp2_with fail
      have hcl : (wr.alloc (.cells #[.slice none 0 0, .slice none 0 0, .slice none 0 0] 51)).heap[wr.heap.size]? = some (.cells #[.slice none 0 0, .slice none 0 0, .slice none 0 0] 51 (0, 0)) := heap_alloc_new wr _
      have hga := World.grownBy_alloc wr (.cells #[.slice none 0 0, .slice none 0 0, .slice none 0 0] 51) none
      have hIt : ItemsAt (wr.alloc (.cells #[.slice none 0 0, .slice none 0 0, .slice none 0 0] 51)) (some ⟨w.heap.size, 0, none⟩) X := by
        intro i x hx
        refine ⟨w.heap.size, 0, rfl, ?_⟩
        rw [Nat.zero_add]
        exact (HF.out.ids i x (List.getElem?_eq_some_iff.1 hx).1 hx).grown hga (by simp)
      have hIY : IdsAt (wr.alloc (.cells #[.slice none 0 0, .slice none 0 0, .slice none 0 0] 51)) a2 Y := (hY.grown HG.out).grown hga
      refine (compare_any wr.heap.size (.slice none 0 0) (some ⟨w.heap.size, 0, none⟩) a2 X.length c2 X Y _ hcl hIt hIY hxn hyn hxl hyl).mono ?_
      rintro e w3 ⟨rfl, vh, vn, hcb, hrow, hrown, hg3⟩
      obtain ⟨ah, ch, rfl, hH⟩ := idsAt_of_own (fun x hx => hX.len x (List.mem_of_mem_take (List.mem_filter.1 hx).1)) hrow rfl
      obtain ⟨an, cn, rfl, hN⟩ := idsAt_of_own (fun x hx => hY.len x (List.mem_of_mem_take (List.mem_filter.1 hx).1)) hrown rfl
      have hB : Below w.heap.size w w3 := (((Below.refl _ _).grown HG.out (Nat.le_refl _) (by simp)).grown hga HG.out.size (by simp)).grown hg3 (Nat.le_trans HG.out.size (by simp)) (fun k hk => by cases hk; exact HG.out.size)
      have c1 : w3.cell? ⟨wr.heap.size, 1, none⟩ = some (.slice ah (haveTo X Y X.length).length ch) := by rw [cell_of_row w3 _ 1 _ _ _ hcb]; rfl
      have c2 : w3.cell? ⟨wr.heap.size, 2, none⟩ = some (.slice an (haveTo Y X Y.length).length cn) := by rw [cell_of_row w3 _ 2 _ _ _ hcb]; rfl
      have HZ : Hid (IdsAt w3 ah (haveTo X Y X.length) ∧ IdsAt w3 an (haveTo Y X Y.length) ∧ Below w.heap.size w w3) := ⟨hH, hN, hB⟩
      clear hcl hga hIt hIY hcb hrow hrown hg3 hH hN hB HF HG
      go_wp2
      go_quiet (fail)
      go_wp2
      go_ret2
      obtain ⟨z1, z2, z3⟩ := HZ.out
      exact ⟨ah, ch, an, cn, rfl, z1.drewN nq, z2.drewN nq, below_drewN z3 nq⟩
end Go.Proofs.Qxb6619851a
