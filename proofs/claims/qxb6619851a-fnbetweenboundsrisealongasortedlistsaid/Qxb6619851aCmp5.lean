import Derived.Test.Qxb6619851aCmp4
namespace Go.Proofs.Qxb6619851a
open Go.RowKit

/-- What compare leaves: the client's two fields own what each side lacks of the other. -/
def CmpPost (cb : Nat) (v0 : Value) (X Y : List (List UInt8)) (w w' : World) : Prop :=
  ∃ vh vn, w'.heap[cb]? = some (.cells #[v0, vh, vn] 51 (0, 0)) ∧ w'.ownsRow w.heap.size 23 32 vh (haveTo X Y X.length).length (flat (haveTo X Y X.length)) ∧
    w'.ownsRow w.heap.size 23 32 vn (haveTo Y X Y.length).length (flat (haveTo Y X Y.length)) ∧ w.grownBy w' (some cb)

theorem own_base {w : World} {base base' n : Nat} {v : Value} {xs : List Value} (h : w.ownsRow base 23 32 v n xs) (hb : base' ≤ base) : w.ownsRow base' 23 32 v n xs := by
  refine ⟨h.1, ?_⟩
  rcases h.2 with h' | ⟨g, cap, cur, h1, h2, h3⟩
  · exact .inl h'
  · exact .inr ⟨g, cap, cur, h1, Nat.le_trans hb h2, h3⟩

set_option maxHeartbeats 2000000 in
theorem compare_any (cb : Nat) (v0 : Value) (ia ta : Option Addr) (icap tcap : Nat) (X Y : List (List UInt8)) (w : World)
    (hc : w.heap[cb]? = some (.cells #[v0, .slice none 0 0, .slice none 0 0] 51 (0, 0))) (hX : ItemsAt w ia X) (hY : IdsAt w ta Y) (hxn : X.Nodup) (hyn : Y.Nodup) (hxl : X.length ≤ 4096) (hyl : Y.length ≤ 4096) :
    Calls Try.prog 21 #[.pointer (some ⟨cb, 0, none⟩), .slice ia X.length icap, .slice ta Y.length tcap] w fun e w' => e = .returned (.tuple #[]) ∧ CmpPost cb v0 X Y w w' := by
  have hmm := run_makeMap_hint
  go_enter Try.func21, Try.ntmps21
  go_wp2
  go_loopw [17] (fun i wr => ∃ (k : Nat) (D : DataW Unit), k ≤ Y.length ∧ i = .int .i64 k ∧ wr.ownsMap Try.prog 23 (plainElem Try.prog 4) w.heap.size k D ∧ Rep D (memTo Y k) ∧ w.grownBy wr none) (fun i _ => Y.length - (intOf i).toNat)
  case atStart => exact ⟨0, .map [], Nat.zero_le _, rfl, World.ownsMap_made _ _ _ _, rep_empty.congr (fun x => by simp [memTo]), World.grownBy_alloc _ _ _⟩
  case round =>
    obtain ⟨k, D, hk, rfl, hown, hrep, hgr⟩ := hrel
    by_cases hlt : k < Y.length
    · have e1 : Y[k]? = some Y[k] := List.getElem?_eq_getElem hlt
      obtain ⟨b, off, ha, hi0⟩ := hY k _ e1
      have hi1 : IdAt wr b (off + k * 32) Y[k] := hi0.grown hgr (by simp)
      have hy := hi1.1
      have hb : (k : Int) < Y.length := by omega
      have HG : Hid (w.grownBy wr none) := hgr
      have HR : Hid (Rep D (memTo Y k)) := hrep
      clear e1 hi0 hgr hrep
      go_wp2_with (first
        | (refine wpList_load_id rfl _ rfl b (off + k * 32) rfl Y[k] hi1 ?_; go_frame)
        | (refine wpList_alloc_id rfl rfl ?_; go_frame)
        | (refine wpList_store_new (w := wr) rfl _ _ rfl Y[k] hy rfl rfl ?_; go_frame)
        | (refine wpList_load_id rfl _ rfl wr.heap.size 0 rfl Y[k] (idAt_new wr hy 23) ?_; go_frame)
        | (at_mapUpdate; refine wpList_mapUpdate_own _ rfl _ _ _ 55 rfl 23 4 Try.keyed23 Try.underlying55 _ w.heap.size k D rfl (hown.alloc _) (by unfold maxLen; omega) _ _ (idK Y[k]) rfl rfl (keyOf_id hy) (.lit (.bool true)) [] (plainElem_bool Try.underlying4 true) ?_; intro w1 hown1 hgrow1; go_frame))
      go_roundw
      case rel => exact ⟨k + 1, _, by omega, by go_num, hown1, rep_step1 HR.out hown.isMap hlt hy, (HG.out.trans (World.grownBy_alloc _ _ _)).andThen hgrow1 (fun j hj => by cases hj; exact .inl (Nat.le_refl _))⟩
      case measure => simp [intOf]; omega
    · have hrep2 : Rep D (leftTo X Y 0) := hrep.congr (leftTo_zero X Y k hlt)
      have hown2 := hown.mono hk
      have hcb : wr.heap[cb]? = some (.cells #[v0, .slice none 0 0, .slice none 0 0] 51 (0, 0)) := (hgr.block cb (lt_of_block hc) (by simp)).trans hc
      have HC : Hid (wr.heap[cb]? = some (.cells #[v0, .slice none 0 0, .slice none 0 0] 51 (0, 0))) := hcb
      have HG : Hid (w.grownBy wr none) := hgr
      clear hcb hrep hown hgr
      go_wp2
      go_loopw [26] (fun i wr => ∃ (k : Nat) (D : DataW Unit) (vh : Value), k ≤ X.length ∧ i = .int .i64 k ∧ wr.ownsMap Try.prog 23 (plainElem Try.prog 4) w.heap.size Y.length D ∧ Rep D (leftTo X Y k) ∧
          wr.heap[cb]? = some (.cells #[v0, vh, .slice none 0 0] 51 (0, 0)) ∧ wr.ownsRow w.heap.size 23 32 vh (haveTo X Y k).length (flat (haveTo X Y k)) ∧ w.grownBy wr (some cb)) (fun i _ => X.length - (intOf i).toNat)
      case atStart => exact ⟨0, D, _, Nat.zero_le _, rfl, hown2, hrep2, HC.out, by simp [haveTo, flat]; exact World.ownsRow_nil _ _ _ _, ⟨HG.out.os, HG.out.tape, HG.out.output, HG.out.size, fun i h _ => HG.out.block i h (by simp)⟩⟩
      case round =>
        obtain ⟨k, D, vh, hk, rfl, hown, hrep, hcb, hrow, hgr⟩ := hrel
        by_cases hlt : k < X.length
        · have e1 : X[k]? = some X[k] := List.getElem?_eq_getElem hlt
          obtain ⟨b, off, ha, hi0⟩ := hX k _ e1
          have hbc : b ≠ cb := idAt_ne hi0 hc
          have hi1 : IdAt wr b (off + k * 33 + 1) X[k] := hi0.grown hgr (by simpa using hbc)
          have hx := hi1.1
          have hb : (k : Int) < X.length := by omega
          have HP := leftTo_at (Y := Y) hxn hlt
          by_cases hin : X[k] ∈ Y
          · have hpv : leftTo X Y k X[k] = true := by rw [HP]; simpa using hin
            have HP2 : Hid (leftTo X Y k X[k] = decide (X[k] ∈ Y)) := HP
            have HCB : Hid (wr.heap[cb]? = some (.cells #[v0, vh, .slice none 0 0] 51 (0, 0))) := hcb
            have HG2 : Hid (w.grownBy wr (some cb)) := hgr
            have HR2 : Hid (Rep D (leftTo X Y k)) := hrep
            clear HP hcb hgr e1 hi0
            go_wp2_with (first
              | (refine wpList_load_id rfl _ rfl b (off + k * 33 + 1) rfl X[k] hi1 ?_; go_frame)
              | (at_lookup; refine wpList_lookup_id rfl _ _ rfl hown HR2.out X[k] hx rfl rfl ?_; rw [hpv]; go_frame)
              | (at_delete; refine wpList_delete_own _ rfl _ _ 55 23 rfl 4 Try.keyed23 Try.underlying55 _ w.heap.size Y.length D rfl hown _ _ rfl (keyOf_id hx) ?_; intro w4 hown4 hturn4; go_frame))
            go_roundw
            case rel =>
              obtain ⟨q1, q2, q3⟩ := step_del (lt_of_block hc) hown hturn4 HCB.out hrow HG2.out
              refine ⟨k + 1, _, vh, by omega, by go_num, hown4, rep_step2 HR2.out hlt hx, q1, ?_, q3⟩
              rw [haveTo_in hlt hin]
              exact q2
            case measure => simp [intOf]; omega
          · have hpv : leftTo X Y k X[k] = false := by rw [HP]; simpa using hin
            have HP2 : Hid (leftTo X Y k X[k] = decide (X[k] ∈ Y)) := HP
            have HCB : Hid (wr.heap[cb]? = some (.cells #[v0, vh, .slice none 0 0] 51 (0, 0))) := hcb
            have HG2 : Hid (w.grownBy wr (some cb)) := hgr
            have HR2 : Hid (Rep D (leftTo X Y k)) := hrep
            have c1 : wr.cell? ⟨cb, 1, none⟩ = some vh := by rw [cell_of_row wr cb 1 _ _ _ hcb]; rfl
            clear HP hcb hgr e1
            have HI0 : Hid (IdAt w b (off + k * 33 + 1) X[k]) := hi0
            clear hi0
            go_wp2_with (first
              | (refine wpList_load_id rfl _ rfl b (off + k * 33 + 1) rfl X[k] hi1 ?_; go_frame)
              | (at_lookup; refine wpList_lookup_id rfl _ _ rfl hown HR2.out X[k] hx rfl rfl ?_; rw [hpv]; go_frame))
            have hS0 : IdAt wr.drew b (off + k * 33 + 1) X[k] := hi1
            refine begin_held (n := 15) (S := fun w' => IdAt w' b (off + k * 33 + 1) X[k]) (by kernel_rfl) rfl ?_
            refine take (i := 0) (.pointer (some ⟨cb, 0, none⟩)) (by kernel_rfl) rfl (yi_move rfl _ _ rfl rfl) hS0 ?_
            go_frame
            refine take (i := 1) (.pointer (some ⟨cb, 0, none⟩)) (by kernel_rfl) rfl (yi_move rfl _ _ rfl rfl) hS0 ?_
            go_frame
            refine take (i := 2) (.pointer (some ⟨cb, 0, none⟩)) (by kernel_rfl) rfl (yi_run rfl _ (fun _ _ => by kernel_rfl)) hS0 ?_
            go_frame
            refine take (i := 3) (.pointer (some ⟨cb, 1, none⟩)) (by kernel_rfl) rfl (yi_run rfl _ (fun _ _ => by kernel_rfl)) hS0 ?_
            go_frame
            refine take (i := 5) (.slice ia X.length icap) (by kernel_rfl) rfl (yi_move rfl _ _ rfl rfl) hS0 ?_
            go_frame
            refine take (i := 6) (.int .i64 (k : Int)) (by kernel_rfl) rfl (yi_move rfl _ _ rfl rfl) hS0 ?_
            go_frame
            refine take (i := 7) (.pointer (some ⟨b, off + k * 33, none⟩)) (by kernel_rfl) rfl (yi_index48 rfl _ _ rfl rfl ha rfl hlt) hS0 ?_
            go_frame
            refine take (i := 8) (.pointer (some ⟨b, off + k * 33 + 1, none⟩)) (by kernel_rfl) rfl (yi_run rfl _ (fun _ _ => by kernel_rfl)) hS0 ?_
            go_frame
            refine take (i := 9) (.agg (idV X[k])) (by kernel_rfl) rfl (yi_load rfl _ rfl rfl (fun _ h => h)) hS0 ?_
            go_frame
            have hS1 : IdAt (wr.drew.alloc (.cells (idV X[k]) 23)) b (off + k * 33 + 1) X[k] := hS0.grown (World.grownBy_alloc _ _ none) (by simp)
            have hbl : b < w.heap.size := HI0.out.lt
            obtain ⟨i0, hi, hz0, hz1, hz2⟩ := info_parts info23b
            have c1' : (wr.drew.alloc (.cells (idV X[k]) 23)).cell? ⟨cb, 1, none⟩ = some vh := (World.grownBy_alloc wr.drew _ none).cell c1 (by simp)
            refine either_same (i := 4) (j := 10) (by kernel_rfl) (by kernel_rfl) (by kernel_rfl) (by decide) rfl rfl rfl rfl (run_op_load30 (.tmp 40) rfl rfl c1) (run_op_build1 (.tmp 46) rfl hx rfl) (run_op_build1 (.tmp 46) rfl hx rfl) (run_op_load30 (.tmp 40) rfl rfl c1') rfl hS0 hS1 ?_
            go_frame
            refine only (i := 11) (by kernel_rfl) rfl rfl ?_
            intro K' hK
            refine wp_append_own _ (.tmp 41) (.tmp 47) 30 rfl w.heap.size 23 i0 _ 32 32 Try.underlying30 hi hz0 hz1 hz2 rfl (by decide) vh _ _ rfl (hrow.drew.alloc _) ⟨wr.drew.heap.size, 0, none⟩ 1 1 (X[k].map fun b => Value.int .u8 (b.toNat : Int)) rfl (by simp [hx]) (idV_cells wr.drew hx) (oneCell_id _) ?_ ?_ ?_ ?_
            · have := haveTo_len X Y k; unfold maxLen; omega
            · have := haveTo_len X Y k; omega
            · have := HG2.out.size; simp; omega
            intro v' w2 hown' hgrow _
            have hS2 : IdAt w2 b (off + k * 33 + 1) X[k] := hS1.grown hgrow (fun e => by have := (hrow.lt b e.symm).1; omega)
            obtain ⟨j1, j2, j3, j4, j5⟩ := step_app (f := 1) hc (Nat.le_refl _) hown HCB.out hrow HG2.out hgrow hown'
            have hS3 : IdAt (w2.setCell ⟨cb, 1, none⟩ v') b (off + k * 33 + 1) X[k] := hS2.grown (grown_setCell w2 cb 1 v') (by simpa using hbc)
            refine hK _ _ hS2 ?_
            clear hK K'
            go_frame
            refine only (i := 12) (by kernel_rfl) rfl rfl ?_
            intro K' hK
            refine wp_value (.pointer (some ⟨cb, 0, none⟩)) _ (by kernel_rfl) (hK _ _ hS2 ?_)
            clear hK K'
            go_frame
            refine only (i := 13) (by kernel_rfl) rfl rfl ?_
            intro K' hK
            refine wp_value (.pointer (some ⟨cb, 1, none⟩)) _ (by kernel_rfl) (hK _ _ hS2 ?_)
            clear hK K'
            go_frame
            refine only (i := 14) (by kernel_rfl) rfl rfl ?_
            intro K' hK
            refine wp_store30 (.tmp 50) (.tmp 48) rfl (v := v') (u := vh) rfl rfl (by rw [cell_of_row w2 cb 1 _ _ _ j5]; rfl) (frozen_of_row w2 cb 1 _ _ j5) (own_one hown') (slice_cells hown').1 (slice_cells hown').2 (hK _ _ hS3 ?_)
            clear hK K'
            go_frame
            refine finish (by kernel_rfl) ?_
            have HJ2 : Hid ((w2.setCell ⟨cb, 1, none⟩ v').heap[cb]? = some (.cells #[v0, v', .slice none 0 0] 51 (0, 0))) := j2
            have HJ3 : Hid ((w2.setCell ⟨cb, 1, none⟩ v').ownsRow w.heap.size 23 32 v' ((haveTo X Y k).length + 1) (flat (haveTo X Y k) ++ (X[k].map fun b => Value.int .u8 (b.toNat : Int)))) := j3
            clear j2 j3 j5 hS2 hS1 hS0 hown' hgrow c1 c1' hi1 hrow hown
            generalize w2.setCell ⟨cb, 1, none⟩ v' = w3 at *
            go_wp2_with (first
              | (refine wpList_load_id rfl _ rfl b (off + k * 33 + 1) rfl X[k] hS3 ?_; go_frame)
              | (at_delete; refine wpList_delete_own _ rfl _ _ 55 23 rfl 4 Try.keyed23 Try.underlying55 _ w.heap.size Y.length D rfl j1 _ _ rfl (keyOf_id hx) ?_; intro w4 hown4 hturn4; go_frame))
            go_roundw
            case rel =>
              obtain ⟨q1, q2, q3⟩ := step_del (lt_of_block hc) j1 hturn4 HJ2.out HJ3.out j4
              refine ⟨k + 1, _, v', by omega, by go_num, hown4, rep_step2 HR2.out hlt hx, q1, ?_, q3⟩
              rw [haveTo_out hlt hin, flat_snoc]
              simpa using q2
            case measure => simp [intOf]; omega
        · obtain rfl : k = X.length := by omega
          have hrep3 : Rep D (needLeft X Y 0) := hrep.congr (needLeft_zero hlt)
          have HCB : Hid (wr.heap[cb]? = some (.cells #[v0, vh, .slice none 0 0] 51 (0, 0))) := hcb
          have HG2 : Hid (w.grownBy wr (some cb)) := hgr
          have hsz := hgr.size
          have hvl : ∀ g, vh.ownBlock = some g → g < wr.heap.size := fun g hg => (hrow.lt g hg).2
          have HV : Hid (∀ g, vh.ownBlock = some g → g < wr.heap.size) := hvl
          obtain ⟨B3, hB3⟩ : ∃ B3, B3 = wr.heap.size := ⟨_, rfl⟩
          rw [← hB3] at HV hsz
          have hB3' : B3 ≤ wr.heap.size := by omega
          clear hcb hgr hrep hvl hB3
          go_wp2
          go_loopw [60] (fun i wr => ∃ (k : Nat) (D : DataW Unit) (vn : Value), k ≤ Y.length ∧ i = .int .i64 k ∧ wr.ownsMap Try.prog 23 (plainElem Try.prog 4) w.heap.size Y.length D ∧ Rep D (needLeft X Y k) ∧
              wr.heap[cb]? = some (.cells #[v0, vh, vn] 51 (0, 0)) ∧ wr.ownsRow w.heap.size 23 32 vh (haveTo X Y X.length).length (flat (haveTo X Y X.length)) ∧
              wr.ownsRow B3 23 32 vn (haveTo Y X k).length (flat (haveTo Y X k)) ∧ w.grownBy wr (some cb) ∧ B3 ≤ wr.heap.size) (fun i _ => Y.length - (intOf i).toNat)
          case atStart => exact ⟨0, D, _, Nat.zero_le _, rfl, hown, hrep3, HCB.out, hrow, by simp [haveTo, flat]; exact World.ownsRow_nil _ _ _ _, HG2.out, hB3'⟩
          case round =>
            clear hown hrep3 HCB hrow HG2 hB3'
            obtain ⟨k, D, vn, hk, rfl, hown, hrep, hcb, hrow, hrown, hgr, hB3'⟩ := hrel
            by_cases hlt3 : k < Y.length
            · have e1 : Y[k]? = some Y[k] := List.getElem?_eq_getElem hlt3
              obtain ⟨b, off, ha, hi0⟩ := hY k _ e1
              have hbc : b ≠ cb := idAt_ne hi0 hc
              have hi1 : IdAt wr b (off + k * 32) Y[k] := hi0.grown hgr (by simpa using hbc)
              have hy := hi1.1
              have hb : (k : Int) < Y.length := by omega
              have HP := needLeft_at (X := X) hyn hlt3
              have hbox := idAt_new wr hy 23
              have hown1 := hown.alloc (.cells (idV Y[k]) 23)
              by_cases hin : Y[k] ∈ X
              · have hpv : needLeft X Y k Y[k] = false := by rw [HP]; simpa using hin
                have HCB : Hid (wr.heap[cb]? = some (.cells #[v0, vh, vn] 51 (0, 0))) := hcb
                have HG2 : Hid (w.grownBy wr (some cb)) := hgr
                have HR2 : Hid (Rep D (needLeft X Y k)) := hrep
                clear HP hcb hgr e1 hi0 hrep
                go_wp2_with (first
                  | (refine wpList_load_id rfl _ rfl b (off + k * 32) rfl Y[k] hi1 ?_; go_frame)
                  | (refine wpList_alloc_id rfl rfl ?_; go_frame)
                  | (refine wpList_store_new (w := wr) rfl _ _ rfl Y[k] hy rfl rfl ?_; go_frame)
                  | (refine wpList_load_id rfl _ rfl wr.heap.size 0 rfl Y[k] hbox ?_; go_frame)
                  | (at_lookup; refine wpList_lookup_id rfl _ _ rfl hown1 HR2.out Y[k] hy rfl rfl ?_; rw [hpv]; go_frame))
                go_roundw
                case rel =>
                  have hg0 := World.grownBy_alloc wr (.cells (idV Y[k]) 23)
                  refine ⟨k + 1, D, vn, by omega, by go_num, hown1, rep_step3' HR2.out hlt3 hin, ((hg0 none).block cb (lt_of_block HCB.out) (by simp)).trans HCB.out, hrow.alloc _, ?_, HG2.out.trans (hg0 _), by simp; omega⟩
                  rw [haveTo_in hlt3 hin]
                  exact hrown.alloc _
                case measure => simp [intOf]; omega
              · have hpv : needLeft X Y k Y[k] = true := by rw [HP]; simpa using hin
                have hg0 := World.grownBy_alloc wr (.cells (idV Y[k]) 23)
                obtain ⟨wb, hwb⟩ : ∃ wb, wb = wr.alloc (.cells (idV Y[k]) 23) := ⟨_, rfl⟩
                have HCB : Hid (wb.heap[cb]? = some (.cells #[v0, vh, vn] 51 (0, 0))) := by
                  show _ = _
                  rw [hwb]; exact ((hg0 none).block cb (lt_of_block hcb) (by simp)).trans hcb
                have HG2 : Hid (w.grownBy wb (some cb)) := by
                  show World.grownBy _ _ _
                  rw [hwb]; exact hgr.trans (hg0 _)
                have HR2 : Hid (Rep D (needLeft X Y k)) := hrep
                have hrowb : wb.ownsRow w.heap.size 23 32 vh (haveTo X Y X.length).length (flat (haveTo X Y X.length)) := by rw [hwb]; exact hrow.alloc _
                have hrownb : wb.ownsRow B3 23 32 vn (haveTo Y X k).length (flat (haveTo Y X k)) := by rw [hwb]; exact hrown.alloc _
                have hsb : B3 ≤ wb.heap.size := by rw [hwb]; simp; omega
                have hne : ∀ g, vn.ownBlock = some g → g ≠ wr.heap.size := fun g hg => by have := (hrown.lt g hg).2; omega
                have HNE : Hid (∀ g, vn.ownBlock = some g → g ≠ wr.heap.size) := hne
                have hcbs : cb < wr.heap.size := lt_of_block hcb
                have c1 : wb.cell? ⟨cb, 2, none⟩ = some vn := by rw [cell_of_row wb cb 2 _ _ _ HCB.out]; rfl
                rw [← hwb] at hbox hown1
                have HWB : Hid (wb = wr.alloc (.cells (idV Y[k]) 23)) := hwb
                clear HP hcb hgr e1 hi0 hrep hrow hrown hne hg0 hwb
                go_wp2_with (first
                  | (refine wpList_load_id rfl _ rfl b (off + k * 32) rfl Y[k] hi1 ?_; go_frame)
                  | (refine wpList_alloc_id rfl rfl ?_; go_frame)
                  | (refine wpList_store_new (w := wr) rfl _ _ rfl Y[k] hy rfl rfl ?_; rw [← HWB.out]; go_frame)
                  | (refine wpList_load_id rfl _ rfl wr.heap.size 0 rfl Y[k] hbox ?_; go_frame)
                  | (at_lookup; refine wpList_lookup_id rfl _ _ rfl hown1 HR2.out Y[k] hy rfl rfl ?_; rw [hpv]; go_frame))
                have hS0 : IdAt wb.drew wr.heap.size 0 Y[k] := hbox
                have hS1 : IdAt (wb.drew.alloc (.cells (idV Y[k]) 23)) wr.heap.size 0 Y[k] := hS0.grown (World.grownBy_alloc _ _ none) (by simp)
                obtain ⟨i0, hi, hz0, hz1, hz2⟩ := info_parts info23b
                refine begin_held (n := 11) (S := fun w' => IdAt w' wr.heap.size 0 Y[k]) (by kernel_rfl) rfl ?_
                refine take (i := 0) (.pointer (some ⟨cb, 0, none⟩)) (by kernel_rfl) rfl (yi_move rfl _ _ rfl rfl) hS0 ?_
                go_frame
                refine take (i := 1) (.pointer (some ⟨cb, 0, none⟩)) (by kernel_rfl) rfl (yi_move rfl _ _ rfl rfl) hS0 ?_
                go_frame
                refine take (i := 2) (.pointer (some ⟨cb, 0, none⟩)) (by kernel_rfl) rfl (yi_run rfl _ (fun _ _ => by kernel_rfl)) hS0 ?_
                go_frame
                refine take (i := 3) (.pointer (some ⟨cb, 2, none⟩)) (by kernel_rfl) rfl (yi_run rfl _ (fun _ _ => by kernel_rfl)) hS0 ?_
                go_frame
                refine take (i := 5) (.agg (idV Y[k])) (by kernel_rfl) rfl (yi_load rfl _ rfl rfl (fun _ h => h)) hS0 ?_
                go_frame
                have c1' : (wb.drew.alloc (.cells (idV Y[k]) 23)).cell? ⟨cb, 2, none⟩ = some vn := (World.grownBy_alloc wb.drew _ none).cell c1 (by simp)
                refine either_same (i := 4) (j := 6) (by kernel_rfl) (by kernel_rfl) (by kernel_rfl) (by decide) rfl rfl rfl rfl (run_op_load30 (.tmp 70) rfl rfl c1) (run_op_build1 (.tmp 72) rfl hy rfl) (run_op_build1 (.tmp 72) rfl hy rfl) (run_op_load30 (.tmp 70) rfl rfl c1') rfl hS0 hS1 ?_
                go_frame
                refine only (i := 7) (by kernel_rfl) rfl rfl ?_
                intro K' hK
                refine wp_append_own _ (.tmp 71) (.tmp 73) 30 rfl B3 23 i0 _ 32 32 Try.underlying30 hi hz0 hz1 hz2 rfl (by decide) vn _ _ rfl (hrownb.drew.alloc _) ⟨wb.drew.heap.size, 0, none⟩ 1 1 (Y[k].map fun b => Value.int .u8 (b.toNat : Int)) rfl (by simp [hy]) (idV_cells wb.drew hy) (oneCell_id _) ?_ ?_ ?_ ?_
                · have := haveTo_len Y X k; unfold maxLen; omega
                · have := haveTo_len Y X k; omega
                · simp; omega
                intro v' w2 hown' hgrow _
                have hS2 : IdAt w2 wr.heap.size 0 Y[k] := hS1.grown hgrow (fun e => HNE.out _ e.symm rfl)
                obtain ⟨j1, j2, j3, j4, j5⟩ := step_app (f := 2) hc hsz hown1 HCB.out hrownb HG2.out hgrow hown'
                have j6 := beside_app (cb := cb) (f := 2) j5 hrownb hgrow hown' hrowb HV.out
                have hS3 : IdAt (w2.setCell ⟨cb, 2, none⟩ v') wr.heap.size 0 Y[k] := hS2.grown (grown_setCell w2 cb 2 v') (by simp; omega)
                have hsz2 : B3 ≤ (w2.setCell ⟨cb, 2, none⟩ v').heap.size := by have := hgrow.size; simp at this ⊢; omega
                refine hK _ _ hS2 ?_
                clear hK K'
                go_frame
                refine only (i := 8) (by kernel_rfl) rfl rfl ?_
                intro K' hK
                refine wp_value (.pointer (some ⟨cb, 0, none⟩)) _ (by kernel_rfl) (hK _ _ hS2 ?_)
                clear hK K'
                go_frame
                refine only (i := 9) (by kernel_rfl) rfl rfl ?_
                intro K' hK
                refine wp_value (.pointer (some ⟨cb, 2, none⟩)) _ (by kernel_rfl) (hK _ _ hS2 ?_)
                clear hK K'
                go_frame
                refine only (i := 10) (by kernel_rfl) rfl rfl ?_
                intro K' hK
                refine wp_store30 (.tmp 76) (.tmp 74) rfl (v := v') (u := vn) rfl rfl (by rw [cell_of_row w2 cb 2 _ _ _ j5]; rfl) (frozen_of_row w2 cb 2 _ _ j5) (own_one hown') (slice_cells hown').1 (slice_cells hown').2 (hK _ _ hS3 ?_)
                clear hK K'
                go_frame
                refine finish (by kernel_rfl) ?_
                have HJ2 : Hid ((w2.setCell ⟨cb, 2, none⟩ v').heap[cb]? = some (.cells #[v0, vh, v'] 51 (0, 0))) := j2
                have HJ3 : Hid ((w2.setCell ⟨cb, 2, none⟩ v').ownsRow B3 23 32 v' ((haveTo Y X k).length + 1) (flat (haveTo Y X k) ++ (Y[k].map fun b => Value.int .u8 (b.toNat : Int)))) := j3
                clear j2 j3 j5 hS2 hS1 hS0 hown' hgrow c1 c1' hi1 hrownb hrowb hown1 hbox
                generalize w2.setCell ⟨cb, 2, none⟩ v' = w3 at *
                go_wp2_with (first
                  | (refine wpList_load_id rfl _ rfl wr.heap.size 0 rfl Y[k] hS3 ?_; go_frame)
                  | (at_delete; refine wpList_delete_own _ rfl _ _ 55 23 rfl 4 Try.keyed23 Try.underlying55 _ w.heap.size Y.length D rfl j1 _ _ rfl (keyOf_id hy) ?_; intro w4 hown4 hturn4; go_frame))
                go_roundw
                case rel =>
                  obtain ⟨q1, q2, q3⟩ := step_del (lt_of_block hc) j1 hturn4 HJ2.out HJ3.out j4
                  obtain ⟨_, q5, _⟩ := step_del (lt_of_block hc) j1 hturn4 HJ2.out j6 j4
                  refine ⟨k + 1, _, v', by omega, by go_num, hown4, rep_step3 HR2.out hlt3 hy, q1, q5, ?_, q3, Nat.le_trans hsz2 hturn4.grown.size⟩
                  rw [haveTo_out hlt3 hin, flat_snoc]
                  simpa using q2
                case measure => simp [intOf]; omega
            · obtain rfl : k = Y.length := by omega
              have HF : Hid (CmpPost cb v0 X Y w wr) := ⟨vh, vn, hcb, hrow, own_base hrown (by omega), hgr⟩
              clear hcb hrow hrown hgr hown hrep
              go_wp2
              go_end0
              exact ⟨rfl, HF.out⟩
end Go.Proofs.Qxb6619851a
