import Derived.Test.Qxb6619851aCmp8
import Derived.Deep.Cut
namespace Go.Proofs.Qxb6619851a
open Go.RowKit

theorem dup_false {X : List (List UInt8)} (h : X.Nodup) : dupB X = false := by unfold dupB; simpa using h

/-- The code from the region n on. -/
def fromRegion (n : Nat) : Code → Option Code
  | .seq (.region k ops d) b => if k = n then some (.seq (.region k ops d) b) else fromRegion n b
  | .seq _ b => fromRegion n b
  | _ => none

theorem have_nodup {X : List (List UInt8)} (h : X.Nodup) (Y : List (List UInt8)) (k : Nat) : (haveTo X Y k).Nodup := (h.sublist (List.take_sublist k X)).filter _

/-- How many of the first k of X are of Y. -/
def bothTo (X Y : List (List UInt8)) (k : Nat) : Nat := ((X.take k).filter fun x => decide (x ∈ Y)).length

theorem bothTo_in {X Y : List (List UInt8)} {k : Nat} (hk : k < X.length) (h : X[k] ∈ Y) : bothTo X Y (k + 1) = bothTo X Y k + 1 := by
  unfold bothTo
  rw [List.take_succ_eq_append_getElem hk, List.filter_append]
  simp [h]
theorem bothTo_out {X Y : List (List UInt8)} {k : Nat} (hk : k < X.length) (h : ¬ X[k] ∈ Y) : bothTo X Y (k + 1) = bothTo X Y k := by
  unfold bothTo
  rw [List.take_succ_eq_append_getElem hk, List.filter_append]
  simp [h]
theorem bothTo_le (X Y : List (List UInt8)) (k : Nat) : bothTo X Y k ≤ k := by
  unfold bothTo
  exact Nat.le_trans (List.length_filter_le _ _) (List.length_take_le _ _)

theorem both_symm {X Y : List (List UInt8)} (hx : X.Nodup) (hy : Y.Nodup) : bothTo X Y X.length = bothTo Y X Y.length := by
  unfold bothTo
  rw [List.take_length, List.take_length]
  refine List.Perm.length_eq ((List.perm_ext_iff_of_nodup (hx.filter _) (hy.filter _)).2 fun a => ?_)
  simp [List.mem_filter, and_comm]
theorem both_have (X Y : List (List UInt8)) : (haveTo X Y X.length).length + bothTo X Y X.length = X.length := by
  unfold bothTo haveTo
  rw [List.take_length]
  generalize X = L
  induction L with
  | nil => rfl
  | cons y L ih =>
    by_cases h : y ∈ Y
    · simp [h]; omega
    · simp [h]; omega
theorem have_mem {X Y : List (List UInt8)} {k : Nat} {x : List UInt8} (h : x ∈ haveTo X Y k) : x ∈ X ∧ ¬ x ∈ Y := by
  unfold haveTo at h
  obtain ⟨h1, h2⟩ := List.mem_filter.1 h
  exact ⟨List.mem_of_mem_take h1, by simpa using h2⟩

theorem wpList_load_id_g {w : World} {ops : Array Oper} {rest : List Oper} {o : Oper} {a : Act} {Q : Exit → Act → World → Prop}
    (x : Operand) (ho : o.op = .load 23 x) (hw : Region.wanted o (yielded ops a.tmps) = true) (b off : Nat) (hx : a.eval x = .pointer (some ⟨b, off, none⟩)) (id : List UInt8) (h : IdAt w b off id)
    (hK : wpList Try.prog ops Q rest (a.put o.dst (.agg (idV id))) w) : wpList Try.prog ops Q (o :: rest) a w := by
  refine BigFrame.wpList_want hw fun K' hK' => ?_
  unfold Oper.wp execOp
  simp only [ho, hx, Sem.run_bind, run_loadAt_id h, Result.andThen_ok, Sem.run_pure]
  exact hK' _ _ hK

set_option maxRecDepth 100000 in
set_option maxHeartbeats 2000000 in
theorem law_tail (a0 a1 a2 a3 : Option Addr) (c0 c1 c2 c3 : Nat) (T U : List Int) (X Y : List (List UInt8)) (w0 w : World) (hT : TsAt w a0 T) (hX : IdsAt w a1 X) (hU : TsAt w a2 U) (hY : IdsAt w a3 Y)
    (hTX : T.length = X.length) (hUY : U.length = Y.length) (hxn : X.Nodup) (hyn : Y.Nodup) (hxl : X.length ≤ 4096) (hyl : Y.length ≤ 4096) (hB0 : Below w0.heap.size w0 w)
    (u9 u10 u11 u12 u21 u22 u23 u24 u25 u26 u27 u28 u29 u30 u31 u32 u33 u34 u35 u36 u37 u38 u39 u40 u41 u42 u43 u44 u45 u46 u47 u48 u49 u50 u51 u52 u53 u54 u55 u56 u57 u58 u59 u60 u61 u62 u63 u64 u65 u66 u67 u68 u69 u70 u71 u72 u73 u74 u75 u76 u77 u78 u79 u80 u81 u82 u83 u84 u85 u86 u87 u88 u89 u90 u91 u92 u93 u94 u95 u96 u97 u98 u99 u100 u101 u102 u103 u104 u105 u106 u107 u108 u109 u110 u111 u112 u113 u114 u115 u116 u117 u118 u119 u120 u121 u122 u123 u124 u125 u126 u127 u128 u129 u130 u131 u132 u133 u134 u135 u136 u137 u138 u139 u140 u141 u142 u143 u144 u145 u146 u147 u148 u149 u150 u151 u152 u153 u154 u155 u156 u157 u158 u159 u160 u161 u162 u163 u164 u165 u166 u167 u168 u169 u170 u171 u172 u173 u174 u175 u176 u177 u178 u179 u180 u181 u182 u183 u184 u185 u186 u187 u188 u189 u190 u191 u192 u193 u194 u195 u196 u197 u198 u199 u200 u201 u202 u203 u204 u205 u206 u207 u208 u209 u210 u211 u212 u213 u214 u215 u216 : Value) :
    Code.wp Try.prog ((Try.f5.body.bind (fromRegion 27)).getD .skip) (bodyPost Try.prog Try.f5 fun e w' => e = .returned (.bool true) ∧ Below w0.heap.size w0 w')
      ⟨#[.slice a0 X.length c0, .slice a1 X.length c1, .slice a2 Y.length c2, .slice a3 Y.length c3, undef, undef, undef, undef, .bool false, u9, u10, u11, u12, undef, undef, undef, undef, undef, undef, undef, undef, u21, u22, u23, u24, u25, u26, u27, u28, u29, u30, u31, u32, u33, u34, u35, u36, u37, u38, u39, u40, u41, u42, u43, u44, u45, u46, u47, u48, u49, u50, u51, u52, u53, u54, u55, u56, u57, u58, u59, u60, u61, u62, u63, u64, u65, u66, u67, u68, u69, u70, u71, u72, u73, u74, u75, u76, u77, u78, u79, u80, u81, u82, u83, u84, u85, u86, u87, u88, u89, u90, u91, u92, u93, u94, u95, u96, u97, u98, u99, u100, u101, u102, u103, u104, u105, u106, u107, u108, u109, u110, u111, u112, u113, u114, u115, u116, u117, u118, u119, u120, u121, u122, u123, u124, u125, u126, u127, u128, u129, u130, u131, u132, u133, u134, u135, u136, u137, u138, u139, u140, u141, u142, u143, u144, u145, u146, u147, u148, u149, u150, u151, u152, u153, u154, u155, u156, u157, u158, u159, u160, u161, u162, u163, u164, u165, u166, u167, u168, u169, u170, u171, u172, u173, u174, u175, u176, u177, u178, u179, u180, u181, u182, u183, u184, u185, u186, u187, u188, u189, u190, u191, u192, u193, u194, u195, u196, u197, u198, u199, u200, u201, u202, u203, u204, u205, u206, u207, u208, u209, u210, u211, u212, u213, u214, u215, u216], []⟩ w := by
  conv => arg 2; whnf
  have HT : Hid (TsAt w a0 T) := hT
  have HU : Hid (TsAt w a2 U) := hU
  have HTX : Hid (T.length = X.length) := hTX
  have HUY : Hid (U.length = Y.length) := hUY
  have HB0 : Hid (Below w0.heap.size w0 w) := hB0
  clear hT hU hTX hUY hB0
  go_wp2_with fail
  refine (zzCompare_any a0 a1 a3 c0 c1 c3 T X Y _ HT.out hX hY HTX.out hxn hyn hxl hyl).mono ?_
  rintro e w1 ⟨ah, ch, an, cn, rfl, hH1, hN1, hB1⟩
  have hX1 := hX.below hB1
  have hY1 := hY.below hB1
  have HU1 : Hid (TsAt w1 a2 U) := HU.out.below hB1
  have HB1 : Hid (Below w0.heap.size w0 w1) := HB0.out.trans (hB1.mono HB0.out.size)
  clear HB0 hB1 hX hY HT HU HTX
  go_wp2_with fail
  refine (zzCompare_any a2 a3 a1 c2 c3 c1 U Y X _ HU1.out hY1 hX1 HUY.out hyn hxn hyl hxl).mono ?_
  rintro e w2 ⟨ah', ch', an', cn', rfl, hH2, hN2, hB2⟩
  have hX2 := hX1.below hB2
  have hY2 := hY1.below hB2
  have hH := hH1.below hB2
  have hN := hN1.below hB2
  have HB2 : Hid (Below w0.heap.size w0 w2) := HB1.out.trans (hB2.mono HB1.out.size)
  clear HB1 hB2 hX1 hY1 HU1 HUY hH1 hN1
  have hhl := haveTo_len X Y X.length
  have hnl := haveTo_len Y X Y.length
  have hdh := dup_false (have_nodup hxn Y X.length)
  have hdn := dup_false (have_nodup hyn X Y.length)
  obtain ⟨H, hHd⟩ : ∃ H, H = haveTo X Y X.length := ⟨_, rfl⟩
  obtain ⟨N, hNd⟩ : ∃ N, N = haveTo Y X Y.length := ⟨_, rfl⟩
  have HHd : Hid (H = haveTo X Y X.length) := hHd
  have HNd : Hid (N = haveTo Y X Y.length) := hNd
  rw [← hHd] at hH hN2 hhl hdh ⊢
  rw [← hNd] at hN hH2 hnl hdn ⊢
  clear hHd hNd
  go_wp2_with fail
  refine (eqIDs_any ah an' ch cn' H H _ hH hN2 (by omega)).mono ?_
  rintro e w3 ⟨rfl, n3, rfl⟩
  rw [show decide (H = H) = true from by simp]
  go_wp2_with fail
  refine (eqIDs_any an ah' cn ch' N N _ (by exact hN.drewN _) (by exact hH2.drewN _) (by omega)).mono ?_
  rintro e w4 ⟨rfl, n4, rfl⟩
  rw [show decide (N = N) = true from by simp]
  have hX4 := (hX2.drewN n3).drewN n4
  have hY4 := (hY2.drewN n3).drewN n4
  have hH4 := (hH.drewN n3).drewN n4
  have hN4 := (hN.drewN n3).drewN n4
  have HB4 : Hid (Below w0.heap.size w0 ((w2.drewN n3).drewN n4)) := below_drewN (below_drewN HB2.out _) _
  clear hX2 hY2 hH hN hH2 hN2 HB2
  try simp only [World.drewN_drewN] at *
  generalize w2.drewN (n3 + n4) = w5 at *
  go_wp2_with fail
  go_loopw [17, 18] (fun z i wr => ∃ k : Nat, k ≤ X.length ∧ z = .int .i64 (bothTo X Y k) ∧ i = .int .i64 k ∧ Below w5.heap.size w5 wr) (fun _ i _ => X.length - (intOf i).toNat)
  case atStart => exact ⟨0, Nat.zero_le _, rfl, rfl, Below.refl _ _⟩
  case round =>
    obtain ⟨k, hk, rfl, rfl, hB5⟩ := hrel
    have hbl := bothTo_le X Y k
    by_cases hlt : k < X.length
    · have hXr := hX4.below hB5
      have hYr := hY4.below hB5
      have e1 : X[k]? = some X[k] := List.getElem?_eq_getElem hlt
      obtain ⟨b, off, ha, hi1⟩ := hXr k _ e1
      subst ha
      have hx := hi1.1
      have hb : (k : Int) < X.length := by omega
      have HB5 : Hid (Below w5.heap.size w5 wr) := hB5
      clear e1 hXr hB5
      by_cases hin : X[k] ∈ Y
      · have hd : decide (X[k] ∈ Y) = true := by simpa using hin
        go_wp2_with (refine wpList_load_id rfl _ rfl b (off + k * 32) rfl X[k] hi1 ?_; go_frame)
        refine (contains_any a3 c3 Y X[k] hx _ (by exact hYr) (by omega)).mono ?_
        rintro e w6 ⟨rfl, hB6⟩
        rw [hd]
        have HB6 : Hid (Below wr.heap.size wr w6) := hB6
        clear hB6
        go_wp2
        go_roundw
        case rel => exact ⟨k + 1, by omega, by rw [bothTo_in hlt hin]; go_num, by go_num, HB5.out.trans (HB6.out.mono HB5.out.size)⟩
        case measure => simp [intOf]; omega
      · have hd : decide (X[k] ∈ Y) = false := by simpa using hin
        go_wp2_with (refine wpList_load_id rfl _ rfl b (off + k * 32) rfl X[k] hi1 ?_; go_frame)
        refine (contains_any a3 c3 Y X[k] hx _ (by exact hYr) (by omega)).mono ?_
        rintro e w6 ⟨rfl, hB6⟩
        rw [hd]
        have HB6 : Hid (Below wr.heap.size wr w6) := hB6
        clear hB6
        go_wp2
        go_roundw
        case rel => exact ⟨k + 1, by omega, by rw [bothTo_out hlt hin], by go_num, HB5.out.trans (HB6.out.mono HB5.out.size)⟩
        case measure => simp [intOf]; omega
    · obtain rfl : k = X.length := by omega
      have hq1 : ((H.length : Nat) : Int) + ((bothTo X Y X.length : Nat) : Int) = X.length := by have := both_have X Y; rw [HHd.out]; omega
      have hq2 : ((N.length : Nat) : Int) + ((bothTo X Y X.length : Nat) : Int) = Y.length := by have := both_have Y X; have := both_symm hxn hyn; rw [HNd.out]; omega
      have hX5 := hX4.below hB5
      have hY5 := hY4.below hB5
      have hH5 := hH4.below hB5
      have hN5 := hN4.below hB5
      have HB5 : Hid (Below w0.heap.size w0 wr) := HB4.out.trans (hB5.mono HB4.out.size)
      clear hX4 hY4 hH4 hN4 HB4 hB5
      go_wp2_with fail
      refine (hasDup_any ah ch H _ (by exact hH5) (by omega)).mono ?_
      rintro e w6 ⟨rfl, n6, rfl⟩
      rw [hdh]
      go_wp2_with fail
      refine (hasDup_any an cn N _ (by exact hN5.drewN _) (by omega)).mono ?_
      rintro e w7 ⟨rfl, n7, rfl⟩
      rw [hdn]
      have hX7 := (hX5.drewN n6).drewN n7
      have hY7 := (hY5.drewN n6).drewN n7
      have hH7 := (hH5.drewN n6).drewN n7
      have hN7 := (hN5.drewN n6).drewN n7
      have HB7 : Hid (Below w0.heap.size w0 ((wr.drewN n6).drewN n7)) := below_drewN (below_drewN HB5.out _) _
      clear hX5 hY5 hH5 hN5 HB5 hq1 hq2
      try simp only [World.drewN_drewN] at *
      generalize wr.drewN (n6 + n7) = w8 at *
      go_wp2_with fail
      go_loopw [19] (fun i wr => ∃ k : Nat, k ≤ H.length ∧ i = .int .i64 k ∧ Below w8.heap.size w8 wr) (fun i _ => H.length - (intOf i).toNat)
      case atStart => exact ⟨0, Nat.zero_le _, rfl, Below.refl _ _⟩
      case round =>
        obtain ⟨k, hk, rfl, hB8⟩ := hrel
        by_cases hlt2 : k < H.length
        · have hXr := hX7.below hB8
          have hYr := hY7.below hB8
          have hHr := hH7.below hB8
          have e1 : H[k]? = some H[k] := List.getElem?_eq_getElem hlt2
          obtain ⟨hm1, hm2⟩ : H[k] ∈ X ∧ ¬ H[k] ∈ Y := have_mem (k := X.length) (by rw [← HHd.out]; exact List.getElem_mem hlt2)
          have hd1 : decide (H[k] ∈ X) = true := by simpa using hm1
          have hd2 : decide (H[k] ∈ Y) = false := by simpa using hm2
          obtain ⟨b, off, ha, hi1⟩ := hHr k _ e1
          subst ha
          have hx := hi1.1
          have hb : (k : Int) < H.length := by omega
          have HB8 : Hid (Below w8.heap.size w8 wr) := hB8
          clear e1 hHr hB8 hm1 hm2
          go_wp2_with (refine wpList_load_id rfl _ rfl b (off + k * 32) rfl H[k] hi1 ?_; go_frame)
          refine (contains_any a1 c1 X H[k] hx _ (by exact hXr) (by omega)).mono ?_
          rintro e w9 ⟨rfl, hB9⟩
          rw [hd1]
          have hY9 := hYr.below hB9
          have hi9 := hi1.below hB9 hi1.lt
          have HB9 : Hid (Below w8.heap.size w8 w9) := HB8.out.trans (hB9.mono HB8.out.size)
          clear hB9 HB8 hi1 hXr hYr
          go_wp2_with (refine wpList_load_id_g _ rfl (by kernel_rfl) b (off + k * 32) rfl H[k] hi9 ?_; go_frame)
          refine (contains_any a3 c3 Y H[k] hx _ (by exact hY9) (by omega)).mono ?_
          rintro e w10 ⟨rfl, hB10⟩
          rw [hd2]
          have HB10 : Hid (Below w8.heap.size w8 w10) := HB9.out.trans (hB10.mono HB9.out.size)
          clear hB10 HB9 hi9 hY9
          go_wp2
          go_roundw
          case rel => exact ⟨k + 1, by omega, by go_num, HB10.out⟩
          case measure => simp [intOf]; omega
        · have hX8 := hX7.below hB8
          have hY8 := hY7.below hB8
          have hN8 := hN7.below hB8
          have HB8 : Hid (Below w0.heap.size w0 wr) := HB7.out.trans (hB8.mono HB7.out.size)
          clear hX7 hY7 hH7 hN7 HB7 hB8
          go_wp2_with fail
          obtain ⟨w9, hw9⟩ : ∃ w9, w9 = wr := ⟨_, rfl⟩
          subst hw9
          go_loopw [20] (fun i w' => ∃ k : Nat, k ≤ N.length ∧ i = .int .i64 k ∧ Below w9.heap.size w9 w') (fun i _ => N.length - (intOf i).toNat)
          case atStart => exact ⟨0, Nat.zero_le _, rfl, Below.refl _ _⟩
          case round =>
            obtain ⟨k, hk, rfl, hB11⟩ := hrel
            by_cases hlt3 : k < N.length
            · have hXr := hX8.below hB11
              have hYr := hY8.below hB11
              have hNr := hN8.below hB11
              have e1 : N[k]? = some N[k] := List.getElem?_eq_getElem hlt3
              obtain ⟨hm1, hm2⟩ : N[k] ∈ Y ∧ ¬ N[k] ∈ X := have_mem (k := Y.length) (by rw [← HNd.out]; exact List.getElem_mem hlt3)
              have hd1 : decide (N[k] ∈ Y) = true := by simpa using hm1
              have hd2 : decide (N[k] ∈ X) = false := by simpa using hm2
              obtain ⟨b, off, ha, hi1⟩ := hNr k _ e1
              subst ha
              have hx := hi1.1
              have hb : (k : Int) < N.length := by omega
              have HB11 : Hid (Below w9.heap.size w9 wr) := hB11
              clear e1 hNr hB11 hm1 hm2
              go_wp2_with (refine wpList_load_id rfl _ rfl b (off + k * 32) rfl N[k] hi1 ?_; go_frame)
              refine (contains_any a3 c3 Y N[k] hx _ (by exact hYr) (by omega)).mono ?_
              rintro e w12 ⟨rfl, hB12⟩
              rw [hd1]
              have hX12 := hXr.below hB12
              have hi12 := hi1.below hB12 hi1.lt
              have HB12 : Hid (Below w9.heap.size w9 w12) := HB11.out.trans (hB12.mono HB11.out.size)
              clear hB12 HB11 hi1 hXr hYr
              go_wp2_with (refine wpList_load_id_g _ rfl (by kernel_rfl) b (off + k * 32) rfl N[k] hi12 ?_; go_frame)
              refine (contains_any a1 c1 X N[k] hx _ (by exact hX12) (by omega)).mono ?_
              rintro e w13 ⟨rfl, hB13⟩
              rw [hd2]
              have HB13 : Hid (Below w9.heap.size w9 w13) := HB12.out.trans (hB13.mono HB12.out.size)
              clear hB13 HB12 hi12 hX12
              go_wp2
              go_roundw
              case rel => exact ⟨k + 1, by omega, by go_num, HB13.out⟩
              case measure => simp [intOf]; omega
            · have HB11 : Hid (Below w0.heap.size w0 wr) := HB8.out.trans (hB11.mono HB8.out.size)
              clear hB11
              go_wp2
              go_ret
              exact ⟨rfl, HB11.out⟩
end Go.Proofs.Qxb6619851a
