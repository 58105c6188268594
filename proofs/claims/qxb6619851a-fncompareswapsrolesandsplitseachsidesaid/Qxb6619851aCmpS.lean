import Derived.Test.Qxb6619851aCmpT
namespace Go.Proofs.Qxb6619851a
open Go.RowKit

/-- The code from the 'if' whose test is reckoned in the region n on. -/
def fromIf (n : Nat) : Code → Option Code
  | .seq (.seq (.region k ops d) c) b => if k = n then some (.seq (.seq (.region k ops d) c) b) else fromIf n b
  | .seq _ b => fromIf n b
  | _ => none

set_option maxRecDepth 100000 in
set_option maxHeartbeats 1000000 in
theorem law_seg3 (a0 a1 a2 a3 : Option Addr) (c0 c1 c2 c3 : Nat) (T U : List Int) (X Y : List (List UInt8)) (w0 w : World) (hT : TsAt w a0 T) (hX : IdsAt w a1 X) (hU : TsAt w a2 U) (hY : IdsAt w a3 Y)
    (hTX : T.length = X.length) (hUY : U.length = Y.length) (hxn : X.Nodup) (hyn : Y.Nodup) (hxl : X.length ≤ 4096) (hyl : Y.length ≤ 4096) (hB0 : Below w0.heap.size w0 w)
    (u9 u10 u11 u12 u21 u22 u23 u24 u25 u26 u27 u28 u29 u30 u31 u32 u33 u34 u35 u36 u37 u38 u39 u40 u41 u42 u43 u44 u45 u46 u47 u48 u49 u50 u51 u52 u53 u54 u55 u56 u57 u58 u59 u60 u61 u62 u63 u64 u65 u66 u67 u68 u69 u70 u71 u72 u73 u74 u75 u76 u77 u78 u79 u80 u81 u82 u83 u84 u85 u86 u87 u88 u89 u90 u91 u92 u93 u94 u95 u96 u97 u98 u99 u100 u101 u102 u103 u104 u105 u106 u107 u108 u109 u110 u111 u112 u113 u114 u115 u116 u117 u118 u119 u120 u121 u122 u123 u124 u125 u126 u127 u128 u129 u130 u131 u132 u133 u134 u135 u136 u137 u138 u139 u140 u141 u142 u143 u144 u145 u146 u147 u148 u149 u150 u151 u152 u153 u154 u155 u156 u157 u158 u159 u160 u161 u162 u163 u164 u165 u166 u167 u168 u169 u170 u171 u172 u173 u174 u175 u176 u177 u178 u179 u180 u181 u182 u183 u184 u185 u186 u187 u188 u189 u190 u191 u192 u193 u194 u195 u196 u197 u198 u199 u200 u201 u202 u203 u204 u205 u206 u207 u208 u209 u210 u211 u212 u213 u214 u215 u216 : Value) :
    Code.wp Try.prog ((Try.f5.body.bind (fromIf 23)).getD .skip) (bodyPost Try.prog Try.f5 fun e w' => e = .returned (.bool true) ∧ Below w0.heap.size w0 w')
      ⟨#[.slice a0 X.length c0, .slice a1 X.length c1, .slice a2 Y.length c2, .slice a3 Y.length c3, undef, undef, undef, undef, .bool false, u9, u10, u11, u12, undef, undef, undef, undef, undef, undef, undef, undef, u21, u22, u23, u24, u25, u26, u27, u28, u29, u30, u31, u32, u33, u34, u35, u36, u37, u38, u39, u40, u41, u42, u43, u44, u45, u46, u47, u48, u49, u50, u51, u52, u53, u54, u55, u56, u57, u58, u59, u60, u61, u62, u63, u64, u65, u66, u67, u68, u69, u70, u71, u72, u73, u74, u75, u76, u77, u78, u79, u80, u81, u82, u83, u84, u85, u86, u87, u88, u89, u90, u91, u92, u93, u94, u95, u96, u97, u98, u99, u100, u101, u102, u103, u104, u105, u106, u107, u108, u109, u110, u111, u112, u113, u114, u115, u116, u117, u118, u119, u120, u121, u122, u123, u124, u125, u126, u127, u128, u129, u130, u131, u132, u133, u134, u135, u136, u137, u138, u139, u140, u141, u142, u143, u144, u145, u146, u147, u148, u149, u150, u151, u152, u153, u154, u155, u156, u157, u158, u159, u160, u161, u162, u163, u164, u165, u166, u167, u168, u169, u170, u171, u172, u173, u174, u175, u176, u177, u178, u179, u180, u181, u182, u183, u184, u185, u186, u187, u188, u189, u190, u191, u192, u193, u194, u195, u196, u197, u198, u199, u200, u201, u202, u203, u204, u205, u206, u207, u208, u209, u210, u211, u212, u213, u214, u215, u216], []⟩ w := by
  conv => arg 2; whnf
  obtain ⟨i0, hi, hz0, hz1, hz2⟩ := info_parts info23b
  have HI : Hid (Try.prog.info? 23 = some i0 ∧ i0.zero = some (.agg (Array.replicate 32 (.int .u8 0))) ∧ i0.size = 32 ∧ i0.bytes = 32) := ⟨hi, hz0, hz1, hz2⟩
  have HTX : Hid (T.length = X.length) := hTX
  have HUY : Hid (U.length = Y.length) := hUY
  have HB0 : Hid (Below w0.heap.size w0 w) := hB0
  clear hTX hUY hB0 hi hz0 hz1 hz2
  go_upto_if 107 with (fail)
  go_cut [3] from 21 (fun s wc => ∃ a c, s = .slice a Y.length c ∧ IdsAt wc a Y ∧ Below w.heap.size w wc)
  case first =>
    cases a3 with
    | none =>
      go_wp2
      go_meet
      case rel => exact ⟨_, _, rfl, hY, Below.refl _ _⟩
    | some ad =>
      have HL : Hid (∀ x ∈ Y, x.length = 32) := hY.len
      have HS : Hid (∀ (j : Nat) (v : Value), (flat Y)[j]? = some v → w.cell? (ad.add j) = some v) := ids_src hY
      clear hT hX hU hY
      go_wp2_with (first
        | (at_make; refine wpList_make_full _ rfl _ _ 30 rfl w.heap.size 23 i0 _ 32 Try.underlying30 HI.out.1 HI.out.2.1 HI.out.2.2.1 .i64 .i64 _ _ Y.length rfl rfl rfl rfl (by rw [HI.out.2.2.2]; omega) (by unfold maxLen; omega) (Nat.le_refl _) ?_; intro wm hmk hg2; obtain ⟨cur, hcur, hcs⟩ := made_row hmk; have HG2 : Hid (w.grownBy wm none) := hg2; clear hmk hg2; go_frame)
        | (refine wpList_copy_whole rfl _ _ 30 30 rfl 23 32 Try.underlying30 info23 rfl rfl cur hcur (flat Y) (flat_len HL.out) hcs (fun j v hv => HG2.out.cell (HS.out j v hv) (by simp)) (flat_one Y) ?_; go_frame))
      go_meet
      case rel => exact ⟨_, _, rfl, ids_new HL.out (setRow_heap _ _ _ _ _ _ hcur), below_row HG2.out _⟩
  case rest =>
    rename_i K hK
    obtain ⟨a', c', rfl, hY1, hB⟩ := hcut
    have hT1 := hT.below hB
    have hX1 := hX.below hB
    have hU1 := hU.below hB
    refine hK _ _ ?_
    exact law_tail a0 a1 a2 a' c0 c1 c2 c' T U X Y w0 wc hT1 hX1 hU1 hY1 HTX.out HUY.out hxn hyn hxl hyl (HB0.out.trans (hB.mono HB0.out.size)) _ _ _ _ _ _ _ _ _ _ _ _ _ _ _ _ _ _ _ _ _ _ _ _ _ _ _ _ _ _ _ _ _ _ _ _ _ _ _ _ _ _ _ _ _ _ _ _ _ _ _ _ _ _ _ _ _ _ _ _ _ _ _ _ _ _ _ _ _ _ _ _ _ _ _ _ _ _ _ _ _ _ _ _ _ _ _ _ _ _ _ _ _ _ _ _ _ _ _ _ _ _ _ _ _ _ _ _ _ _ _ _ _ _ _ _ _ _ _ _ _ _ _ _ _ _ _ _ _ _ _ _ _ _ _ _ _ _ _ _ _ _ _ _ _ _ _ _ _ _ _ _ _ _ _ _ _ _ _ _ _ _ _ _ _ _ _ _ _ _ _ _ _ _ _ _ _ _ _ _ _ _ _ _ _ _ _ _ _ _ _ _ _ _ _ _ _ _ _ _

set_option maxRecDepth 100000 in
set_option maxHeartbeats 1000000 in
theorem law_seg2 (a0 a1 a2 a3 : Option Addr) (c0 c1 c2 c3 : Nat) (T U : List Int) (X Y : List (List UInt8)) (w0 w : World) (hT : TsAt w a0 T) (hX : IdsAt w a1 X) (hU : TsAt w a2 U) (hY : IdsAt w a3 Y)
    (hTX : T.length = X.length) (hUY : U.length = Y.length) (hxn : X.Nodup) (hyn : Y.Nodup) (hxl : X.length ≤ 4096) (hyl : Y.length ≤ 4096) (hB0 : Below w0.heap.size w0 w)
    (u9 u10 u11 u12 u21 u22 u23 u24 u25 u26 u27 u28 u29 u30 u31 u32 u33 u34 u35 u36 u37 u38 u39 u40 u41 u42 u43 u44 u45 u46 u47 u48 u49 u50 u51 u52 u53 u54 u55 u56 u57 u58 u59 u60 u61 u62 u63 u64 u65 u66 u67 u68 u69 u70 u71 u72 u73 u74 u75 u76 u77 u78 u79 u80 u81 u82 u83 u84 u85 u86 u87 u88 u89 u90 u91 u92 u93 u94 u95 u96 u97 u98 u99 u100 u101 u102 u103 u104 u105 u106 u107 u108 u109 u110 u111 u112 u113 u114 u115 u116 u117 u118 u119 u120 u121 u122 u123 u124 u125 u126 u127 u128 u129 u130 u131 u132 u133 u134 u135 u136 u137 u138 u139 u140 u141 u142 u143 u144 u145 u146 u147 u148 u149 u150 u151 u152 u153 u154 u155 u156 u157 u158 u159 u160 u161 u162 u163 u164 u165 u166 u167 u168 u169 u170 u171 u172 u173 u174 u175 u176 u177 u178 u179 u180 u181 u182 u183 u184 u185 u186 u187 u188 u189 u190 u191 u192 u193 u194 u195 u196 u197 u198 u199 u200 u201 u202 u203 u204 u205 u206 u207 u208 u209 u210 u211 u212 u213 u214 u215 u216 : Value) :
    Code.wp Try.prog ((Try.f5.body.bind (fromIf 19)).getD .skip) (bodyPost Try.prog Try.f5 fun e w' => e = .returned (.bool true) ∧ Below w0.heap.size w0 w')
      ⟨#[.slice a0 X.length c0, .slice a1 X.length c1, .slice a2 Y.length c2, .slice a3 Y.length c3, undef, undef, undef, undef, .bool false, u9, u10, u11, u12, undef, undef, undef, undef, undef, undef, undef, undef, u21, u22, u23, u24, u25, u26, u27, u28, u29, u30, u31, u32, u33, u34, u35, u36, u37, u38, u39, u40, u41, u42, u43, u44, u45, u46, u47, u48, u49, u50, u51, u52, u53, u54, u55, u56, u57, u58, u59, u60, u61, u62, u63, u64, u65, u66, u67, u68, u69, u70, u71, u72, u73, u74, u75, u76, u77, u78, u79, u80, u81, u82, u83, u84, u85, u86, u87, u88, u89, u90, u91, u92, u93, u94, u95, u96, u97, u98, u99, u100, u101, u102, u103, u104, u105, u106, u107, u108, u109, u110, u111, u112, u113, u114, u115, u116, u117, u118, u119, u120, u121, u122, u123, u124, u125, u126, u127, u128, u129, u130, u131, u132, u133, u134, u135, u136, u137, u138, u139, u140, u141, u142, u143, u144, u145, u146, u147, u148, u149, u150, u151, u152, u153, u154, u155, u156, u157, u158, u159, u160, u161, u162, u163, u164, u165, u166, u167, u168, u169, u170, u171, u172, u173, u174, u175, u176, u177, u178, u179, u180, u181, u182, u183, u184, u185, u186, u187, u188, u189, u190, u191, u192, u193, u194, u195, u196, u197, u198, u199, u200, u201, u202, u203, u204, u205, u206, u207, u208, u209, u210, u211, u212, u213, u214, u215, u216], []⟩ w := by
  conv => arg 2; whnf
  obtain ⟨i0, hi, hz0, hz1, hz2⟩ := info_parts info22
  have HI : Hid (Try.prog.info? 22 = some i0 ∧ i0.zero = some (.int .u64 0) ∧ i0.size = 1 ∧ i0.bytes = 8) := ⟨hi, hz0, hz1, hz2⟩
  have HTX : Hid (T.length = X.length) := hTX
  have HUY : Hid (U.length = Y.length) := hUY
  have HB0 : Hid (Below w0.heap.size w0 w) := hB0
  clear hTX hUY hB0 hi hz0 hz1 hz2
  go_upto_if 98 with (fail)
  go_cut [2] from 21 (fun s wc => ∃ a c, s = .slice a Y.length c ∧ TsAt wc a U ∧ Below w.heap.size w wc)
  case first =>
    cases a2 with
    | none =>
      go_wp2
      go_meet
      case rel => exact ⟨_, _, rfl, hU, Below.refl _ _⟩
    | some ad =>
      have HS : Hid (∀ (j : Nat) (v : Value), (U.map (Value.int .u64))[j]? = some v → w.cell? (ad.add j) = some v) := ts_src hU
      clear hT hX hU hY
      go_wp2_with (first
        | (at_make; refine wpList_make_full _ rfl _ _ 29 rfl w.heap.size 22 i0 _ 1 Try.underlying29 HI.out.1 HI.out.2.1 HI.out.2.2.1 .i64 .i64 _ _ Y.length rfl rfl rfl rfl (by rw [HI.out.2.2.2]; omega) (by unfold maxLen; omega) (Nat.le_refl _) ?_; intro wm hmk hg2; obtain ⟨cur, hcur, hcs⟩ := made_row hmk; have HG2 : Hid (w.grownBy wm none) := hg2; clear hmk hg2; go_frame)
        | (refine wpList_copy_whole rfl _ _ 29 29 rfl 22 1 Try.underlying29 size22 rfl rfl cur hcur (U.map (Value.int .u64)) (by simp [HUY.out]) hcs (fun j v hv => HG2.out.cell (HS.out j v hv) (by simp)) (ts_one U) ?_; go_frame))
      go_meet
      case rel => exact ⟨_, _, rfl, ts_new (setRow_heap _ _ _ _ _ _ hcur), below_row HG2.out _⟩
  case rest =>
    rename_i K hK
    obtain ⟨a', c', rfl, hU1, hB⟩ := hcut
    have hT1 := hT.below hB
    have hX1 := hX.below hB
    have hY1 := hY.below hB
    refine hK _ _ ?_
    exact law_seg3 a0 a1 a' a3 c0 c1 c' c3 T U X Y w0 wc hT1 hX1 hU1 hY1 HTX.out HUY.out hxn hyn hxl hyl (HB0.out.trans (hB.mono HB0.out.size)) _ _ _ _ _ _ _ _ _ _ _ _ _ _ _ _ _ _ _ _ _ _ _ _ _ _ _ _ _ _ _ _ _ _ _ _ _ _ _ _ _ _ _ _ _ _ _ _ _ _ _ _ _ _ _ _ _ _ _ _ _ _ _ _ _ _ _ _ _ _ _ _ _ _ _ _ _ _ _ _ _ _ _ _ _ _ _ _ _ _ _ _ _ _ _ _ _ _ _ _ _ _ _ _ _ _ _ _ _ _ _ _ _ _ _ _ _ _ _ _ _ _ _ _ _ _ _ _ _ _ _ _ _ _ _ _ _ _ _ _ _ _ _ _ _ _ _ _ _ _ _ _ _ _ _ _ _ _ _ _ _ _ _ _ _ _ _ _ _ _ _ _ _ _ _ _ _ _ _ _ _ _ _ _ _ _ _ _ _ _ _ _ _ _ _ _ _ _ _ _

set_option maxRecDepth 100000 in
set_option maxHeartbeats 1000000 in
theorem law_seg1 (a0 a1 a2 a3 : Option Addr) (c0 c1 c2 c3 : Nat) (T U : List Int) (X Y : List (List UInt8)) (w0 w : World) (hT : TsAt w a0 T) (hX : IdsAt w a1 X) (hU : TsAt w a2 U) (hY : IdsAt w a3 Y)
    (hTX : T.length = X.length) (hUY : U.length = Y.length) (hxn : X.Nodup) (hyn : Y.Nodup) (hxl : X.length ≤ 4096) (hyl : Y.length ≤ 4096) (hB0 : Below w0.heap.size w0 w)
    (u9 u10 u11 u12 u21 u22 u23 u24 u25 u26 u27 u28 u29 u30 u31 u32 u33 u34 u35 u36 u37 u38 u39 u40 u41 u42 u43 u44 u45 u46 u47 u48 u49 u50 u51 u52 u53 u54 u55 u56 u57 u58 u59 u60 u61 u62 u63 u64 u65 u66 u67 u68 u69 u70 u71 u72 u73 u74 u75 u76 u77 u78 u79 u80 u81 u82 u83 u84 u85 u86 u87 u88 u89 u90 u91 u92 u93 u94 u95 u96 u97 u98 u99 u100 u101 u102 u103 u104 u105 u106 u107 u108 u109 u110 u111 u112 u113 u114 u115 u116 u117 u118 u119 u120 u121 u122 u123 u124 u125 u126 u127 u128 u129 u130 u131 u132 u133 u134 u135 u136 u137 u138 u139 u140 u141 u142 u143 u144 u145 u146 u147 u148 u149 u150 u151 u152 u153 u154 u155 u156 u157 u158 u159 u160 u161 u162 u163 u164 u165 u166 u167 u168 u169 u170 u171 u172 u173 u174 u175 u176 u177 u178 u179 u180 u181 u182 u183 u184 u185 u186 u187 u188 u189 u190 u191 u192 u193 u194 u195 u196 u197 u198 u199 u200 u201 u202 u203 u204 u205 u206 u207 u208 u209 u210 u211 u212 u213 u214 u215 u216 : Value) :
    Code.wp Try.prog ((Try.f5.body.bind (fromIf 15)).getD .skip) (bodyPost Try.prog Try.f5 fun e w' => e = .returned (.bool true) ∧ Below w0.heap.size w0 w')
      ⟨#[.slice a0 X.length c0, .slice a1 X.length c1, .slice a2 Y.length c2, .slice a3 Y.length c3, undef, undef, undef, undef, .bool false, u9, u10, u11, u12, undef, undef, undef, undef, undef, undef, undef, undef, u21, u22, u23, u24, u25, u26, u27, u28, u29, u30, u31, u32, u33, u34, u35, u36, u37, u38, u39, u40, u41, u42, u43, u44, u45, u46, u47, u48, u49, u50, u51, u52, u53, u54, u55, u56, u57, u58, u59, u60, u61, u62, u63, u64, u65, u66, u67, u68, u69, u70, u71, u72, u73, u74, u75, u76, u77, u78, u79, u80, u81, u82, u83, u84, u85, u86, u87, u88, u89, u90, u91, u92, u93, u94, u95, u96, u97, u98, u99, u100, u101, u102, u103, u104, u105, u106, u107, u108, u109, u110, u111, u112, u113, u114, u115, u116, u117, u118, u119, u120, u121, u122, u123, u124, u125, u126, u127, u128, u129, u130, u131, u132, u133, u134, u135, u136, u137, u138, u139, u140, u141, u142, u143, u144, u145, u146, u147, u148, u149, u150, u151, u152, u153, u154, u155, u156, u157, u158, u159, u160, u161, u162, u163, u164, u165, u166, u167, u168, u169, u170, u171, u172, u173, u174, u175, u176, u177, u178, u179, u180, u181, u182, u183, u184, u185, u186, u187, u188, u189, u190, u191, u192, u193, u194, u195, u196, u197, u198, u199, u200, u201, u202, u203, u204, u205, u206, u207, u208, u209, u210, u211, u212, u213, u214, u215, u216], []⟩ w := by
  conv => arg 2; whnf
  obtain ⟨i0, hi, hz0, hz1, hz2⟩ := info_parts info23b
  have HI : Hid (Try.prog.info? 23 = some i0 ∧ i0.zero = some (.agg (Array.replicate 32 (.int .u8 0))) ∧ i0.size = 32 ∧ i0.bytes = 32) := ⟨hi, hz0, hz1, hz2⟩
  have HTX : Hid (T.length = X.length) := hTX
  have HUY : Hid (U.length = Y.length) := hUY
  have HB0 : Hid (Below w0.heap.size w0 w) := hB0
  clear hTX hUY hB0 hi hz0 hz1 hz2
  go_upto_if 89 with (fail)
  go_cut [1] from 21 (fun s wc => ∃ a c, s = .slice a X.length c ∧ IdsAt wc a X ∧ Below w.heap.size w wc)
  case first =>
    cases a1 with
    | none =>
      go_wp2
      go_meet
      case rel => exact ⟨_, _, rfl, hX, Below.refl _ _⟩
    | some ad =>
      have HL : Hid (∀ x ∈ X, x.length = 32) := hX.len
      have HS : Hid (∀ (j : Nat) (v : Value), (flat X)[j]? = some v → w.cell? (ad.add j) = some v) := ids_src hX
      clear hT hX hU hY
      go_wp2_with (first
        | (at_make; refine wpList_make_full _ rfl _ _ 30 rfl w.heap.size 23 i0 _ 32 Try.underlying30 HI.out.1 HI.out.2.1 HI.out.2.2.1 .i64 .i64 _ _ X.length rfl rfl rfl rfl (by rw [HI.out.2.2.2]; omega) (by unfold maxLen; omega) (Nat.le_refl _) ?_; intro wm hmk hg2; obtain ⟨cur, hcur, hcs⟩ := made_row hmk; have HG2 : Hid (w.grownBy wm none) := hg2; clear hmk hg2; go_frame)
        | (refine wpList_copy_whole rfl _ _ 30 30 rfl 23 32 Try.underlying30 info23 rfl rfl cur hcur (flat X) (flat_len HL.out) hcs (fun j v hv => HG2.out.cell (HS.out j v hv) (by simp)) (flat_one X) ?_; go_frame))
      go_meet
      case rel => exact ⟨_, _, rfl, ids_new HL.out (setRow_heap _ _ _ _ _ _ hcur), below_row HG2.out _⟩
  case rest =>
    rename_i K hK
    obtain ⟨a', c', rfl, hX1, hB⟩ := hcut
    have hT1 := hT.below hB
    have hU1 := hU.below hB
    have hY1 := hY.below hB
    refine hK _ _ ?_
    exact law_seg2 a0 a' a2 a3 c0 c' c2 c3 T U X Y w0 wc hT1 hX1 hU1 hY1 HTX.out HUY.out hxn hyn hxl hyl (HB0.out.trans (hB.mono HB0.out.size)) _ _ _ _ _ _ _ _ _ _ _ _ _ _ _ _ _ _ _ _ _ _ _ _ _ _ _ _ _ _ _ _ _ _ _ _ _ _ _ _ _ _ _ _ _ _ _ _ _ _ _ _ _ _ _ _ _ _ _ _ _ _ _ _ _ _ _ _ _ _ _ _ _ _ _ _ _ _ _ _ _ _ _ _ _ _ _ _ _ _ _ _ _ _ _ _ _ _ _ _ _ _ _ _ _ _ _ _ _ _ _ _ _ _ _ _ _ _ _ _ _ _ _ _ _ _ _ _ _ _ _ _ _ _ _ _ _ _ _ _ _ _ _ _ _ _ _ _ _ _ _ _ _ _ _ _ _ _ _ _ _ _ _ _ _ _ _ _ _ _ _ _ _ _ _ _ _ _ _ _ _ _ _ _ _ _ _ _ _ _ _ _ _ _ _ _ _ _ _ _

set_option maxRecDepth 100000 in
set_option maxHeartbeats 1000000 in
theorem law_seg0 (a0 a1 a2 a3 : Option Addr) (c0 c1 c2 c3 : Nat) (T U : List Int) (X Y : List (List UInt8)) (w0 w : World) (hT : TsAt w a0 T) (hX : IdsAt w a1 X) (hU : TsAt w a2 U) (hY : IdsAt w a3 Y)
    (hTX : T.length = X.length) (hUY : U.length = Y.length) (hxn : X.Nodup) (hyn : Y.Nodup) (hxl : X.length ≤ 4096) (hyl : Y.length ≤ 4096) (hB0 : Below w0.heap.size w0 w)
    (u9 u10 u11 u12 u21 u22 u23 u24 u25 u26 u27 u28 u29 u30 u31 u32 u33 u34 u35 u36 u37 u38 u39 u40 u41 u42 u43 u44 u45 u46 u47 u48 u49 u50 u51 u52 u53 u54 u55 u56 u57 u58 u59 u60 u61 u62 u63 u64 u65 u66 u67 u68 u69 u70 u71 u72 u73 u74 u75 u76 u77 u78 u79 u80 u81 u82 u83 u84 u85 u86 u87 u88 u89 u90 u91 u92 u93 u94 u95 u96 u97 u98 u99 u100 u101 u102 u103 u104 u105 u106 u107 u108 u109 u110 u111 u112 u113 u114 u115 u116 u117 u118 u119 u120 u121 u122 u123 u124 u125 u126 u127 u128 u129 u130 u131 u132 u133 u134 u135 u136 u137 u138 u139 u140 u141 u142 u143 u144 u145 u146 u147 u148 u149 u150 u151 u152 u153 u154 u155 u156 u157 u158 u159 u160 u161 u162 u163 u164 u165 u166 u167 u168 u169 u170 u171 u172 u173 u174 u175 u176 u177 u178 u179 u180 u181 u182 u183 u184 u185 u186 u187 u188 u189 u190 u191 u192 u193 u194 u195 u196 u197 u198 u199 u200 u201 u202 u203 u204 u205 u206 u207 u208 u209 u210 u211 u212 u213 u214 u215 u216 : Value) :
    Code.wp Try.prog ((Try.f5.body.bind (fromIf 11)).getD .skip) (bodyPost Try.prog Try.f5 fun e w' => e = .returned (.bool true) ∧ Below w0.heap.size w0 w')
      ⟨#[.slice a0 X.length c0, .slice a1 X.length c1, .slice a2 Y.length c2, .slice a3 Y.length c3, undef, undef, undef, undef, .bool false, u9, u10, u11, u12, undef, undef, undef, undef, undef, undef, undef, undef, u21, u22, u23, u24, u25, u26, u27, u28, u29, u30, u31, u32, u33, u34, u35, u36, u37, u38, u39, u40, u41, u42, u43, u44, u45, u46, u47, u48, u49, u50, u51, u52, u53, u54, u55, u56, u57, u58, u59, u60, u61, u62, u63, u64, u65, u66, u67, u68, u69, u70, u71, u72, u73, u74, u75, u76, u77, u78, u79, u80, u81, u82, u83, u84, u85, u86, u87, u88, u89, u90, u91, u92, u93, u94, u95, u96, u97, u98, u99, u100, u101, u102, u103, u104, u105, u106, u107, u108, u109, u110, u111, u112, u113, u114, u115, u116, u117, u118, u119, u120, u121, u122, u123, u124, u125, u126, u127, u128, u129, u130, u131, u132, u133, u134, u135, u136, u137, u138, u139, u140, u141, u142, u143, u144, u145, u146, u147, u148, u149, u150, u151, u152, u153, u154, u155, u156, u157, u158, u159, u160, u161, u162, u163, u164, u165, u166, u167, u168, u169, u170, u171, u172, u173, u174, u175, u176, u177, u178, u179, u180, u181, u182, u183, u184, u185, u186, u187, u188, u189, u190, u191, u192, u193, u194, u195, u196, u197, u198, u199, u200, u201, u202, u203, u204, u205, u206, u207, u208, u209, u210, u211, u212, u213, u214, u215, u216], []⟩ w := by
  conv => arg 2; whnf
  obtain ⟨i0, hi, hz0, hz1, hz2⟩ := info_parts info22
  have HI : Hid (Try.prog.info? 22 = some i0 ∧ i0.zero = some (.int .u64 0) ∧ i0.size = 1 ∧ i0.bytes = 8) := ⟨hi, hz0, hz1, hz2⟩
  have HTX : Hid (T.length = X.length) := hTX
  have HUY : Hid (U.length = Y.length) := hUY
  have HB0 : Hid (Below w0.heap.size w0 w) := hB0
  clear hTX hUY hB0 hi hz0 hz1 hz2
  go_upto_if 80 with (fail)
  go_cut [0] from 21 (fun s wc => ∃ a c, s = .slice a X.length c ∧ TsAt wc a T ∧ Below w.heap.size w wc)
  case first =>
    cases a0 with
    | none =>
      go_wp2
      go_meet
      case rel => exact ⟨_, _, rfl, hT, Below.refl _ _⟩
    | some ad =>
      have HS : Hid (∀ (j : Nat) (v : Value), (T.map (Value.int .u64))[j]? = some v → w.cell? (ad.add j) = some v) := ts_src hT
      clear hT hX hU hY
      go_wp2_with (first
        | (at_make; refine wpList_make_full _ rfl _ _ 29 rfl w.heap.size 22 i0 _ 1 Try.underlying29 HI.out.1 HI.out.2.1 HI.out.2.2.1 .i64 .i64 _ _ X.length rfl rfl rfl rfl (by rw [HI.out.2.2.2]; omega) (by unfold maxLen; omega) (Nat.le_refl _) ?_; intro wm hmk hg2; obtain ⟨cur, hcur, hcs⟩ := made_row hmk; have HG2 : Hid (w.grownBy wm none) := hg2; clear hmk hg2; go_frame)
        | (refine wpList_copy_whole rfl _ _ 29 29 rfl 22 1 Try.underlying29 size22 rfl rfl cur hcur (T.map (Value.int .u64)) (by simp [HTX.out]) hcs (fun j v hv => HG2.out.cell (HS.out j v hv) (by simp)) (ts_one T) ?_; go_frame))
      go_meet
      case rel => exact ⟨_, _, rfl, ts_new (setRow_heap _ _ _ _ _ _ hcur), below_row HG2.out _⟩
  case rest =>
    rename_i K hK
    obtain ⟨a', c', rfl, hT1, hB⟩ := hcut
    have hX1 := hX.below hB
    have hU1 := hU.below hB
    have hY1 := hY.below hB
    refine hK _ _ ?_
    exact law_seg1 a' a1 a2 a3 c' c1 c2 c3 T U X Y w0 wc hT1 hX1 hU1 hY1 HTX.out HUY.out hxn hyn hxl hyl (HB0.out.trans (hB.mono HB0.out.size)) _ _ _ _ _ _ _ _ _ _ _ _ _ _ _ _ _ _ _ _ _ _ _ _ _ _ _ _ _ _ _ _ _ _ _ _ _ _ _ _ _ _ _ _ _ _ _ _ _ _ _ _ _ _ _ _ _ _ _ _ _ _ _ _ _ _ _ _ _ _ _ _ _ _ _ _ _ _ _ _ _ _ _ _ _ _ _ _ _ _ _ _ _ _ _ _ _ _ _ _ _ _ _ _ _ _ _ _ _ _ _ _ _ _ _ _ _ _ _ _ _ _ _ _ _ _ _ _ _ _ _ _ _ _ _ _ _ _ _ _ _ _ _ _ _ _ _ _ _ _ _ _ _ _ _ _ _ _ _ _ _ _ _ _ _ _ _ _ _ _ _ _ _ _ _ _ _ _ _ _ _ _ _ _ _ _ _ _ _ _ _ _ _ _ _ _ _ _ _ _

end Go.Proofs.Qxb6619851a
