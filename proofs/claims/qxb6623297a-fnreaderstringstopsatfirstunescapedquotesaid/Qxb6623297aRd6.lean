import Derived.Test.Qxb6623297aRd5
import Derived.Deep.Cut
set_option linter.unusedVariables false
namespace Go.Proofs.Qxb6623297a
open Go.RowKit

/-- The code from the 'if' whose test is reckoned in the region n on. -/
def fromIf (n : Nat) : Code → Option Code
  | .seq (.seq (.region k ops d) c) b => if k = n then some (.seq (.seq (.region k ops d) c) b) else fromIf n b
  | .seq _ b => fromIf n b
  | _ => none

set_option maxRecDepth 100000 in
set_option maxHeartbeats 1000000 in
theorem tailC (a0 a3 : Option Addr) (c0 cd c3 b off a e : Nat) (pre D tail : List UInt8) (w0 w : World) (hb : b < w.heap.size) (hP : BsAt w a0 pre) (hT : BsAt w a3 tail) (hD : BytesAt w b off D) (hE : Ends D (a + 1) e)
    (hl : pre.length + D.length + tail.length ≤ 1048576) (hcap : D.length ≤ cd) (hB0 : Below w0.heap.size w0 w)
    (u4 u5 u6 u7 u8 u9 u11 u12 u13 u14 u15 u16 u17 u18 u19 u20 u21 u22 u23 u24 u25 u26 u27 u28 u29 u30 u31 u32 u33 u34 u35 u36 u37 u38 u39 u40 u41 u42 u43 u44 u45 u46 u47 u48 u49 u50 u51 u52 u53 u54 u55 u56 u57 u58 u59 u60 u61 u62 u63 u64 u65 u66 u67 u68 u69 u70 u71 u72 u73 u74 u75 u76 u77 u78 u79 u80 u81 u82 u83 u84 u85 u86 u87 u88 u89 u90 u91 u92 u93 u94 u95 u96 u97 u98 u99 u100 u101 u102 u103 u104 u105 u106 u107 u108 u109 u110 u111 u112 u113 u114 u115 u116 u117 u118 u119 u120 u121 u122 u123 u124 u125 u126 u127 u128 u129 u130 u131 u132 u133 u134 u135 u136 u137 u138 u139 u140 u141 u142 u143 u144 u145 u146 u147 u148 u149 u150 u151 u152 u153 u154 u155 u156 u157 u158 u159 u160 u161 u162 u163 u164 u165 u166 u167 u168 u169 u170 u171 u172 u173 u174 u175 u176 u177 u178 u179 u180 u181 u182 u183 u184 u185 u186 u187 u188 u189 u190 u191 u192 u193 u194 u195 u196 u197 u198 u199 u200 u201 u202 u203 u204 u205 u206 u207 u208 u209 u210 u211 u212 u213 u214 u215 : Value) :
    Code.wp Try.prog ((Try.f3.body.bind (fromIf 26)).getD .skip) (bodyPost Try.prog Try.f3 fun ee w' => ee = .returned (.bool true) ∧ Below w0.heap.size w0 w')
      ⟨#[.slice a0 pre.length c0, .slice (some ⟨b, off, none⟩) D.length cd, .int .i64 (a : Int), .slice a3 tail.length c3, u4, u5, u6, u7, u8, u9, .int .i64 (e : Int), u11, u12, u13, u14, u15, u16, u17, u18, u19, u20, u21, u22, u23, u24, u25, u26, u27, u28, u29, u30, u31, u32, u33, u34, u35, u36, u37, u38, u39, u40, u41, u42, u43, u44, u45, u46, u47, u48, u49, u50, u51, u52, u53, u54, u55, u56, u57, u58, u59, u60, u61, u62, u63, u64, u65, u66, u67, u68, u69, u70, u71, u72, u73, u74, u75, u76, u77, u78, u79, u80, u81, u82, u83, u84, u85, u86, u87, u88, u89, u90, u91, u92, u93, u94, u95, u96, u97, u98, u99, u100, u101, u102, u103, u104, u105, u106, u107, u108, u109, u110, u111, u112, u113, u114, u115, u116, u117, u118, u119, u120, u121, u122, u123, u124, u125, u126, u127, u128, u129, u130, u131, u132, u133, u134, u135, u136, u137, u138, u139, u140, u141, u142, u143, u144, u145, u146, u147, u148, u149, u150, u151, u152, u153, u154, u155, u156, u157, u158, u159, u160, u161, u162, u163, u164, u165, u166, u167, u168, u169, u170, u171, u172, u173, u174, u175, u176, u177, u178, u179, u180, u181, u182, u183, u184, u185, u186, u187, u188, u189, u190, u191, u192, u193, u194, u195, u196, u197, u198, u199, u200, u201, u202, u203, u204, u205, u206, u207, u208, u209, u210, u211, u212, u213, u214, u215], []⟩ w := by
  conv => arg 2; whnf
  have hel := hE.lt
  have hae := hE.1
  have hJl : (pre ++ (D.take (e + 1) ++ tail)).length ≤ 4194304 := by simp; omega
  have HJl : Hid ((pre ++ (D.take (e + 1) ++ tail)).length ≤ 4194304) := hJl
  have HE : Hid (Ends D (a + 1) e) := hE
  have HB0 : Hid (Below w0.heap.size w0 w) := hB0
  have hlen : ((e - (a + 1) : Nat) : Int) = (e : Int) - (a : Int) - 1 := by omega
  have HLEN : Hid (((e - (a + 1) : Nat) : Int) = (e : Int) - (a : Int) - 1) := hlen
  clear hJl hE hB0 hlen
  go_wp2_with fail
  refine (zzReader_any D b off cd a e w hb hD HE.out (by omega) hcap).mono ?_
  rintro ee w1 ⟨rfl, hB⟩
  have hD1 := hD.below hB hb
  have hP1 := hP.below hB
  have hT1 := hT.below hB
  have hb1 : b < w1.heap.size := Nat.lt_of_lt_of_le hb hB.size
  have HB1 : Hid (Below w0.heap.size w0 w1) := HB0.out.trans (hB.mono HB0.out.size)
  clear hB HB0 hD hP hT hb
  obtain ⟨L, hL⟩ : ∃ L, L = e - (a + 1) := ⟨_, rfl⟩
  rw [← hL]
  have hlen : (L : Int) = (e : Int) - (a : Int) - 1 := by rw [hL]; exact HLEN.out
  have HL : Hid (L = e - (a + 1)) := hL
  clear hL HLEN
  go_wp2
  go_loopw [16] (fun i wr => ∃ m : Nat, m ≤ L ∧ i = .int .i64 m ∧ ∃ n, wr = w1.drewN n) (fun i _ => L - (intOf i).toNat)
  case atStart => exact ⟨0, Nat.zero_le _, rfl, 0, rfl⟩
  case round =>
    obtain ⟨m, hm, rfl, n, rfl⟩ := hrel
    by_cases hlt : m < L
    · obtain ⟨v, hv⟩ : ∃ v, D[a + 1 + m]? = some v := ⟨_, List.getElem?_eq_getElem (by have := HL.out; omega)⟩
      have k1 : w1.cell? ⟨b, off + (a + 1) + m, none⟩ = some (.int .u8 (v.toNat : Int)) := by have := hD1 _ v hv; rwa [← Nat.add_assoc] at this
      have k2 : w1.cell? ⟨b, off + (a + 1 + m), none⟩ = some (.int .u8 (v.toNat : Int)) := hD1 _ v hv
      have hbm : (m : Int) < (L : Int) := by omega
      have hbm2 : (a : Int) + 1 + m < D.length := by have := HL.out; omega
      clear hv hD1 hP1 hT1
      go_wp2
      go_quiet (fail)
      go_wp2
      go_roundw
      case rel => exact ⟨m + 1, by omega, by go_num, n + nq, by first | rfl | rw [World.drewN_drewN]⟩
      case measure => simp [intOf]; omega
    · have hbm : ¬ (m : Int) < (L : Int) := by omega
      have HL' := HL.out
      subst HL'
      have hB2 : Below w1.heap.size w1 (w1.drewN n) := below_drewN (Below.refl _ _) n
      have HD2 := Hid.mk' (hD1.below hB2 hb1)
      have HP2 := Hid.mk' (hP1.below hB2)
      have HT2 := Hid.mk' (hT1.below hB2)
      have HB2 := Hid.mk' (HB1.out.trans (hB2.mono HB1.out.size))
      clear hD1 hP1 hT1 HB1 hB2
      rename_i hK
      have HK := Hid.mk' hK
      clear hK
      go_wp2
      refine HK.out _ _ ?_
      exact tailD a0 a3 c0 cd c3 _ b off a e pre D tail _ w0 (w1.drewN n) (by exact hb1) HP2.out HT2.out HD2.out rfl HE.out HJl.out HB2.out _ _ _ _ _ _ _ _ _ _ _ _ _ _ _ _ _ _ _ _ _ _ _ _ _ _ _ _ _ _ _ _ _ _ _ _ _ _ _ _ _ _ _ _ _ _ _ _ _ _ _ _ _ _ _ _ _ _ _ _ _ _ _ _ _ _ _ _ _ _ _ _ _ _ _ _ _ _ _ _ _ _ _ _ _ _ _ _ _ _ _ _ _ _ _ _ _ _ _ _ _ _ _ _ _ _ _ _ _ _ _ _ _ _ _ _ _ _ _ _ _ _ _ _ _ _ _ _ _ _ _ _ _ _ _ _ _ _ _ _ _ _ _ _ _ _ _ _ _ _ _ _ _ _ _ _ _ _ _ _ _ _ _ _ _ _ _ _ _ _ _ _ _ _ _ _ _ _ _ _ _ _ _ _ _ _ _ _ _ _ _ _ _ _ _ _ _ _ _ _ _ _ _ _ _ _ _ _ _ _
end Go.Proofs.Qxb6623297a
