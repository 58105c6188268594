import Derived.Test.Qxb6623297aRd3
import Derived.Deep.Cut
set_option linter.unusedVariables false
namespace Go.Proofs.Qxb6623297a
open Go.RowKit

/-- The code from region n on. -/
def fromRegion (n : Nat) : Code → Option Code
  | .seq (.region k ops d) b => if k = n then some (.seq (.region k ops d) b) else fromRegion n b
  | .seq _ b => fromRegion n b
  | _ => none

theorem join_get {D pre tail : List UInt8} {s e i : Nat} (hi : i < e - s) (he : e < D.length) : (pre ++ (D.take (e + 1) ++ tail))[pre.length + s + i]? = D[s + i]? := by
  rw [List.getElem?_append_right (by omega), show pre.length + s + i - pre.length = s + i by omega, List.getElem?_append_left (by simp; omega), List.getElem?_take, if_pos (by omega)]

set_option maxRecDepth 100000 in
set_option maxHeartbeats 400000 in
theorem tailE (a0 : Option Addr) (c0 cs b off a e g : Nat) (pre D tail J : List UInt8) (w0 w : World) (hb : b < w.heap.size) (hg : g < w.heap.size) (hD : BytesAt w b off D) (hJ : BytesAt w g 0 J) (hJd : J = pre ++ (D.take (e + 1) ++ tail)) (hE : Ends D (a + 1) e)
    (hl : J.length ≤ 4194304) (hB0 : Below w0.heap.size w0 w)
    (u1 u3 u4 u5 u6 u7 u8 u9 u10 u11 u12 u13 u16 u17 u19 u20 u21 u22 u23 u24 u25 u26 u27 u28 u29 u30 u31 u32 u33 u34 u35 u36 u37 u38 u39 u40 u41 u42 u43 u44 u45 u46 u47 u48 u49 u50 u51 u52 u53 u54 u55 u56 u57 u58 u59 u60 u61 u62 u63 u64 u65 u66 u67 u68 u69 u70 u71 u72 u73 u74 u75 u76 u77 u78 u79 u80 u81 u82 u83 u84 u85 u86 u87 u88 u89 u90 u91 u92 u93 u94 u95 u96 u97 u98 u99 u100 u101 u102 u103 u104 u105 u106 u107 u108 u109 u110 u111 u112 u113 u114 u115 u116 u117 u118 u119 u120 u121 u122 u123 u124 u125 u126 u127 u128 u129 u130 u131 u132 u133 u134 u135 u136 u137 u138 u139 u140 u141 u142 u143 u144 u145 u146 u147 u148 u149 u150 u151 u152 u153 u154 u155 u156 u157 u158 u159 u160 u161 u162 u163 u164 u165 u166 u167 u168 u169 u170 u171 u172 u173 u174 u175 u176 u177 u178 u179 u180 u181 u182 u183 u184 u185 u186 u187 u188 u189 u190 u191 u192 u193 u194 u195 u196 u197 u198 u199 u200 u201 u202 u203 u204 u205 u206 u207 u208 u209 u210 u211 u212 u213 u214 u215 : Value) :
    Code.wp Try.prog ((Try.f3.body.bind (fromRegion 56)).getD .skip) (bodyPost Try.prog Try.f3 fun ee w' => ee = .returned (.bool true) ∧ Below w0.heap.size w0 w')
      ⟨#[.slice a0 pre.length c0, u1, .int .i64 (a : Int), u3, u4, u5, u6, u7, u8, u9, u10, u11, u12, u13, .slice (some ⟨b, off + (a + 1), none⟩) (e - (a + 1)) cs, .int .i64 ((e : Int) + 1), u16, u17, .slice (some ⟨g, 0, none⟩) J.length J.length, u19, u20, u21, u22, u23, u24, u25, u26, u27, u28, u29, u30, u31, u32, u33, u34, u35, u36, u37, u38, u39, u40, u41, u42, u43, u44, u45, u46, u47, u48, u49, u50, u51, u52, u53, u54, u55, u56, u57, u58, u59, u60, u61, u62, u63, u64, u65, u66, u67, u68, u69, u70, u71, u72, u73, u74, u75, u76, u77, u78, u79, u80, u81, u82, u83, u84, u85, u86, u87, u88, u89, u90, u91, u92, u93, u94, u95, u96, u97, u98, u99, u100, u101, u102, u103, u104, u105, u106, u107, u108, u109, u110, u111, u112, u113, u114, u115, u116, u117, u118, u119, u120, u121, u122, u123, u124, u125, u126, u127, u128, u129, u130, u131, u132, u133, u134, u135, u136, u137, u138, u139, u140, u141, u142, u143, u144, u145, u146, u147, u148, u149, u150, u151, u152, u153, u154, u155, u156, u157, u158, u159, u160, u161, u162, u163, u164, u165, u166, u167, u168, u169, u170, u171, u172, u173, u174, u175, u176, u177, u178, u179, u180, u181, u182, u183, u184, u185, u186, u187, u188, u189, u190, u191, u192, u193, u194, u195, u196, u197, u198, u199, u200, u201, u202, u203, u204, u205, u206, u207, u208, u209, u210, u211, u212, u213, u214, u215], []⟩ w := by
  conv => arg 2; whnf
  have hel := hE.lt
  have hae := hE.1
  have hJl : J.length = pre.length + (e + 1) + tail.length := by rw [hJd]; simp; omega
  have hEJ : Ends J ((pre.length + a) + 1) (pre.length + e) := by rw [hJd]; have := hE.join pre tail; rwa [← Nat.add_assoc] at this
  have HG : Hid (∀ (i : Nat) (v : UInt8), i < e - (a + 1) → D[a + 1 + i]? = some v → J[pre.length + a + 1 + i]? = some v) := by
    intro i v hi hv
    rw [hJd, show pre.length + a + 1 + i = pre.length + (a + 1) + i by omega, join_get hi hel]
    exact hv
  have HB0 : Hid (Below w0.heap.size w0 w) := hB0
  have hb1 : pre.length + e ≤ 4194304 := by omega
  clear hJd hB0 hJl
  go_wp2_with fail
  have hc := zzReader_any J g 0 J.length (pre.length + a) (pre.length + e) w hg hJ hEJ hl (Nat.le_refl _)
  rw [Int.natCast_add, Int.natCast_add] at hc
  refine hc.mono ?_
  rintro ee w1 ⟨rfl, hB⟩
  have hD1 := hD.below hB hb
  have hJ1 := hJ.below hB hg
  have HB1 : Hid (Below w0.heap.size w0 w1) := HB0.out.trans (hB.mono HB0.out.size)
  rw [show pre.length + e - (pre.length + a + 1) = e - (a + 1) by omega]
  clear hc hB HB0 hD hJ hEJ
  go_wp2
  go_loopw [25] (fun i wr => ∃ m : Nat, m ≤ e - (a + 1) ∧ i = .int .i64 m ∧ ∃ n, wr = w1.drewN n) (fun i _ => e - (a + 1) - (intOf i).toNat)
  case atStart => exact ⟨0, Nat.zero_le _, rfl, 0, rfl⟩
  case round =>
    obtain ⟨m, hm, rfl, n, rfl⟩ := hrel
    by_cases hlt : m < e - (a + 1)
    · obtain ⟨v, hv⟩ : ∃ v, D[a + 1 + m]? = some v := ⟨_, List.getElem?_eq_getElem (by omega)⟩
      have k1 : w1.cell? ⟨b, off + (a + 1) + m, none⟩ = some (.int .u8 (v.toNat : Int)) := by have := hD1 _ v hv; rwa [← Nat.add_assoc] at this
      have k2 : w1.cell? ⟨g, pre.length + a + 1 + m, none⟩ = some (.int .u8 (v.toNat : Int)) := by have := hJ1 _ v (HG.out m v hlt hv); rwa [Nat.zero_add] at this
      have hbm : (m : Int) < ((e - (a + 1) : Nat) : Int) := by omega
      clear hv hD1 hJ1
      go_wp2
      go_quiet (fail)
      go_wp2
      go_roundw
      case rel => exact ⟨m + 1, by omega, by go_num, n + nq, by first | rfl | rw [World.drewN_drewN]⟩
      case measure => simp [intOf]; omega
    · have hbm : ¬ (m : Int) < ((e - (a + 1) : Nat) : Int) := by omega
      go_wp2
      go_ret
      exact ⟨rfl, below_drewN HB1.out _⟩
end Go.Proofs.Qxb6623297a
