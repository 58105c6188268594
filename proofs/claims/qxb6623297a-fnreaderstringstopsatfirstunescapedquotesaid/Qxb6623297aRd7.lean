import Derived.Test.Qxb6623297aRd6
import Derived.Deep.Cut
set_option linter.unusedVariables false
namespace Go.Proofs.Qxb6623297a
open Go.RowKit

theorem par_odd {v : Nat} : (v + 1) % 2 = 1 ↔ ¬ v % 2 = 1 := by omega

set_option maxRecDepth 100000 in
set_option maxHeartbeats 1000000 in
theorem tailB (a0 a3 : Option Addr) (c0 cd c3 b off a : Nat) (pre D tail : List UInt8) (w0 w : World) (hb : b < w.heap.size) (hP : BsAt w a0 pre) (hT : BsAt w a3 tail) (hD : BytesAt w b off D) (ha : a < D.length)
    (hl : pre.length + D.length + tail.length ≤ 1048576) (hcap : D.length ≤ cd) (hB0 : Below w0.heap.size w0 w)
    (u4 u5 u6 u7 u8 u9 u10 u11 u12 u13 u14 u15 u16 u17 u18 u19 u20 u21 u22 u23 u24 u25 u26 u27 u28 u29 u30 u31 u32 u33 u34 u35 u36 u37 u38 u39 u40 u41 u42 u43 u44 u45 u46 u47 u48 u49 u50 u51 u52 u53 u54 u55 u56 u57 u58 u59 u60 u61 u62 u63 u64 u65 u66 u67 u68 u69 u70 u71 u72 u73 u74 u75 u76 u77 u78 u79 u80 u81 u82 u83 u84 u85 u86 u87 u88 u89 u90 u91 u92 u93 u94 u95 u96 u97 u98 u99 u100 u101 u102 u103 u104 u105 u106 u107 u108 u109 u110 u111 u112 u113 u114 u115 u116 u117 u118 u119 u120 u121 u122 u123 u124 u125 u126 u127 u128 u129 u130 u131 u132 u133 u134 u135 u136 u137 u138 u139 u140 u141 u142 u143 u144 u145 u146 u147 u148 u149 u150 u151 u152 u153 u154 u155 u156 u157 u158 u159 u160 u161 u162 u163 u164 u165 u166 u167 u168 u169 u170 u171 u172 u173 u174 u175 u176 u177 u178 u179 u180 u181 u182 u183 u184 u185 u186 u187 u188 u189 u190 u191 u192 u193 u194 u195 u196 u197 u198 u199 u200 u201 u202 u203 u204 u205 u206 u207 u208 u209 u210 u211 u212 u213 u214 u215 : Value) :
    Code.wp Try.prog ((Try.f3.body.bind (fromRegion 15)).getD .skip) (bodyPost Try.prog Try.f3 fun ee w' => ee = .returned (.bool true) ∧ Below w0.heap.size w0 w')
      ⟨#[.slice a0 pre.length c0, .slice (some ⟨b, off, none⟩) D.length cd, .int .i64 (a : Int), .slice a3 tail.length c3, u4, u5, u6, u7, u8, u9, u10, u11, u12, u13, u14, u15, u16, u17, u18, u19, u20, u21, u22, u23, u24, u25, u26, u27, u28, u29, u30, u31, u32, u33, u34, u35, u36, u37, u38, u39, u40, u41, u42, u43, u44, u45, u46, u47, u48, u49, u50, u51, u52, u53, u54, u55, u56, u57, u58, u59, u60, u61, u62, u63, u64, u65, u66, u67, u68, u69, u70, u71, u72, u73, u74, u75, u76, u77, u78, u79, u80, u81, u82, u83, u84, u85, u86, u87, u88, u89, u90, u91, u92, u93, u94, u95, u96, u97, u98, u99, u100, u101, u102, u103, u104, u105, u106, u107, u108, u109, u110, u111, u112, u113, u114, u115, u116, u117, u118, u119, u120, u121, u122, u123, u124, u125, u126, u127, u128, u129, u130, u131, u132, u133, u134, u135, u136, u137, u138, u139, u140, u141, u142, u143, u144, u145, u146, u147, u148, u149, u150, u151, u152, u153, u154, u155, u156, u157, u158, u159, u160, u161, u162, u163, u164, u165, u166, u167, u168, u169, u170, u171, u172, u173, u174, u175, u176, u177, u178, u179, u180, u181, u182, u183, u184, u185, u186, u187, u188, u189, u190, u191, u192, u193, u194, u195, u196, u197, u198, u199, u200, u201, u202, u203, u204, u205, u206, u207, u208, u209, u210, u211, u212, u213, u214, u215], []⟩ w := by
  conv => arg 2; whnf
  have HB0 : Hid (Below w0.heap.size w0 w) := hB0
  clear hB0
  go_wp2
  go_loopw [10, 11, 12] (fun ev run i wr => ∃ m v : Nat, ev = .int .i64 (-1) ∧ run = .int .i64 v ∧ i = .int .i64 m ∧ Scan D (a + 1) m (decide (v % 2 = 1)) ∧ v ≤ m ∧ m ≤ D.length ∧ wr = w) (fun _ _ i _ => D.length - (intOf i).toNat)
  case atStart => exact ⟨a + 1, 0, rfl, rfl, by go_num, scan_start D (a + 1), by omega, by omega, rfl⟩
  case round =>
    obtain ⟨m, v, rfl, rfl, rfl, hS, hvm, hm, rfl⟩ := hrel
    have HS : Hid (Scan D (a + 1) m (decide (v % 2 = 1))) := hS
    clear hS
    by_cases hlt : m < D.length
    · obtain ⟨c, hv⟩ : ∃ c, D[m]? = some c := ⟨_, List.getElem?_eq_getElem hlt⟩
      have k1 := hD _ c hv
      have hbm : (m : Int) < D.length := by omega
      have HV : Hid (D[m]? = some c) := hv
      clear hv
      by_cases h34 : c = 34
      · subst h34
        by_cases hpar : v % 2 = 1
        · have p1 : (v : Int) % 2 = 1 := by omega
          have HN := HS.out.step HV.out (by simp [hpar])
          have HNS : Hid (Scan D (a + 1) (m + 1) false) := Hid.mk' (by simpa using HN)
          clear HN
          go_wp2
          go_roundw
          case rel => exact ⟨m + 1, 0, rfl, rfl, by go_num, by simpa using HNS.out, by omega, by omega, by first | trivial | rfl⟩
          case measure => simp [intOf]; omega
        · have p1 : (v : Int) % 2 = 0 := by omega
          have hE : Ends D (a + 1) m := by
            have h := HS.out
            rw [show decide (v % 2 = 1) = false by simpa using hpar] at h
            exact h.hit HV.out
          have HE := Hid.mk' hE
          have HD := Hid.mk' hD
          have HP := Hid.mk' hP
          have HT := Hid.mk' hT
          clear hE hD hP hT
          rename_i hK
          have HK := Hid.mk' hK
          clear hK
          go_wp2
          refine HK.out _ _ ?_
          exact tailC a0 a3 c0 cd c3 b off a m pre D tail w0 _ hb HP.out HT.out HD.out HE.out hl hcap HB0.out _ _ _ _ _ _ _ _ _ _ _ _ _ _ _ _ _ _ _ _ _ _ _ _ _ _ _ _ _ _ _ _ _ _ _ _ _ _ _ _ _ _ _ _ _ _ _ _ _ _ _ _ _ _ _ _ _ _ _ _ _ _ _ _ _ _ _ _ _ _ _ _ _ _ _ _ _ _ _ _ _ _ _ _ _ _ _ _ _ _ _ _ _ _ _ _ _ _ _ _ _ _ _ _ _ _ _ _ _ _ _ _ _ _ _ _ _ _ _ _ _ _ _ _ _ _ _ _ _ _ _ _ _ _ _ _ _ _ _ _ _ _ _ _ _ _ _ _ _ _ _ _ _ _ _ _ _ _ _ _ _ _ _ _ _ _ _ _ _ _ _ _ _ _ _ _ _ _ _ _ _ _ _ _ _ _ _ _ _ _ _ _ _ _ _ _ _ _ _ _ _ _ _ _ _ _ _ _ _ _ _
      · have n34 : (c.toNat : Int) ≠ 34 := fun h => h34 (UInt8.toNat_inj.1 (by rw [show c.toNat = 34 by omega]; rfl))
        by_cases h92 : c = 92
        · subst h92
          have HN := HS.out.step HV.out (by simp)
          have HNS : Hid (Scan D (a + 1) (m + 1) (decide ((v + 1) % 2 = 1))) := by
            have e : (if (92 : UInt8) = 92 then !decide (v % 2 = 1) else false) = decide ((v + 1) % 2 = 1) := by
              rw [if_pos rfl, Bool.eq_iff_iff]
              simp
              omega
            rw [e] at HN
            exact HN
          clear HN
          go_wp2
          go_roundw
          case rel => exact ⟨m + 1, v + 1, rfl, by go_num, by go_num, HNS.out, by omega, by omega, by first | trivial | rfl⟩
          case measure => simp [intOf]; omega
        · have n92 : (c.toNat : Int) ≠ 92 := fun h => h92 (UInt8.toNat_inj.1 (by rw [show c.toNat = 92 by omega]; rfl))
          have HN := HS.out.step HV.out (by simp [h34])
          have HNS : Hid (Scan D (a + 1) (m + 1) false) := by rw [if_neg h92] at HN; exact HN
          clear HN
          go_wp2
          go_roundw
          case rel => exact ⟨m + 1, 0, rfl, rfl, by go_num, by simpa using HNS.out, by omega, by omega, by first | trivial | rfl⟩
          case measure => simp [intOf]; omega
    · have hbm : ¬ (m : Int) < D.length := by omega
      go_wp2
      go_ret
      exact ⟨rfl, HB0.out⟩
end Go.Proofs.Qxb6623297a
