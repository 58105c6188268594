import Derived.Test.Qxb6623297aRd4
import Derived.Deep.Cut
set_option linter.unusedVariables false
namespace Go.Proofs.Qxb6623297a
open Go.RowKit

theorem Hid.mk' {p : Prop} (h : p) : Hid p := h

/-- The bytes of a []byte. -/
def BsAt (w : World) (a : Option Addr) (p : List UInt8) : Prop :=
  ∀ (i : Nat) (v : UInt8), p[i]? = some v → ∃ b off, a = some ⟨b, off, none⟩ ∧ w.cell? ⟨b, off + i, none⟩ = some (.int .u8 (v.toNat : Int))
theorem BsAt.below {w w' : World} {a : Option Addr} {p : List UInt8} (h : BsAt w a p) (hB : Below w.heap.size w w') : BsAt w' a p := by
  intro i v hv
  obtain ⟨b, off, ha, hc⟩ := h i v hv
  exact ⟨b, off, ha, (hB.cell (p := ⟨b, off + i, none⟩) (block_lt_of_cell hc)).trans hc⟩
theorem info5 : (Try.prog.info? 5).map (fun i => (i.zero, i.size, i.bytes)) = some (some (.int .u8 0), 1, 1) := by kernel_rfl
theorem info_parts {t : TypeId} {z : Value} {n m : Nat} (h : (Try.prog.info? t).map (fun i => (i.zero, i.size, i.bytes)) = some (some z, n, m)) : ∃ i, Try.prog.info? t = some i ∧ i.zero = some z ∧ i.size = n ∧ i.bytes = m := by
  cases hq : Try.prog.info? t with
  | none => rw [hq] at h; cases h
  | some i =>
    rw [hq] at h
    simp at h
    exact ⟨i, rfl, h.1, h.2.1, h.2.2⟩
theorem made_zero {w : World} {base g n : Nat} (h : w.ownsRow base 5 1 (.slice (some ⟨g, 0, none⟩) n n) n (madeCells (Value.int .u8 0).cells (n * 1)).toList) : w.rowIs g 5 n (fun _ => .int .u8 0) := by
  rcases h.2 with ⟨h, _⟩ | ⟨g', cap, cur, h, _, hg, _, _, hs, hx⟩
  · simp at h
  · simp at h
    obtain ⟨rfl, rfl⟩ := h
    refine ⟨cur, hg, by simpa using hs, fun i hi => ?_⟩
    have e : cur.toList = (madeCells (Value.int .u8 0).cells (n * 1)).toList := by
      rw [← hx, List.take_of_length_le (by simp; omega)]
    rw [Array.toList_inj.1 e]
    simp [madeCells, Value.cells, hi, Nat.mod_one]
theorem below_grown {w w' : World} (h : w.grownBy w' none) : Below w.heap.size w w' := (Below.refl _ _).grown h (Nat.le_refl _) (by simp)
/-- The joined row when q bytes are laid. -/
def jf (J : List UInt8) (q : Nat) : Nat → Value := fun j => if j < q then .int .u8 ((J.getD j 0).toNat : Int) else .int .u8 0
theorem jf_step {w : World} {g N q : Nat} {J : List UInt8} {v : UInt8} (h : w.rowIs g 5 N (jf J q)) (hv : J[q]? = some v) : (w.setCell ⟨g, q, none⟩ (.int .u8 (v.toNat : Int))).rowIs g 5 N (jf J (q + 1)) := by
  refine (h.set q _).congr fun i hi => ?_
  unfold jf
  by_cases h1 : i = q
  · subst h1
    rw [if_pos rfl, if_pos (by omega), List.getD_eq_getElem?_getD, hv]
    rfl
  · by_cases h2 : i < q
    · simp [h1, h2, show i < q + 1 by omega]
    · simp [h1, h2, show ¬ i < q + 1 by omega]
theorem jf_bytes {w : World} {g : Nat} {J : List UInt8} (h : w.rowIs g 5 J.length (jf J J.length)) : BytesAt w g 0 J := by
  intro i v hv
  have hi := (List.getElem?_eq_some_iff.1 hv).1
  rw [Nat.zero_add, h.cell hi]
  unfold jf
  rw [if_pos hi, List.getD_eq_getElem?_getD, hv]
  rfl

set_option maxRecDepth 100000 in
set_option maxHeartbeats 1000000 in
theorem tailD (a0 a3 : Option Addr) (c0 cd c3 cs b off a e : Nat) (pre D tail J : List UInt8) (w0 w : World) (hb : b < w.heap.size) (hP : BsAt w a0 pre) (hT : BsAt w a3 tail) (hD : BytesAt w b off D) (hJd : J = pre ++ (D.take (e + 1) ++ tail)) (hE : Ends D (a + 1) e)
    (hl : J.length ≤ 4194304) (hB0 : Below w0.heap.size w0 w)
    (u4 u5 u6 u7 u8 u9 u10 u11 u12 u13 u16 u17 u18 u19 u20 u21 u22 u23 u24 u25 u26 u27 u28 u29 u30 u31 u32 u33 u34 u35 u36 u37 u38 u39 u40 u41 u42 u43 u44 u45 u46 u47 u48 u49 u50 u51 u52 u53 u54 u55 u56 u57 u58 u59 u60 u61 u62 u63 u64 u65 u66 u67 u68 u69 u70 u71 u72 u73 u74 u75 u76 u77 u78 u79 u80 u81 u82 u83 u84 u85 u86 u87 u88 u89 u90 u91 u92 u93 u94 u95 u96 u97 u98 u99 u100 u101 u102 u103 u104 u105 u106 u107 u108 u109 u110 u111 u112 u113 u114 u115 u116 u117 u118 u119 u120 u121 u122 u123 u124 u125 u126 u127 u128 u129 u130 u131 u132 u133 u134 u135 u136 u137 u138 u139 u140 u141 u142 u143 u144 u145 u146 u147 u148 u149 u150 u151 u152 u153 u154 u155 u156 u157 u158 u159 u160 u161 u162 u163 u164 u165 u166 u167 u168 u169 u170 u171 u172 u173 u174 u175 u176 u177 u178 u179 u180 u181 u182 u183 u184 u185 u186 u187 u188 u189 u190 u191 u192 u193 u194 u195 u196 u197 u198 u199 u200 u201 u202 u203 u204 u205 u206 u207 u208 u209 u210 u211 u212 u213 u214 u215 : Value) :
    Code.wp Try.prog ((Try.f3.body.bind (fromRegion 38)).getD .skip) (bodyPost Try.prog Try.f3 fun ee w' => ee = .returned (.bool true) ∧ Below w0.heap.size w0 w')
      ⟨#[.slice a0 pre.length c0, .slice (some ⟨b, off, none⟩) D.length cd, .int .i64 (a : Int), .slice a3 tail.length c3, u4, u5, u6, u7, u8, u9, u10, u11, u12, u13, .slice (some ⟨b, off + (a + 1), none⟩) (e - (a + 1)) cs, .int .i64 ((e : Int) + 1), u16, u17, u18, u19, u20, u21, u22, u23, u24, u25, u26, u27, u28, u29, u30, u31, u32, u33, u34, u35, u36, u37, u38, u39, u40, u41, u42, u43, u44, u45, u46, u47, u48, u49, u50, u51, u52, u53, u54, u55, u56, u57, u58, u59, u60, u61, u62, u63, u64, u65, u66, u67, u68, u69, u70, u71, u72, u73, u74, u75, u76, u77, u78, u79, u80, u81, u82, u83, u84, u85, u86, u87, u88, u89, u90, u91, u92, u93, u94, u95, u96, u97, u98, u99, u100, u101, u102, u103, u104, u105, u106, u107, u108, u109, u110, u111, u112, u113, u114, u115, u116, u117, u118, u119, u120, u121, u122, u123, u124, u125, u126, u127, u128, u129, u130, u131, u132, u133, u134, u135, u136, u137, u138, u139, u140, u141, u142, u143, u144, u145, u146, u147, u148, u149, u150, u151, u152, u153, u154, u155, u156, u157, u158, u159, u160, u161, u162, u163, u164, u165, u166, u167, u168, u169, u170, u171, u172, u173, u174, u175, u176, u177, u178, u179, u180, u181, u182, u183, u184, u185, u186, u187, u188, u189, u190, u191, u192, u193, u194, u195, u196, u197, u198, u199, u200, u201, u202, u203, u204, u205, u206, u207, u208, u209, u210, u211, u212, u213, u214, u215], []⟩ w := by
  conv => arg 2; whnf
  have hel := hE.lt
  have hae := hE.1
  have hJl : J.length = pre.length + (e + 1) + tail.length := by rw [hJd]; simp; omega
  have hb1 : pre.length + (e + 1) + tail.length ≤ 4194304 := by omega
  have HJl : Hid (J.length = pre.length + (e + 1) + tail.length) := hJl
  have HJd : Hid (J = pre ++ (D.take (e + 1) ++ tail)) := hJd
  have g1 : ∀ m, m < pre.length → J[m]? = pre[m]? := fun m hm => by rw [hJd, List.getElem?_append_left hm]
  have g2 : ∀ m, m < e + 1 → J[pre.length + m]? = D[m]? := fun m hm => by
    rw [hJd, List.getElem?_append_right (by omega), show pre.length + m - pre.length = m by omega, List.getElem?_append_left (by simp; omega), List.getElem?_take, if_pos hm]
  have g3 : ∀ m, J[pre.length + (e + 1) + m]? = tail[m]? := fun m => by
    rw [hJd, List.getElem?_append_right (by omega), List.getElem?_append_right (by simp; omega)]
    congr 1
    simp
    omega
  have G1 : Hid (∀ m, m < pre.length → J[m]? = pre[m]?) := g1
  have G2 : Hid (∀ m, m < e + 1 → J[pre.length + m]? = D[m]?) := g2
  have G3 : Hid (∀ m, J[pre.length + (e + 1) + m]? = tail[m]?) := g3
  have HE : Hid (Ends D (a + 1) e) := hE
  have HB0 : Hid (Below w0.heap.size w0 w) := hB0
  obtain ⟨i0, hi, hz0, hz1, hz2⟩ := info_parts info5
  have HI : Hid (Try.prog.info? 5 = some i0 ∧ i0.zero = some (.int .u8 0) ∧ i0.size = 1 ∧ i0.bytes = 1) := ⟨hi, hz0, hz1, hz2⟩
  clear hJd hB0 hJl g1 g2 g3 hE hi hz0 hz1 hz2
  go_wp2_with (at_make; refine wpList_make_full _ rfl _ _ 22 rfl w.heap.size 5 i0 _ 1 Try.underlying22 HI.out.1 HI.out.2.1 HI.out.2.2.1 .i64 .i64 _ _ J.length rfl rfl (by have := HJl.out; omega) (by have := HJl.out; omega) (by rw [HI.out.2.2.2]; omega) (by unfold maxLen; omega) (Nat.le_refl _) ?_; intro wm hmk hg2; have hrow := made_zero hmk; have HG2 : Hid (w.grownBy wm none) := hg2; clear hmk hg2; go_frame)
  go_loopw [19, 20] (fun kk i wr => ∃ m : Nat, m ≤ pre.length ∧ kk = .int .i64 m ∧ i = .int .i64 m ∧ wr.rowIs w.heap.size 5 J.length (jf J m) ∧ Below w.heap.size w wr) (fun _ i _ => pre.length - (intOf i).toNat)
  case atStart => exact ⟨0, Nat.zero_le _, rfl, rfl, hrow.congr (fun i _ => by simp [jf]), below_grown HG2.out⟩
  case round =>
    clear hrow HG2
    obtain ⟨m, hm, rfl, rfl, hr, hB⟩ := hrel
    have HB : Hid (Below w.heap.size w wr) := hB
    have HR : Hid (wr.rowIs w.heap.size 5 J.length (jf J m)) := hr
    by_cases hlt : m < pre.length
    · obtain ⟨v, hv⟩ : ∃ v, pre[m]? = some v := ⟨_, List.getElem?_eq_getElem hlt⟩
      obtain ⟨pb, poff, pa, hcp⟩ := (hP.below hB) m v hv
      subst pa
      have HV : Hid (J[m]? = some v) := (G1.out m hlt).trans hv
      have hmJ : m < J.length := by have := HJl.out; omega
      have hc := HR.out.cell (i := m) hmJ
      have hf := HR.out.frozen m
      have hbm : (m : Int) < pre.length := by omega
      have hbm2 : (m : Int) < J.length := by omega
      clear hv hr hB hP hT hD
      go_wp2
      go_roundw
      case rel => exact ⟨m + 1, by omega, by go_num, by go_num, jf_step HR.out HV.out, HB.out.setCell (by simp) _⟩
      case measure => simp [intOf]; omega
    · obtain rfl : m = pre.length := by omega
      have hP1 := hP.below hB
      have hT1 := hT.below hB
      have hD1 := hD.below hB hb
      clear hr hB hP
      go_wp2
      go_loopw [19, 21] (fun kk i wr => ∃ q m : Nat, q = pre.length + m ∧ m ≤ e + 1 ∧ kk = .int .i64 q ∧ i = .int .i64 m ∧ wr.rowIs w.heap.size 5 J.length (jf J q) ∧ Below w.heap.size w wr) (fun _ i _ => e + 1 - (intOf i).toNat)
      case atStart => exact ⟨pre.length, 0, rfl, Nat.zero_le _, rfl, rfl, HR.out, HB.out⟩
      case round =>
        clear HR HB hP1 hT1 hD1
        obtain ⟨q, m, hq, hm, rfl, rfl, hr, hB⟩ := hrel
        have HB : Hid (Below w.heap.size w wr) := hB
        have HR : Hid (wr.rowIs w.heap.size 5 J.length (jf J q)) := hr
        have HQ : Hid (q = pre.length + m) := hq
        by_cases hlt2 : m < e + 1
        · obtain ⟨v, hv⟩ : ∃ v, D[m]? = some v := ⟨_, List.getElem?_eq_getElem (by omega)⟩
          have hcp := (hD.below hB hb) m v hv
          have HV : Hid (J[q]? = some v) := by rw [hq]; exact (G2.out m hlt2).trans hv
          have hmJ : q < J.length := by have := HJl.out; omega
          have hc := HR.out.cell (i := q) hmJ
          have hf := HR.out.frozen q
          have hbm : (m : Int) < (e : Int) + 1 := by omega
          have hbm2 : (q : Int) < J.length := by omega
          have hbm3 : (m : Int) < D.length := by omega
          clear hv hr hB hT hD hq
          go_wp2
          go_roundw
          case rel => exact ⟨q + 1, m + 1, by have := HQ.out; omega, by omega, by go_num, by go_num, jf_step HR.out HV.out, HB.out.setCell (by simp) _⟩
          case measure => simp [intOf]; omega
        · obtain rfl : m = e + 1 := by omega
          have hbm : ¬ (((e + 1 : Nat) : Int) < (e : Int) + 1) := by omega
          clear hr hB hq
          go_wp2
          go_loopw [19, 22] (fun kk i wr => ∃ q m : Nat, q = pre.length + (e + 1) + m ∧ m ≤ tail.length ∧ kk = .int .i64 q ∧ i = .int .i64 m ∧ wr.rowIs w.heap.size 5 J.length (jf J q) ∧ Below w.heap.size w wr) (fun _ i _ => tail.length - (intOf i).toNat)
          case atStart => exact ⟨q, 0, HQ.out, Nat.zero_le _, rfl, rfl, HR.out, HB.out⟩
          case round =>
            clear HR HB HQ
            obtain ⟨q, m, hq, hm, rfl, rfl, hr, hB⟩ := hrel
            have HB : Hid (Below w.heap.size w wr) := hB
            have HR : Hid (wr.rowIs w.heap.size 5 J.length (jf J q)) := hr
            have HQ : Hid (q = pre.length + (e + 1) + m) := hq
            by_cases hlt3 : m < tail.length
            · obtain ⟨v, hv⟩ : ∃ v, tail[m]? = some v := ⟨_, List.getElem?_eq_getElem hlt3⟩
              obtain ⟨tb, toff, ta, hcp⟩ := (hT.below hB) m v hv
              subst ta
              have HV : Hid (J[q]? = some v) := by rw [hq]; exact (G3.out m).trans hv
              have hmJ : q < J.length := by have := HJl.out; omega
              have hc := HR.out.cell (i := q) hmJ
              have hf := HR.out.frozen q
              have hbm4 : (m : Int) < tail.length := by omega
              have hbm2 : (q : Int) < J.length := by omega
              clear hv hr hB hT hD hq
              go_wp2
              go_roundw
              case rel => exact ⟨q + 1, m + 1, by have := HQ.out; omega, by omega, by go_num, by go_num, jf_step HR.out HV.out, HB.out.setCell (by simp) _⟩
              case measure => simp [intOf]; omega
            · have hqJ : q = J.length := by have := HJl.out; omega
              have hJ1 : BytesAt wr w.heap.size 0 J := jf_bytes (by rw [hqJ] at hr; exact hr)
              have hD1 := hD.below hB hb
              have hbm4 : ¬ (m : Int) < tail.length := by omega
              have HJ1 : Hid (BytesAt wr w.heap.size 0 J) := hJ1
              have HLT : Hid (w.heap.size < wr.heap.size) := HR.out.lt
              clear hr hB hq hqJ hJ1
              rename_i hK
              have HK := Hid.mk' hK
              clear hK
              go_wp2
              refine HK.out _ _ ?_
              exact tailE a0 c0 cs b off a e w.heap.size pre D tail J w0 wr (by have := HLT.out; omega) HLT.out hD1 HJ1.out HJd.out HE.out hl (HB0.out.trans (HB.out.mono HB0.out.size)) _ _ _ _ _ _ _ _ _ _ _ _ _ _ _ _ _ _ _ _ _ _ _ _ _ _ _ _ _ _ _ _ _ _ _ _ _ _ _ _ _ _ _ _ _ _ _ _ _ _ _ _ _ _ _ _ _ _ _ _ _ _ _ _ _ _ _ _ _ _ _ _ _ _ _ _ _ _ _ _ _ _ _ _ _ _ _ _ _ _ _ _ _ _ _ _ _ _ _ _ _ _ _ _ _ _ _ _ _ _ _ _ _ _ _ _ _ _ _ _ _ _ _ _ _ _ _ _ _ _ _ _ _ _ _ _ _ _ _ _ _ _ _ _ _ _ _ _ _ _ _ _ _ _ _ _ _ _ _ _ _ _ _ _ _ _ _ _ _ _ _ _ _ _ _ _ _ _ _ _ _ _ _ _ _ _ _ _ _ _ _ _ _ _ _ _ _ _ _ _ _ _ _ _ _ _ _ _ _ _ _
end Go.Proofs.Qxb6623297a
