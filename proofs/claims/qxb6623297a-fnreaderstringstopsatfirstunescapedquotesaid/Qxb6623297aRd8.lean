import Derived.Test.Qxb6623297aRd7
import Derived.Deep.Cut
set_option linter.unusedVariables false
namespace Go.Proofs.Qxb6623297a
open Go.RowKit

theorem run_copy_whole {P : Program} (w : World) (dT sT ty elem : TypeId) (g n dCap size : Nat) (a : Addr) (sCap : Nat) (cur : Array Value) (t : TypeId) (cs : List Value)
    (hu : P.underlying dT = some (.slice elem)) (hs : (P.info? elem).map (·.size) = some size)
    (hg : w.heap[g]? = some (.cells cur t (0, 0))) (hn : cs.length = n * size) (hc : cur.size = n * size)
    (hsrc : ∀ j v, cs[j]? = some v → w.cell? (a.add j) = some v) (h1 : ∀ v ∈ cs, v.oneCell' = true) :
    (Builtin.copy_ #[dT, sT] ty #[.slice (some ⟨g, 0, none⟩) n dCap, .slice (some a) n sCap]).run P w = .ok (goInt n) (w.setRow g cs.toArray) := by
  have hl := run_loadCells_list (P := P) w a cs hsrc
  have hst := run_storeCells_at P g 0 t cs 0 cur w hg (by omega) h1
  have hd : cur.toList.drop cs.length = [] := List.drop_eq_nil_of_le (by simp; omega)
  simp only [Nat.add_zero, Nat.zero_add, List.take_zero, List.nil_append, hd, List.append_nil] at hst
  cases hq : P.info? elem with
  | none => simp [hq] at hs
  | some i =>
    have hi : i.size = size := by simpa [hq] using hs
    rw [hn] at hl
    simp [Builtin.copy_, run_underlying hu, Builtin.lenOf, Builtin.firstCells, sizeOf, typeInfo, hq, hi, hl, hst]

theorem wpList_copy_whole {P : Program} {w : World} {ops : Array Oper} {rest : List Oper} {o : Oper} {a : Act} {Q : Exit → Act → World → Prop} (hgd : o.guard = none) (d s : Operand) (dT sT : TypeId)
    (ho : o.op = .call { callee := .builtin .copy, args := #[d, s], argTypes := #[dT, sT] }) (elem : TypeId) (size : Nat) (hu : P.underlying dT = some (.slice elem)) (hs : (P.info? elem).map (·.size) = some size)
    {g n dCap : Nat} {ad : Addr} {sCap : Nat} (hd : a.eval d = .slice (some ⟨g, 0, none⟩) n dCap) (hx : a.eval s = .slice (some ad) n sCap)
    (cur : Array Value) {t : TypeId} (hg : w.heap[g]? = some (.cells cur t (0, 0))) (cs : List Value) (hn : cs.length = n * size) (hc : cur.size = n * size)
    (hsrc : ∀ j v, cs[j]? = some v → w.cell? (ad.add j) = some v) (h1 : ∀ v ∈ cs, v.oneCell' = true)
    (h : wpList P ops Q rest (a.put o.dst (goInt n)) (w.setRow g cs.toArray)) : wpList P ops Q (o :: rest) a w := by
  refine wpList_plain hgd fun K hK => ?_
  have hrun := run_copy_whole (P := P) w dT sT o.type elem g n dCap size ad sCap cur t cs hu hs hg hn hc hsrc h1
  unfold Oper.wp
  simp [execOp, ho, resolve, invoke, builtin, hd, hx, hrun, Result.andThen]
  exact hK _ _ h

theorem size5 : (Try.prog.info? 5).map (·.size) = some 1 := by kernel_rfl
def bsL (p : List UInt8) : List Value := p.map fun b => Value.int .u8 (b.toNat : Int)
theorem bsL_one (x : List UInt8) : ∀ u ∈ bsL x, u.oneCell' = true := by
  intro u hu
  obtain ⟨b, _, rfl⟩ := List.mem_map.1 hu
  rfl
theorem add_none (b o j : Nat) : (⟨b, o, none⟩ : Addr).add j = ⟨b, o + j, none⟩ := by unfold Addr.add; split <;> simp_all
theorem bytes_new {w : World} {g : Nat} {p : List UInt8} {t : TypeId} (h : w.heap[g]? = some (.cells (bsL p).toArray t (0, 0))) : BytesAt w g 0 p := by
  intro i v hv
  rw [cell_of_row w g _ _ _ _ h]
  simp [bsL, hv]
theorem bs_src {w : World} {ad : Addr} {p : List UInt8} (h : BsAt w (some ad) p) : ∀ (j : Nat) (v : Value), (bsL p)[j]? = some v → w.cell? (ad.add j) = some v := by
  intro j v hv
  unfold bsL at hv
  rw [List.getElem?_map] at hv
  cases ht : p[j]? with
  | none => rw [ht] at hv; cases hv
  | some t =>
    rw [ht] at hv
    cases hv
    obtain ⟨b, off, ha, hc⟩ := h j t ht
    cases ha
    rw [add_none]
    exact hc
theorem made_row {w : World} {base e size g n : Nat} {xs : List Value} (h : w.ownsRow base e size (.slice (some ⟨g, 0, none⟩) n n) n xs) : ∃ cur, w.heap[g]? = some (.cells cur e (0, 0)) ∧ cur.size = n * size := by
  rcases h.2 with ⟨h, _⟩ | ⟨g', cap, cur, h, _, hg, _, _, hs, _⟩
  · simp at h
  · simp at h
    obtain ⟨rfl, rfl⟩ := h
    exact ⟨cur, hg, hs⟩
theorem below_row {w w1 : World} (h : w.grownBy w1 none) (cs : Array Value) : Below w.heap.size w (w1.setRow w.heap.size cs) := below_setRow (below_grown h) (Nat.le_refl _) cs

set_option maxRecDepth 100000 in
set_option maxHeartbeats 1000000 in
theorem rd_main (a0 a3 : Option Addr) (ad : Addr) (c0 c1 c3 a : Nat) (pre D tail : List UInt8) (w : World) (hP : BsAt w a0 pre) (hT : BsAt w a3 tail) (hD : BsAt w (some ad) D) (ha : a < D.length) (hl : pre.length + D.length + tail.length ≤ 1048576) :
    Calls Try.prog 3 #[.slice a0 pre.length c0, .slice (some ad) D.length c1, .int .i64 (a : Int), .slice a3 tail.length c3] w fun e w' => e = .returned (.bool true) ∧ Below w.heap.size w w' := by
  obtain ⟨i0, hi, hz0, hz1, hz2⟩ := info_parts info5
  have HI : Hid (Try.prog.info? 5 = some i0 ∧ i0.zero = some (.int .u8 0) ∧ i0.size = 1 ∧ i0.bytes = 1) := ⟨hi, hz0, hz1, hz2⟩
  have HS : Hid (∀ (j : Nat) (v : Value), (bsL D)[j]? = some v → w.cell? (ad.add j) = some v) := bs_src hD
  have HP := Hid.mk' hP
  have HT := Hid.mk' hT
  clear hi hz0 hz1 hz2 hD hP hT
  go_enter Try.func3, Try.ntmps3
  go_wp2_with fail
  refine (zzBytes4_any _ _ _ _ _ _ _ _ _ _ _).mono ?_
  rintro e w' ⟨⟨r, rfl⟩, hw⟩
  have hw := hw.symm
  subst hw
  cases r
  · go_wp2
    go_ret
    exact ⟨rfl, Below.refl _ _⟩
  go_upto_if 59 with (fail)
  go_cut [1] from 26 (fun v wc => ∃ g, v = .slice (some ⟨g, 0, none⟩) D.length D.length ∧ g < wc.heap.size ∧ BytesAt wc g 0 D ∧ Below w.heap.size w wc)
  case first =>
    go_wp2_with (first
      | (at_make; refine wpList_make_full _ rfl _ _ 22 rfl w.heap.size 5 i0 _ 1 Try.underlying22 HI.out.1 HI.out.2.1 HI.out.2.2.1 .i64 .i64 _ _ D.length rfl rfl rfl rfl (by rw [HI.out.2.2.2]; omega) (by unfold maxLen; omega) (Nat.le_refl _) ?_; intro wm hmk hg2; obtain ⟨cur, hcur, hcs⟩ := made_row hmk; have HG2 : Hid (w.grownBy wm none) := hg2; clear hmk hg2; go_frame)
      | (refine wpList_copy_whole rfl _ _ 22 22 rfl 5 1 Try.underlying22 size5 rfl rfl cur hcur (bsL D) (by simp [bsL]) hcs (fun j v hv => HG2.out.cell (HS.out j v hv) (by simp)) (bsL_one D) ?_; go_frame))
    go_meet
    case rel => exact ⟨_, rfl, lt_of_block (setRow_heap _ _ _ _ _ _ hcur), bytes_new (setRow_heap _ _ _ _ _ _ hcur), below_row HG2.out _⟩
  case rest =>
    rename_i K hK
    obtain ⟨g, rfl, hg, hD, hB⟩ := hcut
    refine hK _ _ ?_
    exact tailB a0 a3 c0 D.length c3 g 0 a pre D tail w wc hg (HP.out.below hB) (HT.out.below hB) hD ha hl (Nat.le_refl _) hB _ _ _ _ _ _ _ _ _ _ _ _ _ _ _ _ _ _ _ _ _ _ _ _ _ _ _ _ _ _ _ _ _ _ _ _ _ _ _ _ _ _ _ _ _ _ _ _ _ _ _ _ _ _ _ _ _ _ _ _ _ _ _ _ _ _ _ _ _ _ _ _ _ _ _ _ _ _ _ _ _ _ _ _ _ _ _ _ _ _ _ _ _ _ _ _ _ _ _ _ _ _ _ _ _ _ _ _ _ _ _ _ _ _ _ _ _ _ _ _ _ _ _ _ _ _ _ _ _ _ _ _ _ _ _ _ _ _ _ _ _ _ _ _ _ _ _ _ _ _ _ _ _ _ _ _ _ _ _ _ _ _ _ _ _ _ _ _ _ _ _ _ _ _ _ _ _ _ _ _ _ _ _ _ _ _ _ _ _ _ _ _ _ _ _ _ _ _ _ _ _ _ _ _ _ _ _ _ _ _ _ _

set_option maxRecDepth 100000 in
set_option maxHeartbeats 1000000 in
theorem rd_early (a0 a1 a3 : Option Addr) (n0 n1 n3 c0 c1 c3 : Nat) (a : Int) (w : World) (h : 1048576 < n0 + n1 + n3 ∨ a < 0 ∨ (n1 : Int) ≤ a) :
    Calls Try.prog 3 #[.slice a0 n0 c0, .slice a1 n1 c1, .int .i64 a, .slice a3 n3 c3] w fun e w' => e = .returned (.bool true) ∧ Below w.heap.size w w' := by
  go_enter Try.func3, Try.ntmps3
  go_wp2_with fail
  refine (zzBytes4_any _ _ _ _ _ _ _ _ _ _ _).mono ?_
  rintro e w' ⟨⟨r, rfl⟩, hw⟩
  have hw := hw.symm
  subst hw
  cases r
  · go_wp2
    go_ret
    exact ⟨rfl, Below.refl _ _⟩
  by_cases h0 : (1048576 : Int) < n0
  · clear h
    go_wp2
    go_ret
    exact ⟨rfl, Below.refl _ _⟩
  · by_cases h1 : (1048576 : Int) - n0 < n1
    · clear h
      go_wp2
      go_ret
      exact ⟨rfl, Below.refl _ _⟩
    · by_cases h2 : (1048576 : Int) - n0 - n1 < n3
      · clear h
        go_wp2
        go_ret
        exact ⟨rfl, Below.refl _ _⟩
      · by_cases h3 : a < 0
        · clear h
          go_wp2
          go_ret
          exact ⟨rfl, Below.refl _ _⟩
        · have h4 : (n1 : Int) ≤ a := by omega
          clear h
          go_wp2
          go_ret
          exact ⟨rfl, Below.refl _ _⟩

theorem rd_any (a0 a1 a3 : Option Addr) (c0 c1 c3 : Nat) (a : Int) (pre D tail : List UInt8) (w : World) (hP : BsAt w a0 pre) (hD : BsAt w a1 D) (hT : BsAt w a3 tail) :
    Calls Try.prog 3 #[.slice a0 pre.length c0, .slice a1 D.length c1, .int .i64 a, .slice a3 tail.length c3] w fun e w' => e = .returned (.bool true) ∧ Below w.heap.size w w' := by
  by_cases h : 1048576 < pre.length + D.length + tail.length ∨ a < 0 ∨ (D.length : Int) ≤ a
  · exact rd_early a0 a1 a3 _ _ _ c0 c1 c3 a w h
  · obtain ⟨n, rfl⟩ := Int.eq_ofNat_of_zero_le (show 0 ≤ a by omega)
    have hn : n < D.length := by omega
    obtain ⟨b, off, e, _⟩ := hD n _ (List.getElem?_eq_getElem hn)
    subst e
    exact rd_main a0 a3 _ c0 c1 c3 n pre D tail w hP hT hD hn (by omega)
end Go.Proofs.Qxb6623297a
