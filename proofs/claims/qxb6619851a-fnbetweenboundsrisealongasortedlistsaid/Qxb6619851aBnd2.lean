import Derived.Test.Qxb6619851aBnd1
import Derived.Deep.Cut
namespace Go.Proofs.Qxb6619851a
open Go.RowKit
open Go.Lib (compareBytes)

/-- The bytes of a []byte. -/
def BsAt (w : World) (a : Option Addr) (p : List UInt8) : Prop :=
  ∀ (i : Nat) (v : UInt8), p[i]? = some v → ∃ b off, a = some ⟨b, off, none⟩ ∧ w.cell? ⟨b, off + i, none⟩ = some (.int .u8 (v.toNat : Int))

theorem BsAt.grown {w w' : World} {a : Option Addr} {p : List UInt8} (h : BsAt w a p) (hg : w.grownBy w' none) : BsAt w' a p := by
  intro i v hv
  obtain ⟨b, off, ha, hc⟩ := h i v hv
  exact ⟨b, off, ha, hg.cell hc (by simp)⟩
theorem BsAt.below {w w' : World} {a : Option Addr} {p : List UInt8} (h : BsAt w a p) (hB : Below w.heap.size w w') : BsAt w' a p := by
  intro i v hv
  obtain ⟨b, off, ha, hc⟩ := h i v hv
  exact ⟨b, off, ha, (hB.cell (p := ⟨b, off + i, none⟩) (block_lt_of_cell hc)).trans hc⟩
theorem bs_of_id {w : World} {b o : Nat} {x : List UInt8} (h : IdAt w b o x) (k : Nat) : BsAt w (some ⟨b, o, none⟩) (x.take k) := by
  intro i v hv
  refine ⟨b, o, rfl, h.2 i v ?_⟩
  rw [List.getElem?_take] at hv
  split at hv
  · exact hv
  · cases hv

/-! ### 'copy' of some bytes into an array of zeros -/
theorem pad_cells (p : List UInt8) : (idV (pad p)).toList = (z32.toList.take 0 ++ ((p.take 32).map fun b => Value.int .u8 (b.toNat : Int)) ++ z32.toList.drop (0 + ((p.take 32).map fun b => Value.int .u8 (b.toNat : Int)).length)) := by
  unfold idV pad z32
  simp only [List.take_zero, List.nil_append, Nat.zero_add, List.length_map, List.length_take, Array.toList_replicate, List.drop_replicate]
  rw [List.take_append, List.map_append]
  congr 1
  simp only [List.take_replicate, List.map_replicate]
  congr 1
  omega
theorem size5 : (Try.prog.info? 5).map (·.size) = some 1 := by kernel_rfl

theorem run_copy_pad (w : World) {g c : Nat} {a : Option Addr} {p : List UInt8} (ty : TypeId) (hg : w.heap[g]? = some (.cells z32 23 (0, 0))) (hp : BsAt w a p) :
    ∃ n : Int, (Builtin.copy_ #[25, 25] ty #[.slice (some ⟨g, 0, none⟩) 32 32, .slice a p.length c]).run Try.prog w = .ok (goInt n) (w.setRow g (idV (pad p))) := by
  cases a with
  | none =>
    have hp0 : p = [] := by
      cases p with
      | nil => rfl
      | cons v p =>
        obtain ⟨_, _, h, _⟩ := hp 0 v rfl
        cases h
    subst hp0
    refine ⟨0, ?_⟩
    have h := run_copy_none (P := Try.prog) w 25 25 ty 5 (some ⟨g, 0, none⟩) none 32 32 0 c Try.underlying25 size5 (by simp)
    have e : idV (pad []) = z32 := by rfl
    rw [e, setRow_self w g z32 23 (0, 0) hg]
    exact h
  | some ad =>
    have hsrc : ∀ (j : Nat) (v : Value), ((p.take 32).map fun b => Value.int .u8 (b.toNat : Int))[j]? = some v → w.cell? (ad.add j) = some v := by
      intro j v hv
      rw [List.getElem?_map, List.getElem?_take] at hv
      split at hv
      · cases he : p[j]? with
        | none => rw [he] at hv; cases hv
        | some u =>
          rw [he] at hv
          cases hv
          obtain ⟨b, off, ha, hc⟩ := hp j u he
          cases ha
          rw [add_none]
          exact hc
      · cases hv
    have h := run_copy_row Try.prog w 25 25 ty 5 g 0 32 32 ad p.length c z32 23 ((p.take 32).map fun b => Value.int .u8 (b.toNat : Int)) Try.underlying25 size5 hg (by simp [Nat.min_comm]) hsrc (by simp [z32]; omega) (oneCell_id _)
    rw [← pad_cells, Array.toArray_toList] at h
    exact ⟨_, h⟩

theorem wpList_copy_pad {w : World} {ops : Array Oper} {rest : List Oper} {o : Oper} {a : Act} {Q : Exit → Act → World → Prop} (hgd : o.guard = none) (d s : Operand)
    (ho : o.op = .call { callee := .builtin .copy, args := #[d, s], argTypes := #[25, 25] }) {g c : Nat} {ad : Option Addr} {p : List UInt8} (hd : a.eval d = .slice (some ⟨g, 0, none⟩) 32 32) (hs : a.eval s = .slice ad p.length c)
    (hg : w.heap[g]? = some (.cells z32 23 (0, 0))) (hp : BsAt w ad p) (h : ∀ n : Int, wpList Try.prog ops Q rest (a.put o.dst (.int .i64 n)) (w.setRow g (idV (pad p)))) : wpList Try.prog ops Q (o :: rest) a w := by
  refine wpList_plain hgd fun K hK => ?_
  obtain ⟨n, hrun⟩ := run_copy_pad (c := c) w o.type hg hp
  unfold Oper.wp
  simp [execOp, ho, resolve, invoke, builtin, hd, hs, hrun, Result.andThen]
  exact hK _ _ (h n)

theorem idAt_row {w : World} {g : Nat} {x : List UInt8} (hx : x.length = 32) (h : w.heap[g]? = some (.cells (idV x) 23 (0, 0))) : IdAt w g 0 x :=
  idAt_of_cells h hx (fun j v hv => by rw [Nat.zero_add]; exact idV_get hv)

theorem run_slice23 (b : Nat) (w : World) : (Instr.sliceAt 23 (.pointer (some ⟨b, 0, none⟩)) none none none).run Try.prog w = .ok (.slice (some ⟨b, 0, none⟩) 32 32) w := by kernel_rfl

theorem alloc4 (w : World) (A B C D : Obj) : (((((w.alloc A).alloc B).alloc C).alloc D).heap[w.heap.size]? = some A) ∧ (((((w.alloc A).alloc B).alloc C).alloc D).heap[w.heap.size + 1]? = some B) ∧
    (((((w.alloc A).alloc B).alloc C).alloc D).heap[w.heap.size + 1 + 1]? = some C) ∧ (((((w.alloc A).alloc B).alloc C).alloc D).heap[w.heap.size + 1 + 1 + 1]? = some D) := by
  have e : ((((w.alloc A).alloc B).alloc C).alloc D).heap = (((w.heap.push A).push B).push C).push D := rfl
  rw [e]
  simp only [Array.getElem?_push, Array.size_push]
  refine ⟨?_, ?_, ?_, ?_⟩
  · rw [if_neg (by omega), if_neg (by omega), if_neg (by omega), if_pos trivial]
  · rw [if_neg (by omega), if_neg (by omega), if_pos trivial]
  · rw [if_neg (by omega), if_pos trivial]
  · rw [if_pos trivial]

set_option maxHeartbeats 1000000 in
theorem below_any (t s : Int) (a a' : Option Addr) (c c' : Nat) (p q : List UInt8) (w : World) (hp : BsAt w a p) (hq : BsAt w a' q) :
    Calls Try.prog 20 #[.agg #[.int .u64 t, .slice a p.length c], .agg #[.int .u64 s, .slice a' q.length c']] w fun e w' => e = .returned (.bool (belowB t p s q)) ∧ Below w.heap.size w w' := by
  by_cases hts : t = s
  · subst hts
    have hb : belowB t p t q = ltB (pad p) (pad q) := by unfold belowB; rw [if_pos rfl]
    rw [hb]
    clear hb
    have hsl := run_slice23
    have hg2 : w.grownBy ((((w.alloc (.cells #[.int .u64 t, .slice a p.length c] 43)).alloc (.cells #[.int .u64 t, .slice a' q.length c'] 43)).alloc (.cells z32 23)).alloc (.cells z32 23)) none :=
      (((World.grownBy_alloc _ _ _).trans (World.grownBy_alloc _ _ _)).trans (World.grownBy_alloc _ _ _)).trans (World.grownBy_alloc _ _ _)
    go_enter Try.func20, Try.ntmps20
    go_upto_region 4 with (refine wpList_alloc_id rfl rfl ?_; go_frame)
    simp only [World.size_alloc]
    obtain ⟨b1, b2, b3, b4⟩ := alloc4 w (.cells #[.int .u64 t, .slice a p.length c] 43) (.cells #[.int .u64 t, .slice a' q.length c'] 43) (.cells z32 23) (.cells z32 23)
    generalize (((w.alloc (.cells #[.int .u64 t, .slice a p.length c] 43)).alloc (.cells #[.int .u64 t, .slice a' q.length c'] 43)).alloc (.cells z32 23)).alloc (.cells z32 23) = W at *
    have hp1 := hp.grown hg2
    have hq1 := hq.grown hg2
    have c1 : W.cell? ⟨w.heap.size, 1, none⟩ = some (.slice a p.length c) := by rw [cell_of_row W _ 1 _ _ _ b1]; rfl
    have c2 : W.cell? ⟨w.heap.size + 1, 1, none⟩ = some (.slice a' q.length c') := by rw [cell_of_row W _ 1 _ _ _ b2]; rfl
    have HB : Hid (Below w.heap.size w W) := below_grown hg2
    have H3 : Hid (W.heap[w.heap.size + 1 + 1]? = some (.cells z32 23 (0, 0))) := b3
    have H4 : Hid (W.heap[w.heap.size + 1 + 1 + 1]? = some (.cells z32 23 (0, 0))) := b4
    have hq0 := hq
    clear b1 b2 b3 b4 hg2 hp hq
    refine wp_region_quiet_tail 3 (by kernel_rfl) (by kernel_rfl) ?_
    simp only [List.take_succ_cons, List.take_zero, List.drop_succ_cons, List.drop_zero]
    iterate 3 (go_big_quiet_step (fail))
    refine wpQuiet_nil ?_
    refine wpList_copy_pad rfl _ _ rfl rfl rfl H3.out hp1 ?_
    intro n1
    go_frame
    have hp2 : IdAt (W.drew.setRow (w.heap.size + 1 + 1) (idV (pad p))) (w.heap.size + 1 + 1) 0 (pad p) := idAt_row (pad_length p) (setRow_heap W.drew _ _ _ _ _ H3.out)
    have hg3 := grown_setRow W.drew (w.heap.size + 1 + 1) (idV (pad p))
    have H42 : Hid ((W.drew.setRow (w.heap.size + 1 + 1) (idV (pad p))).heap[w.heap.size + 1 + 1 + 1]? = some (.cells z32 23 (0, 0))) := (setRow_other W.drew _ _ _ (by omega)).trans H4.out
    have c22 : (W.drew.setRow (w.heap.size + 1 + 1) (idV (pad p))).cell? ⟨w.heap.size + 1, 1, none⟩ = some (.slice a' q.length c') := hg3.cell c2 (by simp)
    have HB2 : Hid (Below w.heap.size w (W.drew.setRow (w.heap.size + 1 + 1) (idV (pad p)))) := below_setRow HB.out.drew (by omega) _
    have hq2 : BsAt (W.drew.setRow (w.heap.size + 1 + 1) (idV (pad p))) a' q := hq0.below HB2.out
    clear hp1 hq1 c1 c2 H3 H4 HB hg3
    generalize W.drew.setRow (w.heap.size + 1 + 1) (idV (pad p)) = W2 at *
    go_wp2
    refine wp_region_quiet_tail 3 (by kernel_rfl) (by kernel_rfl) ?_
    simp only [List.take_succ_cons, List.take_zero, List.drop_succ_cons, List.drop_zero]
    iterate 3 (go_big_quiet_step (fail))
    refine wpQuiet_nil ?_
    refine wpList_copy_pad rfl _ _ rfl rfl rfl H42.out hq2 ?_
    intro n2
    go_frame
    have hg4 := grown_setRow W2.drew (w.heap.size + 1 + 1 + 1) (idV (pad q))
    have hp3 : IdAt (W2.drew.setRow (w.heap.size + 1 + 1 + 1) (idV (pad q))) (w.heap.size + 1 + 1) 0 (pad p) := IdAt.grown (w := W2.drew) hp2 hg4 (by simp)
    have hq3 : IdAt (W2.drew.setRow (w.heap.size + 1 + 1 + 1) (idV (pad q))) (w.heap.size + 1 + 1 + 1) 0 (pad q) := idAt_row (pad_length q) (setRow_heap W2.drew _ _ _ _ _ H42.out)
    have HB3 : Hid (Below w.heap.size w (W2.drew.setRow (w.heap.size + 1 + 1 + 1) (idV (pad q)))) := below_setRow HB2.out.drew (by omega) _
    clear hp2 hq2 c22 H42 HB2 hg4
    generalize W2.drew.setRow (w.heap.size + 1 + 1 + 1) (idV (pad q)) = W3 at *
    go_wp2
    go_quiet ((go_at_call 22; exact Calls.quiet_of_same (cmp_any _ (hp3.drewN _) (hq3.drewN _))))
    go_wp2
    go_ret
    exact ⟨rfl, below_drewN HB3.out _⟩
  · have hne : (t != s) = true := by rw [bne_iff_ne]; exact hts
    have hb : belowB t p s q = decide (t < s) := by unfold belowB; rw [if_neg hts]
    rw [hb]
    clear hb
    go_enter Try.func20, Try.ntmps20
    go_wp2
    go_ret
    exact ⟨rfl, ((Below.refl _ _).alloc (Nat.le_refl _) _).alloc (by simp) _⟩

theorem zzBelow_any (t s : Int) (a a' : Option Addr) (c c' : Nat) (p q : List UInt8) (w : World) (hp : BsAt w a p) (hq : BsAt w a' q) :
    Calls Try.prog 9 #[.int .u64 t, .slice a p.length c, .int .u64 s, .slice a' q.length c'] w fun e w' => e = .returned (.bool (belowB t p s q)) ∧ Below w.heap.size w w' := by
  go_enter Try.func9, Try.ntmps9
  go_wp2_with fail
  refine (below_any t s a a' c c' p q _ hp hq).mono ?_
  rintro e w' ⟨rfl, hB⟩
  have HB : Hid (Below w.heap.size w w') := hB
  clear hB
  go_wp2
  go_ret
  exact ⟨rfl, HB.out⟩
end Go.Proofs.Qxb6619851a
