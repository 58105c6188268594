import Derived.Test.Qxb6619851aBnd4
namespace Go.Proofs.Qxb6619851a
open Go.RowKit

theorem between_any (t s : Int) (x y : List UInt8) (hx : x.length = 32) (hy : y.length = 32) (w : World) :
    Calls Try.prog 19 #[.agg (itemL t x).toArray, .agg (itemL s y).toArray] w fun e w' => BtwPost t s x y w e w' := by
  by_cases h : t = s
  · subst h; exact between_eq t x y hx hy w
  · exact between_ne t s x y hx hy h w

/-- What ZZBetween hands back. -/
def ZBtwPost (t s : Int) (x y : List UInt8) (w : World) (e : Ending) (w' : World) : Prop :=
  ∃ a c k, e = .returned (.tuple #[.int .u64 s, .slice a (sepOf t s y k).length c]) ∧ BsAt w' a (sepOf t s y k) ∧ (t = s → Shared x y k) ∧ Below w.heap.size w w'

theorem wpList_build_item {w : World} {ops : Array Oper} {rest : List Oper} {o : Oper} {a : Act} {Q : Exit → Act → World → Prop}
    (hg : o.guard = none) (p q : Operand) (ho : o.op = .build 46 #[(0, p), (1, q)]) (t : Int) (id : List UInt8) (hp : a.eval p = .int .u64 t) (hq : a.eval q = .agg (idV id)) (hl : id.length = 32)
    (hK : wpList Try.prog ops Q rest (a.put o.dst (.agg (itemL t id).toArray)) w) : wpList Try.prog ops Q (o :: rest) a w := by
  refine wpList_plain hg fun K' hK' => ?_
  unfold Oper.wp execOp
  simp only [ho, List.map_toArray, List.map_cons, List.map_nil, hp, hq, Sem.run_bind, run_build_item t hl w, Result.andThen_ok, Sem.run_pure]
  exact hK' _ _ hK

set_option maxHeartbeats 1000000 in
theorem zzBetween_any (t s : Int) (x y : List UInt8) (hx : x.length = 32) (hy : y.length = 32) (w : World) :
    Calls Try.prog 8 #[.int .u64 t, .agg (idV x), .int .u64 s, .agg (idV y)] w fun e w' => ZBtwPost t s x y w e w' := by
  obtain ⟨b1, b2⟩ := alloc2 w (.cells (idV x) 23) (.cells (idV y) 23)
  have hX := idAt_row hx b1
  have hY := idAt_row hy b2
  have HB : Hid (Below w.heap.size w ((w.alloc (.cells (idV x) 23)).alloc (.cells (idV y) 23))) := ((Below.refl _ _).alloc (Nat.le_refl _) _).alloc (by simp) _
  clear b1 b2
  go_enter Try.func8, Try.ntmps8
  go_upto_region 1 with (fail)
  generalize (w.alloc (.cells (idV x) 23)).alloc (.cells (idV y) 23) = W at *
  go_wp2_with (first
    | (refine wpList_load_id rfl _ rfl w.heap.size 0 rfl x hX ?_; go_frame)
    | (refine wpList_load_id rfl _ rfl (w.heap.size + 1) 0 rfl y hY ?_; go_frame)
    | (refine wpList_build_item rfl _ _ rfl t x rfl rfl hx ?_; go_frame)
    | (refine wpList_build_item rfl _ _ rfl s y rfl rfl hy ?_; go_frame))
  refine (between_any t s x y hx hy _).mono ?_
  rintro e W2 ⟨a, c, k, rfl, hbs, hsh, hB⟩
  have hbs' : BsAt (W2.alloc (.cells #[.int .u64 s, .slice a (sepOf t s y k).length c] 43)) a (sepOf t s y k) := hbs.grown (World.grownBy_alloc _ _ _)
  have hB2 : Below w.heap.size w W2 := HB.out.trans (hB.mono HB.out.size)
  have HZ : Hid (BsAt (W2.alloc (.cells #[.int .u64 s, .slice a (sepOf t s y k).length c] 43)) a (sepOf t s y k) ∧ (t = s → Shared x y k) ∧ Below w.heap.size w (W2.alloc (.cells #[.int .u64 s, .slice a (sepOf t s y k).length c] 43))) :=
    ⟨hbs', hsh, hB2.alloc hB2.size _⟩
  clear hbs hbs' hsh hB hB2 HB hX hY
  go_wp2
  go_quiet (fail)
  go_wp2
  go_ret2
  obtain ⟨z1, z2, z3⟩ := HZ.out
  exact ⟨a, c, k, rfl, z1.below (below_drewN (Below.refl _ _) nq), z2, below_drewN z3 nq⟩
end Go.Proofs.Qxb6619851a
