import Derived.Test.Qxb6619851aKey2
set_option linter.unusedVariables false
namespace Go.Proofs.Qxb6619851a
open Go.RowKit
open Go.Lib (compareBytes)

theorem info39 : (Try.prog.info? 39).map (·.size) = some 40 := by kernel_rfl
theorem wpList_load_key {w : World} {ops : Array Oper} {rest : List Oper} {o : Oper} {a : Act} {Q : Exit → Act → World → Prop}
    (hg : o.guard = none) (x : Operand) (ho : o.op = .load 39 x) (b : Nat) (hx : a.eval x = .pointer (some ⟨b, 0, none⟩)) (c : Array Value) (hc : c.size = 40) (h : w.heap[b]? = some (.cells c 39 (0, 0)))
    (hK : wpList Try.prog ops Q rest (a.put o.dst (.agg c)) w) : wpList Try.prog ops Q (o :: rest) a w := by
  refine wpList_plain hg fun K' hK' => ?_
  have hl := run_loadVar_row (P := Try.prog) w b 39 39 c (0, 0) _ h Try.underlying39 rfl (by rw [info39, hc])
  unfold Oper.wp execOp
  simp only [ho, hx, Instr.loadAt, Instr.sureAddr, Sem.run_bind, hl, Result.andThen_ok, Sem.run_pure]
  exact hK' _ _ hK
theorem wpList_store_key {w : World} {ops : Array Oper} {rest : List Oper} {o : Oper} {a : Act} {Q : Exit → Act → World → Prop}
    (hg : o.guard = none) (p v : Operand) (ho : o.op = .store 39 p v) (b : Nat) (hp : a.eval p = .pointer (some ⟨b, 0, none⟩)) (old c : Array Value) (hold : old.size = 40) (hc : c.size = 40) (h1 : c.all (·.oneCell') = true) (h : w.heap[b]? = some (.cells old 39 (0, 0)))
    (hv : a.eval v = .agg c) (hK : wpList Try.prog ops Q rest (a.put o.dst undef) (w.setRow b c)) : wpList Try.prog ops Q (o :: rest) a w := by
  refine wpList_plain hg fun K' hK' => ?_
  have hl := run_storeVar_row (P := Try.prog) w b 39 39 old c h (by rw [info39, hc]) (by rw [hold, hc]) h1
  unfold Oper.wp execOp
  simp only [ho, hp, hv, Instr.storeAt, Instr.sureAddr, Sem.run_bind, hl, Result.andThen_ok, Sem.run_pure]
  exact hK' _ _ hK

/-- What stands in the key after k rounds of the first loop. -/
def kf (t : Int) (k : Nat) : Nat → Value := fun j => if j < k then .int .u8 (t / 2 ^ (56 - 8 * j) % 256) else .int .u8 0
/-- After k rounds of the second. -/
def kg (t : Int) (p : List UInt8) (k : Nat) : Nat → Value := fun j => if j < 8 + k then .int .u8 (((keyB t p).getD j 0).toNat : Int) else .int .u8 0

theorem keyB_hi {t : Int} (ht0 : 0 ≤ t) (p : List UInt8) {j : Nat} (hj : j < 8) : (((keyB t p).getD j 0).toNat : Int) = t / 2 ^ (56 - 8 * j) % 256 := by
  unfold keyB
  rw [List.getD_eq_getElem?_getD, List.getElem?_append_left (by rw [be_length]; exact hj), be_get 8 _ _ hj]
  simp only [Option.getD_some]
  rw [UInt8.toNat_ofNat']
  obtain ⟨n, rfl⟩ := Int.eq_ofNat_of_zero_le ht0
  have e : (256 : Nat) ^ (8 - 1 - j) = 2 ^ (56 - 8 * j) := by
    rw [show (256 : Nat) = 2 ^ 8 by decide, ← Nat.pow_mul]
    congr 1
    omega
  rw [e, Int.toNat_natCast]
  have : n / 2 ^ (56 - 8 * j) % 256 % 2 ^ 8 = n / 2 ^ (56 - 8 * j) % 256 := by omega
  rw [this]
  simp
theorem keyB_lo (t : Int) (p : List UInt8) {j : Nat} (hj : j < 32) : (keyB t p).getD (8 + j) 0 = p.getD j 0 := by
  unfold keyB
  rw [List.getD_eq_getElem?_getD, List.getElem?_append_right (by rw [be_length]; omega), be_length, Nat.add_sub_cancel_left, pad_get p j hj]
  rfl

theorem kf_kg {t : Int} (ht0 : 0 ≤ t) (p : List UInt8) (i : Nat) : kf t 8 i = kg t p 0 i := by
  unfold kf kg
  by_cases h : i < 8
  · rw [if_pos h, if_pos (by omega), keyB_hi ht0 p h]
  · rw [if_neg h, if_neg (by omega)]

theorem key_of_row {w : World} {b : Nat} {t : Int} {p : List UInt8} {k : Nat} (hk : 32 ≤ k) (h : w.rowIs b 39 40 (kg t p k)) : w.heap[b]? = some (.cells (idV (keyB t p)) 39 (0, 0)) := by
  obtain ⟨c, hb, hn, hc⟩ := h
  have e : c = idV (keyB t p) := by
    apply Array.ext_getElem?
    intro i
    by_cases hi : i < 40
    · have hl := keyB_length t p
      have hg : (keyB t p)[i]? = some (keyB t p)[i] := List.getElem?_eq_getElem (by omega)
      rw [hc i hi, idV_get hg]
      unfold kg
      rw [if_pos (by omega), List.getD_eq_getElem?_getD, hg]
      rfl
    · rw [Array.getElem?_eq_none (by omega), Array.getElem?_eq_none (by simp [idV, keyB_length]; omega)]
  rw [hb, e]

theorem results_key {tm : Array Value} {w : World} {g : Nat} {v : Value} (h4 : tm.getD 4 undef = .pointer (some ⟨g, 0, none⟩)) (hl : (loadVar 39 ⟨g, 0, none⟩).run Try.prog w = .ok v w) : (results Try.f17 tm).run Try.prog w = .ok v w := by
  unfold results
  rw [Try.results17]
  have e : (asAddr (tm.getD 4 undef)).run Try.prog w = .ok ⟨g, 0, none⟩ w := by rw [h4]; rfl
  have e' : (asAddr (tm[4]?.getD undef)).run Try.prog w = .ok ⟨g, 0, none⟩ w := by simpa using e
  simp [Sem.run_bind, e', hl]

set_option maxHeartbeats 1000000 in
theorem boundKey_any (t : Int) (ht0 : 0 ≤ t) (ht1 : t < 18446744073709551616) (a : Option Addr) (c : Nat) (p : List UInt8) (hpl : p.length ≤ 8192) (w : World) (hp : BsAt w a p) :
    Calls Try.prog 17 #[.int .u64 t, .slice a p.length c] w fun e w' => e = .returned (.agg (idV (keyB t p))) ∧ Below w.heap.size w w' := by
  have HT : Hid (0 ≤ t) := ht0
  go_enter Try.func17, Try.ntmps17
  go_wp2
  go_loopw [6] (fun i wr => ∃ k : Nat, k ≤ 8 ∧ i = .int .i64 k ∧ wr.rowIs (w.heap.size + 1) 39 40 (kf t k) ∧ wr.heap[w.heap.size]? = some (.cells (Array.replicate 40 (.int .u8 0)) 39 (0, 0)) ∧ Below w.heap.size w wr) (fun i _ => 8 - (intOf i).toNat)
  case atStart =>
    obtain ⟨b1, b2⟩ := alloc2 w (.cells (Array.replicate 40 (.int .u8 0)) 39) (.cells (Array.replicate 40 (.int .u8 0)) 39)
    refine ⟨0, by omega, rfl, ⟨_, b2, by simp, fun i hi => ?_⟩, b1, ((Below.refl _ _).alloc (Nat.le_refl _) _).alloc (by simp) _⟩
    simp [kf, hi]
  case round =>
    obtain ⟨k, hk, rfl, hr, hz, HB0⟩ := hrel
    have HB : Hid (Below w.heap.size w wr) := HB0
    have HR : Hid (wr.rowIs (w.heap.size + 1) 39 40 (kf t k)) := hr
    have HZ : Hid (wr.heap[w.heap.size]? = some (.cells (Array.replicate 40 (.int .u8 0)) 39 (0, 0))) := hz
    clear HB0 hr hz
    by_cases hlt : k < 8
    · have hb : (k : Int) < 8 := by omega
      have hc := HR.out.cell (i := k) (by omega)
      have hf := HR.out.frozen k
      go_wp2
      go_roundw
      case rel =>
        refine ⟨k + 1, by omega, by go_num, (HR.out.set k _).congr fun i hi => ?_, ?_, HB.out.setCell (by simp) _⟩
        · unfold kf
          by_cases h1 : i = k
          · subst h1
            simp
          · by_cases h2 : i < k
            · simp [h1, h2, show i < k + 1 by omega]
            · simp [h1, h2, show ¬ i < k + 1 by omega]
        · rw [Deep.blk_setCell_other _ _ _ _ (by simp)]; exact HZ.out
      case measure => simp [intOf]; omega
    · obtain rfl : k = 8 := by omega
      have HR2 : Hid (wr.rowIs (w.heap.size + 1) 39 40 (kg t p 0)) := HR.out.congr fun i _ => kf_kg ht0 p i
      clear HR
      go_wp2
      go_loopw [7] (fun i w2 => ∃ k : Nat, k ≤ 32 ∧ i = .int .i64 k ∧ w2.rowIs (w.heap.size + 1) 39 40 (kg t p k) ∧ w2.heap[w.heap.size]? = some (.cells (Array.replicate 40 (.int .u8 0)) 39 (0, 0)) ∧ Below w.heap.size w w2) (fun i _ => 32 - (intOf i).toNat)
      case atStart => exact ⟨0, by omega, rfl, HR2.out, HZ.out, HB.out⟩
      case round =>
        clear HR2 HZ HB
        obtain ⟨k, hk, rfl, hr, hz, HB0⟩ := hrel
        have HB : Hid (Below w.heap.size w wr) := HB0
        have HR : Hid (wr.rowIs (w.heap.size + 1) 39 40 (kg t p k)) := hr
        have HZ : Hid (wr.heap[w.heap.size]? = some (.cells (Array.replicate 40 (.int .u8 0)) 39 (0, 0))) := hz
        clear HB0 hr hz
        by_cases hlt : k < 32
        · have hb : (k : Int) < 32 := by omega
          by_cases hkp : k < p.length
          · obtain ⟨v, hv⟩ : ∃ v, p[k]? = some v := ⟨_, List.getElem?_eq_getElem hkp⟩
            obtain ⟨b, off, ha, hcp⟩ := (hp.below HB.out) k v hv
            subst ha
            have HV : Hid (p[k]? = some v) := hv
            have hc := HR.out.cell (i := 8 + k) (by omega)
            have hf := HR.out.frozen (8 + k)
            have hb2 : (k : Int) < p.length := by omega
            clear hv
            go_wp2
            go_roundw
            case rel =>
              refine ⟨k + 1, by omega, by go_num, (HR.out.set (8 + k) _).congr fun i hi => ?_, ?_, HB.out.setCell (by simp) _⟩
              · unfold kg
                by_cases h1 : i = 8 + k
                · subst h1
                  rw [if_pos rfl, if_pos (by omega), keyB_lo t p hlt, List.getD_eq_getElem?_getD, HV.out]
                  rfl
                · by_cases h2 : i < 8 + k
                  · simp [h1, h2, show i < 8 + (k + 1) by omega]
                  · simp [h1, h2, show ¬ i < 8 + (k + 1) by omega]
              · rw [Deep.blk_setCell_other _ _ _ _ (by simp)]; exact HZ.out
            case measure => simp [intOf]; omega
          · have hb2 : ¬ (k : Int) < p.length := by omega
            go_wp2
            go_roundw
            case rel =>
              refine ⟨k + 1, by omega, by go_num, HR.out.congr fun i hi => ?_, HZ.out, HB.out⟩
              unfold kg
              by_cases h1 : i = 8 + k
              · subst h1
                rw [if_neg (by omega), if_pos (by omega), keyB_lo t p hlt, List.getD_eq_getElem?_getD, List.getElem?_eq_none (by omega)]
                rfl
              · by_cases h2 : i < 8 + k
                · simp [h2, show i < 8 + (k + 1) by omega]
                · simp [h2, show ¬ i < 8 + (k + 1) by omega]
            case measure => simp [intOf]; omega
        · have HK : Hid (wr.heap[w.heap.size + 1]? = some (.cells (idV (keyB t p)) 39 (0, 0))) := key_of_row (by omega) HR.out
          have hkl : (idV (keyB t p)).size = 40 := by simp [idV, keyB_length]
          have h1 := idV_one (keyB t p)
          have HR' : Hid ((wr.setRow w.heap.size (idV (keyB t p))).heap[w.heap.size]? = some (.cells (idV (keyB t p)) 39 (0, 0))) := setRow_heap _ _ _ _ _ _ HZ.out
          go_wp2_with (first
            | (refine wpList_load_key rfl _ rfl (w.heap.size + 1) rfl _ hkl HK.out ?_; go_frame)
            | (refine wpList_store_key rfl _ _ rfl w.heap.size rfl _ _ (by simp) hkl h1 HZ.out rfl ?_; go_frame))
          have hl := run_loadVar_row (P := Try.prog) (wr.setRow w.heap.size (idV (keyB t p))) w.heap.size 39 39 _ (0, 0) _ HR'.out Try.underlying39 rfl (by rw [info39, hkl])
          refine bodyPost_ret (v := .agg (idV (keyB t p))) (results_key rfl hl) rfl ?_
          exact ⟨rfl, below_setRow HB.out (Nat.le_refl _) _⟩
end Go.Proofs.Qxb6619851a
