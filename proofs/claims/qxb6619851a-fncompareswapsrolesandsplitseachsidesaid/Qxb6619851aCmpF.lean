import Derived.Test.Qxb6619851aCmpS
namespace Go.Proofs.Qxb6619851a
open Go.RowKit

/-- What the law asks of the lengths. -/
def Fits (n0 n1 n2 n3 : Nat) : Prop := n0 ≤ 4096 ∧ n1 ≤ 4096 ∧ n2 ≤ 4096 ∧ n3 ≤ 4096 ∧ 8 * n0 + 32 * n1 + 8 * n2 + 32 * n3 ≤ 1048576 ∧ n0 = n1 ∧ n2 = n3

set_option maxRecDepth 100000 in
set_option maxHeartbeats 1000000 in
theorem law_early (a0 a1 a2 a3 : Option Addr) (n0 n1 n2 n3 c0 c1 c2 c3 : Nat) (w : World) (h : ¬ Fits n0 n1 n2 n3) :
    Calls Try.prog 5 #[.slice a0 n0 c0, .slice a1 n1 c1, .slice a2 n2 c2, .slice a3 n3 c3] w fun e w' => e = .returned (.bool true) ∧ Below w.heap.size w w' := by
  have HF : Hid (¬ Fits n0 n1 n2 n3) := h
  clear h
  go_enter Try.func5, Try.ntmps5
  go_wp2_with fail
  refine (zzBytes11_any _ _ _ _ _ _ _ _ _ _ _ _ _).mono ?_
  rintro e w' ⟨⟨r, rfl⟩, hw⟩
  have hw := hw.symm
  subst hw
  cases r
  · go_wp2
    go_ret
    exact ⟨rfl, Below.refl _ _⟩
  by_cases h0 : n0 ≤ 4096
  · by_cases h1 : n1 ≤ 4096
    · by_cases h2 : n2 ≤ 4096
      · by_cases h3 : n3 ≤ 4096
        · by_cases hs : 8 * n0 + 32 * n1 + 8 * n2 + 32 * n3 ≤ 1048576
          · by_cases e1 : n0 = n1
            · by_cases e2 : n2 = n3
              · exact absurd ⟨h0, h1, h2, h3, hs, e1, e2⟩ HF.out
              · subst e1
                have e2' : ((n2 : Int) != (n3 : Int)) = true := by rw [bne_iff_ne]; omega
                go_wp2
                go_ret
                exact ⟨rfl, Below.refl _ _⟩
            · have e1' : ((n0 : Int) != (n1 : Int)) = true := by rw [bne_iff_ne]; omega
              go_wp2
              go_ret
              exact ⟨rfl, Below.refl _ _⟩
          · exfalso; omega
        · go_wp2
          go_ret
          exact ⟨rfl, Below.refl _ _⟩
      · go_wp2
        go_ret
        exact ⟨rfl, Below.refl _ _⟩
    · go_wp2
      go_ret
      exact ⟨rfl, Below.refl _ _⟩
  · go_wp2
    go_ret
    exact ⟨rfl, Below.refl _ _⟩

set_option maxRecDepth 100000 in
set_option maxHeartbeats 1000000 in
theorem law_main (a0 a1 a2 a3 : Option Addr) (c0 c1 c2 c3 : Nat) (T U : List Int) (X Y : List (List UInt8)) (w : World) (hT : TsAt w a0 T) (hX : IdsAt w a1 X) (hU : TsAt w a2 U) (hY : IdsAt w a3 Y)
    (hTX : T.length = X.length) (hUY : U.length = Y.length) (hxl : X.length ≤ 4096) (hyl : Y.length ≤ 4096) (hsum : 8 * X.length + 32 * X.length + 8 * Y.length + 32 * Y.length ≤ 1048576) :
    Calls Try.prog 5 #[.slice a0 X.length c0, .slice a1 X.length c1, .slice a2 Y.length c2, .slice a3 Y.length c3] w fun e w' => e = .returned (.bool true) ∧ Below w.heap.size w w' := by
  have HTX : Hid (T.length = X.length) := hTX
  have HUY : Hid (U.length = Y.length) := hUY
  clear hTX hUY
  go_enter Try.func5, Try.ntmps5
  go_wp2_with fail
  refine (zzBytes11_any _ _ _ _ _ _ _ _ _ _ _ _ _).mono ?_
  rintro e w' ⟨⟨r, rfl⟩, hw⟩
  have hw := hw.symm
  subst hw
  cases r
  · go_wp2
    go_ret
    exact ⟨rfl, Below.refl _ _⟩
  go_wp2_with fail
  refine (hasDup_any a1 c1 X _ (by exact hX) (by omega)).mono ?_
  rintro e w1 ⟨rfl, n1, rfl⟩
  by_cases hxn : X.Nodup
  · rw [dup_false hxn]
    go_wp2_with fail
    refine (hasDup_any a3 c3 Y _ (by exact hY.drewN _) (by omega)).mono ?_
    rintro e w2 ⟨rfl, n2, rfl⟩
    by_cases hyn : Y.Nodup
    · rw [dup_false hyn]
      have hB1 : Below w.heap.size w ((w.drewN n1).drewN n2) := below_drewN (below_drewN (Below.refl _ _) _) _
      have hT1 := hT.below hB1
      have hX1 := hX.below hB1
      have hU1 := hU.below hB1
      have hY1 := hY.below hB1
      have HB1 : Hid (Below w.heap.size w ((w.drewN n1).drewN n2)) := hB1
      clear hT hX hU hY hB1
      try simp only [World.drewN_drewN] at *
      generalize w.drewN (n1 + n2) = w1 at *
      go_upto_if 78 with (fail)
      go_cut [8] from 21 (fun s wc => s = .bool false ∧ wc = w1)
      case first =>
        go_wp2
        go_meet
        case rel => exact ⟨rfl, rfl⟩
      case rest =>
        rename_i K hK
        obtain ⟨rfl, rfl⟩ := hcut
        refine hK _ _ ?_
        exact law_seg0 a0 a1 a2 a3 c0 c1 c2 c3 T U X Y w _ hT1 hX1 hU1 hY1 HTX.out HUY.out hxn hyn hxl hyl HB1.out _ _ _ _ _ _ _ _ _ _ _ _ _ _ _ _ _ _ _ _ _ _ _ _ _ _ _ _ _ _ _ _ _ _ _ _ _ _ _ _ _ _ _ _ _ _ _ _ _ _ _ _ _ _ _ _ _ _ _ _ _ _ _ _ _ _ _ _ _ _ _ _ _ _ _ _ _ _ _ _ _ _ _ _ _ _ _ _ _ _ _ _ _ _ _ _ _ _ _ _ _ _ _ _ _ _ _ _ _ _ _ _ _ _ _ _ _ _ _ _ _ _ _ _ _ _ _ _ _ _ _ _ _ _ _ _ _ _ _ _ _ _ _ _ _ _ _ _ _ _ _ _ _ _ _ _ _ _ _ _ _ _ _ _ _ _ _ _ _ _ _ _ _ _ _ _ _ _ _ _ _ _ _ _ _ _ _ _ _ _ _ _ _ _ _ _ _ _ _ _
    · have hdy : dupB Y = true := by unfold dupB; simpa using hyn
      rw [hdy]
      go_wp2
      go_ret
      exact ⟨rfl, by first | exact below_drewN (Below.refl _ _) _ | exact below_drewN (below_drewN (Below.refl _ _) _) _⟩
  · have hdx : dupB X = true := by unfold dupB; simpa using hxn
    rw [hdx]
    go_wp2
    go_ret
    exact ⟨rfl, below_drewN (Below.refl _ _) _⟩

theorem law_any (a0 a1 a2 a3 : Option Addr) (c0 c1 c2 c3 : Nat) (T U : List Int) (X Y : List (List UInt8)) (w : World) (hT : TsAt w a0 T) (hX : IdsAt w a1 X) (hU : TsAt w a2 U) (hY : IdsAt w a3 Y) :
    Calls Try.prog 5 #[.slice a0 T.length c0, .slice a1 X.length c1, .slice a2 U.length c2, .slice a3 Y.length c3] w fun e w' => e = .returned (.bool true) ∧ Below w.heap.size w w' := by
  by_cases h : Fits T.length X.length U.length Y.length
  · obtain ⟨_, h1, _, h3, hs, e1, e2⟩ := h
    rw [e1, e2] at hs ⊢
    exact law_main a0 a1 a2 a3 c0 c1 c2 c3 T U X Y w hT hX hU hY e1 e2 h1 h3 hs
  · exact law_early _ _ _ _ _ _ _ _ _ _ _ _ w h
end Go.Proofs.Qxb6619851a
