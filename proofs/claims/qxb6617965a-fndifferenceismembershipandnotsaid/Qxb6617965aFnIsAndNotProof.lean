/-
  The proof of 'Rows.FnDifferenceIsMembershipAndNotSaid': the frame is the kit's own way for a law of two slices, turned to slices of pairs.
-/
import Derived.Test.Qxb6617965aRows
import Derived.WalkKit
import Derived.ProofKit
import Derived.OpenShut
import Derived.ShutString
import Derived.ChangeOld
import Derived.Below
import Derived.Test.Qxb6617965aV8
namespace Go.Proofs.Qxb6617965a.fnDifferenceIsMembershipAndNot
open Go.ChangeShapes Go.WideShapes Go.ChangeAt Go.RowKit Cpu
set_option linter.unusedVariables false

theorem own : ownKnob Try.prog.godebug = none := by kernel_rfl
theorem laidOut : laidOutB Try.prog = true := by kernel_rfl

set_option maxHeartbeats 1000000 in
set_option maxRecDepth 100000 in
theorem walk (a0 : Option Addr) (len0 cap0 : Nat) (z0 : List (Int × Int)) (a1 : Option Addr) (len1 cap1 : Nat) (z1 : List (Int × Int)) (w : World) (w0 : View w a0 len0 z0 ∧ len0 ≤ maxLen ∧ (a0 = none → cap0 = 0)) (w1 : View w a1 len1 z1 ∧ len1 ≤ maxLen ∧ (a1 = none → cap1 = 0)) :
    Calls Try.prog 4 #[.slice a0 len0 cap0, .slice a1 len1 cap1] w fun e w' => e = .returned (.bool true) ∧ Below w.heap.size w w' := by
  obtain ⟨v0, m0, n0⟩ := w0
  obtain ⟨v1, m1, n1⟩ := w1
  by_cases hb : len0 + len1 ≤ 1048576
  · by_cases h0 : len0 ≤ 4096
    · by_cases h1 : len1 ≤ 4096
      · by_cases i0 : InR z0
        · by_cases c0 : Canon z0
          · by_cases i1 : InR z1
            · by_cases c1 : Canon z1
              · exact law4_main a0 a1 len0 cap0 len1 cap1 z0 z1 w v0 v1 n0 n1 h0 h1 i0 i1 c0 c1
              · go_enter Try.func4, Try.ntmps4
                go_wp2_with fail
                refine (bytes15_yes a0 a1 len0 cap0 len1 cap1 w hb).mono ?_
                rintro e w' ⟨rfl, rfl⟩
                go_wp2_with fail
                refine (inRange_yes a0 len0 cap0 z0 w v0 (by omega) i0).mono ?_
                rintro e w1 ⟨rfl, hB1⟩
                have v01 := v0.below hB1
                have v11 := v1.below hB1
                have z1s := hB1.size
                go_wp2_with fail
                refine (canon_yes a0 len0 cap0 z0 w1 v01 (by omega) i0 c0).mono ?_
                rintro e w2 ⟨rfl, hB2⟩
                have v12 := v11.below hB2
                have z2s := hB2.size
                go_wp2_with fail
                refine (inRange_yes a1 len1 cap1 z1 w2 v12 (by omega) i1).mono ?_
                rintro e w3 ⟨rfl, hB3⟩
                have v13 := v12.below hB3
                have z3s := hB3.size
                go_wp2_with fail
                refine (canon_no a1 len1 cap1 z1 w3 v13 (by omega) i1 c1).mono ?_
                rintro e w4 ⟨rfl, hB4⟩
                go_wp2
                go_ret
                exact ⟨rfl, ((hB1.trans (hB2.mono (by omega))).trans (hB3.mono (by omega))).trans (hB4.mono (by omega))⟩
            · go_enter Try.func4, Try.ntmps4
              go_wp2_with fail
              refine (bytes15_yes a0 a1 len0 cap0 len1 cap1 w hb).mono ?_
              rintro e w' ⟨rfl, rfl⟩
              go_wp2_with fail
              refine (inRange_yes a0 len0 cap0 z0 w v0 (by omega) i0).mono ?_
              rintro e w1 ⟨rfl, hB1⟩
              have v01 := v0.below hB1
              have v11 := v1.below hB1
              have z1s := hB1.size
              go_wp2_with fail
              refine (canon_yes a0 len0 cap0 z0 w1 v01 (by omega) i0 c0).mono ?_
              rintro e w2 ⟨rfl, hB2⟩
              have v12 := v11.below hB2
              have z2s := hB2.size
              go_wp2_with fail
              refine (inRange_no a1 len1 cap1 z1 w2 v12 (by omega) i1).mono ?_
              rintro e w3 ⟨rfl, hB3⟩
              go_wp2
              go_ret
              exact ⟨rfl, (hB1.trans (hB2.mono (by omega))).trans (hB3.mono (by omega))⟩
          · go_enter Try.func4, Try.ntmps4
            go_wp2_with fail
            refine (bytes15_yes a0 a1 len0 cap0 len1 cap1 w hb).mono ?_
            rintro e w' ⟨rfl, rfl⟩
            go_wp2_with fail
            refine (inRange_yes a0 len0 cap0 z0 w v0 (by omega) i0).mono ?_
            rintro e w1 ⟨rfl, hB1⟩
            have v01 := v0.below hB1
            have v11 := v1.below hB1
            have z1s := hB1.size
            go_wp2_with fail
            refine (canon_no a0 len0 cap0 z0 w1 v01 (by omega) i0 c0).mono ?_
            rintro e w2 ⟨rfl, hB2⟩
            go_wp2
            go_ret
            exact ⟨rfl, hB1.trans (hB2.mono (by omega))⟩
        · go_enter Try.func4, Try.ntmps4
          go_wp2_with fail
          refine (bytes15_yes a0 a1 len0 cap0 len1 cap1 w hb).mono ?_
          rintro e w' ⟨rfl, rfl⟩
          go_wp2_with fail
          refine (inRange_no a0 len0 cap0 z0 w v0 (by omega) i0).mono ?_
          rintro e w1 ⟨rfl, hB1⟩
          go_wp2
          go_ret
          exact ⟨rfl, hB1⟩
      · clear v0 v1
        go_enter Try.func4, Try.ntmps4
        go_wp2_with fail
        refine (bytes15_yes a0 a1 len0 cap0 len1 cap1 w hb).mono ?_
        rintro e w' ⟨rfl, rfl⟩
        go_wp2
        go_ret
        exact ⟨rfl, Below.refl _ _⟩
    · clear v0 v1
      go_enter Try.func4, Try.ntmps4
      go_wp2_with fail
      refine (bytes15_yes a0 a1 len0 cap0 len1 cap1 w hb).mono ?_
      rintro e w' ⟨rfl, rfl⟩
      go_wp2
      go_ret
      exact ⟨rfl, Below.refl _ _⟩
  · clear v0 v1
    go_enter Try.func4, Try.ntmps4
    go_wp2_with fail
    refine (bytes15_no a0 a1 len0 cap0 len1 cap1 w m0 m1 hb).mono ?_
    rintro e w' ⟨rfl, rfl⟩
    go_wp2
    go_ret
    exact ⟨rfl, Below.refl _ _⟩

/-! ### THE ROW's STEP: WRITTEN OUT: LEAVE IT -/
set_option maxRecDepth 100000 in
theorem lifted (os : Os) (started : os.Started) (H : Type) (enc : TypeId × Value → H) :
    ReturnsInHanded {} Try.checked os 4 .any (Rows.fnDifferenceIsMembershipAndNotSpec.pre6 enc Try.prog Try.f4 Rows.fnDifferenceIsMembershipAndNotRow.domain false) (Rows.fnDifferenceIsMembershipAndNotSpec.post enc Try.prog Try.f4 false true false false) := by
  refine returnsInHanded_of_change (C := Try.checked) own started (by kernel_rfl) Try.func4
    (ChangeSpec.witness6 (enc := enc) (C := Try.checked) false ⟨#[], #[.slice none 0 0, .slice none 0 0], []⟩ 8 (by kernel_rfl) (by kernel_rfl) (by kernel_rfl) (by kernel_rfl)) ?_
  intro W base args ds gs before hval0 hW hcnd _
  have hval : ∀ (j : Nat) t v, Try.f4.params[j]? = some t → args[j]? = some v → Value.okWide Try.prog W .any base t v := hval0
  have hW' := hW
  obtain ⟨p, q, hA0, hV, rfl, hfz, hnd⟩ := hW
  have hA : DataW.TrodAll enc Try.prog W 0 (fun _ => true) true Try.f4.params.toList args.toList ds p := hA0
  rw [Try.params4] at hA hval
  obtain ⟨v0, vs0, d0, ds0, p0, q0, hargs, rfl, rfl, h0, r0⟩ := trodAll_cons hA
  obtain ⟨v1, vs1, d1, ds1, p1, q1, rfl, rfl, rfl, h1, r1⟩ := trodAll_cons r0
  obtain ⟨rfl, rfl, rfl⟩ := trodAll_nil r1
  obtain rfl : args = #[v0, v1] := by cases args; simp_all
  obtain ⟨rfl, rfl⟩ := trodVars_none hV
  obtain ⟨a0, len0, cap0, rfl⟩ := okWide_slice Try.underlying22 (hval 0 22 v0 rfl rfl)
  have k0 := h0
  have lt0 : ∀ x ∈ p0, x.block < W.heap.size := by obtain ⟨m, hm⟩ := k0; exact DataW.trod_lt m _ _ _ hm
  obtain ⟨z0, w0⟩ : ∃ rs, View W a0 len0 rs ∧ len0 ≤ maxLen ∧ (a0 = none → cap0 = 0) := by
    obtain ⟨fuel, hf⟩ := h0
    exact view_of (by simpa [Value.cells] using hf)
  obtain ⟨a1, len1, cap1, rfl⟩ := okWide_slice Try.underlying22 (hval 1 22 v1 rfl rfl)
  have k1 := h1
  have lt1 : ∀ x ∈ p1, x.block < W.heap.size := by obtain ⟨m, hm⟩ := k1; exact DataW.trod_lt m _ _ _ hm
  obtain ⟨z1, w1⟩ : ∃ rs, View W a1 len1 rs ∧ len1 ≤ maxLen ∧ (a1 = none → cap1 = 0) := by
    obtain ⟨fuel, hf⟩ := h1
    exact view_of (by simpa [Value.cells] using hf)
  clear hA0 hval0
  refine (walk a0 len0 cap0 z0 a1 len1 cap1 z1 W w0 w1).mono fun e W' ⟨he, bel⟩ => ?_
  subst he
  exact ⟨_, rfl, _, _, _, [], _, [], hW', trodAll_mk1 (shut_bool Try.underlying4 _), (trodAll_cons_mk (Below.trod laidOut (by kernel_rfl) (of_decide_eq_true (by kernel_rfl)) k0 bel lt0) (trodAll_cons_mk (Below.trod laidOut (by kernel_rfl) (of_decide_eq_true (by kernel_rfl)) k1 bel lt1) trodAll_mk0)), rfl, bel.frame _, fun h => by cases h⟩

theorem over : Rows.fnDifferenceIsMembershipAndNotRow.holds Try.pinned (OpenSpec.ofChange Rows.fnDifferenceIsMembershipAndNotSpec) :=
  OpenClaim.holds_of_wide 4 Try.f4 rfl rfl rfl rfl rfl rfl rfl ⟨rfl, rfl, rfl, rfl, rfl⟩ rfl rfl rfl rfl rfl (by kernel_rfl) Try.func4 (by kernel_rfl)
    (of_decide_eq_true (by kernel_rfl)) (by unfold Func.isWrapper; first | (rw [if_pos (by decide +kernel)]; kernel_rfl) | (rw [if_neg (by decide +kernel)]; exact ⟨rfl, rfl⟩))
    (fun os started H enc _ => lifted os started H enc)

/-- ████ THE STATEMENT ████ -/
theorem proved : Rows.FnDifferenceIsMembershipAndNotSaid := over
#print axioms proved
end Go.Proofs.Qxb6617965a.fnDifferenceIsMembershipAndNot
