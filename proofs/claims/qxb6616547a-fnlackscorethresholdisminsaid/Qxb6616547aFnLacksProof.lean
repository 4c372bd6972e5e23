/-
  The proof of 'Rows.FnLacksCoreThresholdIsMinSaid', in the frame that the kit's program wrote for it.
-/
import Derived.Test.Qxb6616547aRows
import Derived.WalkKit
import Derived.ProofKit
import Derived.OpenShut
import Derived.ShutString
import Derived.Test.Qxb6616547aW2
namespace Go.Proofs.Qxb6616547a.fnLacksCoreThresholdIsMin
open Go.ChangeShapes Go.WideShapes Go.ChangeAt Go.RowKit
open Go.ChangeMaps (open_string shut_string)
set_option linter.unusedVariables false      -- a walk need not use every 'w<i>' (that an integer argument fits its kind)

theorem own : ownKnob Try.prog.godebug = none := by kernel_rfl

/-! ### The walk -/
set_option maxHeartbeats 1000000 in
set_option maxRecDepth 100000 in
theorem walk (a0 : ByteArray) (a1 : Int) (a2 : Int) (a3 : Int) (a4 : Bool) (a5 : ByteArray) (a6 : ByteArray) (a7 : ByteArray) (a8 : Int) (a9 : Int) (w0 : a0.size ≤ maxLen) (w1 : (Lit.int .i64 a1).wf = true) (w2 : (Lit.int .i64 a2).wf = true) (w3 : (Lit.int .i64 a3).wf = true) (w5 : a5.size ≤ maxLen) (w6 : a6.size ≤ maxLen) (w7 : a7.size ≤ maxLen) (w8 : (Lit.int .i64 a8).wf = true) (w9 : (Lit.int .i64 a9).wf = true) (w : World) :
    Calls Try.prog 5 #[.string a0, .int .i64 a1, .int .i64 a2, .int .i64 a3, .bool a4, .string a5, .string a6, .string a7, .int .i64 a8, .int .i64 a9] w fun e w' => e = .returned (.bool true) ∧ Grown w w' := by
  have b1 := bounds_i64 w1
  clear w1 w2 w3 w8 w9
  by_cases hb : a0.size + a5.size + a6.size + a7.size ≤ 1048576
  · by_cases h0 : a0.size ≤ 262144
    · by_cases h5 : a5.size ≤ 262144
      · by_cases h6 : a6.size ≤ 262144
        · by_cases h7 : a7.size ≤ 262144
          · by_cases hm : a1 = -9223372036854775808
            · have qm := wraps_min a1 hm
              clear hm b1
              have q0 : decide ((262144 : Int) < (a0.size : Int)) = false := by simp; omega
              have q5 : decide ((262144 : Int) < (a5.size : Int)) = false := by simp; omega
              have q6 : decide ((262144 : Int) < (a6.size : Int)) = false := by simp; omega
              have q7 : decide ((262144 : Int) < (a7.size : Int)) = false := by simp; omega
              go_enter Try.func5, Try.ntmps5
              go_wp2_with fail
              refine (bytes7_yes a0 a5 a6 a7 a1 a2 a3 a8 a9 a4 w hb).mono ?_
              rintro e w' ⟨rfl, rfl⟩
              go_wp2
              go_ret
              exact ⟨rfl, Grown.refl _⟩
            · exact law_main a0 a5 a6 a7 a1 a2 a3 a8 a9 a4 w hb h0 h5 h6 h7 (by omega) (by omega)
          · clear b1
            have q0 : decide ((262144 : Int) < (a0.size : Int)) = false := by simp; omega
            have q5 : decide ((262144 : Int) < (a5.size : Int)) = false := by simp; omega
            have q6 : decide ((262144 : Int) < (a6.size : Int)) = false := by simp; omega
            have q7 : decide ((262144 : Int) < (a7.size : Int)) = true := by simp; omega
            go_enter Try.func5, Try.ntmps5
            go_wp2_with fail
            refine (bytes7_yes a0 a5 a6 a7 a1 a2 a3 a8 a9 a4 w hb).mono ?_
            rintro e w' ⟨rfl, rfl⟩
            go_wp2
            go_ret
            exact ⟨rfl, Grown.refl _⟩
        · clear b1
          have q0 : decide ((262144 : Int) < (a0.size : Int)) = false := by simp; omega
          have q5 : decide ((262144 : Int) < (a5.size : Int)) = false := by simp; omega
          have q6 : decide ((262144 : Int) < (a6.size : Int)) = true := by simp; omega
          go_enter Try.func5, Try.ntmps5
          go_wp2_with fail
          refine (bytes7_yes a0 a5 a6 a7 a1 a2 a3 a8 a9 a4 w hb).mono ?_
          rintro e w' ⟨rfl, rfl⟩
          go_wp2
          go_ret
          exact ⟨rfl, Grown.refl _⟩
      · clear b1
        have q0 : decide ((262144 : Int) < (a0.size : Int)) = false := by simp; omega
        have q5 : decide ((262144 : Int) < (a5.size : Int)) = true := by simp; omega
        go_enter Try.func5, Try.ntmps5
        go_wp2_with fail
        refine (bytes7_yes a0 a5 a6 a7 a1 a2 a3 a8 a9 a4 w hb).mono ?_
        rintro e w' ⟨rfl, rfl⟩
        go_wp2
        go_ret
        exact ⟨rfl, Grown.refl _⟩
    · clear b1
      have q0 : decide ((262144 : Int) < (a0.size : Int)) = true := by simp; omega
      go_enter Try.func5, Try.ntmps5
      go_wp2_with fail
      refine (bytes7_yes a0 a5 a6 a7 a1 a2 a3 a8 a9 a4 w hb).mono ?_
      rintro e w' ⟨rfl, rfl⟩
      go_wp2
      go_ret
      exact ⟨rfl, Grown.refl _⟩
  · clear b1
    go_enter Try.func5, Try.ntmps5
    go_wp2_with fail
    refine (bytes7_no a0 a5 a6 a7 a1 a2 a3 a8 a9 a4 w w0 w5 w6 w7 hb).mono ?_
    rintro e w' ⟨rfl, rfl⟩
    go_wp2
    go_ret
    exact ⟨rfl, Grown.refl _⟩

/-! ### THE ROW's STEP: WRITTEN OUT: LEAVE IT -/
set_option maxRecDepth 100000 in
theorem lifted (os : Os) (started : os.Started) (H : Type) (enc : TypeId × Value → H) :
    ReturnsInHanded {} Try.checked os 5 .any (Rows.fnLacksCoreThresholdIsMinSpec.pre6 enc Try.prog Try.f5 Rows.fnLacksCoreThresholdIsMinRow.domain false) (Rows.fnLacksCoreThresholdIsMinSpec.post enc Try.prog Try.f5 false true false false) := by
  refine returnsInHanded_of_change (C := Try.checked) own started (by kernel_rfl) Try.func5
    (ChangeSpec.witness6 (enc := enc) (C := Try.checked) false ⟨#[], #[.string ByteArray.empty, .int .i64 0, .int .i64 0, .int .i64 0, .bool false, .string ByteArray.empty, .string ByteArray.empty, .string ByteArray.empty, .int .i64 0, .int .i64 0], []⟩ 8 (by kernel_rfl) (by kernel_rfl) (by kernel_rfl) (by kernel_rfl)) ?_
  intro W base args ds gs before hval0 hW hcnd _
  have hval : ∀ (j : Nat) t v, Try.f5.params[j]? = some t → args[j]? = some v → Value.okWide Try.prog W .any base t v := hval0
  have hW' := hW
  obtain ⟨p, q, hA0, hV, rfl, hfz, hnd⟩ := hW
  have hA : DataW.TrodAll enc Try.prog W 0 (fun _ => true) true Try.f5.params.toList args.toList ds p := hA0
  rw [Try.params5] at hA hval
  obtain ⟨v0, vs0, d0, ds0, p0, q0, hargs, rfl, rfl, h0, r0⟩ := trodAll_cons hA
  obtain ⟨v1, vs1, d1, ds1, p1, q1, rfl, rfl, rfl, h1, r1⟩ := trodAll_cons r0
  obtain ⟨v2, vs2, d2, ds2, p2, q2, rfl, rfl, rfl, h2, r2⟩ := trodAll_cons r1
  obtain ⟨v3, vs3, d3, ds3, p3, q3, rfl, rfl, rfl, h3, r3⟩ := trodAll_cons r2
  obtain ⟨v4, vs4, d4, ds4, p4, q4, rfl, rfl, rfl, h4, r4⟩ := trodAll_cons r3
  obtain ⟨v5, vs5, d5, ds5, p5, q5, rfl, rfl, rfl, h5, r5⟩ := trodAll_cons r4
  obtain ⟨v6, vs6, d6, ds6, p6, q6, rfl, rfl, rfl, h6, r6⟩ := trodAll_cons r5
  obtain ⟨v7, vs7, d7, ds7, p7, q7, rfl, rfl, rfl, h7, r7⟩ := trodAll_cons r6
  obtain ⟨v8, vs8, d8, ds8, p8, q8, rfl, rfl, rfl, h8, r8⟩ := trodAll_cons r7
  obtain ⟨v9, vs9, d9, ds9, p9, q9, rfl, rfl, rfl, h9, r9⟩ := trodAll_cons r8
  obtain ⟨rfl, rfl, rfl⟩ := trodAll_nil r9
  obtain rfl : args = #[v0, v1, v2, v3, v4, v5, v6, v7, v8, v9] := by cases args; simp_all
  obtain ⟨rfl, rfl⟩ := trodVars_none hV
  obtain ⟨a0, rfl, rfl, rfl, w0⟩ := open_string Try.underlying9 (hval 0 9 v0 rfl rfl) h0
  obtain ⟨a1, rfl, rfl, rfl, w1⟩ := open_int Try.underlying3 (hval 1 3 v1 rfl rfl) h1
  obtain ⟨a2, rfl, rfl, rfl, w2⟩ := open_int Try.underlying3 (hval 2 3 v2 rfl rfl) h2
  obtain ⟨a3, rfl, rfl, rfl, w3⟩ := open_int Try.underlying2 (hval 3 2 v3 rfl rfl) h3
  obtain ⟨a4, rfl, rfl, rfl⟩ := open_bool Try.underlying4 (hval 4 4 v4 rfl rfl) h4
  obtain ⟨a5, rfl, rfl, rfl, w5⟩ := open_string Try.underlying9 (hval 5 9 v5 rfl rfl) h5
  obtain ⟨a6, rfl, rfl, rfl, w6⟩ := open_string Try.underlying9 (hval 6 9 v6 rfl rfl) h6
  obtain ⟨a7, rfl, rfl, rfl, w7⟩ := open_string Try.underlying9 (hval 7 9 v7 rfl rfl) h7
  obtain ⟨a8, rfl, rfl, rfl, w8⟩ := open_int Try.underlying3 (hval 8 3 v8 rfl rfl) h8
  obtain ⟨a9, rfl, rfl, rfl, w9⟩ := open_int Try.underlying3 (hval 9 3 v9 rfl rfl) h9
  clear hA0 hval0
  simp only [List.append_nil] at hW'
  refine (walk a0 a1 a2 a3 a4 a5 a6 a7 a8 a9 w0 w1 w2 w3 w5 w6 w7 w8 w9 W).mono fun e W' ⟨he, hg⟩ => ?_
  subst he
  exact ⟨_, rfl, post_of_same (pa := []) (pv := []) hW' (fun _ _ _ => (trodAll_cons_mk (shut_bool Try.underlying4 _) trodAll_mk0)) (fun sp _ => (trodAll_cons_mk (shut_string Try.underlying9 w0) (trodAll_cons_mk (shut_int Try.underlying3 w1) (trodAll_cons_mk (shut_int Try.underlying3 w2) (trodAll_cons_mk (shut_int Try.underlying2 w3) (trodAll_cons_mk (shut_bool Try.underlying4 _) (trodAll_cons_mk (shut_string Try.underlying9 w5) (trodAll_cons_mk (shut_string Try.underlying9 w6) (trodAll_cons_mk (shut_string Try.underlying9 w7) (trodAll_cons_mk (shut_int Try.underlying3 w8) (trodAll_cons_mk (shut_int Try.underlying3 w9) trodAll_mk0))))))))))) (fun _ _ => rfl) rfl
    (hg.frame _) hg.2.1 (ok_one (by kernel_rfl) rfl (okWide_bool_mk Try.underlying4 _))⟩

theorem over : Rows.fnLacksCoreThresholdIsMinRow.holds Try.pinned (OpenSpec.ofChange Rows.fnLacksCoreThresholdIsMinSpec) :=
  OpenClaim.holds_of_wide 5 Try.f5 rfl rfl rfl rfl rfl rfl rfl ⟨rfl, rfl, rfl, rfl, rfl⟩ rfl rfl rfl rfl rfl (by kernel_rfl) Try.func5 (by kernel_rfl)
    (of_decide_eq_true (by kernel_rfl)) (by unfold Func.isWrapper; first | (rw [if_pos (by decide +kernel)]; kernel_rfl) | (rw [if_neg (by decide +kernel)]; exact ⟨rfl, rfl⟩))
    (fun os started H enc _ => lifted os started H enc)

/-- ████ THE STATEMENT ████ -/
theorem proved : Rows.FnLacksCoreThresholdIsMinSaid :=
  over
#print axioms proved
end Go.Proofs.Qxb6616547a.fnLacksCoreThresholdIsMin
