import Derived.Test.Qxb6617965aV7
import Derived.Deep.RegionHeld3
import Derived.Deep.RegionWith
namespace Go.Proofs.Qxb6617965a
open Go.RowKit Cpu

theorem View.drew {w : World} {a : Option Addr} {len : Nat} {rs : List (Int × Int)} (h : View w a len rs) : View w.drew a len rs := h
theorem cov_neg {rs : List (Int × Int)} {p : Int} (h : ¬ 0 ≤ cov rs p) : cov rs p = -1 := by
  unfold cov at h ⊢
  split at h
  · omega
  · rename_i hc; rw [if_neg hc]

set_option maxHeartbeats 4000000 in
set_option maxRecDepth 100000 in
theorem law6_main (a0 a1 : Option Addr) (l0 c0 l1 c1 : Nat) (s t : List (Int × Int)) (w : World) (hv_s : View w a0 l0 s) (hv_t : View w a1 l1 t) (n0 : a0 = none → c0 = 0) (n1 : a1 = none → c1 = 0) (m0 : l0 ≤ 4096) (m1 : l1 ≤ 4096) (is : InR s) (it : InR t) (cs : Canon s) (ct : Canon t) :
    Calls Try.prog 6 #[.slice a0 l0 c0, .slice a1 l1 c1] w fun e w' => e = .returned (.bool true) ∧ Below w.heap.size w w' := by
  have hlen : (inter s t).length ≤ 8192 := by have := inter_length s t; rw [hv_s.1, hv_t.1] at this; omega
  have hlenD : (diff s t).length ≤ 16781312 := diff_len_le hv_s.1 hv_t.1 m0 m1
  have iI := inter_inR cs ct is
  have iD := diff_inR cs ct is
  have cI := (inter_both s t cs ct).1
  have cD := (diff_both s t cs ct).1
  have HCM : Hid (inter t s = inter s t) := (inter_comm cs ct).symm
  have HE5 : Hid (diff s (diff s t) = inter s t) := diff_diff cs ct
  go_enter Try.func6, Try.ntmps6
  go_wp2_with fail
  refine (bytes20_yes a0 a1 l0 c0 l1 c1 w (by omega)).mono ?_
  rintro e w' ⟨rfl, rfl⟩
  go_wp2_with fail
  refine (inRange_yes a0 l0 c0 s w hv_s (by omega) is).mono ?_
  rintro e w1 ⟨rfl, hB1⟩
  have vs1 := hv_s.below hB1
  have vt1 := hv_t.below hB1
  have hT1 : Below w.heap.size w w1 := hB1
  have hz1 : w.heap.size ≤ w1.heap.size := hB1.size
  clear hB1
  go_wp2_with fail
  refine (canon_yes a0 l0 c0 s w1 vs1 (by omega) is cs).mono ?_
  rintro e w2 ⟨rfl, hB2⟩
  have vs2 := vs1.below hB2
  have vt2 := vt1.below hB2
  clear vs1
  clear vt1
  have hT2 : Below w.heap.size w w2 := hT1.trans (hB2.mono hT1.size)
  clear hT1
  have hz2 : w1.heap.size ≤ w2.heap.size := hB2.size
  clear hB2
  go_wp2_with fail
  refine (inRange_yes a1 l1 c1 t w2 vt2 (by omega) it).mono ?_
  rintro e w3 ⟨rfl, hB3⟩
  have vs3 := vs2.below hB3
  have vt3 := vt2.below hB3
  clear vs2
  clear vt2
  have hT3 : Below w.heap.size w w3 := hT2.trans (hB3.mono hT2.size)
  clear hT2
  have hz3 : w2.heap.size ≤ w3.heap.size := hB3.size
  clear hB3
  go_wp2_with fail
  refine (canon_yes a1 l1 c1 t w3 vt3 (by omega) it ct).mono ?_
  rintro e w4 ⟨rfl, hB4⟩
  have vs4 := vs3.below hB4
  have vt4 := vt3.below hB4
  clear vs3
  clear vt3
  have hT4 : Below w.heap.size w w4 := hT3.trans (hB4.mono hT3.size)
  clear hT3
  have hz4 : w3.heap.size ≤ w4.heap.size := hB4.size
  clear hB4
  go_wp2_with fail
  refine (clone_any a0 l0 c0 s w4 vs4 (by omega) n0).mono ?_
  rintro e w5 ⟨b0, d0, rfl, vS0, nb0, hB5⟩
  have vs5 := vs4.below hB5
  have vt5 := vt4.below hB5
  clear vs4
  clear vt4
  have hT5 : Below w.heap.size w w5 := hT4.trans (hB5.mono hT4.size)
  clear hT4
  have hz5 : w4.heap.size ≤ w5.heap.size := hB5.size
  clear hB5
  clear vs5
  go_wp2_with fail
  refine (clone_any a1 l1 c1 t w5 vt5 (by omega) n1).mono ?_
  rintro e w6 ⟨b1, d1, rfl, vT0, nb1, hB6⟩
  have vs6 := vS0.below hB6
  have vt6 := vt5.below hB6
  clear vS0
  clear vt5
  have hT6 : Below w.heap.size w w6 := hT5.trans (hB6.mono hT5.size)
  clear hT5
  have hz6 : w5.heap.size ≤ w6.heap.size := hB6.size
  clear hB6
  clear vt6
  go_wp2_with fail
  refine (make_any b0 l0 d0 s w6 vs6 (by omega) nb0).mono ?_
  rintro e w7 ⟨x0, y0, rfl, vX0, kX, hB7⟩
  have vs7 := vs6.below hB7
  have vt7 := vT0.below hB7
  clear vs6
  clear vT0
  have hT7 : Below w.heap.size w w7 := hT6.trans (hB7.mono hT6.size)
  clear hT6
  have hz7 : w6.heap.size ≤ w7.heap.size := hB7.size
  clear hB7
  have bx8 : (w7.alloc (Obj.cells #[Value.slice x0 l0 y0] 29)).cell? ⟨w7.heap.size, 0, none⟩ = some (Value.slice x0 l0 y0) := by rw [World.cell?_alloc_at _ _ _ _ rfl]; rfl
  go_wp2_with fail
  have hB8 : Below w7.heap.size w7 (w7.alloc (Obj.cells #[Value.slice x0 l0 y0] 29)) := (Below.refl _ _).alloc (Nat.le_refl _) _
  have hlt8 : w7.heap.size < (w7.alloc (Obj.cells #[Value.slice x0 l0 y0] 29)).heap.size := by simp
  generalize w7.alloc (Obj.cells #[Value.slice x0 l0 y0] 29) = w8 at bx8 hB8 hlt8  ⊢
  have vs8 := vs7.below hB8
  have vt8 := vt7.below hB8
  have vX8 := vX0.below hB8
  clear vs7
  clear vt7
  clear vX0
  have hT8 : Below w.heap.size w w8 := hT7.trans (hB8.mono hT7.size)
  clear hT7
  have hz8 : w7.heap.size ≤ w8.heap.size := hB8.size
  clear hB8
  refine (make_any b1 l1 d1 t w8 vt8 (by omega) nb1).mono ?_
  rintro e w9 ⟨x1, y1, rfl, vY0, kY, hB9⟩
  have vs9 := vs8.below hB9
  have vt9 := vt8.below hB9
  have vX9 := vX8.below hB9
  clear vs8
  clear vt8
  clear vX8
  have Sc9 : w9.cell? ⟨w7.heap.size, 0, none⟩ = some (Value.slice x0 l0 y0) := (hB9.cell (p := ⟨w7.heap.size, 0, none⟩) (by show w7.heap.size < _; omega)).trans bx8
  clear bx8
  have hT9 : Below w.heap.size w w9 := hT8.trans (hB9.mono hT8.size)
  clear hT8
  have hz9 : w8.heap.size ≤ w9.heap.size := hB9.size
  clear hB9
  have Sl10 : w7.heap.size < w9.heap.size := by omega
  have Sc10 : (w9.alloc (Obj.cells #[Value.slice x1 l1 y1] 29)).cell? ⟨w7.heap.size, 0, none⟩ = some (Value.slice x0 l0 y0) := by rw [World.cell?_alloc_past _ _ _ (by show w7.heap.size < _; omega)]; exact Sc9
  have bx10 : (w9.alloc (Obj.cells #[Value.slice x1 l1 y1] 29)).cell? ⟨w9.heap.size, 0, none⟩ = some (Value.slice x1 l1 y1) := by rw [World.cell?_alloc_at _ _ _ _ rfl]; rfl
  go_wp2_with fail
  have hB10 : Below w9.heap.size w9 (w9.alloc (Obj.cells #[Value.slice x1 l1 y1] 29)) := (Below.refl _ _).alloc (Nat.le_refl _) _
  have hlt10 : w9.heap.size < (w9.alloc (Obj.cells #[Value.slice x1 l1 y1] 29)).heap.size := by simp
  generalize w9.alloc (Obj.cells #[Value.slice x1 l1 y1] 29) = w10 at bx10 hB10 hlt10 Sc10 ⊢
  clear Sc9
  have vs10 := vs9.below hB10
  have vt10 := vt9.below hB10
  have vX10 := vX9.below hB10
  have vY10 := vY0.below hB10
  clear vs9
  clear vt9
  clear vX9
  clear vY0
  have hT10 : Below w.heap.size w w10 := hT9.trans (hB10.mono hT9.size)
  clear hT9
  have hz10 : w9.heap.size ≤ w10.heap.size := hB10.size
  clear hB10
  refine (inter_walk x0 x1 l0 y0 l1 y1 s t w10 vX10 vY10 (by omega) (by omega)).mono ?_
  rintro e w11 ⟨x2, y2, rfl, vI0, kI, hB11⟩
  have vs11 := vs10.below hB11
  have vt11 := vt10.below hB11
  have vX11 := vX10.below hB11
  have vY11 := vY10.below hB11
  clear vs10
  clear vt10
  clear vX10
  clear vY10
  have Sc11 : w11.cell? ⟨w7.heap.size, 0, none⟩ = some (Value.slice x0 l0 y0) := (hB11.cell (p := ⟨w7.heap.size, 0, none⟩) (by show w7.heap.size < _; omega)).trans Sc10
  clear Sc10
  have Tc11 : w11.cell? ⟨w9.heap.size, 0, none⟩ = some (Value.slice x1 l1 y1) := (hB11.cell (p := ⟨w9.heap.size, 0, none⟩) (by show w9.heap.size < _; omega)).trans bx10
  clear bx10
  have hT11 : Below w.heap.size w w11 := hT10.trans (hB11.mono hT10.size)
  clear hT10
  have hz11 : w10.heap.size ≤ w11.heap.size := hB11.size
  clear hB11
  generalize hnI : (inter s t).length = nI at vI0 kI ⊢
  have HnI : Hid ((inter s t).length = nI) := hnI
  have hnI2 : nI ≤ 8192 := by omega
  clear hnI
  go_wp2_with fail
  refine (runs_any x2 nI y2 (inter s t) w11 vI0 (by omega)).mono ?_
  rintro e w12 ⟨p2, q2, rfl, vP0, nP, hB12⟩
  have vs12 := vs11.below hB12
  have vt12 := vt11.below hB12
  have vX12 := vX11.below hB12
  have vY12 := vY11.below hB12
  have vI12 := vI0.below hB12
  clear vs11
  clear vt11
  clear vX11
  clear vY11
  clear vI0
  have Sc12 : w12.cell? ⟨w7.heap.size, 0, none⟩ = some (Value.slice x0 l0 y0) := (hB12.cell (p := ⟨w7.heap.size, 0, none⟩) (by show w7.heap.size < _; omega)).trans Sc11
  clear Sc11
  have Tc12 : w12.cell? ⟨w9.heap.size, 0, none⟩ = some (Value.slice x1 l1 y1) := (hB12.cell (p := ⟨w9.heap.size, 0, none⟩) (by show w9.heap.size < _; omega)).trans Tc11
  clear Tc11
  have hT12 : Below w.heap.size w w12 := hT11.trans (hB12.mono hT11.size)
  clear hT11
  have hz12 : w11.heap.size ≤ w12.heap.size := hB12.size
  clear hB12
  clear vI12
  go_wp2_with fail
  refine (inter_walk x1 x0 l1 y1 l0 y0 t s w12 vY12 vX12 (by omega) (by omega)).mono ?_
  rintro e w13 ⟨x3, y3, rfl, vJ0, kJ, hB13⟩
  have vs13 := vs12.below hB13
  have vt13 := vt12.below hB13
  have vX13 := vX12.below hB13
  have vY13 := vY12.below hB13
  have vP13 := vP0.below hB13
  clear vs12
  clear vt12
  clear vX12
  clear vY12
  clear vP0
  have Sc13 : w13.cell? ⟨w7.heap.size, 0, none⟩ = some (Value.slice x0 l0 y0) := (hB13.cell (p := ⟨w7.heap.size, 0, none⟩) (by show w7.heap.size < _; omega)).trans Sc12
  clear Sc12
  have Tc13 : w13.cell? ⟨w9.heap.size, 0, none⟩ = some (Value.slice x1 l1 y1) := (hB13.cell (p := ⟨w9.heap.size, 0, none⟩) (by show w9.heap.size < _; omega)).trans Tc12
  clear Tc12
  have hT13 : Below w.heap.size w w13 := hT12.trans (hB13.mono hT12.size)
  clear hT12
  have hz13 : w12.heap.size ≤ w13.heap.size := hB13.size
  clear hB13
  rw [HCM.out, HnI.out] at vJ0 kJ ⊢
  go_wp2_with fail
  refine (runs_any x3 nI y3 (inter s t) w13 vJ0 (by omega)).mono ?_
  rintro e w14 ⟨p3, q3, rfl, vQ0, nQ, hB14⟩
  have vs14 := vs13.below hB14
  have vt14 := vt13.below hB14
  have vX14 := vX13.below hB14
  have vY14 := vY13.below hB14
  have vP14 := vP13.below hB14
  have vJ14 := vJ0.below hB14
  clear vs13
  clear vt13
  clear vX13
  clear vY13
  clear vP13
  clear vJ0
  have Sc14 : w14.cell? ⟨w7.heap.size, 0, none⟩ = some (Value.slice x0 l0 y0) := (hB14.cell (p := ⟨w7.heap.size, 0, none⟩) (by show w7.heap.size < _; omega)).trans Sc13
  clear Sc13
  have Tc14 : w14.cell? ⟨w9.heap.size, 0, none⟩ = some (Value.slice x1 l1 y1) := (hB14.cell (p := ⟨w9.heap.size, 0, none⟩) (by show w9.heap.size < _; omega)).trans Tc13
  clear Tc13
  have hT14 : Below w.heap.size w w14 := hT13.trans (hB14.mono hT13.size)
  clear hT13
  have hz14 : w13.heap.size ≤ w14.heap.size := hB14.size
  clear hB14
  clear vJ14
  go_wp2
  have vXd := vX14.drew
  have vYd := vY14.drew
  have lS : w7.heap.size < w14.heap.size := by omega
  have lT : w9.heap.size < w14.heap.size := by omega
  go_region_held3 (fun w' => w'.cell? ⟨w7.heap.size, 0, none⟩ = some (Value.slice x0 l0 y0) ∧ w'.cell? ⟨w9.heap.size, 0, none⟩ = some (Value.slice x1 l1 y1))
    (first | go_keep | exact ⟨(hBo.cell (p := ⟨w7.heap.size, 0, none⟩) (by show w7.heap.size < _; omega)).trans gS2, (hBo.cell (p := ⟨w9.heap.size, 0, none⟩) (by show w9.heap.size < _; omega)).trans gT2⟩ | exact ⟨(hBn.cell (p := ⟨w7.heap.size, 0, none⟩) (by show w7.heap.size < _; omega)).trans gS, (hBn.cell (p := ⟨w9.heap.size, 0, none⟩) (by show w9.heap.size < _; omega)).trans gT⟩ | exact ⟨(hBm.cell (p := ⟨w7.heap.size, 0, none⟩) lS).trans Sc14, (hBm.cell (p := ⟨w9.heap.size, 0, none⟩) lT).trans Tc14⟩)
    (first | (go_at_call_of 16 (Value.agg #[Value.slice x1 l1 y1]); refine (diff_walk x0 x1 l0 y0 l1 y1 s t _ vXd vYd kY (by omega) (by omega) is it (by omega)).mono ?_; rintro e wm ⟨x4, y4, rfl, vM0, kM, hBm⟩) | (go_at_call_of 16 (Value.agg #[Value.slice x4 (diff s t).length y4]); have vXm := vXd.below hBm; have gS := (hBm.cell (p := ⟨w7.heap.size, 0, none⟩) lS).trans Sc14; have gT := (hBm.cell (p := ⟨w9.heap.size, 0, none⟩) lT).trans Tc14; have hzm : w14.heap.size ≤ wm.heap.size := hBm.size; refine (diff_walk x0 x4 l0 y0 (diff s t).length y4 s (diff s t) _ vXm vM0 kM (by omega) (by omega) is iD (by rw [HE5.out]; omega)).mono ?_; rintro e wn ⟨x5, y5, rfl, vN0, kN, hBn⟩) | (go_at_call 11; have gS2 := (hBn.cell (p := ⟨w7.heap.size, 0, none⟩) (by show w7.heap.size < _; omega)).trans gS; have gT2 := (hBn.cell (p := ⟨w9.heap.size, 0, none⟩) (by show w9.heap.size < _; omega)).trans gT; have hzn := hBn.size; refine (runs_any x5 _ y5 (diff s (diff s t)) _ vN0 (by rw [HE5.out]; omega)).mono ?_; rintro e wo ⟨x6, y6, rfl, vO0, nO, hBo⟩))
  rw [HE5.out, HnI.out] at vO0
  rw [HE5.out, HnI.out]
  have hB15 : Below w14.heap.size w14 wo := ((show Below w14.heap.size w14 wm from ⟨hBm.os, hBm.tape, hBm.output, hBm.size, hBm.block⟩).trans (hBn.mono hBm.size)).trans (hBo.mono (by omega))
  clear hBm hBn hBo gS gT gS2 gT2 vM0 vN0 vXm vXd vYd kN kM nO
  have vs15 := vs14.below hB15
  have vt15 := vt14.below hB15
  have vX15 := vX14.below hB15
  have vY15 := vY14.below hB15
  have vP15 := vP14.below hB15
  have vQ15 := vQ0.below hB15
  clear vs14
  clear vt14
  clear vX14
  clear vY14
  clear vP14
  clear vQ0
  have hT15 : Below w.heap.size w wo := hT14.trans (hB15.mono hT14.size)
  clear hT14
  have hz15 : w14.heap.size ≤ wo.heap.size := hB15.size
  clear hB15
  clear vX15 vY15
  go_wp2_with fail
  refine (sameRuns_yes p2 p3 nI q2 q3 (inter s t) wo vP15 vQ15 (by omega)).mono ?_
  rintro e w16 ⟨rfl, hB16⟩
  have vs16 := vs15.below hB16
  have vt16 := vt15.below hB16
  have vP16 := vP15.below hB16
  have vQ16 := vQ15.below hB16
  have vO16 := vO0.below hB16
  clear vs15
  clear vt15
  clear vP15
  clear vQ15
  clear vO0
  have hT16 : Below w.heap.size w w16 := hT15.trans (hB16.mono hT15.size)
  clear hT15
  have hz16 : wo.heap.size ≤ w16.heap.size := hB16.size
  clear hB16
  go_wp2_with fail
  refine (sameRuns_yes p2 x6 nI q2 y6 (inter s t) w16 vP16 vO16 (by omega)).mono ?_
  rintro e w17 ⟨rfl, hB17⟩
  have vs17 := vs16.below hB17
  have vt17 := vt16.below hB17
  have vP17 := vP16.below hB17
  have vQ17 := vQ16.below hB17
  have vO17 := vO16.below hB17
  clear vs16
  clear vt16
  clear vP16
  clear vQ16
  clear vO16
  have hT17 : Below w.heap.size w w17 := hT16.trans (hB17.mono hT16.size)
  clear hT16
  have hz17 : w16.heap.size ≤ w17.heap.size := hB17.size
  clear hB17
  go_wp2
  go_loop [10] (fun x => ∃ k : Nat, k ≤ l0 ∧ x = .int .i64 k) (fun x => l0 - (intOf x).toNat)
  case atStart => exact ⟨0, Nat.zero_le _, rfl⟩
  case round =>
    obtain ⟨i, hi', rfl⟩ := hrel
    by_cases hlt : i < l0
    · obtain ⟨bs, os, hab, hbb, hrs⟩ := vs17.2 (by omega)
      subst hab
      have hil : i < s.length := by rw [vs17.1]; exact hlt
      obtain ⟨f1, f2⟩ := hrs i hil
      obtain ⟨r1, r2, r3⟩ := is _ (at_mem s i hil)
      simp only at r1 r2 r3
      go_wp2_with fail
      refine (index_any b1 l1 d1 t (fs s i) w17 vt17 (by omega) ct).mono ?_
      rintro e w' ⟨rfl, rfl⟩
      by_cases hk : 0 ≤ cov t (fs s i)
      · obtain ⟨kk, ek, hkk, g1, g2⟩ := cov_yes hk
        have HK : Hid (cov t (fs s i) = (kk : Int)) := ek
        have HK0 : Hid (0 ≤ cov t (fs s i)) := hk
        rw [ek]
        clear hk ek
        obtain ⟨bt, ot, hat, hbt, hrt⟩ := vt17.2 (by have := vt17.1; omega)
        subst hat
        obtain ⟨f3, f4⟩ := hrt kk hkk
        have qa : decide ((0 : Int) ≤ (kk : Int)) = true := by simp
        have i5 : (kk : Int) < (l1 : Int) := by have := vt17.1; omega
        have i6 : (0 : Int) ≤ (kk : Int) := by omega
        by_cases hl : ls s i ≤ ls t kk
        · obtain ⟨jj, ej, hjj, e1, e2⟩ := run_kept cs ct i hil HK0.out kk HK.out hl
          obtain ⟨bp, op, hap, hbp, hrp⟩ := vP17.2 (by have := vP17.1; omega)
          subst hap
          obtain ⟨f5, f6⟩ := hrp jj hjj
          rw [e1] at f5
          rw [e2] at f6
          have HJ : Hid (cov (inter s t) (fs s i) = (jj : Int)) := ej
          have i7 : (jj : Int) < (nI : Int) := by have := vP17.1; omega
          have i8 : (0 : Int) ≤ (jj : Int) := by omega
          clear ej e1 e2
          have qb : decide ((jj : Int) < 0) = false := by simp
          go_wp2_with fail
          refine (index_any (some ⟨bp, op, none⟩) nI q2 (inter s t) (fs s i) w17 vP17 (by omega) cI).mono ?_
          rintro e w' ⟨rfl, rfl⟩
          rw [HJ.out]
          go_wp2
          go_round
          case rel => exact ⟨i + 1, by omega, by go_num⟩
          case measure => simp [intOf]; omega
        · have hl' : ls t kk < ls s i := by omega
          clear hl
          go_wp2
          go_round
          case rel => exact ⟨i + 1, by omega, by go_num⟩
          case measure => simp [intOf]; omega
      · have ek := cov_neg hk
        rw [ek]
        clear hk ek
        go_wp2
        go_round
        case rel => exact ⟨i + 1, by omega, by go_num⟩
        case measure => simp [intOf]; omega
    · go_wp2
      go_ret
      exact ⟨rfl, hT17⟩

end Go.Proofs.Qxb6617965a
