import Derived.Test.Qxb6617965aV7
namespace Go.Proofs.Qxb6617965a
open Go.RowKit Cpu

set_option maxHeartbeats 4000000 in
set_option maxRecDepth 100000 in
theorem law5_main (a0 a1 : Option Addr) (l0 c0 l1 c1 : Nat) (s t : List (Int × Int)) (w : World) (hv_s : View w a0 l0 s) (hv_t : View w a1 l1 t) (n0 : a0 = none → c0 = 0) (n1 : a1 = none → c1 = 0) (m0 : l0 ≤ 4096) (m1 : l1 ≤ 4096) (is : InR s) (it : InR t) (cs : Canon s) (ct : Canon t) :
    Calls Try.prog 5 #[.slice a0 l0 c0, .slice a1 l1 c1] w fun e w' => e = .returned (.bool true) ∧ Below w.heap.size w w' := by
  have hlen : (inter s t).length ≤ 8192 := by have := inter_length s t; rw [hv_s.1, hv_t.1] at this; omega
  have hlenD : (diff s t).length ≤ 16781312 := diff_len_le hv_s.1 hv_t.1 m0 m1
  have iI := inter_inR cs ct is
  have iD := diff_inR cs ct is
  have cI := (inter_both s t cs ct).1
  have cD := (diff_both s t cs ct).1
  have HE1 : Hid (inter (inter s t) (diff s t) = []) := inter_inter_diff cs ct
  have HE2 : Hid (diff (inter s t) t = []) := diff_inter_right cs ct
  have HE3 : Hid (inter (diff s t) t = []) := inter_diff_right cs ct
  have HE4 : Hid (diff s (inter s t) = diff s t) := diff_inter cs ct
  have HE5 : Hid (diff s (diff s t) = inter s t) := diff_diff cs ct
  have kc1 := count_bounds iI
  have kc2 := count_bounds iD
  have kc3 := count_split cs ct is
  obtain ⟨kc1a, kc1b⟩ := kc1
  obtain ⟨kc2a, kc2b⟩ := kc2
  have kc1c : count (inter s t) ≤ 1073741825 * 8192 := by omega
  have kc2c : count (diff s t) ≤ 1073741825 * 16781312 := by omega
  have kq : (count (inter s t) + count (diff s t) != count s) = false := by simp; omega
  clear kc1b kc2b kc3
  go_enter Try.func5, Try.ntmps5
  go_wp2_with fail
  refine (bytes17_yes a0 a1 l0 c0 l1 c1 w (by omega)).mono ?_
  rintro e w' ⟨rfl, rfl⟩
  go_wp2_with fail
  refine (inRange_yes a0 l0 c0 s w hv_s (by omega) is).mono ?_
  rintro e w1 ⟨rfl, hB1⟩
  have vs1 := hv_s.below hB1
  have vt1 := hv_t.below hB1
  have hT1 : Below w.heap.size w w1 := hB1
  have hz1 : w.heap.size ≤ w1.heap.size := hB1.size
  clear hB1
  go_wp2_with fail
  refine (canon_yes a0 l0 c0 s w1 vs1 (by omega) is cs).mono ?_
  rintro e w2 ⟨rfl, hB2⟩
  have vs2 := vs1.below hB2
  have vt2 := vt1.below hB2
  clear vs1
  clear vt1
  have hT2 : Below w.heap.size w w2 := hT1.trans (hB2.mono hT1.size)
  clear hT1
  have hz2 : w1.heap.size ≤ w2.heap.size := hB2.size
  clear hB2
  go_wp2_with fail
  refine (inRange_yes a1 l1 c1 t w2 vt2 (by omega) it).mono ?_
  rintro e w3 ⟨rfl, hB3⟩
  have vs3 := vs2.below hB3
  have vt3 := vt2.below hB3
  clear vs2
  clear vt2
  have hT3 : Below w.heap.size w w3 := hT2.trans (hB3.mono hT2.size)
  clear hT2
  have hz3 : w2.heap.size ≤ w3.heap.size := hB3.size
  clear hB3
  go_wp2_with fail
  refine (canon_yes a1 l1 c1 t w3 vt3 (by omega) it ct).mono ?_
  rintro e w4 ⟨rfl, hB4⟩
  have vs4 := vs3.below hB4
  have vt4 := vt3.below hB4
  clear vs3
  clear vt3
  have hT4 : Below w.heap.size w w4 := hT3.trans (hB4.mono hT3.size)
  clear hT3
  have hz4 : w3.heap.size ≤ w4.heap.size := hB4.size
  clear hB4
  go_wp2_with fail
  refine (clone_any a0 l0 c0 s w4 vs4 (by omega) n0).mono ?_
  rintro e w5 ⟨b0, d0, rfl, vS0, nb0, hB5⟩
  have vs5 := vs4.below hB5
  have vt5 := vt4.below hB5
  clear vs4
  clear vt4
  have hT5 : Below w.heap.size w w5 := hT4.trans (hB5.mono hT4.size)
  clear hT4
  have hz5 : w4.heap.size ≤ w5.heap.size := hB5.size
  clear hB5
  clear vs5
  go_wp2_with fail
  refine (clone_any a1 l1 c1 t w5 vt5 (by omega) n1).mono ?_
  rintro e w6 ⟨b1, d1, rfl, vT0, nb1, hB6⟩
  have vs6 := vS0.below hB6
  have vt6 := vt5.below hB6
  clear vS0
  clear vt5
  have hT6 : Below w.heap.size w w6 := hT5.trans (hB6.mono hT5.size)
  clear hT5
  have hz6 : w5.heap.size ≤ w6.heap.size := hB6.size
  clear hB6
  clear vt6
  go_wp2_with fail
  refine (make_any b0 l0 d0 s w6 vs6 (by omega) nb0).mono ?_
  rintro e w7 ⟨x0, y0, rfl, vX0, kX, hB7⟩
  have vs7 := vs6.below hB7
  have vt7 := vT0.below hB7
  clear vs6
  clear vT0
  have hT7 : Below w.heap.size w w7 := hT6.trans (hB7.mono hT6.size)
  clear hT6
  have hz7 : w6.heap.size ≤ w7.heap.size := hB7.size
  clear hB7
  have bx8 : (w7.alloc (Obj.cells #[Value.slice x0 l0 y0] 29)).cell? ⟨w7.heap.size, 0, none⟩ = some (Value.slice x0 l0 y0) := by rw [World.cell?_alloc_at _ _ _ _ rfl]; rfl
  go_wp2_with fail
  have hB8 : Below w7.heap.size w7 (w7.alloc (Obj.cells #[Value.slice x0 l0 y0] 29)) := (Below.refl _ _).alloc (Nat.le_refl _) _
  have hlt8 : w7.heap.size < (w7.alloc (Obj.cells #[Value.slice x0 l0 y0] 29)).heap.size := by simp
  generalize w7.alloc (Obj.cells #[Value.slice x0 l0 y0] 29) = w8 at bx8 hB8 hlt8  ⊢
  have vs8 := vs7.below hB8
  have vt8 := vt7.below hB8
  have vX8 := vX0.below hB8
  clear vs7
  clear vt7
  clear vX0
  have hT8 : Below w.heap.size w w8 := hT7.trans (hB8.mono hT7.size)
  clear hT7
  have hz8 : w7.heap.size ≤ w8.heap.size := hB8.size
  clear hB8
  refine (make_any b1 l1 d1 t w8 vt8 (by omega) nb1).mono ?_
  rintro e w9 ⟨x1, y1, rfl, vY0, kY, hB9⟩
  have vs9 := vs8.below hB9
  have vt9 := vt8.below hB9
  have vX9 := vX8.below hB9
  clear vs8
  clear vt8
  clear vX8
  have Sc9 : w9.cell? ⟨w7.heap.size, 0, none⟩ = some (Value.slice x0 l0 y0) := (hB9.cell (p := ⟨w7.heap.size, 0, none⟩) (by show w7.heap.size < _; omega)).trans bx8
  clear bx8
  have hT9 : Below w.heap.size w w9 := hT8.trans (hB9.mono hT8.size)
  clear hT8
  have hz9 : w8.heap.size ≤ w9.heap.size := hB9.size
  clear hB9
  have Sl10 : w7.heap.size < w9.heap.size := by omega
  have Sc10 : (w9.alloc (Obj.cells #[Value.slice x1 l1 y1] 29)).cell? ⟨w7.heap.size, 0, none⟩ = some (Value.slice x0 l0 y0) := by rw [World.cell?_alloc_past _ _ _ (by show w7.heap.size < _; omega)]; exact Sc9
  have bx10 : (w9.alloc (Obj.cells #[Value.slice x1 l1 y1] 29)).cell? ⟨w9.heap.size, 0, none⟩ = some (Value.slice x1 l1 y1) := by rw [World.cell?_alloc_at _ _ _ _ rfl]; rfl
  go_wp2_with fail
  have hB10 : Below w9.heap.size w9 (w9.alloc (Obj.cells #[Value.slice x1 l1 y1] 29)) := (Below.refl _ _).alloc (Nat.le_refl _) _
  have hlt10 : w9.heap.size < (w9.alloc (Obj.cells #[Value.slice x1 l1 y1] 29)).heap.size := by simp
  generalize w9.alloc (Obj.cells #[Value.slice x1 l1 y1] 29) = w10 at bx10 hB10 hlt10 Sc10 ⊢
  clear Sc9
  have vs10 := vs9.below hB10
  have vt10 := vt9.below hB10
  have vX10 := vX9.below hB10
  have vY10 := vY0.below hB10
  clear vs9
  clear vt9
  clear vX9
  clear vY0
  have hT10 : Below w.heap.size w w10 := hT9.trans (hB10.mono hT9.size)
  clear hT9
  have hz10 : w9.heap.size ≤ w10.heap.size := hB10.size
  clear hB10
  refine (inter_walk x0 x1 l0 y0 l1 y1 s t w10 vX10 vY10 (by omega) (by omega)).mono ?_
  rintro e w11 ⟨x2, y2, rfl, vI0, kI, hB11⟩
  have vs11 := vs10.below hB11
  have vt11 := vt10.below hB11
  have vX11 := vX10.below hB11
  have vY11 := vY10.below hB11
  clear vs10
  clear vt10
  clear vX10
  clear vY10
  have Sc11 : w11.cell? ⟨w7.heap.size, 0, none⟩ = some (Value.slice x0 l0 y0) := (hB11.cell (p := ⟨w7.heap.size, 0, none⟩) (by show w7.heap.size < _; omega)).trans Sc10
  clear Sc10
  have Tc11 : w11.cell? ⟨w9.heap.size, 0, none⟩ = some (Value.slice x1 l1 y1) := (hB11.cell (p := ⟨w9.heap.size, 0, none⟩) (by show w9.heap.size < _; omega)).trans bx10
  clear bx10
  have hT11 : Below w.heap.size w w11 := hT10.trans (hB11.mono hT10.size)
  clear hT10
  have hz11 : w10.heap.size ≤ w11.heap.size := hB11.size
  clear hB11
  generalize hnI : (inter s t).length = nI at vI0 kI ⊢
  have HnI : Hid ((inter s t).length = nI) := hnI
  have hnI2 : nI ≤ 8192 := by omega
  clear hnI
  have Sl12 : w7.heap.size < w11.heap.size := by omega
  have Sc12 : (w11.alloc (Obj.cells #[Value.slice x2 nI y2] 29)).cell? ⟨w7.heap.size, 0, none⟩ = some (Value.slice x0 l0 y0) := by rw [World.cell?_alloc_past _ _ _ (by show w7.heap.size < _; omega)]; exact Sc11
  have Tl12 : w9.heap.size < w11.heap.size := by omega
  have Tc12 : (w11.alloc (Obj.cells #[Value.slice x2 nI y2] 29)).cell? ⟨w9.heap.size, 0, none⟩ = some (Value.slice x1 l1 y1) := by rw [World.cell?_alloc_past _ _ _ (by show w9.heap.size < _; omega)]; exact Tc11
  have bx12 : (w11.alloc (Obj.cells #[Value.slice x2 nI y2] 29)).cell? ⟨w11.heap.size, 0, none⟩ = some (Value.slice x2 nI y2) := by rw [World.cell?_alloc_at _ _ _ _ rfl]; rfl
  go_wp2_with fail
  have hB12 : Below w11.heap.size w11 (w11.alloc (Obj.cells #[Value.slice x2 nI y2] 29)) := (Below.refl _ _).alloc (Nat.le_refl _) _
  have hlt12 : w11.heap.size < (w11.alloc (Obj.cells #[Value.slice x2 nI y2] 29)).heap.size := by simp
  generalize w11.alloc (Obj.cells #[Value.slice x2 nI y2] 29) = w12 at bx12 hB12 hlt12 Sc12 Tc12 ⊢
  clear Sc11
  clear Tc11
  have vs12 := vs11.below hB12
  have vt12 := vt11.below hB12
  have vX12 := vX11.below hB12
  have vY12 := vY11.below hB12
  have vI12 := vI0.below hB12
  clear vs11
  clear vt11
  clear vX11
  clear vY11
  clear vI0
  have hT12 : Below w.heap.size w w12 := hT11.trans (hB12.mono hT11.size)
  clear hT11
  have hz12 : w11.heap.size ≤ w12.heap.size := hB12.size
  clear hB12
  refine (diff_walk x0 x1 l0 y0 l1 y1 s t w12 vX12 vY12 kY (by omega) (by omega) is it (by omega)).mono ?_
  rintro e w13 ⟨x3, y3, rfl, vD0, kD, hB13⟩
  have vs13 := vs12.below hB13
  have vt13 := vt12.below hB13
  have vX13 := vX12.below hB13
  have vY13 := vY12.below hB13
  have vI13 := vI12.below hB13
  clear vs12
  clear vt12
  clear vX12
  clear vY12
  clear vI12
  have Sc13 : w13.cell? ⟨w7.heap.size, 0, none⟩ = some (Value.slice x0 l0 y0) := (hB13.cell (p := ⟨w7.heap.size, 0, none⟩) (by show w7.heap.size < _; omega)).trans Sc12
  clear Sc12
  have Tc13 : w13.cell? ⟨w9.heap.size, 0, none⟩ = some (Value.slice x1 l1 y1) := (hB13.cell (p := ⟨w9.heap.size, 0, none⟩) (by show w9.heap.size < _; omega)).trans Tc12
  clear Tc12
  have Ic13 : w13.cell? ⟨w11.heap.size, 0, none⟩ = some (Value.slice x2 nI y2) := (hB13.cell (p := ⟨w11.heap.size, 0, none⟩) (by show w11.heap.size < _; omega)).trans bx12
  clear bx12
  have hT13 : Below w.heap.size w w13 := hT12.trans (hB13.mono hT12.size)
  clear hT12
  have hz13 : w12.heap.size ≤ w13.heap.size := hB13.size
  clear hB13
  generalize hnD : (diff s t).length = nD at vD0 kD ⊢
  have HnD : Hid ((diff s t).length = nD) := hnD
  have hnD2 : nD ≤ 16781312 := by omega
  clear hnD
  have Sl14 : w7.heap.size < w13.heap.size := by omega
  have Sc14 : (w13.alloc (Obj.cells #[Value.slice x3 nD y3] 29)).cell? ⟨w7.heap.size, 0, none⟩ = some (Value.slice x0 l0 y0) := by rw [World.cell?_alloc_past _ _ _ (by show w7.heap.size < _; omega)]; exact Sc13
  have Tl14 : w9.heap.size < w13.heap.size := by omega
  have Tc14 : (w13.alloc (Obj.cells #[Value.slice x3 nD y3] 29)).cell? ⟨w9.heap.size, 0, none⟩ = some (Value.slice x1 l1 y1) := by rw [World.cell?_alloc_past _ _ _ (by show w9.heap.size < _; omega)]; exact Tc13
  have Il14 : w11.heap.size < w13.heap.size := by omega
  have Ic14 : (w13.alloc (Obj.cells #[Value.slice x3 nD y3] 29)).cell? ⟨w11.heap.size, 0, none⟩ = some (Value.slice x2 nI y2) := by rw [World.cell?_alloc_past _ _ _ (by show w11.heap.size < _; omega)]; exact Ic13
  have bx14 : (w13.alloc (Obj.cells #[Value.slice x3 nD y3] 29)).cell? ⟨w13.heap.size, 0, none⟩ = some (Value.slice x3 nD y3) := by rw [World.cell?_alloc_at _ _ _ _ rfl]; rfl
  go_wp2_with fail
  have hB14 : Below w13.heap.size w13 (w13.alloc (Obj.cells #[Value.slice x3 nD y3] 29)) := (Below.refl _ _).alloc (Nat.le_refl _) _
  have hlt14 : w13.heap.size < (w13.alloc (Obj.cells #[Value.slice x3 nD y3] 29)).heap.size := by simp
  generalize w13.alloc (Obj.cells #[Value.slice x3 nD y3] 29) = w14 at bx14 hB14 hlt14 Sc14 Tc14 Ic14 ⊢
  clear Sc13
  clear Tc13
  clear Ic13
  have vs14 := vs13.below hB14
  have vt14 := vt13.below hB14
  have vX14 := vX13.below hB14
  have vY14 := vY13.below hB14
  have vI14 := vI13.below hB14
  have vD14 := vD0.below hB14
  clear vs13
  clear vt13
  clear vX13
  clear vY13
  clear vI13
  clear vD0
  have hT14 : Below w.heap.size w w14 := hT13.trans (hB14.mono hT13.size)
  clear hT13
  have hz14 : w13.heap.size ≤ w14.heap.size := hB14.size
  clear hB14
  refine (runs_any x2 nI y2 (inter s t) w14 vI14 (by omega)).mono ?_
  rintro e w15 ⟨p2, q2, rfl, vP0, nP, hB15⟩
  have vs15 := vs14.below hB15
  have vt15 := vt14.below hB15
  have vX15 := vX14.below hB15
  have vY15 := vY14.below hB15
  have vI15 := vI14.below hB15
  have vD15 := vD14.below hB15
  clear vs14
  clear vt14
  clear vX14
  clear vY14
  clear vI14
  clear vD14
  have Sc15 : w15.cell? ⟨w7.heap.size, 0, none⟩ = some (Value.slice x0 l0 y0) := (hB15.cell (p := ⟨w7.heap.size, 0, none⟩) (by show w7.heap.size < _; omega)).trans Sc14
  clear Sc14
  have Tc15 : w15.cell? ⟨w9.heap.size, 0, none⟩ = some (Value.slice x1 l1 y1) := (hB15.cell (p := ⟨w9.heap.size, 0, none⟩) (by show w9.heap.size < _; omega)).trans Tc14
  clear Tc14
  have Ic15 : w15.cell? ⟨w11.heap.size, 0, none⟩ = some (Value.slice x2 nI y2) := (hB15.cell (p := ⟨w11.heap.size, 0, none⟩) (by show w11.heap.size < _; omega)).trans Ic14
  clear Ic14
  have Dc15 : w15.cell? ⟨w13.heap.size, 0, none⟩ = some (Value.slice x3 nD y3) := (hB15.cell (p := ⟨w13.heap.size, 0, none⟩) (by show w13.heap.size < _; omega)).trans bx14
  clear bx14
  have hT15 : Below w.heap.size w w15 := hT14.trans (hB15.mono hT14.size)
  clear hT14
  have hz15 : w14.heap.size ≤ w15.heap.size := hB15.size
  clear hB15
  go_wp2_with fail
  refine (runs_any x3 nD y3 (diff s t) w15 vD15 (by omega)).mono ?_
  rintro e w16 ⟨p3, q3, rfl, vQ0, nQ, hB16⟩
  have vs16 := vs15.below hB16
  have vt16 := vt15.below hB16
  have vX16 := vX15.below hB16
  have vY16 := vY15.below hB16
  have vI16 := vI15.below hB16
  have vD16 := vD15.below hB16
  have vP16 := vP0.below hB16
  clear vs15
  clear vt15
  clear vX15
  clear vY15
  clear vI15
  clear vD15
  clear vP0
  have Sc16 : w16.cell? ⟨w7.heap.size, 0, none⟩ = some (Value.slice x0 l0 y0) := (hB16.cell (p := ⟨w7.heap.size, 0, none⟩) (by show w7.heap.size < _; omega)).trans Sc15
  clear Sc15
  have Tc16 : w16.cell? ⟨w9.heap.size, 0, none⟩ = some (Value.slice x1 l1 y1) := (hB16.cell (p := ⟨w9.heap.size, 0, none⟩) (by show w9.heap.size < _; omega)).trans Tc15
  clear Tc15
  have Ic16 : w16.cell? ⟨w11.heap.size, 0, none⟩ = some (Value.slice x2 nI y2) := (hB16.cell (p := ⟨w11.heap.size, 0, none⟩) (by show w11.heap.size < _; omega)).trans Ic15
  clear Ic15
  have Dc16 : w16.cell? ⟨w13.heap.size, 0, none⟩ = some (Value.slice x3 nD y3) := (hB16.cell (p := ⟨w13.heap.size, 0, none⟩) (by show w13.heap.size < _; omega)).trans Dc15
  clear Dc15
  have hT16 : Below w.heap.size w w16 := hT15.trans (hB16.mono hT15.size)
  clear hT15
  have hz16 : w15.heap.size ≤ w16.heap.size := hB16.size
  clear hB16
  go_wp2_with fail
  refine (canon_yes p2 nI q2 (inter s t) w16 vP16 (by omega) iI cI).mono ?_
  rintro e w17 ⟨rfl, hB17⟩
  have vs17 := vs16.below hB17
  have vt17 := vt16.below hB17
  have vX17 := vX16.below hB17
  have vY17 := vY16.below hB17
  have vI17 := vI16.below hB17
  have vD17 := vD16.below hB17
  have vP17 := vP16.below hB17
  have vQ17 := vQ0.below hB17
  clear vs16
  clear vt16
  clear vX16
  clear vY16
  clear vI16
  clear vD16
  clear vP16
  clear vQ0
  have Sc17 : w17.cell? ⟨w7.heap.size, 0, none⟩ = some (Value.slice x0 l0 y0) := (hB17.cell (p := ⟨w7.heap.size, 0, none⟩) (by show w7.heap.size < _; omega)).trans Sc16
  clear Sc16
  have Tc17 : w17.cell? ⟨w9.heap.size, 0, none⟩ = some (Value.slice x1 l1 y1) := (hB17.cell (p := ⟨w9.heap.size, 0, none⟩) (by show w9.heap.size < _; omega)).trans Tc16
  clear Tc16
  have Ic17 : w17.cell? ⟨w11.heap.size, 0, none⟩ = some (Value.slice x2 nI y2) := (hB17.cell (p := ⟨w11.heap.size, 0, none⟩) (by show w11.heap.size < _; omega)).trans Ic16
  clear Ic16
  have Dc17 : w17.cell? ⟨w13.heap.size, 0, none⟩ = some (Value.slice x3 nD y3) := (hB17.cell (p := ⟨w13.heap.size, 0, none⟩) (by show w13.heap.size < _; omega)).trans Dc16
  clear Dc16
  have hT17 : Below w.heap.size w w17 := hT16.trans (hB17.mono hT16.size)
  clear hT16
  have hz17 : w16.heap.size ≤ w17.heap.size := hB17.size
  clear hB17
  go_wp2_with fail
  refine (canon_yes p3 nD q3 (diff s t) w17 vQ17 (by omega) iD cD).mono ?_
  rintro e w18 ⟨rfl, hB18⟩
  have vs18 := vs17.below hB18
  have vt18 := vt17.below hB18
  have vX18 := vX17.below hB18
  have vY18 := vY17.below hB18
  have vI18 := vI17.below hB18
  have vD18 := vD17.below hB18
  have vP18 := vP17.below hB18
  have vQ18 := vQ17.below hB18
  clear vs17
  clear vt17
  clear vX17
  clear vY17
  clear vI17
  clear vD17
  clear vP17
  clear vQ17
  have Sc18 : w18.cell? ⟨w7.heap.size, 0, none⟩ = some (Value.slice x0 l0 y0) := (hB18.cell (p := ⟨w7.heap.size, 0, none⟩) (by show w7.heap.size < _; omega)).trans Sc17
  clear Sc17
  have Tc18 : w18.cell? ⟨w9.heap.size, 0, none⟩ = some (Value.slice x1 l1 y1) := (hB18.cell (p := ⟨w9.heap.size, 0, none⟩) (by show w9.heap.size < _; omega)).trans Tc17
  clear Tc17
  have Ic18 : w18.cell? ⟨w11.heap.size, 0, none⟩ = some (Value.slice x2 nI y2) := (hB18.cell (p := ⟨w11.heap.size, 0, none⟩) (by show w11.heap.size < _; omega)).trans Ic17
  clear Ic17
  have Dc18 : w18.cell? ⟨w13.heap.size, 0, none⟩ = some (Value.slice x3 nD y3) := (hB18.cell (p := ⟨w13.heap.size, 0, none⟩) (by show w13.heap.size < _; omega)).trans Dc17
  clear Dc17
  have hT18 : Below w.heap.size w w18 := hT17.trans (hB18.mono hT17.size)
  clear hT17
  have hz18 : w17.heap.size ≤ w18.heap.size := hB18.size
  clear hB18
  go_wp2_with fail
  refine (count_any p2 nI q2 (inter s t) w18 vP18 (by omega) iI).mono ?_
  rintro e w19 ⟨rfl, hB19⟩
  have vs19 := vs18.below hB19
  have vt19 := vt18.below hB19
  have vX19 := vX18.below hB19
  have vY19 := vY18.below hB19
  have vI19 := vI18.below hB19
  have vD19 := vD18.below hB19
  have vP19 := vP18.below hB19
  have vQ19 := vQ18.below hB19
  clear vs18
  clear vt18
  clear vX18
  clear vY18
  clear vI18
  clear vD18
  clear vP18
  clear vQ18
  have Sc19 : w19.cell? ⟨w7.heap.size, 0, none⟩ = some (Value.slice x0 l0 y0) := (hB19.cell (p := ⟨w7.heap.size, 0, none⟩) (by show w7.heap.size < _; omega)).trans Sc18
  clear Sc18
  have Tc19 : w19.cell? ⟨w9.heap.size, 0, none⟩ = some (Value.slice x1 l1 y1) := (hB19.cell (p := ⟨w9.heap.size, 0, none⟩) (by show w9.heap.size < _; omega)).trans Tc18
  clear Tc18
  have Ic19 : w19.cell? ⟨w11.heap.size, 0, none⟩ = some (Value.slice x2 nI y2) := (hB19.cell (p := ⟨w11.heap.size, 0, none⟩) (by show w11.heap.size < _; omega)).trans Ic18
  clear Ic18
  have Dc19 : w19.cell? ⟨w13.heap.size, 0, none⟩ = some (Value.slice x3 nD y3) := (hB19.cell (p := ⟨w13.heap.size, 0, none⟩) (by show w13.heap.size < _; omega)).trans Dc18
  clear Dc18
  have hT19 : Below w.heap.size w w19 := hT18.trans (hB19.mono hT18.size)
  clear hT18
  have hz19 : w18.heap.size ≤ w19.heap.size := hB19.size
  clear hB19
  go_wp2_with fail
  refine (count_any p3 nD q3 (diff s t) w19 vQ19 (by omega) iD).mono ?_
  rintro e w20 ⟨rfl, hB20⟩
  have vs20 := vs19.below hB20
  have vt20 := vt19.below hB20
  have vX20 := vX19.below hB20
  have vY20 := vY19.below hB20
  have vI20 := vI19.below hB20
  have vD20 := vD19.below hB20
  have vP20 := vP19.below hB20
  have vQ20 := vQ19.below hB20
  clear vs19
  clear vt19
  clear vX19
  clear vY19
  clear vI19
  clear vD19
  clear vP19
  clear vQ19
  have Sc20 : w20.cell? ⟨w7.heap.size, 0, none⟩ = some (Value.slice x0 l0 y0) := (hB20.cell (p := ⟨w7.heap.size, 0, none⟩) (by show w7.heap.size < _; omega)).trans Sc19
  clear Sc19
  have Tc20 : w20.cell? ⟨w9.heap.size, 0, none⟩ = some (Value.slice x1 l1 y1) := (hB20.cell (p := ⟨w9.heap.size, 0, none⟩) (by show w9.heap.size < _; omega)).trans Tc19
  clear Tc19
  have Ic20 : w20.cell? ⟨w11.heap.size, 0, none⟩ = some (Value.slice x2 nI y2) := (hB20.cell (p := ⟨w11.heap.size, 0, none⟩) (by show w11.heap.size < _; omega)).trans Ic19
  clear Ic19
  have Dc20 : w20.cell? ⟨w13.heap.size, 0, none⟩ = some (Value.slice x3 nD y3) := (hB20.cell (p := ⟨w13.heap.size, 0, none⟩) (by show w13.heap.size < _; omega)).trans Dc19
  clear Dc19
  have hT20 : Below w.heap.size w w20 := hT19.trans (hB20.mono hT19.size)
  clear hT19
  have hz20 : w19.heap.size ≤ w20.heap.size := hB20.size
  clear hB20
  go_wp2_with fail
  refine (count_any b0 l0 d0 s w20 vs20 (by omega) is).mono ?_
  rintro e w21 ⟨rfl, hB21⟩
  have vs21 := vs20.below hB21
  have vt21 := vt20.below hB21
  have vX21 := vX20.below hB21
  have vY21 := vY20.below hB21
  have vI21 := vI20.below hB21
  have vD21 := vD20.below hB21
  have vP21 := vP20.below hB21
  have vQ21 := vQ20.below hB21
  clear vs20
  clear vt20
  clear vX20
  clear vY20
  clear vI20
  clear vD20
  clear vP20
  clear vQ20
  have Sc21 : w21.cell? ⟨w7.heap.size, 0, none⟩ = some (Value.slice x0 l0 y0) := (hB21.cell (p := ⟨w7.heap.size, 0, none⟩) (by show w7.heap.size < _; omega)).trans Sc20
  clear Sc20
  have Tc21 : w21.cell? ⟨w9.heap.size, 0, none⟩ = some (Value.slice x1 l1 y1) := (hB21.cell (p := ⟨w9.heap.size, 0, none⟩) (by show w9.heap.size < _; omega)).trans Tc20
  clear Tc20
  have Ic21 : w21.cell? ⟨w11.heap.size, 0, none⟩ = some (Value.slice x2 nI y2) := (hB21.cell (p := ⟨w11.heap.size, 0, none⟩) (by show w11.heap.size < _; omega)).trans Ic20
  clear Ic20
  have Dc21 : w21.cell? ⟨w13.heap.size, 0, none⟩ = some (Value.slice x3 nD y3) := (hB21.cell (p := ⟨w13.heap.size, 0, none⟩) (by show w13.heap.size < _; omega)).trans Dc20
  clear Dc20
  have hT21 : Below w.heap.size w w21 := hT20.trans (hB21.mono hT20.size)
  clear hT20
  have hz21 : w20.heap.size ≤ w21.heap.size := hB21.size
  clear hB21
  go_wp2_with fail
  refine (inter_walk x2 x3 nI y2 nD y3 (inter s t) (diff s t) w21 vI21 vD21 (by omega) (by omega)).mono ?_
  rintro e w22 ⟨ra, ua, rfl, vEa, kEa, hB22⟩
  have vs22 := vs21.below hB22
  have vt22 := vt21.below hB22
  have vX22 := vX21.below hB22
  have vY22 := vY21.below hB22
  have vI22 := vI21.below hB22
  have vD22 := vD21.below hB22
  have vP22 := vP21.below hB22
  have vQ22 := vQ21.below hB22
  clear vs21
  clear vt21
  clear vX21
  clear vY21
  clear vI21
  clear vD21
  clear vP21
  clear vQ21
  have Sc22 : w22.cell? ⟨w7.heap.size, 0, none⟩ = some (Value.slice x0 l0 y0) := (hB22.cell (p := ⟨w7.heap.size, 0, none⟩) (by show w7.heap.size < _; omega)).trans Sc21
  clear Sc21
  have Tc22 : w22.cell? ⟨w9.heap.size, 0, none⟩ = some (Value.slice x1 l1 y1) := (hB22.cell (p := ⟨w9.heap.size, 0, none⟩) (by show w9.heap.size < _; omega)).trans Tc21
  clear Tc21
  have Ic22 : w22.cell? ⟨w11.heap.size, 0, none⟩ = some (Value.slice x2 nI y2) := (hB22.cell (p := ⟨w11.heap.size, 0, none⟩) (by show w11.heap.size < _; omega)).trans Ic21
  clear Ic21
  have Dc22 : w22.cell? ⟨w13.heap.size, 0, none⟩ = some (Value.slice x3 nD y3) := (hB22.cell (p := ⟨w13.heap.size, 0, none⟩) (by show w13.heap.size < _; omega)).trans Dc21
  clear Dc21
  have hT22 : Below w.heap.size w w22 := hT21.trans (hB22.mono hT21.size)
  clear hT21
  have hz22 : w21.heap.size ≤ w22.heap.size := hB22.size
  clear hB22
  rw [HE1.out] at vEa kEa ⊢
  go_wp2_with fail
  refine (runs_any ra 0 ua [] w22 vEa (by omega)).mono ?_
  rintro e w23 ⟨rra, uua, rfl, vEEa, nEa, hB23⟩
  have vs23 := vs22.below hB23
  have vt23 := vt22.below hB23
  have vX23 := vX22.below hB23
  have vY23 := vY22.below hB23
  have vI23 := vI22.below hB23
  have vD23 := vD22.below hB23
  have vP23 := vP22.below hB23
  have vQ23 := vQ22.below hB23
  have vEa23 := vEa.below hB23
  clear vs22
  clear vt22
  clear vX22
  clear vY22
  clear vI22
  clear vD22
  clear vP22
  clear vQ22
  clear vEa
  have Sc23 : w23.cell? ⟨w7.heap.size, 0, none⟩ = some (Value.slice x0 l0 y0) := (hB23.cell (p := ⟨w7.heap.size, 0, none⟩) (by show w7.heap.size < _; omega)).trans Sc22
  clear Sc22
  have Tc23 : w23.cell? ⟨w9.heap.size, 0, none⟩ = some (Value.slice x1 l1 y1) := (hB23.cell (p := ⟨w9.heap.size, 0, none⟩) (by show w9.heap.size < _; omega)).trans Tc22
  clear Tc22
  have Ic23 : w23.cell? ⟨w11.heap.size, 0, none⟩ = some (Value.slice x2 nI y2) := (hB23.cell (p := ⟨w11.heap.size, 0, none⟩) (by show w11.heap.size < _; omega)).trans Ic22
  clear Ic22
  have Dc23 : w23.cell? ⟨w13.heap.size, 0, none⟩ = some (Value.slice x3 nD y3) := (hB23.cell (p := ⟨w13.heap.size, 0, none⟩) (by show w13.heap.size < _; omega)).trans Dc22
  clear Dc22
  have hT23 : Below w.heap.size w w23 := hT22.trans (hB23.mono hT22.size)
  clear hT22
  have hz23 : w22.heap.size ≤ w23.heap.size := hB23.size
  clear hB23
  clear vEEa nEa kEa vEa23
  go_wp2_with fail
  refine (diff_walk x2 x1 nI y2 l1 y1 (inter s t) t w23 vI23 vY23 kY (by omega) (by omega) iI it (by rw [HE2.out]; simp)).mono ?_
  rintro e w24 ⟨rb, ub, rfl, vEb, kEb, hB24⟩
  have vs24 := vs23.below hB24
  have vt24 := vt23.below hB24
  have vX24 := vX23.below hB24
  have vY24 := vY23.below hB24
  have vI24 := vI23.below hB24
  have vD24 := vD23.below hB24
  have vP24 := vP23.below hB24
  have vQ24 := vQ23.below hB24
  clear vs23
  clear vt23
  clear vX23
  clear vY23
  clear vI23
  clear vD23
  clear vP23
  clear vQ23
  have Sc24 : w24.cell? ⟨w7.heap.size, 0, none⟩ = some (Value.slice x0 l0 y0) := (hB24.cell (p := ⟨w7.heap.size, 0, none⟩) (by show w7.heap.size < _; omega)).trans Sc23
  clear Sc23
  have Tc24 : w24.cell? ⟨w9.heap.size, 0, none⟩ = some (Value.slice x1 l1 y1) := (hB24.cell (p := ⟨w9.heap.size, 0, none⟩) (by show w9.heap.size < _; omega)).trans Tc23
  clear Tc23
  have Ic24 : w24.cell? ⟨w11.heap.size, 0, none⟩ = some (Value.slice x2 nI y2) := (hB24.cell (p := ⟨w11.heap.size, 0, none⟩) (by show w11.heap.size < _; omega)).trans Ic23
  clear Ic23
  have Dc24 : w24.cell? ⟨w13.heap.size, 0, none⟩ = some (Value.slice x3 nD y3) := (hB24.cell (p := ⟨w13.heap.size, 0, none⟩) (by show w13.heap.size < _; omega)).trans Dc23
  clear Dc23
  have hT24 : Below w.heap.size w w24 := hT23.trans (hB24.mono hT23.size)
  clear hT23
  have hz24 : w23.heap.size ≤ w24.heap.size := hB24.size
  clear hB24
  rw [HE2.out] at vEb kEb ⊢
  go_wp2_with fail
  refine (runs_any rb 0 ub [] w24 vEb (by omega)).mono ?_
  rintro e w25 ⟨rrb, uub, rfl, vEEb, nEb, hB25⟩
  have vs25 := vs24.below hB25
  have vt25 := vt24.below hB25
  have vX25 := vX24.below hB25
  have vY25 := vY24.below hB25
  have vI25 := vI24.below hB25
  have vD25 := vD24.below hB25
  have vP25 := vP24.below hB25
  have vQ25 := vQ24.below hB25
  have vEb25 := vEb.below hB25
  clear vs24
  clear vt24
  clear vX24
  clear vY24
  clear vI24
  clear vD24
  clear vP24
  clear vQ24
  clear vEb
  have Sc25 : w25.cell? ⟨w7.heap.size, 0, none⟩ = some (Value.slice x0 l0 y0) := (hB25.cell (p := ⟨w7.heap.size, 0, none⟩) (by show w7.heap.size < _; omega)).trans Sc24
  clear Sc24
  have Tc25 : w25.cell? ⟨w9.heap.size, 0, none⟩ = some (Value.slice x1 l1 y1) := (hB25.cell (p := ⟨w9.heap.size, 0, none⟩) (by show w9.heap.size < _; omega)).trans Tc24
  clear Tc24
  have Ic25 : w25.cell? ⟨w11.heap.size, 0, none⟩ = some (Value.slice x2 nI y2) := (hB25.cell (p := ⟨w11.heap.size, 0, none⟩) (by show w11.heap.size < _; omega)).trans Ic24
  clear Ic24
  have Dc25 : w25.cell? ⟨w13.heap.size, 0, none⟩ = some (Value.slice x3 nD y3) := (hB25.cell (p := ⟨w13.heap.size, 0, none⟩) (by show w13.heap.size < _; omega)).trans Dc24
  clear Dc24
  have hT25 : Below w.heap.size w w25 := hT24.trans (hB25.mono hT24.size)
  clear hT24
  have hz25 : w24.heap.size ≤ w25.heap.size := hB25.size
  clear hB25
  clear vEEb nEb kEb vEb25
  go_wp2_with fail
  refine (inter_walk x3 x1 nD y3 l1 y1 (diff s t) t w25 vD25 vY25 (by omega) (by omega)).mono ?_
  rintro e w26 ⟨rc, uc, rfl, vEc, kEc, hB26⟩
  have vs26 := vs25.below hB26
  have vt26 := vt25.below hB26
  have vX26 := vX25.below hB26
  have vY26 := vY25.below hB26
  have vI26 := vI25.below hB26
  have vD26 := vD25.below hB26
  have vP26 := vP25.below hB26
  have vQ26 := vQ25.below hB26
  clear vs25
  clear vt25
  clear vX25
  clear vY25
  clear vI25
  clear vD25
  clear vP25
  clear vQ25
  have Sc26 : w26.cell? ⟨w7.heap.size, 0, none⟩ = some (Value.slice x0 l0 y0) := (hB26.cell (p := ⟨w7.heap.size, 0, none⟩) (by show w7.heap.size < _; omega)).trans Sc25
  clear Sc25
  have Tc26 : w26.cell? ⟨w9.heap.size, 0, none⟩ = some (Value.slice x1 l1 y1) := (hB26.cell (p := ⟨w9.heap.size, 0, none⟩) (by show w9.heap.size < _; omega)).trans Tc25
  clear Tc25
  have Ic26 : w26.cell? ⟨w11.heap.size, 0, none⟩ = some (Value.slice x2 nI y2) := (hB26.cell (p := ⟨w11.heap.size, 0, none⟩) (by show w11.heap.size < _; omega)).trans Ic25
  clear Ic25
  have Dc26 : w26.cell? ⟨w13.heap.size, 0, none⟩ = some (Value.slice x3 nD y3) := (hB26.cell (p := ⟨w13.heap.size, 0, none⟩) (by show w13.heap.size < _; omega)).trans Dc25
  clear Dc25
  have hT26 : Below w.heap.size w w26 := hT25.trans (hB26.mono hT25.size)
  clear hT25
  have hz26 : w25.heap.size ≤ w26.heap.size := hB26.size
  clear hB26
  rw [HE3.out] at vEc kEc ⊢
  go_wp2_with fail
  refine (runs_any rc 0 uc [] w26 vEc (by omega)).mono ?_
  rintro e w27 ⟨rrc, uuc, rfl, vEEc, nEc, hB27⟩
  have vs27 := vs26.below hB27
  have vt27 := vt26.below hB27
  have vX27 := vX26.below hB27
  have vY27 := vY26.below hB27
  have vI27 := vI26.below hB27
  have vD27 := vD26.below hB27
  have vP27 := vP26.below hB27
  have vQ27 := vQ26.below hB27
  have vEc27 := vEc.below hB27
  clear vs26
  clear vt26
  clear vX26
  clear vY26
  clear vI26
  clear vD26
  clear vP26
  clear vQ26
  clear vEc
  have Sc27 : w27.cell? ⟨w7.heap.size, 0, none⟩ = some (Value.slice x0 l0 y0) := (hB27.cell (p := ⟨w7.heap.size, 0, none⟩) (by show w7.heap.size < _; omega)).trans Sc26
  clear Sc26
  have Tc27 : w27.cell? ⟨w9.heap.size, 0, none⟩ = some (Value.slice x1 l1 y1) := (hB27.cell (p := ⟨w9.heap.size, 0, none⟩) (by show w9.heap.size < _; omega)).trans Tc26
  clear Tc26
  have Ic27 : w27.cell? ⟨w11.heap.size, 0, none⟩ = some (Value.slice x2 nI y2) := (hB27.cell (p := ⟨w11.heap.size, 0, none⟩) (by show w11.heap.size < _; omega)).trans Ic26
  clear Ic26
  have Dc27 : w27.cell? ⟨w13.heap.size, 0, none⟩ = some (Value.slice x3 nD y3) := (hB27.cell (p := ⟨w13.heap.size, 0, none⟩) (by show w13.heap.size < _; omega)).trans Dc26
  clear Dc26
  have hT27 : Below w.heap.size w w27 := hT26.trans (hB27.mono hT26.size)
  clear hT26
  have hz27 : w26.heap.size ≤ w27.heap.size := hB27.size
  clear hB27
  clear vEEc nEc kEc vEc27
  go_wp2_with fail
  refine (diff_walk x0 x2 l0 y0 nI y2 s (inter s t) w27 vX27 vI27 kI (by omega) (by omega) is iI (by rw [HE4.out]; omega)).mono ?_
  rintro e w28 ⟨re, ue, rfl, vEe, kEe, hB28⟩
  have vs28 := vs27.below hB28
  have vt28 := vt27.below hB28
  have vX28 := vX27.below hB28
  have vY28 := vY27.below hB28
  have vI28 := vI27.below hB28
  have vD28 := vD27.below hB28
  have vP28 := vP27.below hB28
  have vQ28 := vQ27.below hB28
  clear vs27
  clear vt27
  clear vX27
  clear vY27
  clear vI27
  clear vD27
  clear vP27
  clear vQ27
  have Sc28 : w28.cell? ⟨w7.heap.size, 0, none⟩ = some (Value.slice x0 l0 y0) := (hB28.cell (p := ⟨w7.heap.size, 0, none⟩) (by show w7.heap.size < _; omega)).trans Sc27
  clear Sc27
  have Tc28 : w28.cell? ⟨w9.heap.size, 0, none⟩ = some (Value.slice x1 l1 y1) := (hB28.cell (p := ⟨w9.heap.size, 0, none⟩) (by show w9.heap.size < _; omega)).trans Tc27
  clear Tc27
  have Ic28 : w28.cell? ⟨w11.heap.size, 0, none⟩ = some (Value.slice x2 nI y2) := (hB28.cell (p := ⟨w11.heap.size, 0, none⟩) (by show w11.heap.size < _; omega)).trans Ic27
  clear Ic27
  have Dc28 : w28.cell? ⟨w13.heap.size, 0, none⟩ = some (Value.slice x3 nD y3) := (hB28.cell (p := ⟨w13.heap.size, 0, none⟩) (by show w13.heap.size < _; omega)).trans Dc27
  clear Dc27
  have hT28 : Below w.heap.size w w28 := hT27.trans (hB28.mono hT27.size)
  clear hT27
  have hz28 : w27.heap.size ≤ w28.heap.size := hB28.size
  clear hB28
  rw [HE4.out, HnD.out] at vEe kEe ⊢
  go_wp2_with fail
  refine (runs_any re nD ue (diff s t) w28 vEe (by omega)).mono ?_
  rintro e w29 ⟨rre, uue, rfl, vF0, nF, hB29⟩
  have vs29 := vs28.below hB29
  have vt29 := vt28.below hB29
  have vX29 := vX28.below hB29
  have vY29 := vY28.below hB29
  have vI29 := vI28.below hB29
  have vD29 := vD28.below hB29
  have vP29 := vP28.below hB29
  have vQ29 := vQ28.below hB29
  have vEe29 := vEe.below hB29
  clear vs28
  clear vt28
  clear vX28
  clear vY28
  clear vI28
  clear vD28
  clear vP28
  clear vQ28
  clear vEe
  have Sc29 : w29.cell? ⟨w7.heap.size, 0, none⟩ = some (Value.slice x0 l0 y0) := (hB29.cell (p := ⟨w7.heap.size, 0, none⟩) (by show w7.heap.size < _; omega)).trans Sc28
  clear Sc28
  have Tc29 : w29.cell? ⟨w9.heap.size, 0, none⟩ = some (Value.slice x1 l1 y1) := (hB29.cell (p := ⟨w9.heap.size, 0, none⟩) (by show w9.heap.size < _; omega)).trans Tc28
  clear Tc28
  have Ic29 : w29.cell? ⟨w11.heap.size, 0, none⟩ = some (Value.slice x2 nI y2) := (hB29.cell (p := ⟨w11.heap.size, 0, none⟩) (by show w11.heap.size < _; omega)).trans Ic28
  clear Ic28
  have Dc29 : w29.cell? ⟨w13.heap.size, 0, none⟩ = some (Value.slice x3 nD y3) := (hB29.cell (p := ⟨w13.heap.size, 0, none⟩) (by show w13.heap.size < _; omega)).trans Dc28
  clear Dc28
  have hT29 : Below w.heap.size w w29 := hT28.trans (hB29.mono hT28.size)
  clear hT28
  have hz29 : w28.heap.size ≤ w29.heap.size := hB29.size
  clear hB29
  go_wp2_with fail
  refine (sameRuns_yes rre p3 nD uue q3 (diff s t) w29 vF0 vQ29 (by omega)).mono ?_
  rintro e w30 ⟨rfl, hB30⟩
  have vs30 := vs29.below hB30
  have vt30 := vt29.below hB30
  have vX30 := vX29.below hB30
  have vY30 := vY29.below hB30
  have vI30 := vI29.below hB30
  have vD30 := vD29.below hB30
  have vP30 := vP29.below hB30
  have vQ30 := vQ29.below hB30
  have vEe30 := vEe29.below hB30
  have vF30 := vF0.below hB30
  clear vs29
  clear vt29
  clear vX29
  clear vY29
  clear vI29
  clear vD29
  clear vP29
  clear vQ29
  clear vEe29
  clear vF0
  have Sc30 : w30.cell? ⟨w7.heap.size, 0, none⟩ = some (Value.slice x0 l0 y0) := (hB30.cell (p := ⟨w7.heap.size, 0, none⟩) (by show w7.heap.size < _; omega)).trans Sc29
  clear Sc29
  have Tc30 : w30.cell? ⟨w9.heap.size, 0, none⟩ = some (Value.slice x1 l1 y1) := (hB30.cell (p := ⟨w9.heap.size, 0, none⟩) (by show w9.heap.size < _; omega)).trans Tc29
  clear Tc29
  have Ic30 : w30.cell? ⟨w11.heap.size, 0, none⟩ = some (Value.slice x2 nI y2) := (hB30.cell (p := ⟨w11.heap.size, 0, none⟩) (by show w11.heap.size < _; omega)).trans Ic29
  clear Ic29
  have Dc30 : w30.cell? ⟨w13.heap.size, 0, none⟩ = some (Value.slice x3 nD y3) := (hB30.cell (p := ⟨w13.heap.size, 0, none⟩) (by show w13.heap.size < _; omega)).trans Dc29
  clear Dc29
  have hT30 : Below w.heap.size w w30 := hT29.trans (hB30.mono hT29.size)
  clear hT29
  have hz30 : w29.heap.size ≤ w30.heap.size := hB30.size
  clear hB30
  go_wp2_with fail
  refine (diff_walk x0 x3 l0 y0 nD y3 s (diff s t) w30 vX30 vD30 kD (by omega) (by omega) is iD (by rw [HE5.out]; omega)).mono ?_
  rintro e w31 ⟨rg, ug, rfl, vEg, kEg, hB31⟩
  have vs31 := vs30.below hB31
  have vt31 := vt30.below hB31
  have vX31 := vX30.below hB31
  have vY31 := vY30.below hB31
  have vI31 := vI30.below hB31
  have vD31 := vD30.below hB31
  have vP31 := vP30.below hB31
  have vQ31 := vQ30.below hB31
  have vEe31 := vEe30.below hB31
  have vF31 := vF30.below hB31
  clear vs30
  clear vt30
  clear vX30
  clear vY30
  clear vI30
  clear vD30
  clear vP30
  clear vQ30
  clear vEe30
  clear vF30
  have Sc31 : w31.cell? ⟨w7.heap.size, 0, none⟩ = some (Value.slice x0 l0 y0) := (hB31.cell (p := ⟨w7.heap.size, 0, none⟩) (by show w7.heap.size < _; omega)).trans Sc30
  clear Sc30
  have Tc31 : w31.cell? ⟨w9.heap.size, 0, none⟩ = some (Value.slice x1 l1 y1) := (hB31.cell (p := ⟨w9.heap.size, 0, none⟩) (by show w9.heap.size < _; omega)).trans Tc30
  clear Tc30
  have Ic31 : w31.cell? ⟨w11.heap.size, 0, none⟩ = some (Value.slice x2 nI y2) := (hB31.cell (p := ⟨w11.heap.size, 0, none⟩) (by show w11.heap.size < _; omega)).trans Ic30
  clear Ic30
  have Dc31 : w31.cell? ⟨w13.heap.size, 0, none⟩ = some (Value.slice x3 nD y3) := (hB31.cell (p := ⟨w13.heap.size, 0, none⟩) (by show w13.heap.size < _; omega)).trans Dc30
  clear Dc30
  have hT31 : Below w.heap.size w w31 := hT30.trans (hB31.mono hT30.size)
  clear hT30
  have hz31 : w30.heap.size ≤ w31.heap.size := hB31.size
  clear hB31
  rw [HE5.out, HnI.out] at vEg kEg ⊢
  go_wp2_with fail
  refine (runs_any rg nI ug (inter s t) w31 vEg (by omega)).mono ?_
  rintro e w32 ⟨rrg, uug, rfl, vH0, nH, hB32⟩
  have vs32 := vs31.below hB32
  have vt32 := vt31.below hB32
  have vX32 := vX31.below hB32
  have vY32 := vY31.below hB32
  have vI32 := vI31.below hB32
  have vD32 := vD31.below hB32
  have vP32 := vP31.below hB32
  have vQ32 := vQ31.below hB32
  have vEe32 := vEe31.below hB32
  have vF32 := vF31.below hB32
  have vEg32 := vEg.below hB32
  clear vs31
  clear vt31
  clear vX31
  clear vY31
  clear vI31
  clear vD31
  clear vP31
  clear vQ31
  clear vEe31
  clear vF31
  clear vEg
  have Sc32 : w32.cell? ⟨w7.heap.size, 0, none⟩ = some (Value.slice x0 l0 y0) := (hB32.cell (p := ⟨w7.heap.size, 0, none⟩) (by show w7.heap.size < _; omega)).trans Sc31
  clear Sc31
  have Tc32 : w32.cell? ⟨w9.heap.size, 0, none⟩ = some (Value.slice x1 l1 y1) := (hB32.cell (p := ⟨w9.heap.size, 0, none⟩) (by show w9.heap.size < _; omega)).trans Tc31
  clear Tc31
  have Ic32 : w32.cell? ⟨w11.heap.size, 0, none⟩ = some (Value.slice x2 nI y2) := (hB32.cell (p := ⟨w11.heap.size, 0, none⟩) (by show w11.heap.size < _; omega)).trans Ic31
  clear Ic31
  have Dc32 : w32.cell? ⟨w13.heap.size, 0, none⟩ = some (Value.slice x3 nD y3) := (hB32.cell (p := ⟨w13.heap.size, 0, none⟩) (by show w13.heap.size < _; omega)).trans Dc31
  clear Dc31
  have hT32 : Below w.heap.size w w32 := hT31.trans (hB32.mono hT31.size)
  clear hT31
  have hz32 : w31.heap.size ≤ w32.heap.size := hB32.size
  clear hB32
  go_wp2_with fail
  refine (sameRuns_yes rrg p2 nI uug q2 (inter s t) w32 vH0 vP32 (by omega)).mono ?_
  rintro e w33 ⟨rfl, hB33⟩
  have vs33 := vs32.below hB33
  have vt33 := vt32.below hB33
  have vX33 := vX32.below hB33
  have vY33 := vY32.below hB33
  have vI33 := vI32.below hB33
  have vD33 := vD32.below hB33
  have vP33 := vP32.below hB33
  have vQ33 := vQ32.below hB33
  have vEe33 := vEe32.below hB33
  have vF33 := vF32.below hB33
  have vEg33 := vEg32.below hB33
  have vH33 := vH0.below hB33
  clear vs32
  clear vt32
  clear vX32
  clear vY32
  clear vI32
  clear vD32
  clear vP32
  clear vQ32
  clear vEe32
  clear vF32
  clear vEg32
  clear vH0
  have Sc33 : w33.cell? ⟨w7.heap.size, 0, none⟩ = some (Value.slice x0 l0 y0) := (hB33.cell (p := ⟨w7.heap.size, 0, none⟩) (by show w7.heap.size < _; omega)).trans Sc32
  clear Sc32
  have Tc33 : w33.cell? ⟨w9.heap.size, 0, none⟩ = some (Value.slice x1 l1 y1) := (hB33.cell (p := ⟨w9.heap.size, 0, none⟩) (by show w9.heap.size < _; omega)).trans Tc32
  clear Tc32
  have Ic33 : w33.cell? ⟨w11.heap.size, 0, none⟩ = some (Value.slice x2 nI y2) := (hB33.cell (p := ⟨w11.heap.size, 0, none⟩) (by show w11.heap.size < _; omega)).trans Ic32
  clear Ic32
  have Dc33 : w33.cell? ⟨w13.heap.size, 0, none⟩ = some (Value.slice x3 nD y3) := (hB33.cell (p := ⟨w13.heap.size, 0, none⟩) (by show w13.heap.size < _; omega)).trans Dc32
  clear Dc32
  have hT33 : Below w.heap.size w w33 := hT32.trans (hB33.mono hT32.size)
  clear hT32
  have hz33 : w32.heap.size ≤ w33.heap.size := hB33.size
  clear hB33
  go_wp2
  go_ret
  exact ⟨rfl, hT33⟩

end Go.Proofs.Qxb6617965a
