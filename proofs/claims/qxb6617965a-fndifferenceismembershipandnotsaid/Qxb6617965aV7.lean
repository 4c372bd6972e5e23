import Derived.Test.Qxb6617965aV6
namespace Go.Proofs.Qxb6617965a
open Go.RowKit Cpu

theorem diff_len_le {s t : List (Int × Int)} {l0 l1 : Nat} (h0 : s.length = l0) (h1 : t.length = l1) (m0 : l0 ≤ 4096) (m1 : l1 ≤ 4096) : (diff s t).length ≤ 16781312 := by
  have h := diff_length s t
  rw [h0, h1] at h
  have h2 : l0 * (l1 + 1) ≤ 4096 * 4097 := Nat.mul_le_mul m0 (by omega)
  omega

set_option maxHeartbeats 1000000 in
set_option maxRecDepth 100000 in
theorem law3_main (a0 a1 : Option Addr) (l0 c0 l1 c1 : Nat) (s t : List (Int × Int)) (w : World) (hv_s : View w a0 l0 s) (hv_t : View w a1 l1 t) (n0 : a0 = none → c0 = 0) (n1 : a1 = none → c1 = 0) (m0 : l0 ≤ 4096) (m1 : l1 ≤ 4096) (is : InR s) (it : InR t) (cs : Canon s) (ct : Canon t) :
    Calls Try.prog 3 #[.slice a0 l0 c0, .slice a1 l1 c1] w fun e w' => e = .returned (.bool true) ∧ Below w.heap.size w w' := by
  have hlen : (inter s t).length ≤ 8192 := by have := inter_length s t; rw [hv_s.1, hv_t.1] at this; omega
  have ir := inter_inR cs ct is
  have cr := (inter_both s t cs ct).1
  have hw : ∀ p, memB (inter s t) p = want 1 (memB s p) (memB t p) := fun p => by rw [inter_memB cs ct]; rfl
  go_enter Try.func3, Try.ntmps3
  go_wp2_with fail
  refine (bytes7_yes a0 a1 l0 c0 l1 c1 w (by omega)).mono ?_
  rintro e w' ⟨rfl, rfl⟩
  go_wp2_with fail
  refine (inRange_yes a0 l0 c0 s w hv_s (by omega) is).mono ?_
  rintro e w1 ⟨rfl, hB1⟩
  have vs1 := hv_s.below hB1
  have vt1 := hv_t.below hB1
  have hT1 : Below w.heap.size w w1 := hB1
  have hz1 : w.heap.size ≤ w1.heap.size := hB1.size
  clear hB1
  go_wp2_with fail
  refine (canon_yes a0 l0 c0 s w1 vs1 (by omega) is cs).mono ?_
  rintro e w2 ⟨rfl, hB2⟩
  have vs2 := vs1.below hB2
  have vt2 := vt1.below hB2
  clear vs1
  clear vt1
  have hT2 : Below w.heap.size w w2 := hT1.trans (hB2.mono hT1.size)
  clear hT1
  have hz2 : w1.heap.size ≤ w2.heap.size := hB2.size
  clear hB2
  go_wp2_with fail
  refine (inRange_yes a1 l1 c1 t w2 vt2 (by omega) it).mono ?_
  rintro e w3 ⟨rfl, hB3⟩
  have vs3 := vs2.below hB3
  have vt3 := vt2.below hB3
  clear vs2
  clear vt2
  have hT3 : Below w.heap.size w w3 := hT2.trans (hB3.mono hT2.size)
  clear hT2
  have hz3 : w2.heap.size ≤ w3.heap.size := hB3.size
  clear hB3
  go_wp2_with fail
  refine (canon_yes a1 l1 c1 t w3 vt3 (by omega) it ct).mono ?_
  rintro e w4 ⟨rfl, hB4⟩
  have vs4 := vs3.below hB4
  have vt4 := vt3.below hB4
  clear vs3
  clear vt3
  have hT4 : Below w.heap.size w w4 := hT3.trans (hB4.mono hT3.size)
  clear hT3
  have hz4 : w3.heap.size ≤ w4.heap.size := hB4.size
  clear hB4
  go_wp2_with fail
  refine (clone_any a0 l0 c0 s w4 vs4 (by omega) n0).mono ?_
  rintro e w5 ⟨b0, d0, rfl, vS0, nb0, hB5⟩
  have vs5 := vs4.below hB5
  have vt5 := vt4.below hB5
  clear vs4
  clear vt4
  have hT5 : Below w.heap.size w w5 := hT4.trans (hB5.mono hT4.size)
  clear hT4
  have hz5 : w4.heap.size ≤ w5.heap.size := hB5.size
  clear hB5
  clear vs5
  go_wp2_with fail
  refine (clone_any a1 l1 c1 t w5 vt5 (by omega) n1).mono ?_
  rintro e w6 ⟨b1, d1, rfl, vT0, nb1, hB6⟩
  have vs6 := vS0.below hB6
  have vt6 := vt5.below hB6
  clear vS0
  clear vt5
  have hT6 : Below w.heap.size w w6 := hT5.trans (hB6.mono hT5.size)
  clear hT5
  have hz6 : w5.heap.size ≤ w6.heap.size := hB6.size
  clear hB6
  clear vt6
  go_wp2_with fail
  refine (make_any b0 l0 d0 s w6 vs6 (by omega) nb0).mono ?_
  rintro e w7 ⟨x0, y0, rfl, vX0, kX, hB7⟩
  have vs7 := vs6.below hB7
  have vt7 := vT0.below hB7
  clear vs6
  clear vT0
  have hT7 : Below w.heap.size w w7 := hT6.trans (hB7.mono hT6.size)
  clear hT6
  have hz7 : w6.heap.size ≤ w7.heap.size := hB7.size
  clear hB7
  go_wp2_with fail
  refine (make_any b1 l1 d1 t w7 vt7 (by omega) nb1).mono ?_
  rintro e w8 ⟨x1, y1, rfl, vY0, kY, hB8⟩
  have vs8 := vs7.below hB8
  have vt8 := vt7.below hB8
  have vX8 := vX0.below hB8
  clear vs7
  clear vt7
  clear vX0
  have hT8 : Below w.heap.size w w8 := hT7.trans (hB8.mono hT7.size)
  clear hT7
  have hz8 : w7.heap.size ≤ w8.heap.size := hB8.size
  clear hB8
  go_wp2_with fail
  refine (inter_walk x0 x1 l0 y0 l1 y1 s t w8 vX8 vY0 (by omega) (by omega)).mono ?_
  rintro e w9 ⟨x2, y2, rfl, vR0, kR, hB9⟩
  have vs9 := vs8.below hB9
  have vt9 := vt8.below hB9
  have vX9 := vX8.below hB9
  have vY9 := vY0.below hB9
  clear vs8
  clear vt8
  clear vX8
  clear vY0
  have hT9 : Below w.heap.size w w9 := hT8.trans (hB9.mono hT8.size)
  clear hT8
  have hz9 : w8.heap.size ≤ w9.heap.size := hB9.size
  clear hB9
  go_wp2_with fail
  refine (runs_any x2 _ y2 (inter s t) w9 vR0 (by omega)).mono ?_
  rintro e w10 ⟨x3, y3, rfl, vQ0, nQ, hB10⟩
  have vs10 := vs9.below hB10
  have vt10 := vt9.below hB10
  have vX10 := vX9.below hB10
  have vY10 := vY9.below hB10
  have vR10 := vR0.below hB10
  clear vs9
  clear vt9
  clear vX9
  clear vY9
  clear vR0
  have hT10 : Below w.heap.size w w10 := hT9.trans (hB10.mono hT9.size)
  clear hT9
  have hz10 : w9.heap.size ≤ w10.heap.size := hB10.size
  clear hB10
  go_wp2_with fail
  refine (exactly_yes 1 b0 b1 x3 l0 d0 l1 d1 _ y3 s t (inter s t) w10 (.inl rfl) vs10 vt10 vQ0 (by omega) (by omega) (by omega) is it ir cs ct cr hw).mono ?_
  rintro e w11 ⟨rfl, hB11⟩
  have vs11 := vs10.below hB11
  have vt11 := vt10.below hB11
  have vX11 := vX10.below hB11
  have vY11 := vY10.below hB11
  have vR11 := vR10.below hB11
  have vQ11 := vQ0.below hB11
  clear vs10
  clear vt10
  clear vX10
  clear vY10
  clear vR10
  clear vQ0
  have hT11 : Below w.heap.size w w11 := hT10.trans (hB11.mono hT10.size)
  clear hT10
  have hz11 : w10.heap.size ≤ w11.heap.size := hB11.size
  clear hB11
  go_wp2
  go_ret
  exact ⟨rfl, hT11⟩

set_option maxHeartbeats 1000000 in
set_option maxRecDepth 100000 in
theorem law4_main (a0 a1 : Option Addr) (l0 c0 l1 c1 : Nat) (s t : List (Int × Int)) (w : World) (hv_s : View w a0 l0 s) (hv_t : View w a1 l1 t) (n0 : a0 = none → c0 = 0) (n1 : a1 = none → c1 = 0) (m0 : l0 ≤ 4096) (m1 : l1 ≤ 4096) (is : InR s) (it : InR t) (cs : Canon s) (ct : Canon t) :
    Calls Try.prog 4 #[.slice a0 l0 c0, .slice a1 l1 c1] w fun e w' => e = .returned (.bool true) ∧ Below w.heap.size w w' := by
  have hlen : (diff s t).length ≤ 16781312 := diff_len_le hv_s.1 hv_t.1 m0 m1
  have ir := diff_inR cs ct is
  have cr := (diff_both s t cs ct).1
  have hw : ∀ p, memB (diff s t) p = want 2 (memB s p) (memB t p) := fun p => by rw [diff_memB cs ct]; rfl
  go_enter Try.func4, Try.ntmps4
  go_wp2_with fail
  refine (bytes15_yes a0 a1 l0 c0 l1 c1 w (by omega)).mono ?_
  rintro e w' ⟨rfl, rfl⟩
  go_wp2_with fail
  refine (inRange_yes a0 l0 c0 s w hv_s (by omega) is).mono ?_
  rintro e w1 ⟨rfl, hB1⟩
  have vs1 := hv_s.below hB1
  have vt1 := hv_t.below hB1
  have hT1 : Below w.heap.size w w1 := hB1
  have hz1 : w.heap.size ≤ w1.heap.size := hB1.size
  clear hB1
  go_wp2_with fail
  refine (canon_yes a0 l0 c0 s w1 vs1 (by omega) is cs).mono ?_
  rintro e w2 ⟨rfl, hB2⟩
  have vs2 := vs1.below hB2
  have vt2 := vt1.below hB2
  clear vs1
  clear vt1
  have hT2 : Below w.heap.size w w2 := hT1.trans (hB2.mono hT1.size)
  clear hT1
  have hz2 : w1.heap.size ≤ w2.heap.size := hB2.size
  clear hB2
  go_wp2_with fail
  refine (inRange_yes a1 l1 c1 t w2 vt2 (by omega) it).mono ?_
  rintro e w3 ⟨rfl, hB3⟩
  have vs3 := vs2.below hB3
  have vt3 := vt2.below hB3
  clear vs2
  clear vt2
  have hT3 : Below w.heap.size w w3 := hT2.trans (hB3.mono hT2.size)
  clear hT2
  have hz3 : w2.heap.size ≤ w3.heap.size := hB3.size
  clear hB3
  go_wp2_with fail
  refine (canon_yes a1 l1 c1 t w3 vt3 (by omega) it ct).mono ?_
  rintro e w4 ⟨rfl, hB4⟩
  have vs4 := vs3.below hB4
  have vt4 := vt3.below hB4
  clear vs3
  clear vt3
  have hT4 : Below w.heap.size w w4 := hT3.trans (hB4.mono hT3.size)
  clear hT3
  have hz4 : w3.heap.size ≤ w4.heap.size := hB4.size
  clear hB4
  go_wp2_with fail
  refine (clone_any a0 l0 c0 s w4 vs4 (by omega) n0).mono ?_
  rintro e w5 ⟨b0, d0, rfl, vS0, nb0, hB5⟩
  have vs5 := vs4.below hB5
  have vt5 := vt4.below hB5
  clear vs4
  clear vt4
  have hT5 : Below w.heap.size w w5 := hT4.trans (hB5.mono hT4.size)
  clear hT4
  have hz5 : w4.heap.size ≤ w5.heap.size := hB5.size
  clear hB5
  clear vs5
  go_wp2_with fail
  refine (clone_any a1 l1 c1 t w5 vt5 (by omega) n1).mono ?_
  rintro e w6 ⟨b1, d1, rfl, vT0, nb1, hB6⟩
  have vs6 := vS0.below hB6
  have vt6 := vt5.below hB6
  clear vS0
  clear vt5
  have hT6 : Below w.heap.size w w6 := hT5.trans (hB6.mono hT5.size)
  clear hT5
  have hz6 : w5.heap.size ≤ w6.heap.size := hB6.size
  clear hB6
  clear vt6
  go_wp2_with fail
  refine (make_any b0 l0 d0 s w6 vs6 (by omega) nb0).mono ?_
  rintro e w7 ⟨x0, y0, rfl, vX0, kX, hB7⟩
  have vs7 := vs6.below hB7
  have vt7 := vT0.below hB7
  clear vs6
  clear vT0
  have hT7 : Below w.heap.size w w7 := hT6.trans (hB7.mono hT6.size)
  clear hT6
  have hz7 : w6.heap.size ≤ w7.heap.size := hB7.size
  clear hB7
  go_wp2_with fail
  refine (make_any b1 l1 d1 t w7 vt7 (by omega) nb1).mono ?_
  rintro e w8 ⟨x1, y1, rfl, vY0, kY, hB8⟩
  have vs8 := vs7.below hB8
  have vt8 := vt7.below hB8
  have vX8 := vX0.below hB8
  clear vs7
  clear vt7
  clear vX0
  have hT8 : Below w.heap.size w w8 := hT7.trans (hB8.mono hT7.size)
  clear hT7
  have hz8 : w7.heap.size ≤ w8.heap.size := hB8.size
  clear hB8
  go_wp2_with fail
  refine (diff_walk x0 x1 l0 y0 l1 y1 s t w8 vX8 vY0 kY (by omega) (by omega) is it (by omega)).mono ?_
  rintro e w9 ⟨x2, y2, rfl, vR0, kR, hB9⟩
  have vs9 := vs8.below hB9
  have vt9 := vt8.below hB9
  have vX9 := vX8.below hB9
  have vY9 := vY0.below hB9
  clear vs8
  clear vt8
  clear vX8
  clear vY0
  have hT9 : Below w.heap.size w w9 := hT8.trans (hB9.mono hT8.size)
  clear hT8
  have hz9 : w8.heap.size ≤ w9.heap.size := hB9.size
  clear hB9
  go_wp2_with fail
  refine (runs_any x2 _ y2 (diff s t) w9 vR0 (by omega)).mono ?_
  rintro e w10 ⟨x3, y3, rfl, vQ0, nQ, hB10⟩
  have vs10 := vs9.below hB10
  have vt10 := vt9.below hB10
  have vX10 := vX9.below hB10
  have vY10 := vY9.below hB10
  have vR10 := vR0.below hB10
  clear vs9
  clear vt9
  clear vX9
  clear vY9
  clear vR0
  have hT10 : Below w.heap.size w w10 := hT9.trans (hB10.mono hT9.size)
  clear hT9
  have hz10 : w9.heap.size ≤ w10.heap.size := hB10.size
  clear hB10
  go_wp2_with fail
  refine (exactly_yes 2 b0 b1 x3 l0 d0 l1 d1 _ y3 s t (diff s t) w10 (.inr rfl) vs10 vt10 vQ0 (by omega) (by omega) (by omega) is it ir cs ct cr hw).mono ?_
  rintro e w11 ⟨rfl, hB11⟩
  have vs11 := vs10.below hB11
  have vt11 := vt10.below hB11
  have vX11 := vX10.below hB11
  have vY11 := vY10.below hB11
  have vR11 := vR10.below hB11
  have vQ11 := vQ0.below hB11
  clear vs10
  clear vt10
  clear vX10
  clear vY10
  clear vR10
  clear vQ0
  have hT11 : Below w.heap.size w w11 := hT10.trans (hB11.mono hT10.size)
  clear hT10
  have hz11 : w10.heap.size ≤ w11.heap.size := hB11.size
  clear hB11
  go_wp2
  go_ret
  exact ⟨rfl, hT11⟩

end Go.Proofs.Qxb6617965a
