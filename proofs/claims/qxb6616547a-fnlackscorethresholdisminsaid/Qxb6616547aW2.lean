import Derived.Test.Qxb6616547aW1
namespace Go.Proofs.Qxb6616547a
open Go.RowKit

theorem wraps_min (a1 : Int) (h : a1 = -9223372036854775808) : decide (a1 < wrap64 (a1 - 1)) = true := by
  subst h
  unfold wrap64
  decide

theorem lacks_below (u : Bool) (mn : Int) : lacks u (mn - 1) mn = true := by
  simp [lacks]; omega
theorem lacks_at (u : Bool) (mn : Int) : lacks u mn mn = u := by
  simp [lacks]
theorem lacks_mono (u : Bool) (m1 m2 mn : Int) (h : m1 ≤ m2) (h2 : lacks u m2 mn = true) : lacks u m1 mn = true := by
  simp only [lacks, Bool.or_eq_true, decide_eq_true_eq] at *
  rcases h2 with h2 | h2
  · exact .inl h2
  · exact .inr (by omega)

set_option maxHeartbeats 1000000 in
set_option maxRecDepth 100000 in
theorem law_main (a0 a5 a6 a7 : ByteArray) (a1 a2 a3 a8 a9 : Int) (a4 : Bool) (w : World) (hb : a0.size + a5.size + a6.size + a7.size ≤ 1048576) (h0 : a0.size ≤ 262144) (h5 : a5.size ≤ 262144) (h6 : a6.size ≤ 262144) (h7 : a7.size ≤ 262144)
    (hlo : -9223372036854775807 ≤ a1) (hhi : a1 ≤ 9223372036854775807) :
    Calls Try.prog 5 #[.string a0, .int .i64 a1, .int .i64 a2, .int .i64 a3, .bool a4, .string a5, .string a6, .string a7, .int .i64 a8, .int .i64 a9] w fun e w' => e = .returned (.bool true) ∧ Grown w w' := by
  have q0 : decide ((262144 : Int) < (a0.size : Int)) = false := by simp; omega
  have q5 : decide ((262144 : Int) < (a5.size : Int)) = false := by simp; omega
  have q6 : decide ((262144 : Int) < (a6.size : Int)) = false := by simp; omega
  have q7 : decide ((262144 : Int) < (a7.size : Int)) = false := by simp; omega
  have HB : Hid (lacks a4 (a1 - 1) a1 = true) := lacks_below a4 a1
  have HA : Hid (lacks a4 a1 a1 = a4) := lacks_at a4 a1
  by_cases hs : a9 < a8
  · have HM : Hid (lacks a4 a8 a1 = true → lacks a4 a9 a1 = true) := lacks_mono a4 a9 a8 a1 (by omega)
    go_enter Try.func5, Try.ntmps5
    go_wp2_with fail
    refine (bytes7_yes a0 a5 a6 a7 a1 a2 a3 a8 a9 a4 w hb).mono ?_
    rintro e w' ⟨rfl, rfl⟩
    go_wp2_with fail
    refine (gang8 a0 a5 a6 a7 a1 a2 a3 a4 w).mono ?_
    rintro e w1 ⟨rfl, c1, c4, hG⟩
    go_wp2_with fail
    refine (lacks9 w.heap.size a9 a1 a4 w1 c1 c4).mono ?_
    rintro e w' ⟨rfl, rfl⟩
    go_wp2_with fail
    refine (lacks9 w.heap.size a8 a1 a4 w1 c1 c4).mono ?_
    rintro e w' ⟨rfl, rfl⟩
    go_wp2_with fail
    refine (lacks9 w.heap.size (a1 - 1) a1 a4 w1 c1 c4).mono ?_
    rintro e w' ⟨rfl, rfl⟩
    rw [HB.out]
    go_wp2_with fail
    refine (lacks9 w.heap.size a1 a1 a4 w1 c1 c4).mono ?_
    rintro e w' ⟨rfl, rfl⟩
    rw [HA.out]
    have hm := HM.out
    generalize lacks a4 a8 a1 = r2 at hm ⊢
    generalize lacks a4 a9 a1 = r1 at hm ⊢
    cases r2
    · clear hm
      go_wp2
      go_ret
      exact ⟨by simp, hG⟩
    · obtain rfl := hm rfl
      clear hm
      go_wp2
      go_ret
      exact ⟨by simp, hG⟩
  · have HM : Hid (lacks a4 a9 a1 = true → lacks a4 a8 a1 = true) := lacks_mono a4 a8 a9 a1 (by omega)
    go_enter Try.func5, Try.ntmps5
    go_wp2_with fail
    refine (bytes7_yes a0 a5 a6 a7 a1 a2 a3 a8 a9 a4 w hb).mono ?_
    rintro e w' ⟨rfl, rfl⟩
    go_wp2_with fail
    refine (gang8 a0 a5 a6 a7 a1 a2 a3 a4 w).mono ?_
    rintro e w1 ⟨rfl, c1, c4, hG⟩
    go_wp2_with fail
    refine (lacks9 w.heap.size a8 a1 a4 w1 c1 c4).mono ?_
    rintro e w' ⟨rfl, rfl⟩
    go_wp2_with fail
    refine (lacks9 w.heap.size a9 a1 a4 w1 c1 c4).mono ?_
    rintro e w' ⟨rfl, rfl⟩
    go_wp2_with fail
    refine (lacks9 w.heap.size (a1 - 1) a1 a4 w1 c1 c4).mono ?_
    rintro e w' ⟨rfl, rfl⟩
    rw [HB.out]
    go_wp2_with fail
    refine (lacks9 w.heap.size a1 a1 a4 w1 c1 c4).mono ?_
    rintro e w' ⟨rfl, rfl⟩
    rw [HA.out]
    have hm := HM.out
    generalize lacks a4 a9 a1 = r2 at hm ⊢
    generalize lacks a4 a8 a1 = r1 at hm ⊢
    cases r2
    · clear hm
      go_wp2
      go_ret
      exact ⟨by simp, hG⟩
    · obtain rfl := hm rfl
      clear hm
      go_wp2
      go_ret
      exact ⟨by simp, hG⟩

end Go.Proofs.Qxb6616547a
