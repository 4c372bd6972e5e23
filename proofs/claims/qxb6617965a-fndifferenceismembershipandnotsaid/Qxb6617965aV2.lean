import Derived.Test.Qxb6617965aV1
namespace Go.Proofs.Qxb6617965a
open Go.RowKit Cpu

theorem ret_int {k : IntKind} {a b : Int} (h : a = b) : Ending.returned (.int k a) = .returned (.int k b) := by rw [h]
theorem ret_bool {a b : Bool} (h : a = b) : Ending.returned (.bool a) = .returned (.bool b) := by rw [h]

set_option maxHeartbeats 400000 in
theorem sameRuns_yes (a0 a1 : Option Addr) (len cap0 cap1 : Nat) (rs : List (Int × Int)) (w : World) (hv0 : View w a0 len rs) (hv1 : View w a1 len rs) (hm : len ≤ 1099511627776) :
    Calls Try.prog 19 #[.slice a0 len cap0, .slice a1 len cap1] w fun e w' => e = .returned (.bool true) ∧ Below w.heap.size w w' := by
  go_enter Try.func19, Try.ntmps19
  go_wp2
  go_loopw [5] (fun i wr => ∃ k : Nat, k ≤ len ∧ i = .int .i64 k ∧ Below w.heap.size w wr) (fun i _ => len - (intOf i).toNat)
  case atStart => exact ⟨0, Nat.zero_le _, rfl, Below.refl _ _⟩
  case round =>
    obtain ⟨k, hk, rfl, hB⟩ := hrel
    by_cases hlt : k < len
    · obtain ⟨b0, off0, ha0, hb0, hr0⟩ := hv0.2 (by omega)
      subst ha0
      obtain ⟨b1, off1, ha1, hb1, hr1⟩ := hv1.2 (by omega)
      subst ha1
      have hkl : k < rs.length := by rw [hv0.1]; exact hlt
      obtain ⟨f1, f2⟩ := hr0.below hB hb0 k hkl
      obtain ⟨f3, f4⟩ := hr1.below hB hb1 k hkl
      have i1 : (k : Int) < (len : Int) := by omega
      have i2 : (0 : Int) ≤ (k : Int) := by omega
      have q1 : (fs rs k != fs rs k) = false := by simp
      go_wp2
      go_quiet (fail)
      go_wp2
      go_roundw
      case rel => exact ⟨k + 1, by omega, by go_num, below_drewN hB _⟩
      case measure => simp [intOf]; omega
    · go_wp2
      go_ret
      exact ⟨rfl, hB⟩

set_option maxHeartbeats 400000 in
theorem count_any (a : Option Addr) (len cap : Nat) (rs : List (Int × Int)) (w : World) (hv : View w a len rs) (hm : len ≤ 1073741824) (hin : InR rs) :
    Calls Try.prog 18 #[.slice a len cap] w fun e w' => e = .returned (.int .i64 (count rs)) ∧ Below w.heap.size w w' := by
  go_enter Try.func18, Try.ntmps18
  go_wp2
  go_loopw [3, 4] (fun n i wr => ∃ k : Nat, k ≤ len ∧ i = .int .i64 k ∧ n = .int .i64 (count (rs.take k)) ∧ Below w.heap.size w wr) (fun _ i _ => len - (intOf i).toNat)
  case atStart => exact ⟨0, Nat.zero_le _, rfl, rfl, Below.refl _ _⟩
  case round =>
    obtain ⟨k, hk, rfl, rfl, hB⟩ := hrel
    by_cases hlt : k < len
    · obtain ⟨b, off, ha, hb, hr⟩ := hv.2 (by omega)
      subst ha
      have hkl : k < rs.length := by rw [hv.1]; exact hlt
      obtain ⟨f1, f2⟩ := hr.below hB hb k hkl
      obtain ⟨r1, r2, r3⟩ := hin _ (at_mem rs k hkl)
      simp only at r1 r2 r3
      have hcb := count_bounds (rs := rs.take k) fun p hp => hin p (List.mem_of_mem_take hp)
      have hlk : (rs.take k).length ≤ k := List.length_take_le _ _
      have HCT : Hid (count (rs.take (k + 1)) = count (rs.take k) + (ls rs k - fs rs k + 1)) := count_take rs k hkl
      have i1 : (k : Int) < (len : Int) := by omega
      have i2 : (0 : Int) ≤ (k : Int) := by omega
      obtain ⟨c1, c2⟩ := hcb
      have c3 : count (rs.take k) ≤ 1073741825 * 1073741824 := by
        have : ((rs.take k).length : Int) ≤ 1073741824 := by omega
        omega
      clear c2
      generalize count (rs.take k) = c at *
      go_wp2
      go_quiet (fail)
      go_wp2
      go_roundw
      case rel => exact ⟨k + 1, by omega, by go_num, by rw [HCT.out], below_drewN hB _⟩
      case measure => simp [intOf]; omega
    · go_wp2
      go_ret
      rw [List.take_of_length_le (by rw [hv.1]; omega)]
      exact ⟨rfl, hB⟩

set_option maxHeartbeats 400000 in
theorem index_any (a : Option Addr) (len cap : Nat) (rs : List (Int × Int)) (p : Int) (w : World) (hv : View w a len rs) (hm : len ≤ 1099511627776) (hc : Canon rs) :
    Calls Try.prog 21 #[.slice a len cap, .int .i64 p] w fun e w' => e = .returned (.int .i64 (cov rs p)) ∧ w = w' := by
  have HC : Hid (Canon rs) := hc
  clear hc
  go_enter Try.func21, Try.ntmps21
  go_wp2
  go_loop [5, 6] (fun l h => ∃ lo hi : Nat, lo ≤ hi ∧ hi ≤ len ∧ l = .int .i64 lo ∧ h = .int .i64 hi ∧ Hid (∀ i, i < lo → ls rs i < p) ∧ Hid (hi < len → p ≤ ls rs hi)) (fun l h => (intOf h).toNat - (intOf l).toNat)
  case atStart => exact ⟨0, len, by omega, by omega, rfl, rfl, fun i h => absurd h (by omega), fun h => absurd h (by omega)⟩
  case round =>
    obtain ⟨lo, hi, h1, h2, rfl, rfl, hl, hh⟩ := hrel
    by_cases hlt : lo < hi
    · obtain ⟨b, off, ha, hb, hr⟩ := hv.2 (by omega)
      subst ha
      have hmid : lo + (hi - lo) / 2 < len := by omega
      obtain ⟨f1, f2⟩ := hr (lo + (hi - lo) / 2) (by rw [hv.1]; exact hmid)
      have hmid2 : lo + (hi - lo) / 2 < hi := by omega
      have hmid3 : lo ≤ lo + (hi - lo) / 2 := by omega
      by_cases hp : ls rs (lo + (hi - lo) / 2) < p
      · have HP : Hid (ls rs (lo + (hi - lo) / 2) < p) := hp
        go_wp2
        go_round
        case rel =>
          refine ⟨lo + (hi - lo) / 2 + 1, hi, by omega, by omega, by go_num, rfl, fun i hi' => ?_, hh⟩
          have := HC.out.ls_mono i (lo + (hi - lo) / 2) (by omega) (by rw [hv.1]; exact hmid)
          have := HP.out
          omega
        case measure => simp [intOf]; omega
      · have HP : Hid (p ≤ ls rs (lo + (hi - lo) / 2)) := by show _ ≤ _; omega
        go_wp2
        go_round
        case rel => exact ⟨lo, lo + (hi - lo) / 2, by omega, by omega, rfl, by go_num, hl, fun _ => HP.out⟩
        case measure => simp [intOf]; omega
    · have e : lo = hi := by omega
      have hpre := pre_eq p rs lo (by rw [hv.1]; omega) hl.out (by rw [hv.1, e]; exact hh.out)
      have HP : Hid (cov rs p = if lo < len ∧ fs rs lo ≤ p then (lo : Int) else -1) := by
        unfold cov Hid
        rw [← hpre, hv.1]
      clear hpre
      by_cases h3 : lo < len
      · obtain ⟨b, off, ha, hb, hr⟩ := hv.2 (by omega)
        subst ha
        obtain ⟨f1, f2⟩ := hr lo (by rw [hv.1]; exact h3)
        have q1 : decide ((lo : Int) < (len : Int)) = true := by simp; omega
        by_cases h4 : fs rs lo ≤ p
        · have HP2 : Hid (cov rs p = (lo : Int)) := by show _ = _; rw [HP.out, if_pos ⟨h3, h4⟩]
          subst e
          go_wp2
          go_ret
          exact ⟨ret_int HP2.out.symm, rfl⟩
        · have HP2 : Hid (cov rs p = -1) := by show _ = _; rw [HP.out, if_neg (fun h => h4 h.2)]
          subst e
          go_wp2
          go_ret
          exact ⟨ret_int HP2.out.symm, rfl⟩
      · have HP2 : Hid (cov rs p = -1) := by show _ = _; rw [HP.out, if_neg (fun h => h3 h.1)]
        have q1 : decide ((lo : Int) < (len : Int)) = false := by simp; omega
        subst e
        go_wp2
        go_ret
        exact ⟨ret_int HP2.out.symm, rfl⟩

theorem member_any (a : Option Addr) (len cap : Nat) (rs : List (Int × Int)) (p : Int) (w : World) (hv : View w a len rs) (hm : len ≤ 1099511627776) (hc : Canon rs) :
    Calls Try.prog 24 #[.slice a len cap, .int .i64 p] w fun e w' => e = .returned (.bool (memB rs p)) ∧ w = w' := by
  have HM : Hid (decide (0 ≤ cov rs p) = memB rs p) := cov_iff hc p
  go_enter Try.func24, Try.ntmps24
  go_wp2_with fail
  refine (index_any a len cap rs p w hv hm hc).mono ?_
  rintro e w' ⟨rfl, rfl⟩
  go_wp2
  go_ret
  exact ⟨ret_bool HM.out, rfl⟩

/-- 'zzWant'. -/
def want (op : Int) (a b : Bool) : Bool := if op = 1 then a && b else a && !b

theorem want_any (op : Int) (a b : Bool) (w : World) (hop : op = 1 ∨ op = 2) : Calls Try.prog 25 #[.int .i64 op, .bool a, .bool b] w fun e w' => e = .returned (.bool (want op a b)) ∧ w = w' := by
  rcases hop with rfl | rfl
  · cases a <;> cases b
    all_goals
      go_enter Try.func25, Try.ntmps25
      go_wp2
      go_ret
      exact ⟨rfl, rfl⟩
  · cases a <;> cases b
    all_goals
      go_enter Try.func25, Try.ntmps25
      go_wp2
      go_ret
      exact ⟨rfl, rfl⟩

set_option maxHeartbeats 400000 in
theorem agreesAt_yes (op : Int) (a0 a1 a2 : Option Addr) (l0 c0 l1 c1 l2 c2 : Nat) (s t r : List (Int × Int)) (p : Int) (w : World) (hop : op = 1 ∨ op = 2) (hvs : View w a0 l0 s) (hvt : View w a1 l1 t) (hvr : View w a2 l2 r)
    (m0 : l0 ≤ 1099511627776) (m1 : l1 ≤ 1099511627776) (m2 : l2 ≤ 1099511627776) (hs : Canon s) (ht : Canon t) (hr : Canon r) (hw : memB r p = want op (memB s p) (memB t p)) :
    Calls Try.prog 23 #[.int .i64 op, .slice a0 l0 c0, .slice a1 l1 c1, .slice a2 l2 c2, .int .i64 p] w fun e w' => e = .returned (.bool true) ∧ w = w' := by
  have HW : Hid (memB r p = want op (memB s p) (memB t p)) := hw
  clear hw
  go_enter Try.func23, Try.ntmps23
  go_wp2_with fail
  refine (member_any a2 l2 c2 r p w hvr m2 hr).mono ?_
  rintro e w' ⟨rfl, rfl⟩
  rw [HW.out]
  go_wp2_with fail
  refine (member_any a0 l0 c0 s p w hvs m0 hs).mono ?_
  rintro e w' ⟨rfl, rfl⟩
  go_wp2_with fail
  refine (member_any a1 l1 c1 t p w hvt m1 ht).mono ?_
  rintro e w' ⟨rfl, rfl⟩
  go_wp2_with fail
  refine (want_any op (memB s p) (memB t p) w hop).mono ?_
  rintro e w' ⟨rfl, rfl⟩
  go_wp2
  go_ret
  exact ⟨by simp, rfl⟩

set_option maxHeartbeats 400000 in
theorem agreesAround_yes (op : Int) (a a0 a1 a2 : Option Addr) (l c l0 c0 l1 c1 l2 c2 : Nat) (x s t r : List (Int × Int)) (w : World) (hop : op = 1 ∨ op = 2) (hvx : View w a l x) (hvs : View w a0 l0 s) (hvt : View w a1 l1 t) (hvr : View w a2 l2 r)
    (m : l ≤ 1099511627776) (m0 : l0 ≤ 1099511627776) (m1 : l1 ≤ 1099511627776) (m2 : l2 ≤ 1099511627776) (hin : InR x) (hs : Canon s) (ht : Canon t) (hr : Canon r) (hw : ∀ p, memB r p = want op (memB s p) (memB t p)) :
    Calls Try.prog 22 #[.int .i64 op, .slice a l c, .slice a0 l0 c0, .slice a1 l1 c1, .slice a2 l2 c2] w fun e w' => e = .returned (.bool true) ∧ w = w' := by
  have HW : Hid (∀ p, memB r p = want op (memB s p) (memB t p)) := hw
  have HOP : Hid (op = 1 ∨ op = 2) := hop
  clear hw hop
  go_enter Try.func22, Try.ntmps22
  go_wp2
  go_loop [11] (fun i => ∃ k : Nat, k ≤ l ∧ i = .int .i64 k) (fun i => l - (intOf i).toNat)
  case atStart => exact ⟨0, Nat.zero_le _, rfl⟩
  case round =>
    obtain ⟨k, hk, rfl⟩ := hrel
    by_cases hlt : k < l
    · obtain ⟨b, off, ha, hb, hrw⟩ := hvx.2 (by omega)
      subst ha
      have hkl : k < x.length := by rw [hvx.1]; exact hlt
      obtain ⟨f1, f2⟩ := hrw k hkl
      obtain ⟨r1, r2, r3⟩ := hin _ (at_mem x k hkl)
      simp only at r1 r2 r3
      go_wp2_with fail
      refine (agreesAt_yes op a0 a1 a2 l0 c0 l1 c1 l2 c2 s t r _ w HOP.out hvs hvt hvr m0 m1 m2 hs ht hr (HW.out _)).mono ?_
      rintro e w' ⟨rfl, rfl⟩
      go_wp2_with fail
      refine (agreesAt_yes op a0 a1 a2 l0 c0 l1 c1 l2 c2 s t r _ w HOP.out hvs hvt hvr m0 m1 m2 hs ht hr (HW.out _)).mono ?_
      rintro e w' ⟨rfl, rfl⟩
      go_wp2_with fail
      refine (agreesAt_yes op a0 a1 a2 l0 c0 l1 c1 l2 c2 s t r _ w HOP.out hvs hvt hvr m0 m1 m2 hs ht hr (HW.out _)).mono ?_
      rintro e w' ⟨rfl, rfl⟩
      go_wp2_with fail
      refine (agreesAt_yes op a0 a1 a2 l0 c0 l1 c1 l2 c2 s t r _ w HOP.out hvs hvt hvr m0 m1 m2 hs ht hr (HW.out _)).mono ?_
      rintro e w' ⟨rfl, rfl⟩
      go_wp2
      go_round
      case rel => exact ⟨k + 1, by omega, by go_num⟩
      case measure => simp [intOf]; omega
    · go_wp2
      go_ret
      exact ⟨rfl, rfl⟩

set_option maxHeartbeats 400000 in
theorem exactly_yes (op : Int) (a0 a1 a2 : Option Addr) (l0 c0 l1 c1 l2 c2 : Nat) (s t r : List (Int × Int)) (w : World) (hop : op = 1 ∨ op = 2) (hvs : View w a0 l0 s) (hvt : View w a1 l1 t) (hvr : View w a2 l2 r)
    (m0 : l0 ≤ 1099511627776) (m1 : l1 ≤ 1099511627776) (m2 : l2 ≤ 1099511627776) (is : InR s) (it : InR t) (ir : InR r) (hs : Canon s) (ht : Canon t) (hr : Canon r) (hw : ∀ p, memB r p = want op (memB s p) (memB t p)) :
    Calls Try.prog 14 #[.int .i64 op, .slice a0 l0 c0, .slice a1 l1 c1, .slice a2 l2 c2] w fun e w' => e = .returned (.bool true) ∧ Below w.heap.size w w' := by
  have HW : Hid (∀ p, memB r p = want op (memB s p) (memB t p)) := hw
  have HOP : Hid (op = 1 ∨ op = 2) := hop
  clear hw hop
  go_enter Try.func14, Try.ntmps14
  go_wp2_with fail
  refine (canon_yes a2 l2 c2 r w hvr m2 ir hr).mono ?_
  rintro e w1 ⟨rfl, hB⟩
  have hvs1 := hvs.below hB
  have hvt1 := hvt.below hB
  have hvr1 := hvr.below hB
  go_wp2_with fail
  refine (agreesAround_yes op a0 a0 a1 a2 l0 c0 l0 c0 l1 c1 l2 c2 s s t r w1 HOP.out hvs1 hvs1 hvt1 hvr1 m0 m0 m1 m2 is hs ht hr HW.out).mono ?_
  rintro e w' ⟨rfl, rfl⟩
  go_wp2_with fail
  refine (agreesAround_yes op a1 a0 a1 a2 l1 c1 l0 c0 l1 c1 l2 c2 t s t r w1 HOP.out hvt1 hvs1 hvt1 hvr1 m1 m0 m1 m2 it hs ht hr HW.out).mono ?_
  rintro e w' ⟨rfl, rfl⟩
  go_wp2_with fail
  refine (agreesAround_yes op a2 a0 a1 a2 l2 c2 l0 c0 l1 c1 l2 c2 r s t r w1 HOP.out hvr1 hvs1 hvt1 hvr1 m2 m0 m1 m2 ir hs ht hr HW.out).mono ?_
  rintro e w' ⟨rfl, rfl⟩
  go_wp2
  go_ret
  exact ⟨rfl, hB⟩

end Go.Proofs.Qxb6617965a
