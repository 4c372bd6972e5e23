import Derived.Test.Qxb6617965aV3
import Derived.RegionTactic
import Derived.BigRegion
namespace Go.Proofs.Qxb6617965a
open Go.RowKit Cpu

theorem own_view_at {w : World} {base e : Nat} {a : Option Addr} {rs : List (Int × Int)} {n cap : Nat} (h : w.ownsRow base e 2 (.slice a n cap) n (flat rs)) (hn : rs.length = n) : View w a n rs := by
  obtain ⟨a', cap', he, hv, _⟩ := own_view h hn
  simp only [Value.slice.injEq] at he
  obtain ⟨rfl, _, _⟩ := he
  exact hv

set_option maxHeartbeats 400000 in
set_option maxRecDepth 100000 in
theorem make_some (b off len cap : Nat) (rs : List (Int × Int)) (w : World) (hz : rs.length = len) (hm : len ≤ 1048576) (hr : PRow w b off rs) (hbb : b < w.heap.size) :
    Calls Try.prog 12 #[.slice (some ⟨b, off, none⟩) len cap] w fun e w' => ∃ a' cap', e = .returned (.agg #[.slice a' len cap']) ∧ View w' a' len rs ∧ CapOk len cap' ∧ Below w.heap.size w w' := by
  obtain ⟨i0, hi, hz0, hz1, hz2⟩ := info_parts Try.info37
  have hnil := @Lib.run_eql_slice_nil Try.prog
  go_enter Try.func12, Try.ntmps12
  go_wp2_with (at_make; refine wpList_make_full _ rfl _ _ 27 rfl (w.heap.size + 1) 37 i0 (.agg #[.int .i64 0, .int .i64 0]) 2 Try.underlying27 hi hz0 hz1 _ _ _ _ len rfl rfl rfl rfl ?b1 ?b2 ?b3 ?_)
  case b1 => rw [hz2]; omega
  case b2 => unfold maxLen; omega
  case b3 => simp
  intro w1 hown1 hgrow1
  have hB0 : Below w.heap.size w (w.alloc (.cells #[.slice none 0 0] 29)) := (Below.refl _ _).alloc (Nat.le_refl _) _
  have hB1 : Below w.heap.size w w1 := hB0.grown hgrow1 (by simp) (fun k h => by cases h)
  have hB1' : Below (w.heap.size + 1) (w.alloc (.cells #[.slice none 0 0] 29)) w1 := (Below.refl _ _).grown hgrow1 (by simp) (fun k h => by cases h)
  have hcr : w1.cell? ⟨w.heap.size, 0, none⟩ = some (.slice none 0 0) := by
    rw [hB1'.cell (p := ⟨w.heap.size, 0, none⟩) (by simp), World.cell?_alloc_at _ _ _ _ rfl]; rfl
  have hfr : w1.frozen? ⟨w.heap.size, 0, none⟩ = false := by
    rw [hB1'.frozen (p := ⟨w.heap.size, 0, none⟩) (by simp)]; exact World.frozen?_alloc_at _ _ _ _ (by simp)
  have hown2 : w1.ownsRow (w.heap.size + 1) 37 2 (.slice (some ⟨w.heap.size + 1, 0, none⟩) len len) len (flat (part rs 0)) := by
    rw [part_zero, hz, ← made_flat]; simpa using hown1
  have HZ : Hid (rs.length = len) := hz
  clear hgrow1 hz hown1 hB0 hB1' hnil hi hz0 hz1 hz2
  go_wp2
  go_loopw [4] (fun i wr => ∃ k : Nat, k ≤ len ∧ i = .int .i64 k ∧ wr.ownsRow (w.heap.size + 1) 37 2 (.slice (some ⟨w.heap.size + 1, 0, none⟩) len len) len (flat (part rs k)) ∧ Below (w.heap.size + 1) w1 wr) (fun i _ => len - (intOf i).toNat)
  case atStart => exact ⟨0, Nat.zero_le _, rfl, hown2, Below.refl _ _⟩
  case round =>
    obtain ⟨k, hk, rfl, hown, hB⟩ := hrel
    by_cases hlt : k < len
    · obtain ⟨f1, f2⟩ := (hr.below hB1 hbb).below hB (by omega) k (by rw [HZ.out]; exact hlt)
      have hpl : k < (part rs k).length := by rw [part_length rs k (by rw [HZ.out]; exact hk), HZ.out]; exact hlt
      have hc1 : wr.cell? ⟨w.heap.size + 1, k * 2, none⟩ = some (.int .i64 (fs (part rs k) k)) := by rw [hown.cellAt (k * 2) (by omega)]; exact (flat_get _ k hpl).1
      have hc2 : wr.cell? ⟨w.heap.size + 1, k * 2 + 1, none⟩ = some (.int .i64 (ls (part rs k) k)) := by rw [hown.cellAt (k * 2 + 1) (by omega)]; exact (flat_get _ k hpl).2
      have hf1 : wr.frozen? ⟨w.heap.size + 1, k * 2, none⟩ = false := hown.frozenAt _
      have hf2 : wr.frozen? ⟨w.heap.size + 1, k * 2 + 1, none⟩ = false := hown.frozenAt _
      have i1 : (k : Int) < (len : Int) := by omega
      have i2 : (0 : Int) ≤ (k : Int) := by omega
      go_wp2
      go_region
      go_wp2
      go_roundw
      case rel => exact ⟨k + 1, by omega, by go_num, by rw [← flat_part_succ rs k (by rw [HZ.out]; exact hlt)]; exact ((hown.stored (k * 2) _).1.stored (k * 2 + 1) _).1, ((hB.setCell (Nat.le_refl _) _).setCell (Nat.le_refl _) _).drew⟩
      case measure => simp [intOf]; omega
    · have hcr' : wr.cell? ⟨w.heap.size, 0, none⟩ = some (.slice none 0 0) := (hB.cell (p := ⟨w.heap.size, 0, none⟩) (by simp)).trans hcr
      have hfr' : wr.frozen? ⟨w.heap.size, 0, none⟩ = false := (hB.frozen (p := ⟨w.heap.size, 0, none⟩) (by simp)).trans hfr
      obtain rfl : k = len := by omega
      have hpa : part rs k = rs := by have := part_all rs; rw [HZ.out] at this; exact this
      rw [hpa] at hown
      have hv := own_view_at (ownsRow_setCell_below hown (a := ⟨w.heap.size, 0, none⟩) (by simp) (.slice (some ⟨w.heap.size + 1, 0, none⟩) k k)) HZ.out
      have hB2 : Below w.heap.size w (wr.setCell ⟨w.heap.size, 0, none⟩ (.slice (some ⟨w.heap.size + 1, 0, none⟩) k k)) := (hB1.trans (hB.mono (by omega))).setCell (Nat.le_refl _) _
      clear hown hpa
      go_wp2
      exact bodyPost_ret (v := .agg #[.slice (some ⟨w.heap.size + 1, 0, none⟩) k k]) (by simp [results, Try.results12, go_sem, hcr']) rfl ⟨_, _, rfl, hv, ⟨Nat.le_refl _, by omega⟩, hB2⟩

theorem make_nil (w : World) : Calls Try.prog 12 #[.slice none 0 0] w fun e w' => ∃ a' cap', e = .returned (.agg #[.slice a' 0 cap']) ∧ View w' a' 0 [] ∧ CapOk 0 cap' ∧ Below w.heap.size w w' := by
  have hnil := @Lib.run_eql_slice_nil Try.prog
  go_enter Try.func12, Try.ntmps12
  go_wp2
  exact bodyPost_ret (v := .agg #[.slice none 0 0]) (by simp [results, Try.results12, go_sem]) rfl ⟨_, _, rfl, ⟨rfl, fun h => absurd h (by omega)⟩, ⟨by omega, by omega⟩, (Below.refl _ _).alloc (Nat.le_refl _) _⟩

theorem make_empty (x : Addr) (cap : Nat) (w : World) : Calls Try.prog 12 #[.slice (some x) 0 cap] w fun e w' => ∃ a' cap', e = .returned (.agg #[.slice a' 0 cap']) ∧ View w' a' 0 [] ∧ CapOk 0 cap' ∧ Below w.heap.size w w' := by
  obtain ⟨i0, hi, hz0, hz1, hz2⟩ := info_parts Try.info37
  have hnil := @Lib.run_eql_slice_nil Try.prog
  go_enter Try.func12, Try.ntmps12
  go_wp2_with (at_make; refine wpList_make_full _ rfl _ _ 27 rfl (w.heap.size + 1) 37 i0 (.agg #[.int .i64 0, .int .i64 0]) 2 Try.underlying27 hi hz0 hz1 _ _ _ _ 0 rfl rfl rfl rfl ?b1 ?b2 ?b3 ?_)
  case b1 => simp
  case b2 => simp
  case b3 => simp
  intro w1 hown1 hgrow1
  have hB0 : Below w.heap.size w (w.alloc (.cells #[.slice none 0 0] 29)) := (Below.refl _ _).alloc (Nat.le_refl _) _
  have hB1 : Below w.heap.size w w1 := hB0.grown hgrow1 (by simp) (fun k h => by cases h)
  have hB1' : Below (w.heap.size + 1) (w.alloc (.cells #[.slice none 0 0] 29)) w1 := (Below.refl _ _).grown hgrow1 (by simp) (fun k h => by cases h)
  have hcr : w1.cell? ⟨w.heap.size, 0, none⟩ = some (.slice none 0 0) := by
    rw [hB1'.cell (p := ⟨w.heap.size, 0, none⟩) (by simp), World.cell?_alloc_at _ _ _ _ rfl]; rfl
  have hfr : w1.frozen? ⟨w.heap.size, 0, none⟩ = false := by
    rw [hB1'.frozen (p := ⟨w.heap.size, 0, none⟩) (by simp)]; exact World.frozen?_alloc_at _ _ _ _ (by simp)
  clear hgrow1 hown1 hB0 hB1' hnil hi hz0 hz1 hz2
  go_wp2
  refine wp_loop_rounds 1 ?_
  rw [rounds_succ]
  go_wp2
  exact bodyPost_ret (v := .agg #[.slice (some ⟨w.heap.size + 1, 0, none⟩) 0 0]) (by simp [results, Try.results12, go_sem, hcr]) rfl ⟨_, _, rfl, ⟨rfl, fun h => absurd h (by omega)⟩, ⟨by omega, by omega⟩, hB1.setCell (Nat.le_refl _) _⟩

/-- 'ZZMake'. -/
theorem make_any (a : Option Addr) (len cap : Nat) (rs : List (Int × Int)) (w : World) (hv : View w a len rs) (hm : len ≤ 1048576) (hc : a = none → cap = 0) :
    Calls Try.prog 12 #[.slice a len cap] w fun e w' => ∃ a' cap', e = .returned (.agg #[.slice a' len cap']) ∧ View w' a' len rs ∧ CapOk len cap' ∧ Below w.heap.size w w' := by
  by_cases hp : 0 < len
  · obtain ⟨b, off, rfl, hb, hr⟩ := hv.2 hp
    exact make_some b off len cap rs w hv.1 hm hr hb
  · obtain rfl : len = 0 := by omega
    obtain rfl : rs = [] := List.eq_nil_of_length_eq_zero hv.1
    cases a with
    | none => rw [hc rfl]; exact make_nil w
    | some x => exact make_empty x cap w

set_option maxHeartbeats 400000 in
set_option maxRecDepth 100000 in
/-- 'ZZRuns'. -/
theorem runs_any (a : Option Addr) (len cap : Nat) (rs : List (Int × Int)) (w : World) (hv : View w a len rs) (hm : len ≤ 1099511627776) :
    Calls Try.prog 11 #[.agg #[.slice a len cap]] w fun e w' => ∃ a' cap', e = .returned (.slice a' len cap') ∧ View w' a' len rs ∧ (a' = none → cap' = 0) ∧ Below w.heap.size w w' := by
  obtain ⟨i0, hi, hz0, hz1, hz2⟩ := info_parts Try.info34
  go_enter Try.func11, Try.ntmps11
  go_wp2_with (at_make; refine wpList_make_full _ rfl _ _ 22 rfl (w.heap.size + 1) 34 i0 (.agg #[.int .i64 0, .int .i64 0]) 2 Try.underlying22 hi hz0 hz1 _ _ _ _ len rfl rfl rfl rfl ?b1 ?b2 ?b3 ?_)
  case b1 => rw [hz2]; omega
  case b2 => unfold maxLen; omega
  case b3 => simp
  intro w1 hown1 hgrow1
  have hB0 : Below w.heap.size w (w.alloc (.cells #[.slice a len cap] 29)) := (Below.refl _ _).alloc (Nat.le_refl _) _
  have hB1 : Below w.heap.size w w1 := hB0.grown hgrow1 (by simp) (fun k h => by cases h)
  have hB1' : Below (w.heap.size + 1) (w.alloc (.cells #[.slice a len cap] 29)) w1 := (Below.refl _ _).grown hgrow1 (by simp) (fun k h => by cases h)
  have hcr : w1.cell? ⟨w.heap.size, 0, none⟩ = some (.slice a len cap) := by
    rw [hB1'.cell (p := ⟨w.heap.size, 0, none⟩) (by simp), World.cell?_alloc_at _ _ _ _ rfl]; rfl
  have hown2 : w1.ownsRow (w.heap.size + 1) 34 2 (.slice (some ⟨w.heap.size + 1, 0, none⟩) len len) len (flat (part rs 0)) := by
    rw [part_zero, hv.1, ← made_flat]; simpa using hown1
  have HZ : Hid (rs.length = len) := hv.1
  clear hgrow1 hown1 hB0 hB1' hi hz0 hz1 hz2
  go_wp2
  go_loopw [4] (fun i wr => ∃ k : Nat, k ≤ len ∧ i = .int .i64 k ∧ wr.ownsRow (w.heap.size + 1) 34 2 (.slice (some ⟨w.heap.size + 1, 0, none⟩) len len) len (flat (part rs k)) ∧ Below (w.heap.size + 1) w1 wr) (fun i _ => len - (intOf i).toNat)
  case atStart => exact ⟨0, Nat.zero_le _, rfl, hown2, Below.refl _ _⟩
  case round =>
    obtain ⟨k, hk, rfl, hown, hB⟩ := hrel
    have hcr' : wr.cell? ⟨w.heap.size, 0, none⟩ = some (.slice a len cap) := (hB.cell (p := ⟨w.heap.size, 0, none⟩) (by simp)).trans hcr
    by_cases hlt : k < len
    · obtain ⟨b, off, ha, hbb, hr⟩ := hv.2 (by omega)
      subst ha
      obtain ⟨f1, f2⟩ := (hr.below hB1 hbb).below hB (by omega) k (by rw [HZ.out]; exact hlt)
      have hpl : k < (part rs k).length := by rw [part_length rs k (by rw [HZ.out]; exact hk), HZ.out]; exact hlt
      have hc1 : wr.cell? ⟨w.heap.size + 1, k * 2, none⟩ = some (.int .i64 (fs (part rs k) k)) := by rw [hown.cellAt (k * 2) (by omega)]; exact (flat_get _ k hpl).1
      have hc2 : wr.cell? ⟨w.heap.size + 1, k * 2 + 1, none⟩ = some (.int .i64 (ls (part rs k) k)) := by rw [hown.cellAt (k * 2 + 1) (by omega)]; exact (flat_get _ k hpl).2
      have hf1 : wr.frozen? ⟨w.heap.size + 1, k * 2, none⟩ = false := hown.frozenAt _
      have hf2 : wr.frozen? ⟨w.heap.size + 1, k * 2 + 1, none⟩ = false := hown.frozenAt _
      have i1 : (k : Int) < (len : Int) := by omega
      have i2 : (0 : Int) ≤ (k : Int) := by omega
      go_wp2
      go_region
      go_wp2
      go_roundw
      case rel => exact ⟨k + 1, by omega, by go_num, by rw [← flat_part_succ rs k (by rw [HZ.out]; exact hlt)]; exact ((hown.stored (k * 2) _).1.stored (k * 2 + 1) _).1, ((hB.setCell (Nat.le_refl _) _).setCell (Nat.le_refl _) _).drew⟩
      case measure => simp [intOf]; omega
    · obtain rfl : k = len := by omega
      have hpa : part rs k = rs := by have := part_all rs; rw [HZ.out] at this; exact this
      rw [hpa] at hown
      have hv' := own_view_at hown HZ.out
      clear hown hpa
      go_wp2
      go_ret
      exact ⟨_, _, rfl, hv', fun h => (by cases h), hB1.trans (hB.mono (by omega))⟩

theorem bytes7_yes (a0 a1 : Option Addr) (len0 cap0 len1 cap1 : Nat) (w : World) (h : len0 + len1 ≤ 1048576) :
    Calls Try.prog 7 #[.slice a0 len0 cap0, .slice a1 len1 cap1] w fun e w' => e = .returned (.bool true) ∧ w = w' := by
  go_enter Try.func7, Try.ntmps7
  go_wp2
  go_ret
  exact ⟨rfl, rfl⟩
theorem bytes7_no (a0 a1 : Option Addr) (len0 cap0 len1 cap1 : Nat) (w : World) (h0 : len0 ≤ maxLen) (h1 : len1 ≤ maxLen) (h : ¬ len0 + len1 ≤ 1048576) :
    Calls Try.prog 7 #[.slice a0 len0 cap0, .slice a1 len1 cap1] w fun e w' => e = .returned (.bool false) ∧ w = w' := by
  unfold maxLen at h0 h1
  by_cases g0 : len0 ≤ 1048576
  · by_cases g1 : len1 ≤ 1048576
    all_goals
      go_enter Try.func7, Try.ntmps7
      go_wp2
      go_ret
      exact ⟨rfl, rfl⟩
  · go_enter Try.func7, Try.ntmps7
    go_wp2
    go_ret
    exact ⟨rfl, rfl⟩

theorem bytes15_yes (a0 a1 : Option Addr) (len0 cap0 len1 cap1 : Nat) (w : World) (h : len0 + len1 ≤ 1048576) :
    Calls Try.prog 15 #[.slice a0 len0 cap0, .slice a1 len1 cap1] w fun e w' => e = .returned (.bool true) ∧ w = w' := by
  go_enter Try.func15, Try.ntmps15
  go_wp2
  go_ret
  exact ⟨rfl, rfl⟩
theorem bytes15_no (a0 a1 : Option Addr) (len0 cap0 len1 cap1 : Nat) (w : World) (h0 : len0 ≤ maxLen) (h1 : len1 ≤ maxLen) (h : ¬ len0 + len1 ≤ 1048576) :
    Calls Try.prog 15 #[.slice a0 len0 cap0, .slice a1 len1 cap1] w fun e w' => e = .returned (.bool false) ∧ w = w' := by
  unfold maxLen at h0 h1
  by_cases g0 : len0 ≤ 1048576
  · by_cases g1 : len1 ≤ 1048576
    all_goals
      go_enter Try.func15, Try.ntmps15
      go_wp2
      go_ret
      exact ⟨rfl, rfl⟩
  · go_enter Try.func15, Try.ntmps15
    go_wp2
    go_ret
    exact ⟨rfl, rfl⟩

theorem bytes17_yes (a0 a1 : Option Addr) (len0 cap0 len1 cap1 : Nat) (w : World) (h : len0 + len1 ≤ 1048576) :
    Calls Try.prog 17 #[.slice a0 len0 cap0, .slice a1 len1 cap1] w fun e w' => e = .returned (.bool true) ∧ w = w' := by
  go_enter Try.func17, Try.ntmps17
  go_wp2
  go_ret
  exact ⟨rfl, rfl⟩
theorem bytes17_no (a0 a1 : Option Addr) (len0 cap0 len1 cap1 : Nat) (w : World) (h0 : len0 ≤ maxLen) (h1 : len1 ≤ maxLen) (h : ¬ len0 + len1 ≤ 1048576) :
    Calls Try.prog 17 #[.slice a0 len0 cap0, .slice a1 len1 cap1] w fun e w' => e = .returned (.bool false) ∧ w = w' := by
  unfold maxLen at h0 h1
  by_cases g0 : len0 ≤ 1048576
  · by_cases g1 : len1 ≤ 1048576
    all_goals
      go_enter Try.func17, Try.ntmps17
      go_wp2
      go_ret
      exact ⟨rfl, rfl⟩
  · go_enter Try.func17, Try.ntmps17
    go_wp2
    go_ret
    exact ⟨rfl, rfl⟩

theorem bytes20_yes (a0 a1 : Option Addr) (len0 cap0 len1 cap1 : Nat) (w : World) (h : len0 + len1 ≤ 1048576) :
    Calls Try.prog 20 #[.slice a0 len0 cap0, .slice a1 len1 cap1] w fun e w' => e = .returned (.bool true) ∧ w = w' := by
  go_enter Try.func20, Try.ntmps20
  go_wp2
  go_ret
  exact ⟨rfl, rfl⟩
theorem bytes20_no (a0 a1 : Option Addr) (len0 cap0 len1 cap1 : Nat) (w : World) (h0 : len0 ≤ maxLen) (h1 : len1 ≤ maxLen) (h : ¬ len0 + len1 ≤ 1048576) :
    Calls Try.prog 20 #[.slice a0 len0 cap0, .slice a1 len1 cap1] w fun e w' => e = .returned (.bool false) ∧ w = w' := by
  unfold maxLen at h0 h1
  by_cases g0 : len0 ≤ 1048576
  · by_cases g1 : len1 ≤ 1048576
    all_goals
      go_enter Try.func20, Try.ntmps20
      go_wp2
      go_ret
      exact ⟨rfl, rfl⟩
  · go_enter Try.func20, Try.ntmps20
    go_wp2
    go_ret
    exact ⟨rfl, rfl⟩

end Go.Proofs.Qxb6617965a
