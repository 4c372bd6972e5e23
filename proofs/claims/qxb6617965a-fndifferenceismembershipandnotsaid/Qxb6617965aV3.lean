import Derived.Test.Qxb6617965aV2
namespace Go.Proofs.Qxb6617965a
open Go.RowKit Cpu

theorem Try.info34 : (Try.prog.info? 34).map (fun i => (i.zero, i.size, i.bytes)) = some (some (.agg #[.int .i64 0, .int .i64 0]), 2, 16) := by kernel_rfl
theorem Try.info37 : (Try.prog.info? 37).map (fun i => (i.zero, i.size, i.bytes)) = some (some (.agg #[.int .i64 0, .int .i64 0]), 2, 16) := by kernel_rfl

/-- Runs as cells. -/
def flat : List (Int × Int) → List Value
  | [] => []
  | p :: l => .int .i64 p.1 :: .int .i64 p.2 :: flat l
theorem flat_length (l : List (Int × Int)) : (flat l).length = l.length * 2 := by
  induction l with
  | nil => rfl
  | cons p l ih => simp [flat, ih]; omega
theorem flat_append (a b : List (Int × Int)) : flat (a ++ b) = flat a ++ flat b := by
  induction a with
  | nil => rfl
  | cons p a ih => simp [flat, ih]
theorem flat_get (l : List (Int × Int)) (i : Nat) (h : i < l.length) : (flat l)[i * 2]? = some (.int .i64 (fs l i)) ∧ (flat l)[i * 2 + 1]? = some (.int .i64 (ls l i)) := by
  induction l generalizing i with
  | nil => simp at h
  | cons p l ih =>
    cases i with
    | zero => exact ⟨rfl, rfl⟩
    | succ i =>
      have := ih i (by simpa using h)
      rw [show (i + 1) * 2 = i * 2 + 1 + 1 by omega, show i * 2 + 1 + 1 + 1 = i * 2 + 1 + 1 + 1 by rfl]
      exact this
theorem flat_zeros (n : Nat) : flat (List.replicate n (0, 0)) = List.replicate (n * 2) (.int .i64 0) := by
  induction n with
  | zero => rfl
  | succ n ih => rw [List.replicate_succ, flat, ih, show (n + 1) * 2 = n * 2 + 1 + 1 by omega, List.replicate_succ, List.replicate_succ]
theorem flat_set (l : List (Int × Int)) (i : Nat) (p : Int × Int) (h : i < l.length) : ((flat l).set (i * 2) (.int .i64 p.1)).set (i * 2 + 1) (.int .i64 p.2) = flat (l.set i p) := by
  induction l generalizing i with
  | nil => simp at h
  | cons q l ih =>
    cases i with
    | zero => rfl
    | succ i =>
      have := ih i (by simpa using h)
      rw [show (i + 1) * 2 = i * 2 + 1 + 1 by omega]
      simp only [flat, List.set_cons_succ]
      rw [this]
/-- The copy as far as the k-th run. -/
def part (rs : List (Int × Int)) (k : Nat) : List (Int × Int) := rs.take k ++ List.replicate (rs.length - k) (0, 0)
theorem part_zero (rs : List (Int × Int)) : part rs 0 = List.replicate rs.length (0, 0) := by simp [part]
theorem part_all (rs : List (Int × Int)) : part rs rs.length = rs := by simp [part]
theorem part_length (rs : List (Int × Int)) (k : Nat) (h : k ≤ rs.length) : (part rs k).length = rs.length := by simp [part]; omega
theorem part_succ (rs : List (Int × Int)) (k : Nat) (h : k < rs.length) : (part rs k).set k (fs rs k, ls rs k) = part rs (k + 1) := by
  unfold part
  have e : rs.length - k = (rs.length - (k + 1)) + 1 := by omega
  have hl : (rs.take k).length = k := by simp; omega
  have er : rs[k] = (fs rs k, ls rs k) := by simp [fs, ls, h]
  rw [e, List.replicate_succ, List.set_append_right _ _ (by omega), hl, Nat.sub_self, List.set_cons_zero, List.take_succ_eq_append_getElem h, List.append_assoc, er]
  rfl
theorem flat_part_succ (rs : List (Int × Int)) (k : Nat) (h : k < rs.length) : ((flat (part rs k)).set (k * 2) (.int .i64 (fs rs k))).set (k * 2 + 1) (.int .i64 (ls rs k)) = flat (part rs (k + 1)) := by
  rw [← part_succ rs k h]
  exact flat_set (part rs k) k (fs rs k, ls rs k) (by rw [part_length rs k (by omega)]; exact h)

theorem made_flat (n : Nat) : (madeCells #[Value.int .i64 0, Value.int .i64 0] (n * 2)).toList = flat (List.replicate n (0, 0)) := by
  rw [flat_zeros]
  apply List.ext_getElem?
  intro j
  by_cases hj : j < n * 2
  · have : j % 2 = 0 ∨ j % 2 = 1 := by omega
    rcases this with h | h <;> simp [madeCells, hj, h]
  · simp [madeCells, hj]

/-- The capacity is no less than the length, and within the bounds. -/
def CapOk (n cap : Nat) : Prop := n ≤ cap ∧ cap ≤ 9223372036854775807

/-- A slice that owns runs, as a view. -/
theorem own_view {w : World} {base e : Nat} {v : Value} {rs : List (Int × Int)} {n : Nat} (h : w.ownsRow base e 2 v n (flat rs)) (hn : rs.length = n) : ∃ a cap, v = .slice a n cap ∧ View w a n rs ∧ (a = none → cap = 0) ∧ CapOk n cap := by
  have h' := h
  rcases h.2 with ⟨rfl, rfl⟩ | ⟨g, cap, cur, rfl, hb, hg, hnc, hm, _⟩
  · exact ⟨none, 0, rfl, ⟨hn, fun h => absurd h (by omega)⟩, fun _ => rfl, ⟨by omega, by omega⟩⟩
  · refine ⟨some ⟨g, 0, none⟩, cap, rfl, ⟨hn, fun _ => ⟨g, 0, rfl, (Array.getElem?_eq_some_iff.1 hg).1, fun i hi => ?_⟩⟩, fun h => (by cases h), ⟨hnc, by unfold maxLen at hm; omega⟩⟩
    rw [Nat.zero_add, World.ownsRow.cellAt h' (i * 2) (by omega), World.ownsRow.cellAt h' (i * 2 + 1) (by omega)]
    exact flat_get rs i hi

set_option maxHeartbeats 400000 in
theorem clone_some (b off len cap : Nat) (rs : List (Int × Int)) (w : World) (hz : rs.length = len) (hm : len ≤ 1048576) (hr : PRow w b off rs) (hbb : b < w.heap.size) :
    Calls Try.prog 10 #[.slice (some ⟨b, off, none⟩) len cap] w fun e w' => ∃ v', e = .returned v' ∧ w'.ownsRow w.heap.size 34 2 v' len (flat rs) ∧ Below w.heap.size w w' := by
  obtain ⟨i0, hi, hz0, hz1, hz2⟩ := info_parts Try.info34
  have hnil := @Lib.run_eql_slice_nil Try.prog
  go_enter Try.func10, Try.ntmps10
  go_wp2_with (at_make; refine wpList_make_full _ rfl _ _ 22 rfl w.heap.size 34 i0 (.agg #[.int .i64 0, .int .i64 0]) 2 Try.underlying22 hi hz0 hz1 _ _ _ _ len rfl rfl rfl rfl ?b1 ?b2 ?b3 ?_)
  case b1 => rw [hz2]; omega
  case b2 => unfold maxLen; omega
  case b3 => exact Nat.le_refl _
  intro w1 hown1 hgrow1
  have hB1 : Below w.heap.size w w1 := (Below.refl _ _).grown hgrow1 (Nat.le_refl _) (fun k h => by cases h)
  have hown2 : w1.ownsRow w.heap.size 34 2 (.slice (some ⟨w.heap.size, 0, none⟩) len len) len (flat (part rs 0)) := by
    rw [part_zero, hz, ← made_flat]; exact hown1
  have HZ : Hid (rs.length = len) := hz
  clear hgrow1 hz hown1
  go_wp2
  go_loopw [4] (fun i wr => ∃ k : Nat, k ≤ len ∧ i = .int .i64 k ∧ wr.ownsRow w.heap.size 34 2 (.slice (some ⟨w.heap.size, 0, none⟩) len len) len (flat (part rs k)) ∧ Below w.heap.size w wr) (fun i _ => len - (intOf i).toNat)
  case atStart => exact ⟨0, Nat.zero_le _, rfl, hown2, hB1⟩
  case round =>
    obtain ⟨k, hk, rfl, hown, hB⟩ := hrel
    by_cases hlt : k < len
    · obtain ⟨f1, f2⟩ := hr.below hB hbb k (by rw [HZ.out]; exact hlt)
      have hpl : k < (part rs k).length := by rw [part_length rs k (by rw [HZ.out]; exact hk), HZ.out]; exact hlt
      have hc1 : wr.cell? ⟨w.heap.size, k * 2, none⟩ = some (.int .i64 (fs (part rs k) k)) := by rw [hown.cellAt (k * 2) (by omega)]; exact (flat_get _ k hpl).1
      have hc2 : wr.cell? ⟨w.heap.size, k * 2 + 1, none⟩ = some (.int .i64 (ls (part rs k) k)) := by rw [hown.cellAt (k * 2 + 1) (by omega)]; exact (flat_get _ k hpl).2
      have hf1 : wr.frozen? ⟨w.heap.size, k * 2, none⟩ = false := hown.frozenAt _
      have hf2 : wr.frozen? ⟨w.heap.size, k * 2 + 1, none⟩ = false := hown.frozenAt _
      go_wp2
      go_roundw
      case rel => exact ⟨k + 1, by omega, by go_num, by rw [← flat_part_succ rs k (by rw [HZ.out]; exact hlt)]; exact ((hown.stored (k * 2) _).1.stored (k * 2 + 1) _).1, (hB.setCell (Nat.le_refl _) _).setCell (Nat.le_refl _) _⟩
      case measure => simp [intOf]; omega
    · go_wp2
      go_ret
      obtain rfl : k = len := by omega
      refine ⟨_, rfl, ?_, hB⟩
      have := part_all rs
      rw [HZ.out] at this
      rw [← this]; exact hown

theorem clone_nil (w : World) : Calls Try.prog 10 #[.slice none 0 0] w fun e w' => ∃ v', e = .returned v' ∧ w'.ownsRow w.heap.size 34 2 v' 0 (flat []) ∧ Below w.heap.size w w' := by
  have hnil := @Lib.run_eql_slice_nil Try.prog
  go_enter Try.func10, Try.ntmps10
  go_wp2
  go_ret
  exact ⟨_, rfl, World.ownsRow_nil _ _ _ _, Below.refl _ _⟩

theorem clone_empty (x : Addr) (cap : Nat) (w : World) : Calls Try.prog 10 #[.slice (some x) 0 cap] w fun e w' => ∃ v', e = .returned v' ∧ w'.ownsRow w.heap.size 34 2 v' 0 (flat []) ∧ Below w.heap.size w w' := by
  obtain ⟨i0, hi, hz0, hz1, hz2⟩ := info_parts Try.info34
  have hnil := @Lib.run_eql_slice_nil Try.prog
  go_enter Try.func10, Try.ntmps10
  go_wp2_with (at_make; refine wpList_make_full _ rfl _ _ 22 rfl w.heap.size 34 i0 (.agg #[.int .i64 0, .int .i64 0]) 2 Try.underlying22 hi hz0 hz1 _ _ _ _ 0 rfl rfl rfl rfl ?b1 ?b2 ?b3 ?_)
  case b1 => simp
  case b2 => simp
  case b3 => exact Nat.le_refl _
  intro w1 hown1 hgrow1
  have hB1 : Below w.heap.size w w1 := (Below.refl _ _).grown hgrow1 (Nat.le_refl _) (fun k h => by cases h)
  clear hgrow1
  go_wp2
  refine wp_loop_rounds 1 ?_
  rw [rounds_succ]
  go_wp2
  go_ret
  exact ⟨_, rfl, by simpa [flat, madeCells] using hown1, hB1⟩

/-- 'zzCloneRuns'. -/
theorem clone_any (a : Option Addr) (len cap : Nat) (rs : List (Int × Int)) (w : World) (hv : View w a len rs) (hm : len ≤ 1048576) (hc : a = none → cap = 0) :
    Calls Try.prog 10 #[.slice a len cap] w fun e w' => ∃ a' cap', e = .returned (.slice a' len cap') ∧ View w' a' len rs ∧ (a' = none → cap' = 0) ∧ Below w.heap.size w w' := by
  have key : Calls Try.prog 10 #[.slice a len cap] w fun e w' => ∃ v', e = .returned v' ∧ w'.ownsRow w.heap.size 34 2 v' len (flat rs) ∧ Below w.heap.size w w' := by
    by_cases hp : 0 < len
    · obtain ⟨b, off, rfl, hb, hr⟩ := hv.2 hp
      exact clone_some b off len cap rs w hv.1 hm hr hb
    · obtain rfl : len = 0 := by omega
      obtain rfl : rs = [] := List.eq_nil_of_length_eq_zero hv.1
      cases a with
      | none => rw [hc rfl]; exact clone_nil w
      | some x => exact clone_empty x cap w
  refine key.mono ?_
  rintro e w' ⟨v', rfl, hown, hB⟩
  obtain ⟨a', cap', rfl, hv', hc', _⟩ := own_view hown hv.1
  exact ⟨a', cap', rfl, hv', hc', hB⟩

end Go.Proofs.Qxb6617965a
