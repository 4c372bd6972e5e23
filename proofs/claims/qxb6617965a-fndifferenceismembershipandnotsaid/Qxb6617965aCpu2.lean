/-
  PLAIN LAWS FOR THE CPUSET SEAT, MORE: by index; the sizes; the covering run.
-/
import Derived.Test.Qxb6617965aCpu
namespace Go.Proofs.Qxb6617965a.Cpu

theorem at_mem (rs : List (Int × Int)) (i : Nat) (h : i < rs.length) : (fs rs i, ls rs i) ∈ rs := by
  have : (fs rs i, ls rs i) = rs[i] := by simp [fs, ls, h]
  rw [this]; exact List.getElem_mem h
theorem mem_at (rs : List (Int × Int)) (p : Int × Int) (h : p ∈ rs) : ∃ i, i < rs.length ∧ p.1 = fs rs i ∧ p.2 = ls rs i := by
  obtain ⟨i, hi, rfl⟩ := List.mem_iff_getElem.1 h
  exact ⟨i, hi, by simp [fs, hi], by simp [ls, hi]⟩
theorem fs_cons_zero (p : Int × Int) (l : List (Int × Int)) : fs (p :: l) 0 = p.1 := rfl
theorem ls_cons_zero (p : Int × Int) (l : List (Int × Int)) : ls (p :: l) 0 = p.2 := rfl
theorem fs_cons_succ (p : Int × Int) (l : List (Int × Int)) (i : Nat) : fs (p :: l) (i + 1) = fs l i := rfl
theorem ls_cons_succ (p : Int × Int) (l : List (Int × Int)) (i : Nat) : ls (p :: l) (i + 1) = ls l i := rfl
theorem drop_at (rs : List (Int × Int)) (i : Nat) (h : i < rs.length) : rs.drop i = (fs rs i, ls rs i) :: rs.drop (i + 1) := by
  have e : rs[i] = (fs rs i, ls rs i) := by simp [fs, ls, h]
  rw [List.drop_eq_getElem_cons h, e]

/-- One run's place in a canonical list, by index. -/
def Step (rs : List (Int × Int)) (i : Nat) : Prop := fs rs i ≤ ls rs i ∧ (0 < i → ls rs (i - 1) + 1 < fs rs i)
theorem canon_step {rs : List (Int × Int)} (h : Canon rs) (i : Nat) (hi : i < rs.length) : Step rs i := by
  induction rs generalizing i with
  | nil => simp at hi
  | cons p l ih =>
    cases i with
    | zero => exact ⟨h.1, fun h0 => absurd h0 (by omega)⟩
    | succ i =>
      have hi' : i < l.length := by simpa using hi
      have := ih h.2.2 i hi'
      refine ⟨this.1, fun _ => ?_⟩
      rw [Nat.add_sub_cancel, fs_cons_succ]
      cases i with
      | zero => rw [ls_cons_zero]; exact h.2.1 _ (at_mem l 0 hi')
      | succ i =>
        rw [ls_cons_succ]
        exact this.2 (by omega)
theorem canon_of_steps {rs : List (Int × Int)} (h : ∀ i, i < rs.length → Step rs i) : Canon rs := by
  induction rs with
  | nil => trivial
  | cons p l ih =>
    have hl : ∀ i, i < l.length → Step l i := fun i hi => by
      have := h (i + 1) (by simp; omega)
      refine ⟨this.1, fun h0 => ?_⟩
      have h2 := this.2 (by omega)
      rw [Nat.add_sub_cancel, fs_cons_succ] at h2
      cases i with
      | zero => omega
      | succ i => rw [ls_cons_succ] at h2; exact h2
    refine ⟨(h 0 (by simp)).1, fun q hq => ?_, ih hl⟩
    obtain ⟨i, hi, e1, _⟩ := mem_at l q hq
    rw [e1]
    have h0 : ∀ j, j < l.length → p.2 + 1 < fs l j := by
      intro j
      induction j with
      | zero =>
        intro hj
        have h2 := (h 1 (by simp; omega)).2 (by omega)
        exact h2
      | succ j ihj =>
        intro hj
        have h1 := ihj (by omega)
        have h2 := (hl j (by omega)).1
        have h3 := (hl (j + 1) hj).2 (by omega)
        rw [Nat.add_sub_cancel] at h3
        omega
    exact h0 i hi
theorem Canon.ls_mono {rs : List (Int × Int)} (h : Canon rs) : ∀ i j, i ≤ j → j < rs.length → ls rs i ≤ ls rs j := by
  intro i j hij
  induction j with
  | zero => intro _; have : i = 0 := by omega
            subst this; exact Int.le_refl _
  | succ j ih =>
    intro hj
    by_cases e : i = j + 1
    · subst e; exact Int.le_refl _
    · have h1 := ih (by omega) (by omega)
      have h2 := canon_step h (j + 1) hj
      have h3 := h2.2 (by omega)
      rw [Nat.add_sub_cancel] at h3
      have := h2.1
      omega

/-! ### the range of members -/
theorem InR.of_mem {r s : List (Int × Int)} (hc : Canon r) (hs : InR s) (h : ∀ x, mem x r → mem x s) : InR r := by
  intro p hp
  obtain ⟨q, hq, h1, _⟩ := h _ (hc.mem_fst hp)
  obtain ⟨q', hq', _, h4⟩ := h _ (hc.mem_snd hp)
  have a := hs q hq
  have b := hs q' hq'
  exact ⟨by omega, hc.le p hp, by omega⟩
theorem inter_inR {s t : List (Int × Int)} (hs : Canon s) (ht : Canon t) (h : InR s) : InR (inter s t) :=
  InR.of_mem (inter_both s t hs ht).1 h fun x hx => (((inter_both s t hs ht).2 x).1 hx).1
theorem diff_inR {s t : List (Int × Int)} (hs : Canon s) (ht : Canon t) (h : InR s) : InR (diff s t) :=
  InR.of_mem (diff_both s t hs ht).1 h fun x hx => (((diff_both s t hs ht).2 x).1 hx).1

/-! ### the sizes -/
def count : List (Int × Int) → Int
  | [] => 0
  | p :: l => (p.2 - p.1 + 1) + count l
/-- How many of 0 .. n-1 meet P. -/
def card (P : Int → Bool) : Nat → Int
  | 0 => 0
  | n + 1 => card P n + if P (n : Int) then 1 else 0
theorem card_split (P Q : Int → Bool) (n : Nat) : card (fun x => P x && Q x) n + card (fun x => P x && !Q x) n = card P n := by
  induction n with
  | zero => rfl
  | succ n ih =>
    simp only [card]
    by_cases hp : P (n : Int) = true <;> by_cases hq : Q (n : Int) = true <;> simp [hp, hq] <;> omega
theorem card_congr (P Q : Int → Bool) (n : Nat) (h : ∀ x, P x = Q x) : card P n = card Q n := by
  have : P = Q := funext h
  rw [this]
theorem card_or (P Q : Int → Bool) (n : Nat) (h : ∀ x, ¬ (P x = true ∧ Q x = true)) : card (fun x => P x || Q x) n = card P n + card Q n := by
  induction n with
  | zero => rfl
  | succ n ih =>
    have := h (n : Int)
    simp only [card]
    by_cases hp : P (n : Int) = true
    · by_cases hq : Q (n : Int) = true
      · exact absurd ⟨hp, hq⟩ this
      · simp [hp, hq]; omega
    · by_cases hq : Q (n : Int) = true
      · simp [hp, hq]; omega
      · simp [hp, hq]; omega
theorem card_run (a b : Int) (n : Nat) : 0 ≤ a → a ≤ b + 1 → card (fun x => decide (a ≤ x) && decide (x ≤ b)) n = if (n : Int) ≤ a then 0 else if (n : Int) ≤ b + 1 then (n : Int) - a else b + 1 - a := by
  intro ha hb
  induction n with
  | zero => simp [card]; omega
  | succ n ih =>
    simp only [card, ih, Bool.and_eq_true, decide_eq_true_eq]
    have : ((n + 1 : Nat) : Int) = (n : Int) + 1 := by omega
    rw [this]
    by_cases h1 : (n : Int) + 1 ≤ a
    · rw [if_pos (by omega), if_pos h1, if_neg (by omega)]; omega
    · rw [if_neg h1]
      by_cases h2 : (n : Int) ≤ a
      · rw [if_pos h2]
        by_cases h3 : a ≤ b
        · rw [if_pos (by omega), if_pos (by omega)]; omega
        · rw [if_neg (by omega)]
          split <;> omega
      · rw [if_neg h2]
        by_cases h4 : (n : Int) ≤ b
        · rw [if_pos (by omega), if_pos (by omega), if_pos (by omega)]; omega
        · rw [if_neg (show ¬ (a ≤ (n : Int) ∧ (n : Int) ≤ b) by omega)]
          by_cases h5 : (n : Int) ≤ b + 1
          · rw [if_pos h5, if_neg (by omega)]; omega
          · rw [if_neg h5, if_neg (by omega)]; omega
theorem count_card {rs : List (Int × Int)} (h : Canon rs) (n : Nat) (hr : ∀ p ∈ rs, 0 ≤ p.1 ∧ p.2 < (n : Int)) : count rs = card (memB rs) n := by
  induction rs with
  | nil =>
    have : ∀ n, card (memB []) n = 0 := by
      intro n; induction n with
      | zero => rfl
      | succ n ih => simp only [card, ih]; simp [memB]
    rw [this]; rfl
  | cons p l ih =>
    have h1 := ih h.2.2 fun q hq => hr q (List.mem_cons_of_mem _ hq)
    have hp := hr p List.mem_cons_self
    have hle := h.1
    have h2 : card (memB (p :: l)) n = card (fun x => (decide (p.1 ≤ x) && decide (x ≤ p.2)) || memB l x) n := card_congr _ _ n fun x => by simp [memB]
    rw [h2, card_or (fun x => decide (p.1 ≤ x) && decide (x ≤ p.2)) (memB l) n, ← h1, card_run p.1 p.2 n hp.1 (by omega), if_neg (by omega)]
    · rw [count]; split <;> omega
    · rintro x ⟨g1, g2⟩
      simp at g1
      have := h.tail_gt ((memB_iff l x).1 g2)
      omega
theorem memB_eq {a b : List (Int × Int)} {x : Int} (h : mem x a ↔ mem x b) : memB a x = memB b x := by
  rw [Bool.eq_iff_iff, memB_iff, memB_iff]; exact h
theorem inter_memB {s t : List (Int × Int)} (hs : Canon s) (ht : Canon t) (x : Int) : memB (inter s t) x = (memB s x && memB t x) := by
  rw [Bool.eq_iff_iff, memB_iff, (inter_both s t hs ht).2]; simp [memB_iff]
theorem diff_memB {s t : List (Int × Int)} (hs : Canon s) (ht : Canon t) (x : Int) : memB (diff s t) x = (memB s x && !memB t x) := by
  rw [Bool.eq_iff_iff, memB_iff, (diff_both s t hs ht).2]
  simp only [Bool.and_eq_true, memB_iff, Bool.not_eq_true']
  constructor
  · rintro ⟨h1, h2⟩
    refine ⟨h1, ?_⟩
    cases h : memB t x
    · rfl
    · exact absurd ((memB_iff t x).1 h) h2
  · rintro ⟨h1, h2⟩
    exact ⟨h1, fun h => by rw [(memB_iff t x).2 h] at h2; cases h2⟩
theorem count_split {s t : List (Int × Int)} (hs : Canon s) (ht : Canon t) (h : InR s) : count (inter s t) + count (diff s t) = count s := by
  have key : ∀ rs : List (Int × Int), InR rs → ∀ p ∈ rs, 0 ≤ p.1 ∧ p.2 < ((1073741825 : Nat) : Int) := fun rs hr p hp => by
    have := hr p hp
    exact ⟨this.1, by omega⟩
  generalize hN : (1073741825 : Nat) = N at key
  rw [count_card (inter_both s t hs ht).1 N (key _ (inter_inR hs ht h)), count_card (diff_both s t hs ht).1 N (key _ (diff_inR hs ht h)), count_card hs N (key _ h),
    card_congr _ _ N (inter_memB hs ht), card_congr _ _ N (diff_memB hs ht), card_split]
theorem count_bounds {rs : List (Int × Int)} (h : InR rs) : 0 ≤ count rs ∧ count rs ≤ 1073741825 * (rs.length : Int) := by
  induction rs with
  | nil => simp [count]
  | cons p l ih =>
    have h1 := ih fun q hq => h q (List.mem_cons_of_mem _ hq)
    have h2 := h p List.mem_cons_self
    simp only [count, List.length_cons]
    omega
theorem count_take (rs : List (Int × Int)) (k : Nat) (h : k < rs.length) : count (rs.take (k + 1)) = count (rs.take k) + (ls rs k - fs rs k + 1) := by
  induction rs generalizing k with
  | nil => simp at h
  | cons p l ih =>
    cases k with
    | zero => simp [count, fs_cons_zero, ls_cons_zero]
    | succ k =>
      have := ih k (by simpa using h)
      rw [List.take_succ_cons, List.take_succ_cons, count, count, this, fs_cons_succ, ls_cons_succ]
      omega

/-! ### the covering run -/
/-- How many runs end before p. -/
def pre (p : Int) : List (Int × Int) → Nat
  | [] => 0
  | b :: t => if b.2 < p then pre p t + 1 else 0
theorem pre_le (p : Int) (rs : List (Int × Int)) : pre p rs ≤ rs.length := by
  induction rs with
  | nil => simp [pre]
  | cons b t ih => rw [pre]; split <;> simp; omega
theorem pre_lt (p : Int) (rs : List (Int × Int)) (i : Nat) (h : i < pre p rs) : ls rs i < p := by
  induction rs generalizing i with
  | nil => simp [pre] at h
  | cons b t ih =>
    rw [pre] at h
    split at h
    · cases i with
      | zero => assumption
      | succ i => rw [ls_cons_succ]; exact ih i (by omega)
    · omega
theorem pre_stop (p : Int) (rs : List (Int × Int)) (h : pre p rs < rs.length) : p ≤ ls rs (pre p rs) := by
  induction rs with
  | nil => simp at h
  | cons b t ih =>
    rw [pre] at h ⊢
    split at h
    · rename_i hb; rw [if_pos hb, ls_cons_succ]; exact ih (by simpa using h)
    · rename_i hb; rw [if_neg hb, ls_cons_zero]; omega
/-- What the binary search finds is 'pre'. -/
theorem pre_eq (p : Int) (rs : List (Int × Int)) (k : Nat) (hk : k ≤ rs.length) (h0 : ∀ i, i < k → ls rs i < p) (h1 : k < rs.length → p ≤ ls rs k) : k = pre p rs := by
  rcases Nat.lt_trichotomy k (pre p rs) with h | h | h
  · have := pre_lt p rs k h
    have := h1 (by have := pre_le p rs; omega)
    omega
  · exact h
  · have := h0 _ h
    have := pre_stop p rs (by omega)
    omega
/-- 'zzIndexCovering'. -/
def cov (rs : List (Int × Int)) (p : Int) : Int := if pre p rs < rs.length ∧ fs rs (pre p rs) ≤ p then (pre p rs : Int) else -1
theorem cov_yes {rs : List (Int × Int)} {p : Int} (h : 0 ≤ cov rs p) : ∃ i : Nat, cov rs p = (i : Int) ∧ i < rs.length ∧ fs rs i ≤ p ∧ p ≤ ls rs i := by
  unfold cov at h ⊢
  split at h
  · rename_i hc
    exact ⟨pre p rs, by rw [if_pos hc], hc.1, hc.2, pre_stop p rs hc.1⟩
  · omega
theorem cov_mem {rs : List (Int × Int)} (hc : Canon rs) {p : Int} (h : mem p rs) : 0 ≤ cov rs p := by
  obtain ⟨q, hq, h1, h2⟩ := h
  obtain ⟨i, hi, e1, e2⟩ := mem_at rs q hq
  have hp : pre p rs ≤ i := by
    apply Nat.le_of_not_lt
    intro hlt
    have := pre_lt p rs i hlt
    omega
  have hf : fs rs (pre p rs) ≤ p := by
    by_cases e : pre p rs = i
    · rw [e]; omega
    · have h3 := canon_step hc (pre p rs) (by omega)
      have h4 := hc.ls_mono (pre p rs) (i - 1) (by omega) (by omega)
      have h5 := (canon_step hc i hi).2 (by omega)
      have := h3.1
      omega
  unfold cov
  rw [if_pos ⟨by omega, hf⟩]
  omega
theorem cov_iff {rs : List (Int × Int)} (hc : Canon rs) (p : Int) : decide (0 ≤ cov rs p) = memB rs p := by
  rw [Bool.eq_iff_iff, memB_iff]
  simp only [decide_eq_true_eq]
  constructor
  · intro h
    obtain ⟨i, _, hi, h1, h2⟩ := cov_yes h
    exact ⟨_, at_mem rs i hi, h1, h2⟩
  · exact cov_mem hc

/-- A run of s that lies inside one run of t is a run of the intersection. -/
theorem run_kept {s t : List (Int × Int)} (hs : Canon s) (ht : Canon t) (i : Nat) (hi : i < s.length) (hk : 0 ≤ cov t (fs s i)) (k : Nat) (ek : cov t (fs s i) = (k : Int)) (hl : ls s i ≤ ls t k) :
    ∃ j : Nat, cov (inter s t) (fs s i) = (j : Int) ∧ j < (inter s t).length ∧ fs (inter s t) j = fs s i ∧ ls (inter s t) j = ls s i := by
  have hI := inter_both s t hs ht
  obtain ⟨k', ek', hk', g1, g2⟩ := cov_yes hk
  have e : k' = k := by omega
  subst e
  have hsi := canon_step hs i hi
  have hle := hsi.1
  have hall : ∀ x, fs s i ≤ x → x ≤ ls s i → mem x (inter s t) := fun x h1 h2 =>
    (hI.2 x).2 ⟨⟨_, at_mem s i hi, h1, h2⟩, ⟨_, at_mem t k' hk', by simp only; omega, by simp only; omega⟩⟩
  -- what lies just outside the run is not in s
  have hout1 : ¬ mem (fs s i - 1) s := by
    rintro ⟨q, hq, h1, h2⟩
    obtain ⟨m, hm, e1, e2⟩ := mem_at s q hq
    rcases Nat.lt_trichotomy m i with h | h | h
    · have h3 := hs.ls_mono m (i - 1) (by omega) (by omega)
      have h4 := hsi.2 (by omega)
      omega
    · subst h; omega
    · have h3 := canon_step hs m hm
      have h4 := hs.ls_mono i (m - 1) (by omega) (by omega)
      have h5 := h3.2 (by omega)
      omega
  have hout2 : ¬ mem (ls s i + 1) s := by
    rintro ⟨q, hq, h1, h2⟩
    obtain ⟨m, hm, e1, e2⟩ := mem_at s q hq
    rcases Nat.lt_trichotomy m i with h | h | h
    · have h3 := hs.ls_mono m (i - 1) (by omega) (by omega)
      have h4 := hsi.2 (by omega)
      omega
    · subst h; omega
    · have h3 := canon_step hs m hm
      have h4 := hs.ls_mono i (m - 1) (by omega) (by omega)
      have h5 := h3.2 (by omega)
      omega
  have hj0 := cov_mem hI.1 (hall (fs s i) (by omega) hle)
  obtain ⟨j, ej, hj, j1, j2⟩ := cov_yes hj0
  refine ⟨j, ej, hj, ?_, ?_⟩
  · by_cases e : fs (inter s t) j = fs s i
    · exact e
    · exact absurd (((hI.2 (fs s i - 1)).1 ⟨_, at_mem _ j hj, by simp only; omega, by simp only; omega⟩).1) hout1
  · rcases Int.lt_trichotomy (ls (inter s t) j) (ls s i) with h | h | h
    · have hm := hall (ls (inter s t) j + 1) (by omega) (by omega)
      obtain ⟨q, hq, h1, h2⟩ := hm
      obtain ⟨m, hm, e1, e2⟩ := mem_at _ q hq
      rcases Nat.lt_trichotomy m j with h' | h' | h'
      · have := hI.1.ls_mono m j (by omega) hj
        omega
      · subst h'; omega
      · have h3 := canon_step hI.1 m hm
        have h4 := hI.1.ls_mono j (m - 1) (by omega) (by omega)
        have h5 := h3.2 (by omega)
        omega
    · exact h
    · exact absurd (((hI.2 (ls s i + 1)).1 ⟨_, at_mem _ j hj, by simp only; omega, by simp only; omega⟩).1) hout2

/-! ### the laws -/
theorem inter_comm {s t : List (Int × Int)} (hs : Canon s) (ht : Canon t) : inter s t = inter t s :=
  canon_ext (inter_both s t hs ht).1 (inter_both t s ht hs).1 fun x => by
    rw [(inter_both s t hs ht).2, (inter_both t s ht hs).2]; exact And.comm
theorem diff_diff {s t : List (Int × Int)} (hs : Canon s) (ht : Canon t) : diff s (diff s t) = inter s t := by
  have hd := diff_both s t hs ht
  refine canon_ext (diff_both s _ hs hd.1).1 (inter_both s t hs ht).1 fun x => ?_
  rw [(diff_both s _ hs hd.1).2, hd.2, (inter_both s t hs ht).2]
  constructor
  · rintro ⟨h1, h2⟩
    exact ⟨h1, Classical.byContradiction fun h => h2 ⟨h1, h⟩⟩
  · rintro ⟨h1, h2⟩
    exact ⟨h1, fun h => h.2 h2⟩
theorem diff_inter {s t : List (Int × Int)} (hs : Canon s) (ht : Canon t) : diff s (inter s t) = diff s t := by
  have hi := inter_both s t hs ht
  refine canon_ext (diff_both s _ hs hi.1).1 (diff_both s t hs ht).1 fun x => ?_
  rw [(diff_both s _ hs hi.1).2, hi.2, (diff_both s t hs ht).2]
  constructor
  · rintro ⟨h1, h2⟩
    exact ⟨h1, fun h => h2 ⟨h1, h⟩⟩
  · rintro ⟨h1, h2⟩
    exact ⟨h1, fun h => h2 h.2⟩
theorem nil_of_no_mem {r : List (Int × Int)} (hc : Canon r) (h : ∀ x, ¬ mem x r) : r = [] := by
  cases r with
  | nil => rfl
  | cons p l => exact absurd (hc.mem_fst List.mem_cons_self) (h _)
theorem inter_inter_diff {s t : List (Int × Int)} (hs : Canon s) (ht : Canon t) : inter (inter s t) (diff s t) = [] := by
  have hi := inter_both s t hs ht
  have hd := diff_both s t hs ht
  refine nil_of_no_mem (inter_both _ _ hi.1 hd.1).1 fun x hx => ?_
  rw [(inter_both _ _ hi.1 hd.1).2, hi.2, hd.2] at hx
  exact hx.2.2 hx.1.2
theorem diff_inter_right {s t : List (Int × Int)} (hs : Canon s) (ht : Canon t) : diff (inter s t) t = [] := by
  have hi := inter_both s t hs ht
  refine nil_of_no_mem (diff_both _ _ hi.1 ht).1 fun x hx => ?_
  rw [(diff_both _ _ hi.1 ht).2, hi.2] at hx
  exact hx.2 hx.1.2
theorem inter_diff_right {s t : List (Int × Int)} (hs : Canon s) (ht : Canon t) : inter (diff s t) t = [] := by
  have hd := diff_both s t hs ht
  refine nil_of_no_mem (inter_both _ _ hd.1 ht).1 fun x hx => ?_
  rw [(inter_both _ _ hd.1 ht).2, hd.2] at hx
  exact hx.1.2 hx.2

end Go.Proofs.Qxb6617965a.Cpu
