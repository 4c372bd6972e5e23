/-
  PLAIN LAWS FOR THE CPUSET SEAT: no Go in sight. A set is a list of runs (first, last).
-/
namespace Go.Proofs.Qxb6617965a.Cpu

/-- The first and the last number of the i-th run. Names that the walk leaves closed. -/
def fs (rs : List (Int × Int)) (i : Nat) : Int := (rs.getD i (0, 0)).1
def ls (rs : List (Int × Int)) (i : Nat) : Int := (rs.getD i (0, 0)).2

/-- Runs ascending; no two overlap or touch. -/
def Canon : List (Int × Int) → Prop
  | [] => True
  | p :: l => p.1 ≤ p.2 ∧ (∀ q ∈ l, p.2 + 1 < q.1) ∧ Canon l
def mem (x : Int) (rs : List (Int × Int)) : Prop := ∃ p ∈ rs, p.1 ≤ x ∧ x ≤ p.2
def memB (rs : List (Int × Int)) (x : Int) : Bool := rs.any fun p => decide (p.1 ≤ x) && decide (x ≤ p.2)
def InR (rs : List (Int × Int)) : Prop := ∀ p ∈ rs, 0 ≤ p.1 ∧ p.1 ≤ p.2 ∧ p.2 ≤ 1073741824

theorem memB_iff (rs : List (Int × Int)) (x : Int) : memB rs x = true ↔ mem x rs := by
  simp [memB, mem]
theorem mem_nil (x : Int) : ¬ mem x [] := by simp [mem]
theorem mem_cons (x : Int) (p : Int × Int) (l : List (Int × Int)) : mem x (p :: l) ↔ (p.1 ≤ x ∧ x ≤ p.2) ∨ mem x l := by
  simp [mem]
theorem mem_append (x : Int) (a b : List (Int × Int)) : mem x (a ++ b) ↔ mem x a ∨ mem x b := by
  simp only [mem, List.mem_append]
  constructor
  · rintro ⟨p, h | h, h'⟩
    · exact .inl ⟨p, h, h'⟩
    · exact .inr ⟨p, h, h'⟩
  · rintro (⟨p, h, h'⟩ | ⟨p, h, h'⟩)
    · exact ⟨p, .inl h, h'⟩
    · exact ⟨p, .inr h, h'⟩

/-- Each run of a canonical list has its ends in order. -/
theorem Canon.le {l : List (Int × Int)} (h : Canon l) : ∀ p ∈ l, p.1 ≤ p.2 := by
  induction l with
  | nil => intro p hp; cases hp
  | cons a l ih =>
    intro p hp
    rcases List.mem_cons.1 hp with rfl | hp
    · exact h.1
    · exact ih h.2.2 p hp
theorem Canon.mem_fst {l : List (Int × Int)} (h : Canon l) {p : Int × Int} (hp : p ∈ l) : mem p.1 l := ⟨p, hp, Int.le_refl _, h.le p hp⟩
theorem Canon.mem_snd {l : List (Int × Int)} (h : Canon l) {p : Int × Int} (hp : p ∈ l) : mem p.2 l := ⟨p, hp, h.le p hp, Int.le_refl _⟩
theorem canon_one {p : Int × Int} (h : p.1 ≤ p.2) : Canon [p] := ⟨h, fun q hq => (by cases hq), trivial⟩
theorem canon_append {a b : List (Int × Int)} (ha : Canon a) (hb : Canon b) (h : ∀ p ∈ a, ∀ q ∈ b, p.2 + 1 < q.1) : Canon (a ++ b) := by
  induction a with
  | nil => exact hb
  | cons p a ih =>
    refine ⟨ha.1, fun q hq => ?_, ih ha.2.2 fun p' hp' => h p' (List.mem_cons_of_mem _ hp')⟩
    rcases List.mem_append.1 hq with hq | hq
    · exact ha.2.1 q hq
    · exact h p List.mem_cons_self q hq
/-- Members of a canonical list's tail lie beyond its head. -/
theorem Canon.tail_gt {p : Int × Int} {l : List (Int × Int)} (h : Canon (p :: l)) {x : Int} (hx : mem x l) : p.2 + 1 < x := by
  obtain ⟨q, hq, h1, _⟩ := hx
  have := h.2.1 q hq
  omega

/-- Two canonical lists with the same members are equal. -/
theorem canon_ext {a b : List (Int × Int)} (ha : Canon a) (hb : Canon b) (h : ∀ x, mem x a ↔ mem x b) : a = b := by
  induction a generalizing b with
  | nil =>
    cases b with
    | nil => rfl
    | cons q b => exact absurd ((h q.1).2 (hb.mem_fst List.mem_cons_self)) (mem_nil _)
  | cons p a ih =>
    cases b with
    | nil => exact absurd ((h p.1).1 (ha.mem_fst List.mem_cons_self)) (mem_nil _)
    | cons q b =>
      have hp := ha.1
      have hq := hb.1
      have e1 : p.1 = q.1 := by
        have h1 := (h p.1).1 (ha.mem_fst List.mem_cons_self)
        have h2 := (h q.1).2 (hb.mem_fst List.mem_cons_self)
        rw [mem_cons] at h1 h2
        rcases h1 with h1 | h1
        · rcases h2 with h2 | h2
          · omega
          · have := ha.tail_gt h2; omega
        · have := hb.tail_gt h1
          rcases h2 with h2 | h2
          · omega
          · have := ha.tail_gt h2; omega
      have e2 : p.2 = q.2 := by
        rcases Int.lt_trichotomy p.2 q.2 with hlt | he | hlt
        · have h1 := (h (p.2 + 1)).2 ⟨q, List.mem_cons_self, by omega, by omega⟩
          rw [mem_cons] at h1
          rcases h1 with h1 | h1
          · omega
          · have := ha.tail_gt h1; omega
        · exact he
        · have h1 := (h (q.2 + 1)).1 ⟨p, List.mem_cons_self, by omega, by omega⟩
          rw [mem_cons] at h1
          rcases h1 with h1 | h1
          · omega
          · have := hb.tail_gt h1; omega
      have e : p = q := Prod.ext e1 e2
      subst e
      congr 1
      refine ih ha.2.2 hb.2.2 fun x => ⟨fun hx => ?_, fun hx => ?_⟩
      · have h1 := (h x).1 ((mem_cons x p a).2 (.inr hx))
        rw [mem_cons] at h1
        rcases h1 with h1 | h1
        · have := ha.tail_gt hx; omega
        · exact h1
      · have h1 := (h x).2 ((mem_cons x p b).2 (.inr hx))
        rw [mem_cons] at h1
        rcases h1 with h1 | h1
        · have := hb.tail_gt hx; omega
        · exact h1

/-! ### the intersection -/
def piece (a b : Int × Int) : List (Int × Int) := if max a.1 b.1 ≤ min a.2 b.2 then [(max a.1 b.1, min a.2 b.2)] else []
def interOne (a : Int × Int) (k : List (Int × Int) → List (Int × Int)) : List (Int × Int) → List (Int × Int)
  | [] => []
  | b :: t => piece a b ++ if a.2 < b.2 then k (b :: t) else interOne a k t
def inter : List (Int × Int) → List (Int × Int) → List (Int × Int)
  | [] => fun _ => []
  | a :: s => interOne a (inter s)

theorem inter_nil_left (t : List (Int × Int)) : inter [] t = [] := rfl
theorem inter_nil_right (s : List (Int × Int)) : inter s [] = [] := by cases s <;> rfl
theorem inter_cons (a b : Int × Int) (s t : List (Int × Int)) : inter (a :: s) (b :: t) = piece a b ++ if a.2 < b.2 then inter s (b :: t) else inter (a :: s) t := rfl

theorem mem_piece (a b : Int × Int) (x : Int) : mem x (piece a b) ↔ (a.1 ≤ x ∧ x ≤ a.2) ∧ (b.1 ≤ x ∧ x ≤ b.2) := by
  unfold piece; split
  · simp [mem]; omega
  · simp [mem]; omega
theorem piece_run {a b p : Int × Int} (h : p ∈ piece a b) : p.1 ≤ p.2 ∧ p.2 ≤ a.2 ∧ p.2 ≤ b.2 := by
  unfold piece at h; split at h
  · simp at h; subst h; simp only; omega
  · cases h
theorem canon_piece (a b : Int × Int) : Canon (piece a b) := by
  unfold piece; split
  · rename_i h; exact canon_one h
  · trivial
theorem piece_length (a b : Int × Int) : (piece a b).length ≤ 1 := by unfold piece; split <;> simp

theorem inter_both : ∀ (s t : List (Int × Int)), Canon s → Canon t → Canon (inter s t) ∧ ∀ x, mem x (inter s t) ↔ mem x s ∧ mem x t := by
  intro s
  induction s with
  | nil => intro t _ _; exact ⟨trivial, fun x => by simp [inter, mem]⟩
  | cons a s ihs =>
    intro t
    induction t with
    | nil => intro _ _; exact ⟨trivial, fun x => by simp [inter, interOne, mem]⟩
    | cons b t iht =>
      intro hs ht
      have ih1 := ihs (b :: t) hs.2.2 ht
      have ih2 := iht hs ht.2.2
      rw [inter_cons]
      by_cases hab : a.2 < b.2
      · rw [if_pos hab]
        refine ⟨canon_append (canon_piece a b) ih1.1 fun p hp q hq => ?_, fun x => ?_⟩
        · have := piece_run hp
          have h2 := ((ih1.2 q.1).1 (ih1.1.mem_fst hq)).1
          have := hs.tail_gt h2
          omega
        · rw [mem_append, mem_piece, ih1.2, mem_cons x a s]
          constructor
          · rintro (h | h)
            · exact ⟨.inl h.1, (mem_cons x b t).2 (.inl h.2)⟩
            · exact ⟨.inr h.1, h.2⟩
          · rintro ⟨h | h, h'⟩
            · left
              rw [mem_cons] at h'
              rcases h' with h' | h'
              · exact ⟨h, h'⟩
              · have := ht.tail_gt h'; omega
            · exact .inr ⟨h, h'⟩
      · rw [if_neg hab]
        refine ⟨canon_append (canon_piece a b) ih2.1 fun p hp q hq => ?_, fun x => ?_⟩
        · have := piece_run hp
          have h2 := ((ih2.2 q.1).1 (ih2.1.mem_fst hq)).2
          have := ht.tail_gt h2
          omega
        · rw [mem_append, mem_piece, ih2.2, mem_cons x b t]
          constructor
          · rintro (h | h)
            · exact ⟨(mem_cons x a s).2 (.inl h.1), .inl h.2⟩
            · exact ⟨h.1, .inr h.2⟩
          · rintro ⟨h', h | h⟩
            · left
              rw [mem_cons] at h'
              rcases h' with h' | h'
              · exact ⟨h', h⟩
              · have := hs.tail_gt h'; omega
            · exact .inr ⟨h', h⟩
theorem inter_length : ∀ (s t : List (Int × Int)), (inter s t).length ≤ s.length + t.length := by
  intro s
  induction s with
  | nil => intro t; simp [inter]
  | cons a s ihs =>
    intro t
    induction t with
    | nil => simp [inter, interOne]
    | cons b t iht =>
      rw [inter_cons, List.length_append]
      have := piece_length a b
      have := ihs (b :: t)
      simp only [List.length_cons] at *
      split <;> omega

/-! ### the difference -/
/-- The runs that can still meet a run that begins at f. -/
def adv (f : Int) : List (Int × Int) → List (Int × Int)
  | [] => []
  | b :: t => if b.2 < f then adv f t else b :: t
/-- The inner loop: what it appends, and where it stands. -/
def cut (l : Int) : Int → List (Int × Int) → List (Int × Int) × Int
  | f, [] => ([], f)
  | f, b :: t => if l < b.1 then ([], f) else ((if f < b.1 then [(f, b.1 - 1)] else []) ++ (cut l (b.2 + 1) t).1, (cut l (b.2 + 1) t).2)
def lastRun (f l : Int) : List (Int × Int) := if f ≤ l then [(f, l)] else []
def cutAll (l f : Int) (t : List (Int × Int)) : List (Int × Int) := (cut l f t).1 ++ lastRun (cut l f t).2 l
def diff : List (Int × Int) → List (Int × Int) → List (Int × Int)
  | [], _ => []
  | r :: s, t => cutAll r.2 r.1 (adv r.1 t) ++ diff s (adv r.1 t)

theorem cutAll_nil (l f : Int) : cutAll l f [] = lastRun f l := rfl
theorem cutAll_out (l f : Int) (b : Int × Int) (t : List (Int × Int)) (h : l < b.1) : cutAll l f (b :: t) = lastRun f l := by
  simp [cutAll, cut, h]
theorem cutAll_in (l f : Int) (b : Int × Int) (t : List (Int × Int)) (h : ¬ l < b.1) : cutAll l f (b :: t) = (if f < b.1 then [(f, b.1 - 1)] else []) ++ cutAll l (b.2 + 1) t := by
  simp [cutAll, cut, h]
theorem mem_lastRun (f l x : Int) : mem x (lastRun f l) ↔ f ≤ x ∧ x ≤ l := by
  unfold lastRun; split
  · simp [mem]
  · simp [mem]; omega
theorem canon_lastRun (f l : Int) : Canon (lastRun f l) := by
  unfold lastRun; split
  · rename_i h; exact canon_one h
  · trivial

theorem adv_sub (f : Int) (t : List (Int × Int)) : ∃ k, adv f t = t.drop k := by
  induction t with
  | nil => exact ⟨0, rfl⟩
  | cons b t ih =>
    rw [adv]; split
    · obtain ⟨k, hk⟩ := ih; exact ⟨k + 1, hk⟩
    · exact ⟨0, rfl⟩
theorem adv_length (f : Int) (t : List (Int × Int)) : (adv f t).length ≤ t.length := by
  obtain ⟨k, hk⟩ := adv_sub f t
  rw [hk, List.length_drop]; omega
theorem canon_adv (f : Int) {t : List (Int × Int)} (h : Canon t) : Canon (adv f t) := by
  induction t with
  | nil => trivial
  | cons b t ih =>
    rw [adv]; split
    · exact ih h.2.2
    · exact h
theorem adv_ge (f : Int) {t : List (Int × Int)} (h : Canon t) : ∀ b ∈ adv f t, f ≤ b.2 := by
  induction t with
  | nil => intro b hb; cases hb
  | cons a t ih =>
    rw [adv]; split
    · exact ih h.2.2
    · intro b hb
      rcases List.mem_cons.1 hb with rfl | hb
      · omega
      · have h1 := h.2.1 b hb
        have h2 := h.2.2.le b hb
        omega
theorem mem_adv (f : Int) (t : List (Int × Int)) (x : Int) (hx : f ≤ x) : mem x (adv f t) ↔ mem x t := by
  induction t with
  | nil => exact Iff.rfl
  | cons b t ih =>
    rw [adv]; split
    · rw [ih, mem_cons]
      constructor
      · exact .inr
      · rintro (h | h)
        · omega
        · exact h
    · exact Iff.rfl

theorem cutAll_both (l : Int) : ∀ (t : List (Int × Int)) (f : Int), Canon t → (∀ b ∈ t, f ≤ b.2) → Canon (cutAll l f t) ∧ ∀ x, mem x (cutAll l f t) ↔ (f ≤ x ∧ x ≤ l) ∧ ¬ mem x t := by
  intro t
  induction t with
  | nil => intro f _ _; exact ⟨canon_lastRun f l, fun x => by rw [cutAll_nil, mem_lastRun]; simp [mem_nil]⟩
  | cons b t ih =>
    intro f hc hf
    by_cases hb : l < b.1
    · rw [cutAll_out l f b t hb]
      refine ⟨canon_lastRun f l, fun x => ?_⟩
      rw [mem_lastRun, mem_cons]
      constructor
      · intro h
        refine ⟨h, ?_⟩
        rintro (h' | h')
        · omega
        · have h1 := hc.tail_gt h'
          have h2 := hc.1
          omega
      · exact fun h => h.1
    · have hb1 := hc.1
      have hfb := hf b List.mem_cons_self
      have ih1 := ih (b.2 + 1) hc.2.2 (fun q hq => by
        have h1 := hc.2.1 q hq
        have h2 := hc.2.2.le q hq
        omega)
      rw [cutAll_in l f b t hb]
      by_cases hfb' : f < b.1
      · rw [if_pos hfb']
        refine ⟨canon_append (canon_one (by simp only; omega)) ih1.1 fun p hp q hq => ?_, fun x => ?_⟩
        · simp at hp; subst hp
          have := ((ih1.2 q.1).1 (ih1.1.mem_fst hq)).1
          simp only; omega
        · rw [mem_append, ih1.2, mem_cons x b t]
          constructor
          · rintro (h | h)
            · simp [mem] at h
              refine ⟨by omega, ?_⟩
              rintro (h' | h')
              · omega
              · have := hc.tail_gt h'; omega
            · refine ⟨by omega, ?_⟩
              rintro (h' | h')
              · omega
              · exact h.2 h'
          · rintro ⟨h, h'⟩
            by_cases hx : x < b.1
            · left; simp [mem]; omega
            · right
              refine ⟨⟨?_, h.2⟩, fun q => h' (.inr q)⟩
              by_cases hx2 : x ≤ b.2
              · exact absurd (.inl ⟨by omega, hx2⟩) h'
              · omega
      · rw [if_neg hfb', List.nil_append]
        refine ⟨ih1.1, fun x => ?_⟩
        rw [ih1.2, mem_cons x b t]
        constructor
        · rintro ⟨h, h'⟩
          refine ⟨by omega, ?_⟩
          rintro (h2 | h2)
          · omega
          · exact h' h2
        · rintro ⟨h, h'⟩
          refine ⟨⟨?_, h.2⟩, fun q => h' (.inr q)⟩
          by_cases hx2 : x ≤ b.2
          · exact absurd (.inl ⟨by omega, hx2⟩) h'
          · omega

theorem diff_both : ∀ (s t : List (Int × Int)), Canon s → Canon t → Canon (diff s t) ∧ ∀ x, mem x (diff s t) ↔ mem x s ∧ ¬ mem x t := by
  intro s
  induction s with
  | nil => intro t _ _; exact ⟨trivial, fun x => by simp [diff, mem]⟩
  | cons r s ih =>
    intro t hs ht
    have hr := hs.1
    have ha := canon_adv r.1 ht
    have hcut := cutAll_both r.2 (adv r.1 t) r.1 ha (adv_ge r.1 ht)
    have ih1 := ih (adv r.1 t) hs.2.2 ha
    rw [diff]
    refine ⟨canon_append hcut.1 ih1.1 fun p hp q hq => ?_, fun x => ?_⟩
    · have h1 := ((hcut.2 p.2).1 (hcut.1.mem_snd hp)).1
      have h2 := hs.tail_gt ((ih1.2 q.1).1 (ih1.1.mem_fst hq)).1
      omega
    · rw [mem_append, hcut.2, ih1.2, mem_cons x r s]
      constructor
      · rintro (h | h)
        · exact ⟨.inl h.1, fun q => h.2 ((mem_adv r.1 t x h.1.1).2 q)⟩
        · have := hs.tail_gt h.1
          exact ⟨.inr h.1, fun q => h.2 ((mem_adv r.1 t x (by omega)).2 q)⟩
      · rintro ⟨h | h, h'⟩
        · exact .inl ⟨h, fun q => h' ((mem_adv r.1 t x h.1).1 q)⟩
        · have := hs.tail_gt h
          exact .inr ⟨h, fun q => h' ((mem_adv r.1 t x (by omega)).1 q)⟩

theorem cut_length (l : Int) : ∀ (t : List (Int × Int)) (f : Int), (cut l f t).1.length ≤ t.length := by
  intro t
  induction t with
  | nil => intro f; simp [cut]
  | cons b t ih =>
    intro f
    have := ih (b.2 + 1)
    rw [cut]; split
    · simp
    · simp only [List.length_append, List.length_cons]
      split <;> simp <;> omega
theorem cutAll_length (l f : Int) (t : List (Int × Int)) : (cutAll l f t).length ≤ t.length + 1 := by
  have := cut_length l t f
  unfold cutAll lastRun
  rw [List.length_append]; split <;> simp <;> omega
theorem diff_length : ∀ (s t : List (Int × Int)), (diff s t).length ≤ s.length * (t.length + 1) := by
  intro s
  induction s with
  | nil => intro t; simp [diff]
  | cons r s ih =>
    intro t
    have h1 := cutAll_length r.2 r.1 (adv r.1 t)
    have h2 := ih (adv r.1 t)
    have h3 := adv_length r.1 t
    have h4 : s.length * ((adv r.1 t).length + 1) ≤ s.length * (t.length + 1) := Nat.mul_le_mul_left _ (by omega)
    rw [diff, List.length_append, List.length_cons, Nat.add_mul]
    omega

end Go.Proofs.Qxb6617965a.Cpu
