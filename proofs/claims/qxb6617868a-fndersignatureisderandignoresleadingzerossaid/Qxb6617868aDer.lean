/-
  PLAIN LAWS FOR THE DER SEAT: no Go in sight. Bytes are integers 0 .. 255.
-/
namespace Go.Proofs.Qxb6617868a.Der

/-- The i-th number, 0 where there is none. A name that the walk leaves closed. -/
def nth (zs : List Int) (i : Nat) : Int := zs.getD i 0

/-- One more byte where the first has its top bit set. -/
def top (ns : List Int) : Nat := if 128 ≤ nth ns 0 then 1 else 0
def pad (ns : List Int) : List Int := if 128 ≤ nth ns 0 then [0] else []
/-- The INTEGER of an unsigned number. -/
def enc (ns : List Int) : List Int := 2 :: ((ns.length + top ns : Nat) : Int) :: (pad ns ++ ns)
/-- Leading zeros struck, at least one byte kept. -/
def strip : List Int → List Int
  | [] => []
  | x :: l => if x = 0 ∧ l ≠ [] then strip l else x :: l
/-- The i-th byte from the right, 0 where there is none. -/
def dig (a : List Int) (i : Nat) : Int := if i < a.length then nth a (a.length - 1 - i) else 0
def hdr (body : Nat) : List Int := if 128 ≤ body then [48, 129, (body : Int)] else [48, (body : Int)]
def seq2 (r s : List Int) : List Int := hdr ((enc r).length + (enc s).length) ++ (enc r ++ enc s)
def sig (rs : List Int) : List Int := seq2 (strip (rs.take (rs.length / 2))) (strip (rs.drop (rs.length / 2)))
def Byt (zs : List Int) : Prop := ∀ i, 0 ≤ nth zs i ∧ nth zs i ≤ 255

theorem nth_cons_zero (x : Int) (l : List Int) : nth (x :: l) 0 = x := rfl
theorem nth_cons_succ (x : Int) (l : List Int) (i : Nat) : nth (x :: l) (i + 1) = nth l i := rfl
theorem nth_append_left (a b : List Int) (i : Nat) (h : i < a.length) : nth (a ++ b) i = nth a i := by
  simp [nth, List.getElem?_append_left h]
theorem nth_append_right (a b : List Int) (i : Nat) : nth (a ++ b) (a.length + i) = nth b i := by
  simp [nth, List.getElem?_append_right]
theorem nth_drop (a : List Int) (k i : Nat) : nth (a.drop k) i = nth a (k + i) := by
  simp [nth]
theorem nth_take (a : List Int) (k i : Nat) (h : i < k) : nth (a.take k) i = nth a i := by
  simp [nth, h]
theorem nth_out (a : List Int) (i : Nat) (h : a.length ≤ i) : nth a i = 0 := by
  simp [nth, List.getElem?_eq_none h]
theorem ext_nth (a b : List Int) (hl : a.length = b.length) (h : ∀ i, i < a.length → nth a i = nth b i) : a = b := by
  apply List.ext_getElem hl
  intro i h1 h2
  have := h i h1
  simpa [nth, h1, h2] using this

theorem Byt.append {a b : List Int} (ha : Byt a) (hb : Byt b) : Byt (a ++ b) := by
  intro i
  by_cases h : i < a.length
  · rw [nth_append_left _ _ _ h]; exact ha i
  · rw [show i = a.length + (i - a.length) by omega, nth_append_right]; exact hb _
theorem Byt.drop {a : List Int} (ha : Byt a) (k : Nat) : Byt (a.drop k) := by
  intro i; rw [nth_drop]; exact ha _
theorem Byt.take {a : List Int} (ha : Byt a) (k : Nat) : Byt (a.take k) := by
  intro i
  by_cases h : i < k
  · rw [nth_take _ _ _ h]; exact ha _
  · rw [nth_out _ _ (by have := List.length_take_le k a; omega)]; omega
theorem byt_nil : Byt [] := by intro i; simp [nth]
theorem byt_one {x : Int} (h : 0 ≤ x ∧ x ≤ 255) : Byt [x] := by
  intro i
  cases i with
  | zero => exact h
  | succ i => rw [nth_cons_succ]; exact byt_nil i
theorem byt_replicate (k : Nat) : Byt (List.replicate k 0) := by
  intro i; simp [nth, List.getElem?_replicate]; split <;> simp

theorem top_le (ns : List Int) : top ns ≤ 1 := by unfold top; split <;> omega
theorem pad_length (ns : List Int) : (pad ns).length = top ns := by unfold pad top; split <;> simp
theorem enc_length (ns : List Int) : (enc ns).length = 2 + ns.length + top ns := by
  simp [enc, pad_length]; omega

/-! ### 'strip' -/
theorem strip_length_le (l : List Int) : (strip l).length ≤ l.length := by
  induction l with
  | nil => simp [strip]
  | cons x l ih =>
    rw [strip]; split
    · simp; omega
    · exact Nat.le_refl _
theorem strip_pos (l : List Int) (h : 0 < l.length) : 0 < (strip l).length := by
  induction l with
  | nil => simp at h
  | cons x l ih =>
    rw [strip]; split
    · rename_i hc; exact ih (List.length_pos_iff.2 hc.2)
    · simp
theorem strip_drop (l : List Int) : strip l = l.drop (l.length - (strip l).length) := by
  induction l with
  | nil => simp [strip]
  | cons x l ih =>
    rw [strip]; split
    · have := strip_length_le l
      rw [show (x :: l).length - (strip l).length = (l.length - (strip l).length) + 1 by simp; omega, List.drop_succ_cons]
      exact ih
    · simp
theorem strip_step (l : List Int) (h0 : nth l 0 = 0) (h1 : 1 < l.length) : strip (l.drop 1) = strip l := by
  match l with
  | [] => simp at h1
  | x :: l =>
    have hx : x = 0 := h0
    have hl : l ≠ [] := by intro h; simp [h] at h1
    rw [List.drop_one, List.tail_cons]
    rw [strip, if_pos ⟨hx, hl⟩]
theorem strip_done (l : List Int) (h : ¬ (1 < l.length ∧ nth l 0 = 0)) : strip l = l := by
  match l with
  | [] => rfl
  | x :: l =>
    rw [strip, if_neg]
    rintro ⟨rfl, hl⟩
    exact h ⟨by have := List.length_pos_iff.2 hl; simp; omega, rfl⟩
theorem strip_zeros (k : Nat) (l : List Int) (h : 0 < l.length) : strip (List.replicate k 0 ++ l) = strip l := by
  induction k with
  | zero => rfl
  | succ k ih =>
    rw [List.replicate_succ, List.cons_append, strip, if_pos ⟨rfl, List.ne_nil_of_length_pos (by simp; omega)⟩]
    exact ih
theorem strip_byt {l : List Int} (h : Byt l) : Byt (strip l) := by rw [strip_drop]; exact h.drop _
/-- What is left of a number either begins with a byte that is not 0, or is one byte. -/
theorem strip_head (l : List Int) : (strip l).length ≤ 1 ∨ nth (strip l) 0 ≠ 0 := by
  induction l with
  | nil => simp [strip]
  | cons x l ih =>
    rw [strip]; split
    · exact ih
    · rename_i hc
      by_cases hx : x = 0
      · left
        have : l = [] := by
          by_cases hl : l = []
          · exact hl
          · exact absurd ⟨hx, hl⟩ hc
        simp [this]
      · right; exact hx

/-! ### 'dig' -/
theorem dig_cons_zero (a : List Int) (i : Nat) : dig (0 :: a) i = dig a i := by
  unfold dig
  by_cases h : i < a.length
  · rw [if_pos (by simp; omega), if_pos h, show (0 :: a).length - 1 - i = (a.length - 1 - i) + 1 by simp; omega, nth_cons_succ]
  · rw [if_neg h]; split
    · rename_i h'
      rw [show (0 :: a).length - 1 - i = 0 by simp at h' ⊢; omega, nth_cons_zero]
    · rfl
theorem dig_pad (a : List Int) (i : Nat) : dig (pad a ++ a) i = dig a i := by
  unfold pad; split
  · exact dig_cons_zero a i
  · rfl
theorem dig_strip (a : List Int) (i : Nat) : dig (strip a) i = dig a i := by
  induction a with
  | nil => rfl
  | cons x l ih =>
    rw [strip]; split
    · rename_i hc; rw [ih, hc.1, dig_cons_zero]
    · rfl
theorem dig_byt {a : List Int} (h : Byt a) (i : Nat) : 0 ≤ dig a i ∧ dig a i ≤ 255 := by
  unfold dig; split
  · exact h _
  · omega

/-! ### the content's length -/
/-- Leading zeros. -/
def lead : List Int → Nat
  | [] => 0
  | x :: l => if x = 0 then lead l + 1 else 0
theorem lead_le (l : List Int) : lead l ≤ l.length := by
  induction l with
  | nil => simp [lead]
  | cons x l ih => rw [lead]; split <;> simp; omega
theorem lead_zero (l : List Int) (i : Nat) (h : i < lead l) : nth l i = 0 := by
  induction l generalizing i with
  | nil => simp [lead] at h
  | cons x l ih =>
    rw [lead] at h
    split at h
    · cases i with
      | zero => assumption
      | succ i => rw [nth_cons_succ]; exact ih i (by omega)
    · omega
theorem lead_stop (l : List Int) (h : lead l < l.length) : nth l (lead l) ≠ 0 := by
  induction l with
  | nil => simp at h
  | cons x l ih =>
    rw [lead] at h ⊢
    split at h
    · rename_i hx; rw [if_pos hx, nth_cons_succ]; exact ih (by simpa using h)
    · rename_i hx; rw [if_neg hx]; exact hx
/-- What the loop finds is 'lead'. -/
theorem lead_eq (l : List Int) (f : Nat) (hf : f ≤ l.length) (h0 : ∀ i, i < f → nth l i = 0) (h1 : f < l.length → nth l f ≠ 0) : f = lead l := by
  rcases Nat.lt_trichotomy f (lead l) with h | h | h
  · exact absurd (lead_zero l f h) (h1 (by have := lead_le l; omega))
  · exact h
  · exact absurd (h0 _ h) (lead_stop l (by omega))
theorem strip_lead (l : List Int) (h : lead l < l.length) : strip l = l.drop (lead l) := by
  induction l with
  | nil => simp at h
  | cons x l ih =>
    rw [lead] at h ⊢
    split at h
    · rename_i hx
      have hl : lead l < l.length := by simpa using h
      rw [if_pos hx, List.drop_succ_cons, strip, if_pos ⟨hx, List.ne_nil_of_length_pos (by omega)⟩]
      exact ih hl
    · rename_i hx; rw [if_neg hx, strip, if_neg (fun hc => hx hc.1)]; rfl
theorem strip_all (l : List Int) (h : lead l = l.length) (hp : 0 < l.length) : strip l = [0] := by
  induction l with
  | nil => simp at hp
  | cons x l ih =>
    rw [lead] at h
    split at h
    · rename_i hx
      have hl : lead l = l.length := by simpa using h
      by_cases hn : l = []
      · subst hn; simp [strip, hx]
      · rw [strip, if_pos ⟨hx, hn⟩]; exact ih hl (List.length_pos_iff.2 hn)
    · simp at h
/-- 'derContentLen' of a number of at least one byte. -/
def clen (l : List Int) : Nat := (strip l).length + top (strip l)
theorem clen_all (l : List Int) (h : lead l = l.length) (hp : 0 < l.length) : clen l = 1 := by
  unfold clen; rw [strip_all l h hp]; simp [top, nth]
theorem clen_some (l : List Int) (h : lead l < l.length) : clen l = l.length - lead l + if 128 ≤ nth l (lead l) then 1 else 0 := by
  unfold clen; rw [strip_lead l h]; simp only [top, nth_drop, List.length_drop, Nat.add_zero]

end Go.Proofs.Qxb6617868a.Der
