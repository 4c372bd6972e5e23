import Derived.Test.Qxb6617868aW5
namespace Go.Proofs.Qxb6617868a
open Go.RowKit Der

theorem seq_len (r s : List Int) : (seq2 r s).length = (hdr ((enc r).length + (enc s).length)).length + ((enc r).length + (enc s).length) := by
  simp [seq2]
theorem hdr_hi {n : Nat} (h : 128 ≤ n) : hdr n = [48, 129, (n : Int)] := by simp [hdr, h]
theorem hdr_lo {n : Nat} (h : ¬ 128 ≤ n) : hdr n = [48, (n : Int)] := by simp [hdr, h]
theorem seq_r (r s : List Int) (k : Nat) (hk : (hdr ((enc r).length + (enc s).length)).length = k) (i : Nat) (h : i < (enc r).length) : nth (seq2 r s) (k + i) = nth (enc r) i := by
  subst hk
  unfold seq2
  rw [nth_append_right, nth_append_left _ _ _ h]
theorem seq_s (r s : List Int) (k : Nat) (hk : (hdr ((enc r).length + (enc s).length)).length = k) (i : Nat) : nth (seq2 r s) (k + (enc r).length + i) = nth (enc s) i := by
  subst hk
  unfold seq2
  rw [Nat.add_assoc, nth_append_right, nth_append_right]

/-- What 'derSequence' must know of one half. -/
structure Half (w : World) (b off len : Nat) (want ns : List Int) (m : Nat) : Prop where
  lenIs : want.length = len
  small : len ≤ 1048576
  row : Row w b off want
  pos : 1 ≤ ns.length
  mIs : m = ns.length + top ns
  le : m ≤ 127
  byt : Byt ns
  mini : ns.length ≤ 1 ∨ nth ns 0 ≠ 0
  same : ∀ i, dig ns i = dig want i

set_option maxHeartbeats 1000000 in
set_option maxRecDepth 100000 in
theorem derSeq_any (g n cap b0 o0 l0 c0 b1 o1 l1 c1 m0 m1 start mid : Nat) (r s r' s' : List Int) (w : World) (hn : n = start + (2 + m0 + (2 + m1))) (hst : start = if 128 ≤ 2 + m0 + (2 + m1) then 3 else 2) (hmid : start + 2 + m0 = mid) (hbody : 2 + m0 + (2 + m1) ≤ 255) (hcap : n ≤ cap) (hcm : cap ≤ maxLen)
    (hr : Row w g 0 (seq2 r' s')) (h0 : Half w b0 o0 l0 r r' m0) (h1 : Half w b1 o1 l1 s s' m1) :
    Calls Try.prog 16 #[.slice (some ⟨g, 0, none⟩) n cap, .slice (some ⟨b0, o0, none⟩) l0 c0, .slice (some ⟨b1, o1, none⟩) l1 c1] w fun e w' => e = .returned (.tuple #[.int .i64 (start : Nat), .int .i64 (mid : Nat), .bool true]) ∧ w = w' := by
  have e0 : (enc r').length = 2 + m0 := by rw [enc_length, h0.mIs]; omega
  have e1 : (enc s').length = 2 + m1 := by rw [enc_length, h1.mIs]; omega
  have hD : (seq2 r' s').length = n := by
    rw [seq_len, e0, e1, hn, hst]; split
    · rename_i h; rw [hdr_hi h]; rfl
    · rename_i h; rw [hdr_lo h]; rfl
  have hh : (hdr ((enc r').length + (enc s').length)).length = start := by
    rw [e0, e1, hst]; split
    · rename_i h; rw [hdr_hi h]; rfl
    · rename_i h; rw [hdr_lo h]; rfl
  have HR : Hid (∀ i, i < 2 + m0 → nth (seq2 r' s') (start + i) = nth (enc r') i) := fun i hi => seq_r r' s' start hh i (by omega)
  have HS : Hid (∀ i, i < 2 + m1 → nth (seq2 r' s') (start + 2 + m0 + i) = nth (enc s') i) := fun i _ => by
    have := seq_s r' s' start hh i
    rw [e0] at this
    rw [← this]; congr 1; omega
  have HN : Hid (n = start + (2 + m0 + (2 + m1))) := hn
  have n1 : (n : Int) ≤ (start : Int) + (2 + (m0 : Int) + (2 + (m1 : Int))) := by omega
  have n2 : (start : Int) + (2 + (m0 : Int) + (2 + (m1 : Int))) ≤ (n : Int) := by omega
  have HDl : Hid ((seq2 r' s').length = n) := hD
  have k1 := h0.le
  have k2 := h1.le
  have n3 : start + 2 + m0 + 2 + m1 ≤ n := by omega
  have HM : Hid (start + 2 + m0 = mid) := hmid
  have n6 : mid + 2 + m1 ≤ n := by omega
  have n4 : n ≤ 258 := by rw [hn, hst]; split <;> omega
  have n5 : n ≤ mid + 2 + m1 := by omega
  by_cases hb : 128 ≤ 2 + m0 + (2 + m1)
  · rw [if_pos hb] at hst
    subst hst
    have hx : seq2 r' s' = [48, 129, ((2 + m0 + (2 + m1) : Nat) : Int)] ++ (enc r' ++ enc s') := by unfold seq2; rw [e0, e1, hdr_hi hb]
    have f0 : w.cell? ⟨g, 0, none⟩ = some (.int .u8 48) := by have := hr 0 (by omega); rw [hx] at this; exact this
    have f1 : w.cell? ⟨g, 1, none⟩ = some (.int .u8 129) := by have := hr 1 (by omega); rw [hx] at this; exact this
    have f2 : w.cell? ⟨g, 2, none⟩ = some (.int .u8 ((2 + m0 + (2 + m1) : Nat) : Int)) := by have := hr 2 (by omega); rw [hx] at this; exact this
    have q1 : decide ((n : Int) < 2) = false := by simp; omega
    have q2 : decide ((n : Int) < 3) = false := by simp; omega
    generalize hB : 2 + m0 + (2 + m1) = B at *
    have q3 : decide ((B : Int) < 128) = false := by simp; omega
    have q4 : ((n : Int) != 3 + (B : Int)) = false := by simp; omega
    clear hB hx hn e0 e1 hD hh n1 n2 hmid
    go_enter Try.func16, Try.ntmps16
    go_wp2_with fail
    refine (derInt_any g n cap 3 m0 b0 o0 l0 c0 (seq2 r' s') r' r w HDl.out h0.lenIs h0.pos h0.mIs h0.le (by omega) (by omega) hcap hcm h0.small hr HR.out h0.row h0.byt h0.mini h0.same).mono ?_
    rintro e w' ⟨rfl, rfl⟩
    rw [HM.out]
    go_wp2_with fail
    refine (derInt_any g n cap mid m1 b1 o1 l1 c1 (seq2 r' s') s' s w HDl.out h1.lenIs h1.pos h1.mIs h1.le (by omega) (by omega) hcap hcm h1.small hr (by rw [← HM.out]; exact HS.out) h1.row h1.byt h1.mini h1.same).mono ?_
    rintro e w' ⟨rfl, rfl⟩
    rw [show mid + 2 + m1 = n by omega]
    go_wp2
    go_ret3
    exact ⟨rfl, rfl⟩
  · rw [if_neg hb] at hst
    subst hst
    have hx : seq2 r' s' = [48, ((2 + m0 + (2 + m1) : Nat) : Int)] ++ (enc r' ++ enc s') := by unfold seq2; rw [e0, e1, hdr_lo hb]
    have f0 : w.cell? ⟨g, 0, none⟩ = some (.int .u8 48) := by have := hr 0 (by omega); rw [hx] at this; exact this
    have f1 : w.cell? ⟨g, 1, none⟩ = some (.int .u8 ((2 + m0 + (2 + m1) : Nat) : Int)) := by have := hr 1 (by omega); rw [hx] at this; exact this
    have q1 : decide ((n : Int) < 2) = false := by simp; omega
    generalize hB : 2 + m0 + (2 + m1) = B at *
    have q3 : decide ((128 : Int) ≤ (B : Int)) = false := by simp; omega
    have q4 : ((n : Int) != 2 + (B : Int)) = false := by simp; omega
    clear hB hx hn e0 e1 hD hh n1 n2 hmid
    go_enter Try.func16, Try.ntmps16
    go_wp2_with fail
    refine (derInt_any g n cap 2 m0 b0 o0 l0 c0 (seq2 r' s') r' r w HDl.out h0.lenIs h0.pos h0.mIs h0.le (by omega) (by omega) hcap hcm h0.small hr HR.out h0.row h0.byt h0.mini h0.same).mono ?_
    rintro e w' ⟨rfl, rfl⟩
    rw [HM.out]
    go_wp2_with fail
    refine (derInt_any g n cap mid m1 b1 o1 l1 c1 (seq2 r' s') s' s w HDl.out h1.lenIs h1.pos h1.mIs h1.le (by omega) (by omega) hcap hcm h1.small hr (by rw [← HM.out]; exact HS.out) h1.row h1.byt h1.mini h1.same).mono ?_
    rintro e w' ⟨rfl, rfl⟩
    rw [show mid + 2 + m1 = n by omega]
    go_wp2
    go_ret3
    exact ⟨rfl, rfl⟩

end Go.Proofs.Qxb6617868a
