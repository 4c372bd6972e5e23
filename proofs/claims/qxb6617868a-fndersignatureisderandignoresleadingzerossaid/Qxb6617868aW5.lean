import Derived.Test.Qxb6617868aW4
namespace Go.Proofs.Qxb6617868a
open Go.RowKit Der

/-- A content that is minimal and not negative. -/
def Mini (C : List Int) (m : Nat) : Prop := nth C 0 < 128 ∧ (m ≤ 1 ∨ (1 < m ∧ nth C 0 ≠ 0) ∨ (1 < m ∧ nth C 0 = 0 ∧ 128 ≤ nth C 1))

set_option maxHeartbeats 1000000 in
set_option maxRecDepth 100000 in
theorem derInt_core (g n cap pos m bw ow lw cw : Nat) (C ws : List Int) (w : World) (hC : C.length = m) (hws : ws.length = lw) (hm1 : 1 ≤ m) (hm2 : m ≤ 127) (hfit : pos + 2 + m ≤ n) (_hn : n ≤ 1048576) (hcap : n ≤ cap) (hcm : cap ≤ maxLen) (hlw : lw ≤ 1048576)
    (f0 : w.cell? ⟨g, pos, none⟩ = some (.int .u8 2)) (f1 : w.cell? ⟨g, pos + 1, none⟩ = some (.int .u8 (m : Int))) (hr : Row w g (pos + 2) C) (hrw : Row w bw ow ws) (hb : Byt C) (hmin : Mini C m) (hd : ∀ i, dig C i = dig ws i) :
    Calls Try.prog 26 #[.slice (some ⟨g, 0, none⟩) n cap, .int .i64 (pos : Nat), .slice (some ⟨bw, ow, none⟩) lw cw] w fun e w' => e = .returned (.tuple #[.int .i64 ((pos + 2 + m : Nat) : Int), .bool true]) ∧ w = w' := by
  unfold maxLen at hcm
  have HC : Hid (C.length = m) := hC
  have HW : Hid (ws.length = lw) := hws
  have HD : Hid (∀ i, dig C i = dig ws i) := hd
  have f2 := hr.head (by omega)
  have hb0 := (hb 0).1
  have q0 : decide ((n : Int) < (pos : Int) + 2) = false := by simp; omega
  have q1 : decide ((128 : Int) ≤ (m : Int)) = false := by simp; omega
  have q2 : decide ((m : Int) < 1) = false := by simp; omega
  have q3 : decide ((n : Int) < (pos : Int) + 2 + (m : Int)) = false := by simp; omega
  obtain ⟨hc0, hcs⟩ := hmin
  clear hC hws hd
  rcases hcs with h | ⟨h, hne⟩ | ⟨h, h0, h1⟩
  · have q4 : decide ((1 : Int) < (m : Int)) = false := by simp; omega
    go_enter Try.func26, Try.ntmps26
    go_wp2_with fail
    refine (sameNumber_yes g (pos + 2) m (cap - (pos + 2)) bw ow lw cw C ws w HC.out HW.out (by omega) hlw hr hrw HD.out).mono ?_
    rintro e w' ⟨rfl, rfl⟩
    go_wp2
    go_ret2
    exact ⟨by simp, rfl⟩
  · have q4 : decide ((1 : Int) < (m : Int)) = true := by simp; omega
    have q5 : (nth C 0 == 0) = false := by simp [hne]
    clear hne
    go_enter Try.func26, Try.ntmps26
    go_wp2_with fail
    refine (sameNumber_yes g (pos + 2) m (cap - (pos + 2)) bw ow lw cw C ws w HC.out HW.out (by omega) hlw hr hrw HD.out).mono ?_
    rintro e w' ⟨rfl, rfl⟩
    go_wp2
    go_ret2
    exact ⟨by simp, rfl⟩
  · have q4 : decide ((1 : Int) < (m : Int)) = true := by simp; omega
    have f3 : w.cell? ⟨g, pos + 2 + 1, none⟩ = some (.int .u8 (nth C 1)) := hr 1 (by rw [HC.out]; exact h)
    rw [h0] at f2
    have q5 : decide (nth C 1 < 128) = false := by simp; omega
    clear h0
    go_enter Try.func26, Try.ntmps26
    go_wp2_with fail
    refine (sameNumber_yes g (pos + 2) m (cap - (pos + 2)) bw ow lw cw C ws w HC.out HW.out (by omega) hlw hr hrw HD.out).mono ?_
    rintro e w' ⟨rfl, rfl⟩
    go_wp2
    go_ret2
    exact ⟨by simp, rfl⟩

theorem mini_pad {ns : List Int} {m : Nat} (h1 : 1 ≤ ns.length) (hm : m = ns.length + top ns) (hmin : ns.length ≤ 1 ∨ nth ns 0 ≠ 0) : Mini (pad ns ++ ns) m := by
  by_cases h : 128 ≤ nth ns 0
  · have ht : top ns = 1 := by simp [top, h]
    rw [pad_hi h]
    exact ⟨by rw [nth_cons_zero]; omega, .inr (.inr ⟨by omega, rfl, h⟩)⟩
  · have ht : top ns = 0 := by simp [top, h]
    rw [pad_lo h]
    refine ⟨by omega, ?_⟩
    rcases hmin with h2 | h2
    · exact .inl (by omega)
    · by_cases h3 : m ≤ 1
      · exact .inl h3
      · exact .inr (.inl ⟨by omega, h2⟩)

theorem byt_pad {ns : List Int} (h : Byt ns) : Byt (pad ns ++ ns) := by
  refine Byt.append ?_ h
  unfold pad; split
  · exact byt_one (by omega)
  · exact byt_nil

/-- 'derInteger' at the place where an encoding lies. -/
theorem derInt_any (g n cap pos m bw ow lw cw : Nat) (D ns ws : List Int) (w : World) (hD : D.length = n) (hws : ws.length = lw) (hns : 1 ≤ ns.length) (hm : m = ns.length + top ns) (hm2 : m ≤ 127) (hfit : pos + 2 + m ≤ n) (hn : n ≤ 1048576) (hcap : n ≤ cap) (hcm : cap ≤ maxLen) (hlw : lw ≤ 1048576)
    (hr : Row w g 0 D) (hsub : ∀ i, i < 2 + m → nth D (pos + i) = nth (enc ns) i) (hrw : Row w bw ow ws) (hb : Byt ns) (hmin : ns.length ≤ 1 ∨ nth ns 0 ≠ 0) (hd : ∀ i, dig ns i = dig ws i) :
    Calls Try.prog 26 #[.slice (some ⟨g, 0, none⟩) n cap, .int .i64 (pos : Nat), .slice (some ⟨bw, ow, none⟩) lw cw] w fun e w' => e = .returned (.tuple #[.int .i64 ((pos + 2 + m : Nat) : Int), .bool true]) ∧ w = w' := by
  have hl : (pad ns ++ ns).length = m := by rw [List.length_append, pad_length]; omega
  refine derInt_core g n cap pos m bw ow lw cw (pad ns ++ ns) ws w hl hws (by omega) hm2 hfit hn hcap hcm hlw ?_ ?_ ?_ hrw (byt_pad hb) (mini_pad hns hm hmin) (fun i => (dig_pad ns i).trans (hd i))
  · have := hr pos (by omega)
    rw [Nat.zero_add] at this
    rw [this]
    have h0 := hsub 0 (by omega)
    rw [Nat.add_zero] at h0
    rw [h0]; rfl
  · have := hr (pos + 1) (by omega)
    rw [Nat.zero_add] at this
    rw [this, hsub 1 (by omega), enc_one, hm]
    simp
  · intro i hi
    rw [hl] at hi
    have := hr (pos + 2 + i) (by omega)
    rw [Nat.zero_add] at this
    rw [this, show pos + 2 + i = pos + (2 + i) by omega, hsub (2 + i) (by omega), enc_rest]

end Go.Proofs.Qxb6617868a
