import Derived.Test.Qxb6617868aW3
namespace Go.Proofs.Qxb6617868a
open Go.RowKit Der

/-- The length in a slot that holds a slice: for a loop's measure. -/
def slen : Value → Nat | .slice _ l _ => l | _ => 0
/-- How many bytes 'strip' strikes. -/
def sd (zs : List Int) : Nat := zs.length - (strip zs).length

theorem sd_of (zs : List Int) (d : Nat) (hd : d < zs.length) (h1 : strip (zs.drop d) = strip zs) (h2 : ¬ (1 < zs.length - d ∧ nth zs d = 0)) : d = sd zs := by
  have h3 : strip (zs.drop d) = zs.drop d := by
    apply strip_done
    rw [nth_drop, List.length_drop]
    exact h2
  have h4 := congrArg List.length (h1.symm.trans h3)
  rw [List.length_drop] at h4
  unfold sd; omega

theorem sd_lt (zs : List Int) (h : 0 < zs.length) : sd zs < zs.length := by
  have := strip_pos zs h
  unfold sd; omega
theorem sd_len (zs : List Int) : (strip zs).length = zs.length - sd zs := by
  have := strip_length_le zs
  unfold sd; omega
theorem sd_row {w : World} {b off : Nat} {zs : List Int} (h : Row w b off zs) : Row w b (off + sd zs) (strip zs) := by
  have := h.tail (sd zs)
  rw [strip_drop]; exact this

theorem slice_eq {b o o' l l' c c' : Nat} (h1 : o = o') (h2 : l = l') (h3 : c = c') : Value.slice (some ⟨b, o, none⟩) l c = .slice (some ⟨b, o', none⟩) l' c' := by
  subst h1; subst h2; subst h3; rfl

set_option maxHeartbeats 400000 in
theorem wlz_any (b off len cap : Nat) (zs : List Int) (w : World) (hz : zs.length = len) (hl : 1 ≤ len) (hm : len ≤ 1048576) (hc : len ≤ cap) (hcm : cap ≤ 9223372036854775807) (hr : Row w b off zs) :
    Calls Try.prog 29 #[.slice (some ⟨b, off, none⟩) len cap] w fun e w' => e = .returned (.slice (some ⟨b, off + sd zs, none⟩) (len - sd zs) (cap - sd zs)) ∧ w = w' := by
  have hcm' := hcm
  have HZ : Hid (zs.length = len) := hz
  clear hz
  go_enter Try.func29, Try.ntmps29
  go_wp2
  go_loop [0] (fun v => ∃ d : Nat, d < len ∧ v = .slice (some ⟨b, off + d, none⟩) (len - d) (cap - d) ∧ Hid (strip (zs.drop d) = strip zs)) (fun v => slen v)
  case atStart => exact ⟨0, by omega, rfl, rfl⟩
  case round =>
    obtain ⟨d, hd, rfl, hs⟩ := hrel
    have hc0 : w.cell? ⟨b, off + d, none⟩ = some (.int .u8 (nth zs d)) := hr d (by rw [HZ.out]; exact hd)
    by_cases h1 : 1 < len - d
    · have q1 : (1 : Int) < ((len - d : Nat) : Int) := by omega
      have q2 : 1 < cap - d := by omega
      by_cases h2 : nth zs d = 0
      · rw [h2] at hc0
        have H2 : Hid (nth zs d = 0) := h2
        clear h2
        go_wp2
        go_round
        case rel =>
          refine ⟨d + 1, by omega, slice_eq (by omega) (by omega) (by omega), ?_⟩
          have h3 := strip_step (zs.drop d) (by rw [nth_drop]; exact H2.out) (by rw [List.length_drop, HZ.out]; exact h1)
          rw [List.drop_drop] at h3
          exact h3.trans hs.out
        case measure => simp only [slen]; omega
      · have q3 : (nth zs d == 0) = false := by simp [h2]
        have H2 : Hid (¬ nth zs d = 0) := h2
        clear h2
        go_wp2
        go_ret
        have e := sd_of zs d (by rw [HZ.out]; exact hd) hs.out (fun h => H2.out h.2)
        rw [← e]
        exact ⟨rfl, rfl⟩
    · have H1 : Hid (¬ 1 < len - d) := h1
      go_wp2
      go_ret
      have e := sd_of zs d (by rw [HZ.out]; exact hd) hs.out (fun h => H1.out (by rw [← HZ.out]; exact h.1))
      rw [← e]
      exact ⟨rfl, rfl⟩

theorem clen_le (zs : List Int) : clen zs ≤ zs.length + 1 := by
  have := strip_length_le zs
  have := top_le (strip zs)
  unfold clen; omega

set_option maxHeartbeats 400000 in
theorem contentLen_any (b off len cap : Nat) (zs : List Int) (w : World) (hz : zs.length = len) (hl : 1 ≤ len) (hm : len ≤ 1048576) (hr : Row w b off zs) :
    Calls Try.prog 24 #[.slice (some ⟨b, off, none⟩) len cap] w fun e w' => e = .returned (.int .i64 (clen zs : Nat)) ∧ w = w' := by
  have HZ : Hid (zs.length = len) := hz
  clear hz
  go_enter Try.func24, Try.ntmps24
  go_wp2
  go_loop [3] (fun i => ∃ f : Nat, f ≤ len ∧ i = .int .i64 f ∧ Hid (∀ i, i < f → nth zs i = 0)) (fun i => len - (intOf i).toNat)
  case atStart => exact ⟨0, by omega, rfl, fun i h => absurd h (by omega)⟩
  case round =>
    obtain ⟨f, hf, rfl, h0⟩ := hrel
    by_cases h1 : f < len
    · have hc0 : w.cell? ⟨b, off + f, none⟩ = some (.int .u8 (nth zs f)) := hr f (by rw [HZ.out]; exact h1)
      by_cases h2 : nth zs f = 0
      · rw [h2] at hc0
        have H2 : Hid (nth zs f = 0) := h2
        clear h2
        go_wp2
        go_round
        case rel => exact ⟨f + 1, by omega, by go_num, fun i hi => by
          by_cases e : i = f
          · rw [e]; exact H2.out
          · exact h0.out i (by omega)⟩
        case measure => simp [intOf]; omega
      · have q3 : (nth zs f == 0) = false := by simp [h2]
        have q4 : ((f : Int) == (len : Int)) = false := by simp; omega
        have e := lead_eq zs f (by rw [HZ.out]; exact hf) h0.out (fun _ => h2)
        have ec := clen_some zs (by rw [← e, HZ.out]; exact h1)
        rw [← e, HZ.out] at ec
        have EC : Hid _ := ec
        clear h2 e ec
        by_cases h5 : 128 ≤ nth zs f
        · go_wp2
          go_ret
          refine ⟨ret_int ?_, rfl⟩
          have := EC.out
          rw [if_pos h5] at this
          omega
        · have H5 : Hid (¬ 128 ≤ nth zs f) := h5
          go_wp2
          go_ret
          refine ⟨ret_int ?_, rfl⟩
          have := EC.out
          rw [if_neg (by have := H5.out; omega)] at this
          omega
    · have q4 : ((f : Int) == (len : Int)) = true := by simp; omega
      have e := lead_eq zs f (by rw [HZ.out]; exact hf) h0.out (fun h => absurd h (by rw [HZ.out]; exact h1))
      have ec := clen_all zs (by rw [← e, HZ.out]; omega) (by rw [HZ.out]; omega)
      have EC : Hid (clen zs = 1) := ec
      clear ec e
      go_wp2
      go_ret
      exact ⟨ret_int (by rw [EC.out]; rfl), rfl⟩

/-- 'derFits'. -/
def Fits (r s : List Int) : Prop := clen r ≤ 127 ∧ clen s ≤ 127 ∧ clen r + clen s + 4 ≤ 255

set_option maxHeartbeats 400000 in
theorem fits_yes (b0 o0 l0 c0 b1 o1 l1 c1 : Nat) (r s : List Int) (w : World) (hr : r.length = l0) (hs : s.length = l1) (h0 : 1 ≤ l0) (h1 : 1 ≤ l1) (m0 : l0 ≤ 1048576) (m1 : l1 ≤ 1048576) (rr : Row w b0 o0 r) (rs : Row w b1 o1 s)
    (hf : Fits r s) : Calls Try.prog 14 #[.slice (some ⟨b0, o0, none⟩) l0 c0, .slice (some ⟨b1, o1, none⟩) l1 c1] w fun e w' => e = .returned (.bool true) ∧ w = w' := by
  obtain ⟨t1, t2, t3⟩ := hf
  have q1 : decide (clen r ≤ 127) = true := by simpa using t1
  have q2 : decide (clen s ≤ 127) = true := by simpa using t2
  go_enter Try.func14, Try.ntmps14
  go_wp2_with fail
  refine (contentLen_any b0 o0 l0 c0 r w hr h0 m0 rr).mono ?_
  rintro e w' ⟨rfl, rfl⟩
  go_wp2_with fail
  refine (contentLen_any b1 o1 l1 c1 s w hs h1 m1 rs).mono ?_
  rintro e w' ⟨rfl, rfl⟩
  go_wp2
  go_ret
  exact ⟨by simp; omega, rfl⟩

set_option maxHeartbeats 400000 in
theorem fits_no (b0 o0 l0 c0 b1 o1 l1 c1 : Nat) (r s : List Int) (w : World) (hr : r.length = l0) (hs : s.length = l1) (h0 : 1 ≤ l0) (h1 : 1 ≤ l1) (m0 : l0 ≤ 1048576) (m1 : l1 ≤ 1048576) (rr : Row w b0 o0 r) (rs : Row w b1 o1 s)
    (hf : ¬ Fits r s) : Calls Try.prog 14 #[.slice (some ⟨b0, o0, none⟩) l0 c0, .slice (some ⟨b1, o1, none⟩) l1 c1] w fun e w' => e = .returned (.bool false) ∧ w = w' := by
  have k0 := clen_le r
  have k1 := clen_le s
  rw [hr] at k0
  rw [hs] at k1
  by_cases t1 : clen r ≤ 127
  · have q1 : decide (clen r ≤ 127) = true := by simpa using t1
    by_cases t2 : clen s ≤ 127
    · have q2 : decide (clen s ≤ 127) = true := by simpa using t2
      have t3 : ¬ clen r + clen s + 4 ≤ 255 := fun h => hf ⟨t1, t2, h⟩
      clear hf
      go_enter Try.func14, Try.ntmps14
      go_wp2_with fail
      refine (contentLen_any b0 o0 l0 c0 r w hr h0 m0 rr).mono ?_
      rintro e w' ⟨rfl, rfl⟩
      go_wp2_with fail
      refine (contentLen_any b1 o1 l1 c1 s w hs h1 m1 rs).mono ?_
      rintro e w' ⟨rfl, rfl⟩
      go_wp2
      go_ret
      exact ⟨by simp; omega, rfl⟩
    · have q2 : decide (clen s ≤ 127) = false := by simpa using t2
      clear hf
      go_enter Try.func14, Try.ntmps14
      go_wp2_with fail
      refine (contentLen_any b0 o0 l0 c0 r w hr h0 m0 rr).mono ?_
      rintro e w' ⟨rfl, rfl⟩
      go_wp2_with fail
      refine (contentLen_any b1 o1 l1 c1 s w hs h1 m1 rs).mono ?_
      rintro e w' ⟨rfl, rfl⟩
      go_wp2
      go_ret
      exact ⟨rfl, rfl⟩
  · have q1 : decide (clen r ≤ 127) = false := by simpa using t1
    clear hf
    go_enter Try.func14, Try.ntmps14
    go_wp2_with fail
    refine (contentLen_any b0 o0 l0 c0 r w hr h0 m0 rr).mono ?_
    rintro e w' ⟨rfl, rfl⟩
    go_wp2_with fail
    refine (contentLen_any b1 o1 l1 c1 s w hs h1 m1 rs).mono ?_
    rintro e w' ⟨rfl, rfl⟩
    go_wp2
    go_ret
    exact ⟨rfl, rfl⟩

set_option maxHeartbeats 400000 in
/-- 'sameBytes' of two rows of the same bytes. -/
theorem sameBytes_yes (ba oa ca bb ob cb len : Nat) (zs : List Int) (w : World) (hz : zs.length = len) (hl : len ≤ 1048576) (hba : ba < w.heap.size) (hbb : bb < w.heap.size) (hra : Row w ba oa zs) (hrb : Row w bb ob zs) :
    Calls Try.prog 17 #[.slice (some ⟨ba, oa, none⟩) len ca, .slice (some ⟨bb, ob, none⟩) len cb] w fun e w' => e = .returned (.bool true) ∧ Below w.heap.size w w' := by
  have HZ : Hid (zs.length = len) := hz
  clear hz
  go_enter Try.func17, Try.ntmps17
  go_wp2
  go_loopw [5] (fun i wr => ∃ k : Nat, k ≤ len ∧ i = .int .i64 k ∧ Below w.heap.size w wr) (fun i _ => len - (intOf i).toNat)
  case atStart => exact ⟨0, Nat.zero_le _, rfl, Below.refl _ _⟩
  case round =>
    obtain ⟨k, hk, rfl, hB⟩ := hrel
    by_cases hlt : k < len
    · have f1 : wr.cell? ⟨ba, oa + k, none⟩ = some (.int .u8 (nth zs k)) := hra.below hB hba k (by rw [HZ.out]; exact hlt)
      have f2 : wr.cell? ⟨bb, ob + k, none⟩ = some (.int .u8 (nth zs k)) := hrb.below hB hbb k (by rw [HZ.out]; exact hlt)
      have i1 : (k : Int) < (len : Int) := by omega
      have i2 : (0 : Int) ≤ (k : Int) := by omega
      go_wp2
      go_quiet (fail)
      go_wp2
      go_roundw
      case rel => exact ⟨k + 1, by omega, by go_num, below_drewN hB _⟩
      case measure => simp [intOf]; omega
    · go_wp2
      go_ret
      exact ⟨rfl, hB⟩

theorem bytes18_yes (a : Option Addr) (len cap : Nat) (w : World) (h : len ≤ 1048576) : Calls Try.prog 18 #[.slice a len cap] w fun e w' => e = .returned (.bool true) ∧ w = w' := by
  go_enter Try.func18, Try.ntmps18
  go_wp2
  go_ret
  exact ⟨rfl, rfl⟩
theorem bytes18_no (a : Option Addr) (len cap : Nat) (w : World) (h0 : len ≤ maxLen) (h : ¬ len ≤ 1048576) : Calls Try.prog 18 #[.slice a len cap] w fun e w' => e = .returned (.bool false) ∧ w = w' := by
  unfold maxLen at h0
  go_enter Try.func18, Try.ntmps18
  go_wp2
  go_ret
  exact ⟨rfl, rfl⟩
theorem bytes13_yes (a : Option Addr) (len cap : Nat) (k : Int) (w : World) (h : len ≤ 1048576) : Calls Try.prog 13 #[.slice a len cap, .int .i64 k] w fun e w' => e = .returned (.bool true) ∧ w = w' := by
  go_enter Try.func13, Try.ntmps13
  go_wp2
  go_ret
  exact ⟨rfl, rfl⟩
theorem bytes13_no (a : Option Addr) (len cap : Nat) (k : Int) (w : World) (h0 : len ≤ maxLen) (h : ¬ len ≤ 1048576) : Calls Try.prog 13 #[.slice a len cap, .int .i64 k] w fun e w' => e = .returned (.bool false) ∧ w = w' := by
  unfold maxLen at h0
  go_enter Try.func13, Try.ntmps13
  go_wp2
  go_ret
  exact ⟨rfl, rfl⟩

end Go.Proofs.Qxb6617868a
