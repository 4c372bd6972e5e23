import Derived.Test.Qxb6617868aW8
namespace Go.Proofs.Qxb6617868a
open Go.RowKit Der

theorem clen_zeros (k : Nat) (l : List Int) (h : 0 < l.length) : clen (List.replicate k 0 ++ l) = clen l := by unfold clen; rw [strip_zeros k l h]
theorem fits_zeros (k : Nat) {r s : List Int} (hr : 0 < r.length) (hs : 0 < s.length) (hf : Fits r s) : Fits (List.replicate k 0 ++ r) (List.replicate k 0 ++ s) := by
  unfold Fits; rw [clen_zeros k r hr, clen_zeros k s hs]; exact hf

theorem Own.at_len {w : World} {base n : Nat} {v : Value} {zs : List Int} (h : Own w base v zs) (hn : zs.length = n) : w.ownsRow base 5 1 v n (zs.map (Value.int .u8)) := by subst hn; exact h

/-- The padded bytes. -/
def padded (k : Nat) (r s : List Int) : List Int := (List.replicate k 0 ++ r) ++ (List.replicate k 0 ++ s)
theorem padded_length (k : Nat) (r s : List Int) : (padded k r s).length = r.length + s.length + 2 * k := by simp [padded]; omega
theorem padded_take (k : Nat) (r s : List Int) (n : Nat) (h : n = k + r.length) : (padded k r s).take n = List.replicate k 0 ++ r := by
  subst h; unfold padded; apply List.take_left'; simp
theorem padded_drop (k : Nat) (r s : List Int) (n : Nat) (h : n = k + r.length) : (padded k r s).drop n = List.replicate k 0 ++ s := by
  subst h; unfold padded; apply List.drop_left'; simp

set_option maxHeartbeats 1000000 in
set_option maxRecDepth 100000 in
theorem law5_core (b off len cap kn : Nat) (zs : List Int) (w : World) (hz : zs.length = len) (hl : 2 ≤ len) (hm : len ≤ 65536) (hk : kn ≤ 4096) (hr : Row w b off zs) (hb : Byt zs) (hbb : b < w.heap.size) :
    Calls Try.prog 5 #[.slice (some ⟨b, off, none⟩) len cap, .int .i64 (kn : Nat)] w fun e w' => e = .returned (.bool true) ∧ Below w.heap.size w w' := by
  obtain ⟨i0, hi, hz0, hz1, hz2⟩ := info_parts Try.info5
  have hnil := fun w a n c => run_neq_slice_nil_any (P := Try.prog) w 27 5 a n c 0 0 Try.underlying27
  have q0 : decide ((len : Int) < 2) = false := by simp; omega
  have q1 : decide ((kn : Int) < 0) = false := by simp
  have q2 : decide ((4096 : Int) < (kn : Int)) = false := by simp; omega
  go_enter Try.func5, Try.ntmps5
  go_wp2_with fail
  refine (bytes13_yes _ len cap _ w (by omega)).mono ?_
  rintro e w' ⟨rfl, rfl⟩
  go_wp2_with (at_make; refine wpList_make_full _ rfl _ _ 27 rfl w.heap.size 5 i0 (.int .u8 0) 1 Try.underlying27 hi hz0 hz1 _ _ _ _ len rfl rfl rfl rfl ?b1 ?b2 ?b3 ?_)
  case b1 => rw [hz2]; omega
  case b2 => unfold maxLen; omega
  case b3 => exact Nat.le_refl _
  intro w1 hown1 hgrow1
  have hB1 : Below w.heap.size w w1 := (Below.refl _ _).grown hgrow1 (Nat.le_refl _) (fun k h => by cases h)
  have hg1 := full_block hown1
  clear hown1 hgrow1
  obtain ⟨cur, hcur⟩ : ∃ cur, cur = (madeCells #[Value.int IntKind.u8 0] len).toList := ⟨_, rfl⟩
  obtain ⟨cs, hcs⟩ : ∃ cs, cs = zs.map (Value.int .u8) := ⟨_, rfl⟩
  have hsp : splice cur 0 cs = cs := splice_all _ _ (by rw [hcur, hcs]; simp [madeCells, hz])
  rw [← hcur] at hg1
  have hr1 := hr.below hB1 hbb
  have hcl : cs.length = len := by rw [hcs]; simp [hz]
  have hcl2 : cur.length = len := by rw [hcur]; simp [madeCells]
  have hsrc := copy_src (g := w.heap.size) hr1
  have hone := ints_oneCell .u8 zs
  rw [← hcs] at hsrc hone
  have HC : Hid (cs = zs.map (Value.int .u8)) := hcs
  have HS : Hid (splice cur 0 cs = cs) := hsp
  have HL : Hid (cs.length = len ∧ cur.length = len) := ⟨hcl, hcl2⟩
  have HZ : Hid (zs.length = len) := hz
  clear hcur hcs hsp hcl hcl2 hz
  go_wp2_with (refine wpList_copy_splice rfl (.tmp 37) (.tmp 38) 27 27 rfl 5 Try.underlying27 Try.size5 _ _ _ _ _ _ rfl rfl w.heap.size 0 cur 5 hg1 cs ?e1 hsrc ?e2 hone w.heap.size w hB1 (Nat.le_refl _) ?_)
  case e1 => simp [HL.out.1]
  case e2 => simp [HL.out.1, HL.out.2]
  intro w2 hg2 hB2
  have hg2' := hg2.out
  rw [HS.out, HC.out] at hg2'
  have hr2 := row_of_block hg2'
  have hH2 := block_lt hg2'
  clear hg1 hg2 hg2' hsrc hone HC HS HL hr1 hB1 hr
  obtain ⟨h, hh⟩ : ∃ h, h = len / 2 := ⟨_, rfl⟩
  have HH : Hid (h = len / 2) := hh
  have hdiv : (len : Int) / 2 = (h : Int) := by omega
  have k1 : 1 ≤ h := by omega
  have k2 : 2 * h ≤ len := by omega
  have k3 : len ≤ 2 * h + 1 := by omega
  clear hh
  obtain ⟨r, er⟩ : ∃ r, r = zs.take h := ⟨_, rfl⟩
  obtain ⟨s, es⟩ : ∃ s, s = zs.drop h := ⟨_, rfl⟩
  have lr : r.length = h := by rw [er, List.length_take, HZ.out]; omega
  have ls : s.length = len - h := by rw [es, List.length_drop, HZ.out]
  have rr : Row w2 w.heap.size 0 r := by rw [er]; exact hr2.front h
  have rs : Row w2 w.heap.size h s := by rw [es]; have := hr2.tail h; rw [Nat.zero_add] at this; exact this
  have br : Byt r := by rw [er]; exact hb.take h
  have bs : Byt s := by rw [es]; exact hb.drop h
  have HG : Hid (sig zs = seq2 (strip r) (strip s)) := by unfold sig Hid; rw [HZ.out, ← HH.out, ← er, ← es]
  have ers : zs.take (len / 2) = r ∧ zs.drop (len / 2) = s := by rw [← HH.out]; exact ⟨er.symm, es.symm⟩
  have HRS : Hid (zs.take (len / 2) = r ∧ zs.drop (len / 2) = s) := ers
  have HLr : Hid (r.length = h) := lr
  have HLs : Hid (s.length = len - h) := ls
  clear er es lr ls ers
  by_cases hF : Fits r s
  · go_wp2_with fail
    refine (fits_yes w.heap.size 0 h len w.heap.size h (len - h) (len - h) r s w2 HLr.out HLs.out (by omega) (by omega) (by omega) (by omega) rr rs hF).mono ?_
    rintro e w' ⟨rfl, rfl⟩
    go_wp2_with fail
    refine (zzSig_any w.heap.size 0 len len zs w2 HZ.out hl (by omega) (Nat.le_refl _) (by unfold maxLen; omega) hr2 hb hH2 (by rw [HRS.out.1, HRS.out.2]; exact hF)).mono ?_
    rintro e w3 ⟨v3, rfl, hown3, hB3⟩
    rw [HG.out] at hown3
    have SW := swap_of (strip r) (strip s)
    have hst : (hdr ((enc (strip r)).length + (enc (strip s)).length)).length = if 128 ≤ 2 + clen r + (2 + clen s) then 3 else 2 := by
      rw [enc_clen, enc_clen]; split
      · rename_i hx; rw [hdr_hi hx]; rfl
      · rename_i hx; rw [hdr_lo hx]; rfl
    have hst2 : 2 ≤ (hdr ((enc (strip r)).length + (enc (strip s)).length)).length ∧ (hdr ((enc (strip r)).length + (enc (strip s)).length)).length ≤ 3 := by rw [hst]; split <;> omega
    generalize hstart : (hdr ((enc (strip r)).length + (enc (strip s)).length)).length = start at *
    have e0 := enc_clen r
    have e1 := enc_clen s
    generalize hfst : (enc (strip r)).length = fst at *
    generalize hsec : (enc (strip s)).length = sec at *
    obtain ⟨g3, cap3, hv3, hg3a, hg3b, hc3, hm3, hr3⟩ := hown3.form (by rw [SW.lenX]; omega)
    rw [SW.lenX] at hv3 hc3
    subst hv3
    have HST : Hid (start = if 128 ≤ 2 + clen r + (2 + clen s) then 3 else 2) := hst
    have HE : Hid (fst = 2 + clen r ∧ sec = 2 + clen s) := ⟨e0, e1⟩
    obtain ⟨t1, t2, t3⟩ := hF
    have b1 : 3 ≤ fst ∧ fst ≤ 129 := by have := strip_pos r (by rw [HLr.out]; omega); unfold clen at *; omega
    have b2 : 3 ≤ sec ∧ sec ≤ 129 := by have := strip_pos s (by rw [HLs.out]; omega); unfold clen at *; omega
    have hs3 := hB3.size
    have rr3 := rr.below hB3 hH2
    have rs3 := rs.below hB3 hH2
    have hr3' := hr2.below hB3 hH2
    clear hown3 hst e0 e1 hstart hfst hsec hr2 rr rs
    go_wp2_with fail
    refine (derSeq_any g3 (start + fst + sec) cap3 w.heap.size 0 h len w.heap.size h (len - h) (len - h) (clen r) (clen s) start (start + fst) r s (strip r) (strip s) w3 (by have := HE.out; omega) HST.out (by have := HE.out; omega) (by omega) hc3 hm3 hr3 (half_of HLr.out k1 (by omega) rr3 br t1) (half_of HLs.out (by omega) (by omega) rs3 bs t2)).mono ?_
    rintro e w' ⟨rfl, rfl⟩
    go_wp2_with (at_make; refine wpList_make_own _ rfl _ _ 27 rfl w3.heap.size 5 i0 (.int .u8 0) 1 Try.underlying27 hi hz0 hz1 _ _ _ (len + 2 * kn) rfl rfl ?m0 ?m1 ?m2 ?m3 ?_)
    case m0 => omega
    case m1 => rw [hz2]; omega
    case m2 => unfold maxLen; omega
    case m3 => exact Nat.le_refl _
    intro w4 hown4 hgrow4
    have hB4 : Below w3.heap.size w3 w4 := (Below.refl _ _).grown hgrow4 (Nat.le_refl _) (fun k h => by cases h)
    have hH3 : w.heap.size < w3.heap.size := by omega
    clear hgrow4
    go_wp2
    go_loopw [13, 14] (fun v i wr => ∃ k : Nat, k ≤ kn ∧ i = .int .i64 k ∧ Own wr w3.heap.size v (List.replicate k 0) ∧ Below w3.heap.size w3 wr) (fun _ i _ => kn - (intOf i).toNat)
    case atStart => exact ⟨0, Nat.zero_le _, rfl, hown4, hB4⟩
    case round =>
      obtain ⟨k, hk2, rfl, hown, hB⟩ := hrel
      have hsr := hB.size
      by_cases hlt : k < kn
      · have hl0 : (List.replicate k (0 : Int)).length = k := List.length_replicate
        go_wp2_with (at_builtin; refine wpList_append_own _ rfl _ _ 27 rfl w3.heap.size 5 i0 (.int .u8 0) 1 1 Try.underlying27 hi hz0 hz1 hz2 rfl (by decide) _ _ _ rfl (World.ownsRow.alloc hown _) ⟨wr.heap.size, 0, none⟩ 1 1 [.int .u8 0] rfl rfl ?a1 ?a2 ?a3 ?a4 ?a5 ?_)
        case a1 => exact cell_one_new _ _ _
        case a2 => intro u hu; simp at hu; subst hu; rfl
        case a3 => unfold maxLen; omega
        case a4 => omega
        case a5 => simp; omega
        intro v5 w5 hown5 hgrow5 _
        have hB5 := grown_below (hB.alloc hsr _) (World.ownsRow.alloc hown _) hgrow5 (by simp; omega)
        have hown6 : Own w5 w3.heap.size v5 (List.replicate (k + 1) 0) := by
          unfold Own; simpa [List.replicate_succ'] using hown5
        clear hown5 hgrow5 hown
        go_wp2
        go_roundw
        case rel => exact ⟨k + 1, by omega, by go_num, hown6, hB5⟩
        case measure => simp [intOf]; omega
      · obtain rfl : k = kn := by omega
        have hl0 : (List.replicate k (0 : Int)).length = k := List.length_replicate
        have rrr := rr3.below hB hH3
        clear hown4 hB4 w4
        go_wp2_with (at_builtin; refine wpList_append_own _ rfl _ _ 27 rfl w3.heap.size 5 i0 (.int .u8 0) 1 1 Try.underlying27 hi hz0 hz1 hz2 rfl (by decide) _ _ _ rfl hown ⟨w.heap.size, 0, none⟩ h len (r.map (Value.int .u8)) rfl ?f0 ?f1 ?f2 ?f3 ?f4 ?f5 ?_)
        case f0 => simp [HLr.out]
        case f1 => exact rrr.news
        case f2 => exact ints_oneCell _ _
        case f3 => unfold maxLen; omega
        case f4 => omega
        case f5 => exact hsr
        intro v5 w5 hown5 hgrow5 _
        have hB5 := grown_below hB hown hgrow5 hsr
        have hown6 : Own w5 w3.heap.size v5 (List.replicate k 0 ++ r) := by
          unfold Own; rw [List.length_append, hl0, HLr.out]; simpa using hown5
        clear hown5 hgrow5 hown hB hsr rrr
        go_wp2
        go_loopw [13, 15] (fun v i wr => ∃ j : Nat, j ≤ k ∧ i = .int .i64 j ∧ Own wr w3.heap.size v (List.replicate k 0 ++ r ++ List.replicate j 0) ∧ Below w3.heap.size w3 wr) (fun _ i _ => k - (intOf i).toNat)
        case atStart => exact ⟨0, Nat.zero_le _, rfl, by simpa using hown6, hB5⟩
        case round =>
          clear hown6 hB5
          obtain ⟨j, hj, rfl, hown, hB⟩ := hrel
          have hsr := hB.size
          have hl1 : (List.replicate k (0 : Int) ++ r ++ List.replicate j 0).length = k + h + j := by rw [List.length_append, List.length_append, hl0, HLr.out, List.length_replicate]
          have HL1 : Hid ((List.replicate k (0 : Int) ++ r ++ List.replicate j 0).length = k + h + j) := hl1
          have hownr := hown.at_len hl1
          clear hl1 hl0
          by_cases hjl : j < k
          · go_wp2_with (at_builtin; refine wpList_append_own _ rfl _ _ 27 rfl w3.heap.size 5 i0 (.int .u8 0) 1 1 Try.underlying27 hi hz0 hz1 hz2 rfl (by decide) _ _ _ rfl (World.ownsRow.alloc hownr _) ⟨wr.heap.size, 0, none⟩ 1 1 [.int .u8 0] rfl rfl ?g1 ?g2 ?g3 ?g4 ?g5 ?_)
            case g1 => exact cell_one_new _ _ _
            case g2 => intro u hu; simp at hu; subst hu; rfl
            case g3 => unfold maxLen; omega
            case g4 => omega
            case g5 => simp; omega
            intro v7 w7 hown7 hgrow7 _
            have hB7 := grown_below (hB.alloc hsr _) (World.ownsRow.alloc hownr _) hgrow7 (by simp; omega)
            have hown8 : Own w7 w3.heap.size v7 (List.replicate k 0 ++ r ++ List.replicate (j + 1) 0) := by
              unfold Own
              have hl2 : (List.replicate k (0 : Int) ++ r ++ List.replicate (j + 1) 0).length = k + h + j + 1 := by have := HL1.out; simp at this ⊢; omega
              rw [hl2]
              simpa [List.replicate_succ'] using hown7
            clear hown7 hgrow7 hown hownr
            go_wp2
            go_roundw
            case rel => exact ⟨j + 1, by omega, by go_num, hown8, hB7⟩
            case measure => simp [intOf]; omega
          · obtain rfl : j = k := by omega
            have rsr := rs3.below hB hH3
            go_wp2_with (at_builtin; refine wpList_append_own _ rfl _ _ 27 rfl w3.heap.size 5 i0 (.int .u8 0) 1 1 Try.underlying27 hi hz0 hz1 hz2 rfl (by decide) _ _ _ rfl hownr ⟨w.heap.size, h, none⟩ (len - h) (len - h) (s.map (Value.int .u8)) rfl ?p0 ?p1 ?p2 ?p3 ?p4 ?p5 ?_)
            case p0 => simp [HLs.out]
            case p1 => exact rsr.news
            case p2 => exact ints_oneCell _ _
            case p3 => unfold maxLen; omega
            case p4 => omega
            case p5 => exact hsr
            intro v7 w7 hown7 hgrow7 _
            have hB7 := grown_below hB hownr hgrow7 hsr
            have hpl : (padded j r s).length = len + 2 * j := by rw [padded_length, HLr.out, HLs.out]; omega
            have hown8 : Own w7 w3.heap.size v7 (padded j r s) := by
              unfold Own
              rw [hpl, show len + 2 * j = j + h + j + (len - h) by omega]
              simpa [padded] using hown7
            obtain ⟨g8, cap8, hv8, hg8a, hg8b, hc8, hm8, hr8⟩ := hown8.form (by omega)
            rw [hpl] at hv8 hc8
            subst hv8
            have HPL : Hid ((padded j r s).length = len + 2 * j) := hpl
            have hdv : (len + 2 * j) / 2 = j + r.length := by rw [HLr.out]; omega
            have HTD : Hid ((padded j r s).take ((len + 2 * j) / 2) = List.replicate j 0 ++ r ∧ (padded j r s).drop ((len + 2 * j) / 2) = List.replicate j 0 ++ s) := ⟨padded_take j r s _ hdv, padded_drop j r s _ hdv⟩
            have hr0 : 0 < r.length := by rw [HLr.out]; omega
            have hs0 : 0 < s.length := by rw [HLs.out]; omega
            have HG2 : Hid (sig (padded j r s) = seq2 (strip r) (strip s)) := by
              unfold sig Hid; rw [HPL.out, HTD.out.1, HTD.out.2, strip_zeros j r hr0, strip_zeros j s hs0]
            have hbp : Byt (padded j r s) := ((byt_replicate j).append br).append ((byt_replicate j).append bs)
            have hF2 : Hid (Fits ((padded j r s).take ((len + 2 * j) / 2)) ((padded j r s).drop ((len + 2 * j) / 2))) := by
              show Fits _ _
              rw [HTD.out.1, HTD.out.2]; exact fits_zeros j hr0 hs0 ⟨t1, t2, t3⟩
            clear hown7 hgrow7 hown8 hownr hown hpl hdv hr0 hs0 HTD rsr
            go_wp2_with fail
            refine (zzSig_any g8 0 (len + 2 * j) cap8 (padded j r s) w7 HPL.out (by omega) (by omega) hc8 hm8 hr8 hbp hg8b hF2.out).mono ?_
            rintro e w9 ⟨v9, rfl, hown9, hB9⟩
            rw [HG2.out] at hown9
            obtain ⟨g9, cap9, hv9, hg9a, hg9b, hc9, hm9, hr9⟩ := hown9.form (by rw [SW.lenX]; omega)
            rw [SW.lenX] at hv9 hc9
            subst hv9
            have hs7 := hB7.size
            have hs9 := hB9.size
            have hB39 : Below w3.heap.size w3 w9 := hB7.trans (hB9.mono (by omega))
            have hr3b := hr3.below hB39 hg3b
            go_wp2_with fail
            refine (sameBytes_yes g9 0 cap9 g3 0 cap3 (start + fst + sec) (seq2 (strip r) (strip s)) w9 SW.lenX (by omega) hg9b (by omega) hr9 hr3b).mono ?_
            rintro e w10 ⟨rfl, hB10⟩
            go_wp2
            go_ret
            exact ⟨rfl, (hB2.trans (hB3.mono (by omega))).trans ((hB39.mono (by omega)).trans (hB10.mono (by omega)))⟩
  · go_wp2_with fail
    refine (fits_no w.heap.size 0 h len w.heap.size h (len - h) (len - h) r s w2 HLr.out HLs.out (by omega) (by omega) (by omega) (by omega) rr rs hF).mono ?_
    rintro e w' ⟨rfl, rfl⟩
    go_wp2
    go_ret
    exact ⟨rfl, hB2⟩

end Go.Proofs.Qxb6617868a
