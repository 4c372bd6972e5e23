import Derived.Test.Qxb6617868aW7
namespace Go.Proofs.Qxb6617868a
open Go.RowKit Der

theorem zzSig_any (b off len cap : Nat) (zs : List Int) (w : World) (hz : zs.length = len) (hl : 2 ≤ len) (hm : len ≤ 1048576) (hc : len ≤ cap) (hcm : cap ≤ maxLen) (hr : Row w b off zs) (hb : Byt zs) (hbb : b < w.heap.size)
    (hf : Fits (zs.take (len / 2)) (zs.drop (len / 2))) :
    Calls Try.prog 15 #[.slice (some ⟨b, off, none⟩) len cap] w fun e w' => ∃ v', e = .returned v' ∧ Own w' w.heap.size v' (sig zs) ∧ Below w.heap.size w w' := by
  go_enter Try.func15, Try.ntmps15
  go_wp2_with fail
  refine (derSig_any b off len cap zs w hz hl hm hc hcm hr hb hbb hf).mono ?_
  rintro e w1 ⟨v1, rfl, ho, hB⟩
  go_wp2
  go_ret
  exact ⟨_, rfl, ho, hB⟩

/-- What 'derSequence' must know of one half, out of the half itself. -/
theorem half_of {w : World} {b off len : Nat} {zs : List Int} (hl : zs.length = len) (h1 : 1 ≤ len) (hs : len ≤ 1048576) (hr : Row w b off zs) (hb : Byt zs) (hc : clen zs ≤ 127) : Half w b off len zs (strip zs) (clen zs) :=
  { lenIs := hl, small := hs, row := hr, pos := strip_pos zs (by omega), mIs := rfl, le := hc, byt := strip_byt hb, mini := strip_head zs, same := dig_strip zs }

theorem enc_clen (zs : List Int) : (enc (strip zs)).length = 2 + clen zs := by
  rw [enc_length]; unfold clen; omega

/-- Two sequences with the INTEGERs in swapped order. -/
structure Swap (X Y : List Int) (start fst sec : Nat) : Prop where
  lenX : X.length = start + fst + sec
  lenY : Y.length = start + fst + sec
  head : ∀ j, j < start → nth Y j = nth X j
  second : ∀ j, j < sec → nth Y (start + j) = nth X (start + fst + j)
  first : ∀ j, j < fst → nth Y (start + sec + j) = nth X (start + j)

theorem swap_of (r s : List Int) : Swap (seq2 r s) (seq2 s r) (hdr ((enc r).length + (enc s).length)).length (enc r).length (enc s).length := by
  have hc : hdr ((enc s).length + (enc r).length) = hdr ((enc r).length + (enc s).length) := by rw [Nat.add_comm]
  refine ⟨?_, ?_, ?_, ?_, ?_⟩
  · rw [seq_len]; omega
  · rw [seq_len, hc]; omega
  · intro j hj
    unfold seq2
    rw [nth_append_left _ _ _ hj, nth_append_left _ _ _ (by rw [hc]; exact hj), hc]
  · intro j hj
    rw [seq_s r s _ rfl, seq_r s r _ (by rw [hc]) j hj]
  · intro j hj
    rw [seq_r r s _ rfl j hj, seq_s s r _ (by rw [hc])]

set_option maxHeartbeats 1000000 in
set_option maxRecDepth 100000 in
theorem law6_core (b off len cap : Nat) (zs : List Int) (w : World) (hz : zs.length = len) (hl : 2 ≤ len) (hm : len ≤ 65536) (hev : len % 2 = 0) (hr : Row w b off zs) (hb : Byt zs) (hbb : b < w.heap.size) :
    Calls Try.prog 6 #[.slice (some ⟨b, off, none⟩) len cap] w fun e w' => e = .returned (.bool true) ∧ Below w.heap.size w w' := by
  obtain ⟨i0, hi, hz0, hz1, hz2⟩ := info_parts Try.info5
  have hnil := fun w a n c => run_neq_slice_nil_any (P := Try.prog) w 27 5 a n c 0 0 Try.underlying27
  have q0 : decide ((len : Int) < 2) = false := by simp; omega
  have q1 : ((len : Int) % 2 != 0) = false := by simp; omega
  go_enter Try.func6, Try.ntmps6
  go_wp2_with fail
  refine (bytes18_yes _ len cap w (by omega)).mono ?_
  rintro e w' ⟨rfl, rfl⟩
  go_wp2_with (at_make; refine wpList_make_full _ rfl _ _ 27 rfl w.heap.size 5 i0 (.int .u8 0) 1 Try.underlying27 hi hz0 hz1 _ _ _ _ len rfl rfl rfl rfl ?b1 ?b2 ?b3 ?_)
  case b1 => rw [hz2]; omega
  case b2 => unfold maxLen; omega
  case b3 => exact Nat.le_refl _
  intro w1 hown1 hgrow1
  have hB1 : Below w.heap.size w w1 := (Below.refl _ _).grown hgrow1 (Nat.le_refl _) (fun k h => by cases h)
  have hg1 := full_block hown1
  clear hown1 hgrow1
  obtain ⟨cur, hcur⟩ : ∃ cur, cur = (madeCells #[Value.int IntKind.u8 0] len).toList := ⟨_, rfl⟩
  obtain ⟨cs, hcs⟩ : ∃ cs, cs = zs.map (Value.int .u8) := ⟨_, rfl⟩
  have hsp : splice cur 0 cs = cs := splice_all _ _ (by rw [hcur, hcs]; simp [madeCells, hz])
  rw [← hcur] at hg1
  have hr1 := hr.below hB1 hbb
  have hcl : cs.length = len := by rw [hcs]; simp [hz]
  have hcl2 : cur.length = len := by rw [hcur]; simp [madeCells]
  have hsrc := copy_src (g := w.heap.size) hr1
  have hone := ints_oneCell .u8 zs
  rw [← hcs] at hsrc hone
  have HC : Hid (cs = zs.map (Value.int .u8)) := hcs
  have HS : Hid (splice cur 0 cs = cs) := hsp
  have HL : Hid (cs.length = len ∧ cur.length = len) := ⟨hcl, hcl2⟩
  have HZ : Hid (zs.length = len) := hz
  have HEV : Hid (len % 2 = 0) := hev
  clear hcur hcs hsp hcl hcl2 hz hev
  go_wp2_with (refine wpList_copy_splice rfl (.tmp 37) (.tmp 38) 27 27 rfl 5 Try.underlying27 Try.size5 _ _ _ _ _ _ rfl rfl w.heap.size 0 cur 5 hg1 cs ?e1 hsrc ?e2 hone w.heap.size w hB1 (Nat.le_refl _) ?_)
  case e1 => simp [HL.out.1]
  case e2 => simp [HL.out.1, HL.out.2]
  intro w2 hg2 hB2
  have hg2' := hg2.out
  rw [HS.out, HC.out] at hg2'
  have hr2 := row_of_block hg2'
  have hH2 := block_lt hg2'
  clear hg1 hg2 hg2' hsrc hone HC HS HL hr1 hB1 hr
  obtain ⟨h, hh⟩ : ∃ h, h = len / 2 := ⟨_, rfl⟩
  have HH : Hid (h = len / 2) := hh
  have hdiv : (len : Int) / 2 = (h : Int) := by omega
  have hlen : (len : Int) - (h : Int) = (h : Int) := by have := HEV.out; omega
  have k1 : 1 ≤ h := by omega
  have k2 : 2 * h ≤ len := by omega
  have k3 : len ≤ 2 * h := by have := HEV.out; omega
  clear hh hlen
  obtain ⟨r, er⟩ : ∃ r, r = zs.take h := ⟨_, rfl⟩
  obtain ⟨s, es⟩ : ∃ s, s = zs.drop h := ⟨_, rfl⟩
  have lr : r.length = h := by rw [er, List.length_take, HZ.out]; omega
  have ls : s.length = len - h := by rw [es, List.length_drop, HZ.out]
  have rr : Row w2 w.heap.size 0 r := by rw [er]; exact hr2.front h
  have rs : Row w2 w.heap.size h s := by rw [es]; have := hr2.tail h; rw [Nat.zero_add] at this; exact this
  have br : Byt r := by rw [er]; exact hb.take h
  have bs : Byt s := by rw [es]; exact hb.drop h
  have HG : Hid (sig zs = seq2 (strip r) (strip s)) := by unfold sig Hid; rw [HZ.out, ← HH.out, ← er, ← es]
  have ers : zs.take (len / 2) = r ∧ zs.drop (len / 2) = s := by rw [← HH.out]; exact ⟨er.symm, es.symm⟩
  have HRS : Hid (zs.take (len / 2) = r ∧ zs.drop (len / 2) = s) := ers
  have HLr : Hid (r.length = h) := lr
  have HLs : Hid (s.length = len - h) := ls
  clear er es lr ls ers
  by_cases hF : Fits r s
  · go_wp2_with fail
    refine (fits_yes w.heap.size 0 h len w.heap.size h (len - h) (len - h) r s w2 HLr.out HLs.out (by omega) (by omega) (by omega) (by omega) rr rs hF).mono ?_
    rintro e w' ⟨rfl, rfl⟩
    go_wp2_with fail
    refine (zzSig_any w.heap.size 0 len len zs w2 HZ.out hl (by omega) (Nat.le_refl _) (by unfold maxLen; omega) hr2 hb hH2 (by rw [HRS.out.1, HRS.out.2]; exact hF)).mono ?_
    rintro e w3 ⟨v3, rfl, hown3, hB3⟩
    rw [HG.out] at hown3
    have SW := swap_of (strip r) (strip s)
    have hst : (hdr ((enc (strip r)).length + (enc (strip s)).length)).length = if 128 ≤ 2 + clen r + (2 + clen s) then 3 else 2 := by
      rw [enc_clen, enc_clen]; split
      · rename_i hx; rw [hdr_hi hx]; rfl
      · rename_i hx; rw [hdr_lo hx]; rfl
    have hst2 : 2 ≤ (hdr ((enc (strip r)).length + (enc (strip s)).length)).length ∧ (hdr ((enc (strip r)).length + (enc (strip s)).length)).length ≤ 3 := by rw [hst]; split <;> omega
    generalize hstart : (hdr ((enc (strip r)).length + (enc (strip s)).length)).length = start at *
    have e0 := enc_clen r
    have e1 := enc_clen s
    generalize hfst : (enc (strip r)).length = fst at *
    generalize hsec : (enc (strip s)).length = sec at *
    obtain ⟨g3, cap3, hv3, hg3a, hg3b, hc3, hm3, hr3⟩ := hown3.form (by rw [SW.lenX]; omega)
    rw [SW.lenX] at hv3 hc3
    subst hv3
    have HST : Hid (start = if 128 ≤ 2 + clen r + (2 + clen s) then 3 else 2) := hst
    have HE : Hid (fst = 2 + clen r ∧ sec = 2 + clen s) := ⟨e0, e1⟩
    obtain ⟨t1, t2, t3⟩ := hF
    have b1 : 3 ≤ fst ∧ fst ≤ 129 := by have := strip_pos r (by rw [HLr.out]; omega); unfold clen at *; omega
    have b2 : 3 ≤ sec ∧ sec ≤ 129 := by have := strip_pos s (by rw [HLs.out]; omega); unfold clen at *; omega
    have hs3 := hB3.size
    have rr3 := rr.below hB3 hH2
    have rs3 := rs.below hB3 hH2
    have hr3' := hr2.below hB3 hH2
    clear hown3 hst e0 e1 hstart hfst hsec hr2 rr rs
    go_wp2_with fail
    refine (derSeq_any g3 (start + fst + sec) cap3 w.heap.size 0 h len w.heap.size h (len - h) (len - h) (clen r) (clen s) start (start + fst) r s (strip r) (strip s) w3 (by have := HE.out; omega) HST.out (by have := HE.out; omega) (by omega) hc3 hm3 hr3 (half_of HLr.out k1 (by omega) rr3 br t1) (half_of HLs.out (by omega) (by omega) rs3 bs t2)).mono ?_
    rintro e w' ⟨rfl, rfl⟩
    go_wp2_with (at_make; refine wpList_make_own _ rfl _ _ 27 rfl w3.heap.size 5 i0 (.int .u8 0) 1 Try.underlying27 hi hz0 hz1 _ _ _ len rfl rfl rfl ?m1 ?m2 ?m3 ?_)
    case m1 => rw [hz2]; omega
    case m2 => unfold maxLen; omega
    case m3 => exact Nat.le_refl _
    intro w4 hown4 hgrow4
    have hB4 : Below w3.heap.size w3 w4 := (Below.refl _ _).grown hgrow4 (Nat.le_refl _) (fun k h => by cases h)
    have hs4 := hB4.size
    have hH3 : w.heap.size < w3.heap.size := by omega
    have rs4 := rs3.below hB4 hH3
    clear hgrow4
    go_wp2_with (at_builtin; refine wpList_append_own _ rfl _ _ 27 rfl w3.heap.size 5 i0 (.int .u8 0) 1 1 Try.underlying27 hi hz0 hz1 hz2 rfl (by decide) _ _ _ rfl hown4 ⟨w.heap.size, h, none⟩ (len - h) (len - h) (s.map (Value.int .u8)) rfl ?f0 ?f1 ?f2 ?f3 ?f4 ?f5 ?_)
    case f0 => simp [HLs.out]
    case f1 => exact rs4.news
    case f2 => exact ints_oneCell _ _
    case f3 => unfold maxLen; omega
    case f4 => omega
    case f5 => exact hs4
    intro v5 w5 hown5 hgrow5 _
    have hB5 := grown_below hB4 hown4 hgrow5 hs4
    have hs5 : w3.heap.size ≤ w5.heap.size := by have := hB5.size; omega
    have rr5 := rr3.below hB5 hH3
    clear hgrow5
    go_wp2_with (at_builtin; refine wpList_append_own _ rfl _ _ 27 rfl w3.heap.size 5 i0 (.int .u8 0) 1 1 Try.underlying27 hi hz0 hz1 hz2 rfl (by decide) _ _ _ rfl hown5 ⟨w.heap.size, 0, none⟩ h len (r.map (Value.int .u8)) rfl ?g0 ?g1 ?g2 ?g3 ?g4 ?g5 ?_)
    case g0 => simp [HLr.out]
    case g1 => exact rr5.news
    case g2 => exact ints_oneCell _ _
    case g3 => unfold maxLen; omega
    case g4 => omega
    case g5 => exact hs5
    intro v6 w6 hown6 hgrow6 _
    have hB6 := grown_below hB5 hown5 hgrow6 hs5
    have hsr : (s ++ r).length = len := by rw [List.length_append, HLs.out, HLr.out]; omega
    have hO6 : Own w6 w3.heap.size v6 (s ++ r) := by
      unfold Own
      rw [List.length_append, HLs.out, HLr.out]
      simpa using hown6
    obtain ⟨g6, cap6, hv6, hg6a, hg6b, hc6, hm6, hr6⟩ := hO6.form (by omega)
    rw [hsr] at hv6 hc6
    subst hv6
    have HSR : Hid ((s ++ r).length = len) := hsr
    have hmid : len / 2 = s.length := by rw [HLs.out]; omega
    have HTD : Hid ((s ++ r).take (len / 2) = s ∧ (s ++ r).drop (len / 2) = r) := by
      show _ ∧ _
      rw [hmid]; exact ⟨List.take_left, List.drop_left⟩
    have HG2 : Hid (sig (s ++ r) = seq2 (strip s) (strip r)) := by
      unfold sig Hid; rw [HSR.out, HTD.out.1, HTD.out.2]
    clear hown6 hgrow6 hO6 hsr hown5 hown4 rs4 rr5 hmid
    go_wp2_with fail
    refine (zzSig_any g6 0 len cap6 (s ++ r) w6 HSR.out hl (by omega) hc6 hm6 hr6 (bs.append br) hg6b (by rw [HTD.out.1, HTD.out.2]; exact ⟨t2, t1, by omega⟩)).mono ?_
    rintro e w7 ⟨v7, rfl, hown7, hB7⟩
    rw [HG2.out] at hown7
    obtain ⟨g7, cap7, hv7, hg7a, hg7b, hc7, hm7, hr7⟩ := hown7.form (by rw [SW.lenY]; omega)
    rw [SW.lenY] at hv7 hc7
    subst hv7
    have hs6 := hB6.size
    have hs7 := hB7.size
    have hB37 : Below w3.heap.size w3 w7 := hB6.trans (hB7.mono (by omega))
    have hB07 : Below w.heap.size w w7 := (hB2.trans (hB3.mono (by omega))).trans (hB37.mono (by omega))
    have hr3b := hr3.below hB37 hg3b
    have hg3c : g3 < w7.heap.size := by omega
    generalize hX : seq2 (strip r) (strip s) = X at *
    generalize hY : seq2 (strip s) (strip r) = Y at *
    clear hown7 hr6 hB7 hB6 hB5 hB4 hB3 hB2 hr3 rr3 rs3 hr3' hX hY HG HG2 HTD HSR HRS HST HE t1 t2 t3 bs br hi hz0 hz1 hz2 hnil q0 q1 hs3 hs4 hs5 hs6 hs7 hg3a hg6a hg6b hg7a hm6 hc6 hH2 hH3 hb HLr HLs HH HEV HZ hg3b hB37
    obtain ⟨b1a, b1b⟩ := b1
    obtain ⟨b2a, b2b⟩ := b2
    obtain ⟨b3a, b3b⟩ := hst2
    go_wp2
    go_loopw [13] (fun i wr => ∃ k : Nat, k ≤ start ∧ i = .int .i64 k ∧ Below w7.heap.size w7 wr) (fun i _ => start - (intOf i).toNat)
    case atStart => exact ⟨0, Nat.zero_le _, rfl, Below.refl _ _⟩
    case round =>
      obtain ⟨k, hk, rfl, hB⟩ := hrel
      have hrX := hr3b.below hB hg3c
      have hrY := hr7.below hB hg7b
      by_cases hlt : k < start
      · have f1 : wr.cell? ⟨g3, k, none⟩ = some (.int .u8 (nth X k)) := by
          have := hrX k (by rw [SW.lenX]; omega)
          rw [Nat.zero_add] at this; exact this
        have f2 : wr.cell? ⟨g7, k, none⟩ = some (.int .u8 (nth X k)) := by
          have := hrY k (by rw [SW.lenY]; omega)
          rw [Nat.zero_add, SW.head k hlt] at this; exact this
        have i1 : (k : Int) < (start : Int) + (fst : Int) + (sec : Int) := by omega
        have i2 : (0 : Int) ≤ (k : Int) := by omega
        go_wp2
        go_quiet (fail)
        go_wp2
        go_roundw
        case rel => exact ⟨k + 1, by omega, by go_num, below_drewN hB _⟩
        case measure => simp [intOf]; omega
      · go_wp2
        rw [show ((start : Int) + (fst : Int) + (sec : Int) - ((start : Int) + (fst : Int))) = (sec : Int) by omega]
        go_loopw [15] (fun i wr => ∃ k : Nat, k ≤ sec ∧ i = .int .i64 k ∧ Below w7.heap.size w7 wr) (fun i _ => sec - (intOf i).toNat)
        case atStart => exact ⟨0, Nat.zero_le _, rfl, hB⟩
        case round =>
          clear hB hrX hrY
          obtain ⟨j, hj, rfl, hB⟩ := hrel
          have hrX := hr3b.below hB hg3c
          have hrY := hr7.below hB hg7b
          by_cases hjl : j < sec
          · have f1 : wr.cell? ⟨g3, start + fst + j, none⟩ = some (.int .u8 (nth X (start + fst + j))) := by
              have := hrX (start + fst + j) (by rw [SW.lenX]; omega)
              rw [Nat.zero_add] at this; exact this
            have f2 : wr.cell? ⟨g7, start + j, none⟩ = some (.int .u8 (nth X (start + fst + j))) := by
              have := hrY (start + j) (by rw [SW.lenY]; omega)
              rw [Nat.zero_add, SW.second j hjl] at this; exact this
            have i1 : (j : Int) < (sec : Int) := by omega
            have i2 : (0 : Int) ≤ (j : Int) := by omega
            generalize nth X (start + fst + j) = x at f1 f2
            go_wp2
            go_quiet (fail)
            go_wp2
            go_roundw
            case rel => exact ⟨j + 1, by omega, by go_num, below_drewN hB _⟩
            case measure => simp [intOf]; omega
          · go_wp2
            go_loopw [16] (fun i wr => ∃ k : Nat, k ≤ fst ∧ i = .int .i64 k ∧ Below w7.heap.size w7 wr) (fun i _ => fst - (intOf i).toNat)
            case atStart => exact ⟨0, Nat.zero_le _, rfl, hB⟩
            case round =>
              clear hB hrX hrY
              obtain ⟨p, hp, rfl, hB⟩ := hrel
              have hrX := hr3b.below hB hg3c
              have hrY := hr7.below hB hg7b
              by_cases hpl : p < fst
              · have f1 : wr.cell? ⟨g3, start + p, none⟩ = some (.int .u8 (nth X (start + p))) := by
                  have := hrX (start + p) (by rw [SW.lenX]; omega)
                  rw [Nat.zero_add] at this; exact this
                have f2 : wr.cell? ⟨g7, start + sec + p, none⟩ = some (.int .u8 (nth X (start + p))) := by
                  have := hrY (start + sec + p) (by rw [SW.lenY]; omega)
                  rw [Nat.zero_add, SW.first p hpl] at this; exact this
                have i1 : (p : Int) < (fst : Int) := by omega
                have i2 : (0 : Int) ≤ (p : Int) := by omega
                generalize nth X (start + p) = x at f1 f2
                go_wp2
                go_quiet (fail)
                go_wp2
                go_roundw
                case rel => exact ⟨p + 1, by omega, by go_num, below_drewN hB _⟩
                case measure => simp [intOf]; omega
              · go_wp2
                go_ret
                exact ⟨rfl, hB07.trans (hB.mono (by have := hB07.size; omega))⟩
  · go_wp2_with fail
    refine (fits_no w.heap.size 0 h len w.heap.size h (len - h) (len - h) r s w2 HLr.out HLs.out (by omega) (by omega) (by omega) (by omega) rr rs hF).mono ?_
    rintro e w' ⟨rfl, rfl⟩
    go_wp2
    go_ret
    exact ⟨rfl, hB2⟩

end Go.Proofs.Qxb6617868a
