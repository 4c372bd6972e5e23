import Derived.Test.Qxb6617868aW6
import Derived.Deep.RegionWith
namespace Go.Proofs.Qxb6617868a
open Go.RowKit Der

theorem Row.draws {w : World} {b off n : Nat} {zs : List Int} (h : Row w b off zs) : Row (w.drewN n) b off zs := h

theorem Row.front {w : World} {b off : Nat} {zs : List Int} (h : Row w b off zs) (k : Nat) : Row w b off (zs.take k) := by
  intro i hi
  have := List.length_take_le k zs
  have hk : i < k := by omega
  rw [nth_take _ _ _ hk]
  exact h i (by rw [List.length_take] at hi; omega)

theorem wlz_q (b off len cap : Nat) (zs : List Int) (w : World) (hz : zs.length = len) (hl : 1 ≤ len) (hm : len ≤ 1048576) (hc : len ≤ cap) (hcm : cap ≤ 9223372036854775807) (hr : Row w b off zs) :
    Calls Try.prog 29 #[.slice (some ⟨b, off, none⟩) len cap] w fun e w' => e = .returned (.slice (some ⟨b, off + sd zs, none⟩) (len - sd zs) (cap - sd zs)) ∧ w' = w :=
  (wlz_any b off len cap zs w hz hl hm hc hcm hr).mono fun _ _ ⟨a, b⟩ => ⟨a, b.symm⟩

set_option maxHeartbeats 1000000 in
set_option maxRecDepth 100000 in
theorem derSig_any (b off len cap : Nat) (zs : List Int) (w : World) (hz : zs.length = len) (hl : 2 ≤ len) (hm : len ≤ 1048576) (hc : len ≤ cap) (hcm : cap ≤ maxLen) (hr : Row w b off zs) (hb : Byt zs) (hbb : b < w.heap.size)
    (hf : Fits (zs.take (len / 2)) (zs.drop (len / 2))) :
    Calls Try.prog 25 #[.slice (some ⟨b, off, none⟩) len cap] w fun e w' => ∃ v', e = .returned v' ∧ Own w' w.heap.size v' (sig zs) ∧ Below w.heap.size w w' := by
  obtain ⟨i0, hi, hz0, hz1, hz2⟩ := info_parts Try.info5
  unfold maxLen at hcm
  have hh1 : 1 ≤ len / 2 := by omega
  have hh2 : len / 2 + 1 ≤ len := by omega
  obtain ⟨h, hh⟩ : ∃ h, h = len / 2 := ⟨_, rfl⟩
  obtain ⟨r, er⟩ : ∃ r, r = zs.take h := ⟨_, rfl⟩
  obtain ⟨s, es⟩ : ∃ s, s = zs.drop h := ⟨_, rfl⟩
  rw [← hh] at hf hh1 hh2
  rw [← er, ← es] at hf
  have lr : r.length = h := by rw [er, List.length_take]; omega
  have ls : s.length = len - h := by rw [es, List.length_drop]; omega
  have rr : Row w b off r := by rw [er]; exact hr.front h
  have rs : Row w b (off + h) s := by rw [es]; exact hr.tail h
  have br : Byt r := by rw [er]; exact hb.take h
  have bs : Byt s := by rw [es]; exact hb.drop h
  have HG : Hid (sig zs = seq2 (strip r) (strip s)) := by unfold sig Hid; rw [hz, ← hh, ← er, ← es]
  have HLr : Hid (r.length = h) := lr
  have HLs : Hid (s.length = len - h) := ls
  have i1 : (h : Int) ≤ (len : Int) := by omega
  have i2 : (len : Int) ≤ (cap : Int) := by omega
  have i3 : (0 : Int) ≤ (h : Int) := by omega
  have i4 : (h : Int) < (cap : Int) := by omega
  have hdiv : (len : Int) / 2 = (h : Int) := by omega
  clear hz er es lr ls hh hr hb
  go_enter Try.func25, Try.ntmps25
  go_wp2
  go_quiet (first | (go_at_call_of 29 (Value.slice (some ⟨b, off, none⟩) h cap); exact Calls.quiet_of_same (wlz_q b off h cap r _ HLr.out (by omega) (by omega) (by omega) hcm rr.draws)) | (go_at_call_of 29 (Value.slice (some ⟨b, off + h, none⟩) (len - h) (cap - h)); exact Calls.quiet_of_same (wlz_q b (off + h) (len - h) (cap - h) s _ HLs.out (by omega) (by omega) (by omega) (by omega) rs.draws)))
  obtain ⟨W, hW⟩ : ∃ W, W = w.drewN nq := ⟨_, rfl⟩
  rw [← hW]
  have hsz : W.heap.size = w.heap.size := by rw [hW]; rfl
  have hBW : Below w.heap.size w W := by rw [hW]; exact below_drewN (Below.refl _ _) _
  have rr' : Row W b (off + sd r) (strip r) := by rw [hW]; exact (sd_row rr).draws
  have rs' : Row W b (off + h + sd s) (strip s) := by rw [hW]; exact (sd_row rs).draws
  have HSZ : Hid (W.heap.size = w.heap.size) := hsz
  have hbW : b < W.heap.size := by omega
  have lr' := sd_len r
  have ls' := sd_len s
  rw [HLr.out] at lr'
  rw [HLs.out] at ls'
  have pr := strip_pos r (by rw [HLr.out]; exact hh1)
  have ps := strip_pos s (by rw [HLs.out]; omega)
  have HL0 : Hid ((strip r).length = h - sd r) := lr'
  have HL1 : Hid ((strip s).length = len - h - sd s) := ls'
  rw [lr'] at pr
  rw [ls'] at ps
  obtain ⟨hf0, hf1, hf2⟩ := hf
  have c0 : clen r = (h - sd r) + top (strip r) := by unfold clen; rw [lr']
  have c1 : clen s = (len - h - sd s) + top (strip s) := by unfold clen; rw [ls']
  generalize hm0 : clen r = m0 at *
  generalize hm1 : clen s = m1 at *
  have HC0 : Hid (m0 = (h - sd r) + top (strip r)) := c0
  have HC1 : Hid (m1 = (len - h - sd s) + top (strip s)) := c1
  clear hW hsz rr rs lr' ls' c0 c1 hm0 hm1 HLr HLs hdiv
  go_wp2_with fail
  refine (size_any b (off + sd r) (h - sd r) (cap - sd r) (strip r) W HL0.out (by omega) (by omega) rr' (strip_byt br)).mono ?_
  rintro e w' ⟨rfl, rfl⟩
  rw [show (2 + ((h - sd r : Nat) : Int) + (top (strip r) : Int)) = ((2 + m0 : Nat) : Int) by have := HC0.out; omega]
  go_wp2_with fail
  refine (size_any b (off + h + sd s) (len - h - sd s) (cap - h - sd s) (strip s) W HL1.out (by omega) (by omega) rs' (strip_byt bs)).mono ?_
  rintro e w' ⟨rfl, rfl⟩
  rw [show (2 + ((len - h - sd s : Nat) : Int) + (top (strip s) : Int)) = ((2 + m1 : Nat) : Int) by have := HC1.out; omega]
  go_wp2_with (at_make; refine wpList_make_own _ rfl _ _ 27 rfl W.heap.size 5 i0 (.int .u8 0) 1 Try.underlying27 hi hz0 hz1 _ _ _ (3 + (2 + m0 + (2 + m1))) rfl rfl ?k0 ?k1 ?k2 ?k3 ?_)
  case k0 => omega
  case k1 => rw [hz2]; omega
  case k2 => unfold maxLen; omega
  case k3 => exact Nat.le_refl _
  intro w1 hownw1 hgrow1
  have hBw1 : Below W.heap.size W w1 := (Below.refl _ _).grown hgrow1 (Nat.le_refl _) (fun k h => by cases h)
  have hsw1 := hBw1.size
  have HEl : Hid ((enc (strip r)).length + (enc (strip s)).length = 2 + m0 + (2 + m1)) := by
    show _ = _
    rw [enc_length, enc_length, HL0.out, HL1.out]
    have := HC0.out
    have := HC1.out
    omega
  clear hgrow1
  go_wp2_with (at_builtin; refine wpList_append_own _ rfl _ _ 27 rfl W.heap.size 5 i0 (.int .u8 0) 1 1 Try.underlying27 hi hz0 hz1 hz2 rfl (by decide) _ _ _ rfl (hownw1.alloc _) ⟨w1.heap.size, 0, none⟩ 1 1 [.int .u8 48] rfl rfl ?a1 ?a2 ?a3 ?a4 ?a5 ?_)
  case a1 => exact cell_one_new _ _ _
  case a2 => intro u hu; simp at hu; subst hu; rfl
  case a3 => unfold maxLen; omega
  case a4 => omega
  case a5 => simp; omega
  intro v2 w2 hownw2 hgroww2 _
  have hBw2 := grown_below (hBw1.alloc hsw1 _) (hownw1.alloc _) hgroww2 (by simp; omega)
  have hsw2 : W.heap.size ≤ w2.heap.size := by have := hBw2.size; omega
  clear hgroww2
  by_cases hb : 128 ≤ 2 + m0 + (2 + m1)
  · have HDR := hdr_hi hb
    have hb' : (128 : Int) ≤ 2 + (m0 : Int) + (2 + (m1 : Int)) := by omega
    go_wp2_with (at_builtin; refine wpList_append_own _ rfl _ _ 27 rfl W.heap.size 5 i0 (.int .u8 0) 1 1 Try.underlying27 hi hz0 hz1 hz2 rfl (by decide) v2 _ _ rfl (hownw2.alloc _) ⟨w2.heap.size, 0, none⟩ 1 1 [.int .u8 129] rfl rfl ?b1 ?b2 ?b3 ?b4 ?b5 ?_)
    case b1 => exact cell_one_new _ _ _
    case b2 => intro u hu; simp at hu; subst hu; rfl
    case b3 => unfold maxLen; omega
    case b4 => omega
    case b5 => simp; omega
    intro v3 w3 hownw3 hgroww3 _
    have hBw3 := grown_below (hBw2.alloc hsw2 _) (hownw2.alloc _) hgroww3 (by simp; omega)
    have hsw3 : W.heap.size ≤ w3.heap.size := by have := hBw3.size; omega
    clear hgroww3
    go_wp2_with (at_builtin; refine wpList_append_own _ rfl _ _ 27 rfl W.heap.size 5 i0 (.int .u8 0) 1 1 Try.underlying27 hi hz0 hz1 hz2 rfl (by decide) v3 _ _ rfl (hownw3.alloc _) ⟨w3.heap.size, 0, none⟩ 1 1 [.int .u8 (2 + (m0 : Int) + (2 + (m1 : Int)))] rfl rfl ?c1 ?c2 ?c3 ?c4 ?c5 ?_)
    case c1 => exact cell_one_new _ _ _
    case c2 => intro u hu; simp at hu; subst hu; rfl
    case c3 => unfold maxLen; omega
    case c4 => omega
    case c5 => simp; omega
    intro v4 w4 hownw4 hgroww4 _
    have hBw4 := grown_below (hBw3.alloc hsw3 _) (hownw3.alloc _) hgroww4 (by simp; omega)
    have hsw4 : W.heap.size ≤ w4.heap.size := by have := hBw4.size; omega
    clear hgroww4
    have hown4' : Own w4 W.heap.size v4 [48, 129, ((2 + m0 + (2 + m1) : Nat) : Int)] := by simpa [Own] using hownw4
    go_wp2_with fail
    refine (appInt_any W.heap.size b (off + sd r) (h - sd r) (cap - sd r) _ [48, 129, ((2 + m0 + (2 + m1) : Nat) : Int)] (strip r) w4 HL0.out (by omega) (by have := HC0.out; omega) (rr'.below hBw4 hbW) (strip_byt br) hbW hsw4 hown4' (by simp)).mono ?_
    rintro e wa ⟨va, rfl, howna, hBa⟩
    have hBa' := hBw4.trans hBa
    have hsa : W.heap.size ≤ wa.heap.size := by have := hBa'.size; omega
    go_wp2_with fail
    refine (appInt_any W.heap.size b (off + h + sd s) (len - h - sd s) (cap - h - sd s) va ([48, 129, ((2 + m0 + (2 + m1) : Nat) : Int)] ++ enc (strip r)) (strip s) wa HL1.out (by omega) (by have := HC1.out; omega) (rs'.below hBa' hbW) (strip_byt bs) hbW hsa howna (by rw [List.length_append, enc_length, HL0.out]; simp; have := HC0.out; omega)).mono ?_
    rintro e wb ⟨vb, rfl, hownb, hBb⟩
    go_wp2
    go_ret
    refine ⟨_, rfl, ?_, hBW.trans ((hBa'.trans hBb).mono (by have := HSZ.out; omega))⟩
    rw [HG.out, ← HSZ.out]
    have hx : seq2 (strip r) (strip s) = [48, 129, ((2 + m0 + (2 + m1) : Nat) : Int)] ++ enc (strip r) ++ enc (strip s) := by
      unfold seq2
      rw [HEl.out, HDR]
      simp
    rw [hx]; exact hownb
  · have HDR := hdr_lo hb
    have hb' : 2 + (m0 : Int) + (2 + (m1 : Int)) < 128 := by omega
    clear hb
    go_wp2_with (at_builtin; refine wpList_append_own _ rfl _ _ 27 rfl W.heap.size 5 i0 (.int .u8 0) 1 1 Try.underlying27 hi hz0 hz1 hz2 rfl (by decide) v2 _ _ rfl (hownw2.alloc _) ⟨w2.heap.size, 0, none⟩ 1 1 [.int .u8 (2 + (m0 : Int) + (2 + (m1 : Int)))] rfl rfl ?d1 ?d2 ?d3 ?d4 ?d5 ?_)
    case d1 => exact cell_one_new _ _ _
    case d2 => intro u hu; simp at hu; subst hu; rfl
    case d3 => unfold maxLen; omega
    case d4 => omega
    case d5 => simp; omega
    intro v4 w4 hownw4 hgroww4 _
    have hBw4 := grown_below (hBw2.alloc hsw2 _) (hownw2.alloc _) hgroww4 (by simp; omega)
    have hsw4 : W.heap.size ≤ w4.heap.size := by have := hBw4.size; omega
    clear hgroww4
    have hown4' : Own w4 W.heap.size v4 [48, ((2 + m0 + (2 + m1) : Nat) : Int)] := by simpa [Own] using hownw4
    go_wp2_with fail
    refine (appInt_any W.heap.size b (off + sd r) (h - sd r) (cap - sd r) _ [48, ((2 + m0 + (2 + m1) : Nat) : Int)] (strip r) w4 HL0.out (by omega) (by have := HC0.out; omega) (rr'.below hBw4 hbW) (strip_byt br) hbW hsw4 hown4' (by simp)).mono ?_
    rintro e wa ⟨va, rfl, howna, hBa⟩
    have hBa' := hBw4.trans hBa
    have hsa : W.heap.size ≤ wa.heap.size := by have := hBa'.size; omega
    go_wp2_with fail
    refine (appInt_any W.heap.size b (off + h + sd s) (len - h - sd s) (cap - h - sd s) va ([48, ((2 + m0 + (2 + m1) : Nat) : Int)] ++ enc (strip r)) (strip s) wa HL1.out (by omega) (by have := HC1.out; omega) (rs'.below hBa' hbW) (strip_byt bs) hbW hsa howna (by rw [List.length_append, enc_length, HL0.out]; simp; have := HC0.out; omega)).mono ?_
    rintro e wb ⟨vb, rfl, hownb, hBb⟩
    go_wp2
    go_ret
    refine ⟨_, rfl, ?_, hBW.trans ((hBa'.trans hBb).mono (by have := HSZ.out; omega))⟩
    rw [HG.out, ← HSZ.out]
    have hx : seq2 (strip r) (strip s) = [48, ((2 + m0 + (2 + m1) : Nat) : Int)] ++ enc (strip r) ++ enc (strip s) := by
      unfold seq2
      rw [HEl.out, HDR]
      simp
    rw [hx]; exact hownb

end Go.Proofs.Qxb6617868a
