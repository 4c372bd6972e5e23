import Derived.Test.Qxb6617965aV5
import Derived.Maps.AppendAt
namespace Go.Proofs.Qxb6617965a
open Go.RowKit Cpu

/-- The state inside a round of 'Difference': what has been gathered, and the box of the run at hand. -/
structure DSt (W wr : World) (H3 R : Nat) (v : Value) (out : List (Int × Int)) (rf rl : Int) : Prop where
  own : wr.ownsRow H3 37 2 v out.length (flat out)
  below : Below H3 W wr
  r0 : wr.cell? ⟨R, 0, none⟩ = some (.int .i64 rf)
  r1 : wr.cell? ⟨R, 1, none⟩ = some (.int .i64 rl)
  ne : v.ownBlock ≠ some R
  lt : R < wr.heap.size
  size : H3 ≤ wr.heap.size

theorem own_below {w w' : World} {base e n : Nat} {v : Value} {xs : List Value} (h : w.ownsRow base e 2 v n xs) (hB : Below w.heap.size w w') : w'.ownsRow base e 2 v n xs := by
  refine ⟨h.1, ?_⟩
  rcases h.2 with h2 | ⟨g, cap, cur, hv, hb, hg, rest⟩
  · exact .inl h2
  · exact .inr ⟨g, cap, cur, hv, hb, by rw [hB.block g (Array.getElem?_eq_some_iff.1 hg).1]; exact hg, rest⟩

theorem DSt.step {W wr wr' : World} {H3 R : Nat} {v : Value} {out : List (Int × Int)} {rf rl : Int} (h : DSt W wr H3 R v out rf rl) (hB : Below wr.heap.size wr wr') : DSt W wr' H3 R v out rf rl :=
  ⟨own_below h.own hB, h.below.trans (hB.mono h.size), (hB.cell (p := ⟨R, 0, none⟩) h.lt).trans h.r0, (hB.cell (p := ⟨R, 1, none⟩) h.lt).trans h.r1, h.ne, by have := hB.size; have := h.lt; omega, by have := hB.size; have := h.size; omega⟩

theorem DSt.start {W wr : World} {H3 : Nat} {v : Value} {out : List (Int × Int)} {rf rl : Int} (hown : wr.ownsRow H3 37 2 v out.length (flat out)) (hB : Below H3 W wr) (hs : H3 ≤ wr.heap.size) :
    DSt W (wr.alloc (.cells #[.int .i64 rf, .int .i64 rl] 37)) H3 wr.heap.size v out rf rl :=
  ⟨hown.alloc _, hB.alloc hs _, by rw [World.cell?_alloc_at _ _ _ _ rfl]; rfl, by rw [World.cell?_alloc_at _ _ _ _ rfl]; rfl, fun h => by have := (hown.lt _ h).2; omega, by simp, by simp; omega⟩

theorem DSt.append {W wr w' : World} {H3 R : Nat} {v v' : Value} {out : List (Int × Int)} {rf rl : Int} (h : DSt W wr H3 R v out rf rl) (o : Obj) (p : Int × Int)
    (hown : w'.ownsRow H3 37 2 v' (out.length + 1) (flat out ++ [.int .i64 p.1, .int .i64 p.2])) (hg : (wr.alloc o).grownBy w' v.ownBlock) {n : Nat} (ha : v'.ownBlock = v.ownBlock ∨ v'.ownBlock = some n) (hn : n = wr.heap.size + 1) :
    DSt W w' H3 R v' (out ++ [p]) rf rl := by
  have hlt := h.lt
  have hs := hg.size
  simp at hs
  have hk : ∀ (off : Nat) (x : Value), wr.cell? ⟨R, off, none⟩ = some x → w'.cell? ⟨R, off, none⟩ = some x := fun off x hx => by
    refine hg.cell (a := ⟨R, off, none⟩) ?_ (fun hh => h.ne hh.symm)
    rw [World.cell?_alloc_past _ _ _ hlt]; exact hx
  refine ⟨?_, own_grown (by simp; have := h.size; omega) (h.own.alloc o) hg (h.below.alloc h.size o), hk 0 _ h.r0, hk 1 _ h.r1, ?_, by omega, by have := h.size; omega⟩
  · rw [List.length_append, flat_append]; exact hown
  · rcases ha with ha | ha
    · rw [ha]; exact h.ne
    · rw [ha, hn]; simp; omega

/-- A cell of a later box, behind an append. -/
theorem DSt.kept {W wr w' : World} {H3 R C off : Nat} {v : Value} {out : List (Int × Int)} {rf rl : Int} {x : Value} (h : DSt W wr H3 R v out rf rl) (o o2 : Obj) (hC : C = wr.heap.size)
    (hc : (wr.alloc o).cell? ⟨C, off, none⟩ = some x) (hg : ((wr.alloc o).alloc o2).grownBy w' v.ownBlock) : w'.cell? ⟨C, off, none⟩ = some x :=
  kept_cell hg (by subst hC; simp) hc (fun k hk => (h.own.lt k hk).2) (by omega)

/-! ### plain steps -/
theorem adv_drop_skip {f : Int} {t : List (Int × Int)} {j : Nat} (hj : j < t.length) (h : ls t j < f) : adv f (t.drop j) = adv f (t.drop (j + 1)) := by
  rw [drop_at t j hj, adv, if_pos h]
theorem adv_drop_stop {f : Int} {t : List (Int × Int)} {j : Nat} (hj : j < t.length) (h : ¬ ls t j < f) : adv f (t.drop j) = t.drop j := by
  rw [drop_at t j hj, adv, if_neg h]
theorem adv_drop_end {f : Int} {t : List (Int × Int)} {j : Nat} (hj : t.length ≤ j) : adv f (t.drop j) = t.drop j := by
  rw [List.drop_eq_nil_of_le hj]; rfl
theorem cut_break {l f : Int} {t : List (Int × Int)} {m : Nat} (hm : m < t.length) (h : l < fs t m) : cut l f (t.drop m) = ([], f) := by
  rw [drop_at t m hm, cut, if_pos h]
theorem cut_end {l f : Int} {t : List (Int × Int)} {m : Nat} (hm : t.length ≤ m) : cut l f (t.drop m) = ([], f) := by
  rw [List.drop_eq_nil_of_le hm]; rfl
theorem cut_go {l f : Int} {t : List (Int × Int)} {m : Nat} (hm : m < t.length) (h : ¬ l < fs t m) :
    cut l f (t.drop m) = ((if f < fs t m then [(f, fs t m - 1)] else []) ++ (cut l (ls t m + 1) (t.drop (m + 1))).1, (cut l (ls t m + 1) (t.drop (m + 1))).2) := by
  rw [drop_at t m hm, cut, if_neg h]
theorem diff_round {s t out : List (Int × Int)} {i j J : Nat} (hi : i < s.length) (h : out ++ diff (s.drop i) (t.drop j) = diff s t) (hJ : t.drop J = adv (fs s i) (t.drop j)) :
    (out ++ (cut (ls s i) (fs s i) (t.drop J)).1 ++ lastRun (cut (ls s i) (fs s i) (t.drop J)).2 (ls s i)) ++ diff (s.drop (i + 1)) (t.drop J) = diff s t := by
  rw [← h, drop_at s i hi, diff, hJ, cutAll]
  simp

/-- Where the inner loop stands behind k cuts. -/
def CutEq (l : Int) (t : List (Int × Int)) (J : Nat) (out0 : List (Int × Int)) (f0 : Int) (k : Nat) (out : List (Int × Int)) (f : Int) : Prop :=
  out ++ (cut l f (t.drop (J + k))).1 = out0 ++ (cut l f0 (t.drop J)).1 ∧ (cut l f (t.drop (J + k))).2 = (cut l f0 (t.drop J)).2
theorem cutEq_zero (l : Int) (t : List (Int × Int)) (J : Nat) (out0 : List (Int × Int)) (f0 : Int) : CutEq l t J out0 f0 0 out0 f0 := ⟨rfl, rfl⟩
theorem cutEq_done {l : Int} {t : List (Int × Int)} {J k : Nat} {out0 out : List (Int × Int)} {f0 f : Int} (h : CutEq l t J out0 f0 k out f) (he : cut l f (t.drop (J + k)) = ([], f)) :
    out0 ++ (cut l f0 (t.drop J)).1 = out ∧ (cut l f0 (t.drop J)).2 = f := by
  obtain ⟨h1, h2⟩ := h
  rw [he] at h1 h2
  exact ⟨by rw [← h1]; simp, h2.symm⟩
theorem cutEq_step {l : Int} {t : List (Int × Int)} {J k : Nat} {out0 out : List (Int × Int)} {f0 f : Int} (h : CutEq l t J out0 f0 k out f) (hm : J + k < t.length) (hl : ¬ l < fs t (J + k)) :
    CutEq l t J out0 f0 (k + 1) (out ++ if f < fs t (J + k) then [(f, fs t (J + k) - 1)] else []) (ls t (J + k) + 1) := by
  obtain ⟨h1, h2⟩ := h
  rw [cut_go hm hl] at h1 h2
  exact ⟨by rw [← h1, List.append_assoc]; rfl, h2⟩

set_option maxHeartbeats 2000000 in
set_option maxRecDepth 100000 in
theorem diff_walk (a0 a1 : Option Addr) (l0 c0 l1 c1 : Nat) (s t : List (Int × Int)) (w : World) (hvs : View w a0 l0 s) (hvt : View w a1 l1 t) (hc1 : CapOk l1 c1) (m0 : l0 ≤ 1099511627776) (m1 : l1 ≤ 1099511627776) (is : InR s) (it : InR t) (hN : (diff s t).length ≤ 2199023255552) :
    Calls Try.prog 16 #[.agg #[.slice a0 l0 c0], .agg #[.slice a1 l1 c1]] w fun e w' => ∃ a' cap', e = .returned (.agg #[.slice a' (diff s t).length cap']) ∧ View w' a' (diff s t).length (diff s t) ∧ CapOk (diff s t).length cap' ∧ Below w.heap.size w w' := by
  obtain ⟨i0, hi, hz0, hz1, hz2⟩ := info_parts Try.info37
  obtain ⟨hc1a, hc1b⟩ := hc1
  have k0 := laid3_0 w (.slice a0 l0 c0) (.slice a1 l1 c1)
  have k1 := laid3_1 w (.slice a0 l0 c0) (.slice a1 l1 c1)
  have k2 := laid3_2 w (.slice a0 l0 c0) (.slice a1 l1 c1)
  have k3 := laid3_f w (.slice a0 l0 c0) (.slice a1 l1 c1)
  have kB := laid3_below w (.slice a0 l0 c0) (.slice a1 l1 c1)
  have ks := laid3_size w (.slice a0 l0 c0) (.slice a1 l1 c1)
  obtain ⟨W, hW⟩ : ∃ W, W = laid3 w (.slice a0 l0 c0) (.slice a1 l1 c1) := ⟨_, rfl⟩
  rw [← hW] at k0 k1 k2 k3 kB ks
  have HW : Hid (W = laid3 w (.slice a0 l0 c0) (.slice a1 l1 c1)) := hW
  have KS : Hid (W.heap.size = w.heap.size + 3) := ks
  clear hW ks
  go_enter Try.func16, Try.ntmps16
  go_wp2
  have hWW := HW.out
  unfold laid3 at hWW
  rw [← hWW]
  clear hWW
  go_loopw [5, 6, 15] (fun v y x wr => ∃ (i j : Nat) (out : List (Int × Int)), i ≤ l0 ∧ j ≤ l1 ∧ x = .int .i64 i ∧ y = .int .i64 j ∧ wr.ownsRow (w.heap.size + 3) 37 2 v out.length (flat out) ∧ Hid (out ++ diff (s.drop i) (t.drop j) = diff s t) ∧ Below (w.heap.size + 3) W wr)
    (fun _ _ x _ => l0 - (intOf x).toNat)
  case atStart => exact ⟨0, 0, [], by omega, by omega, rfl, rfl, World.ownsRow_nil _ _ _ _, rfl, Below.refl _ _⟩
  case round =>
    obtain ⟨i, j, out, hi', hj', rfl, rfl, hown, hinv, hB⟩ := hrel
    have hsz : w.heap.size + 3 ≤ wr.heap.size := by have := hB.size; have := KS.out; omega
    by_cases h1 : i < l0
    · obtain ⟨b0, off0, ha0, hb0, hr0⟩ := hvs.2 (by omega)
      subst ha0
      have hil : i < s.length := by rw [hvs.1]; exact h1
      obtain ⟨f1, f2⟩ := ((hr0.below kB hb0).below hB (by omega)) i hil
      obtain ⟨r1, r2, r3⟩ := is _ (at_mem s i hil)
      simp only at r1 r2 r3
      have D := DSt.start (rf := fs s i) (rl := ls s i) hown hB hsz
      have i1 : (i : Int) < (l0 : Int) := by omega
      have i2 : (0 : Int) ≤ (i : Int) := by omega
      have hol : out.length ≤ (diff s t).length := by
        have h3 := congrArg List.length hinv.out
        rw [List.length_append] at h3
        omega
      clear hown
      go_wp2
      generalize hR : wr.heap.size = R at D ⊢
      generalize wr.alloc (Obj.cells #[.int .i64 (fs s i), .int .i64 (ls s i)] 37) = W1 at D ⊢
      clear hR f1 f2 hsz hB
      go_loopw [6] (fun y w2 => ∃ J : Nat, J ≤ l1 ∧ y = .int .i64 J ∧ Hid (adv (fs s i) (t.drop J) = adv (fs s i) (t.drop j)) ∧ Below W1.heap.size W1 w2) (fun y _ => l1 - (intOf y).toNat)
      case atStart => exact ⟨j, hj', rfl, rfl, Below.refl _ _⟩
      case round =>
        obtain ⟨J, hJ', rfl, HJ, hB2⟩ := hrel
        have D2 := D.step hB2
        have e0 := D2.r0
        have e1 : wr.cell? ⟨w.heap.size + 1, 0, none⟩ = some (.slice a1 l1 c1) := (D2.below.cell (p := ⟨w.heap.size + 1, 0, none⟩) (by simp)).trans k1
        by_cases h2 : J < l1
        · obtain ⟨b1, off1, ha1, hb1, hr1⟩ := hvt.2 (by omega)
          subst ha1
          have hJl : J < t.length := by rw [hvt.1]; exact h2
          obtain ⟨f3, f4⟩ := ((hr1.below kB hb1).below D2.below (by omega)) J hJl
          have q1 : decide ((J : Int) < (l1 : Int)) = true := by simp; omega
          have i3 : (J : Int) < (l1 : Int) := by omega
          have i4 : (0 : Int) ≤ (J : Int) := by omega
          by_cases h3 : ls t J < fs s i
          · have HJ2 : Hid (adv (fs s i) (t.drop (J + 1)) = adv (fs s i) (t.drop j)) := by show _ = _; rw [← adv_drop_skip hJl h3]; exact HJ.out
            go_wp2
            go_quiet (fail)
            go_wp2
            go_roundw
            case rel => exact ⟨J + 1, by omega, by go_num, HJ2.out, below_drewN hB2 _⟩
            case measure => simp [intOf]; omega
          · have HJ3 : Hid (t.drop J = adv (fs s i) (t.drop j)) := by show _ = _; rw [← HJ.out, adv_drop_stop hJl h3]
            have h3' : fs s i ≤ ls t J := by omega
            have q2 : decide (ls t J < fs s i) = false := by simp; omega
            clear h3
            go_wp2
            go_quiet (fail)
            have D3 := D2.step (below_drewN (Below.refl _ _) nq)
            generalize wr.drewN nq = W3 at D3 ⊢
            clear D2 D e0 e1 f3 f4 hB2
            have e0 := D3.r0
            have e1 : W3.cell? ⟨w.heap.size + 1, 0, none⟩ = some (.slice (some ⟨b1, off1, none⟩) l1 c1) := (D3.below.cell (p := ⟨w.heap.size + 1, 0, none⟩) (by simp)).trans k1
            have HT0 : Hid (CutEq (ls s i) t J out (fs s i) 0 out (fs s i)) := cutEq_zero _ _ _ _ _
            go_wp2
            go_loopw [5, 9, 44] (fun v y x w3 => ∃ (k : Nat) (out2 : List (Int × Int)) (f : Int), k ≤ l1 - J ∧ x = .int .i64 k ∧ y = .int .i64 f ∧ 0 ≤ f ∧ f ≤ 1073741825 ∧ Hid (CutEq (ls s i) t J out (fs s i) k out2 f) ∧ DSt W w3 (w.heap.size + 3) R v out2 (fs s i) (ls s i))
              (fun _ _ x _ => (l1 - J) - (intOf x).toNat)
            case atStart => exact ⟨0, out, fs s i, by omega, rfl, rfl, by omega, by omega, HT0.out, D3⟩
            case round =>
              clear D3 e0 e1
              obtain ⟨k, out2, f, hk, rfl, rfl, hf0, hf1, HCE, D⟩ := hrel
              by_cases h6 : k < l1 - J
              · have hml : J + k < t.length := by rw [hvt.1]; omega
                obtain ⟨f3, f4⟩ := ((hr1.below kB hb1).below D.below (by omega)) (J + k) hml
                rw [show off1 + (J + k) * 2 = off1 + J * 2 + k * 2 by omega] at f3 f4
                obtain ⟨u1, u2, u3⟩ := it _ (at_mem t (J + k) hml)
                simp only at u1 u2 u3
                have i5 : (k : Int) < ((l1 - J : Nat) : Int) := by omega
                have D4 := D.step ((Below.refl _ _).alloc (Nat.le_refl _) (.cells #[.int .i64 (fs t (J + k)), .int .i64 (ls t (J + k))] 37))
                have e1 := D4.r1
                have hlt4 := D.lt
                by_cases h7 : ls s i < fs t (J + k)
                · have HA2 : Hid (out ++ (cut (ls s i) (fs s i) (t.drop J)).1 = out2 ∧ (cut (ls s i) (fs s i) (t.drop J)).2 = f) := cutEq_done HCE.out (cut_break hml h7)
                  have e2 := D.r1
                  have HFIN : Hid ((out2 ++ lastRun f (ls s i)) ++ diff (s.drop (i + 1)) (t.drop J) = diff s t) := by
                    have h3 := diff_round hil hinv.out HJ3.out
                    rw [HA2.out.1, HA2.out.2] at h3; exact h3
                  have g1 := D4.r1
                  have hs3 := D4.size
                  have hsD := D.size
                  have hol2 : out2.length ≤ (diff s t).length := by
                    have h3 := congrArg List.length HFIN.out
                    rw [List.length_append, List.length_append] at h3
                    omega
                  by_cases hfl : f ≤ ls s i
                  · have HF2 : Hid (out2 ++ [(f, ls s i)] ++ diff (s.drop (i + 1)) (t.drop J) = diff s t) := by
                      have := HFIN.out
                      rw [lastRun, if_pos hfl] at this; exact this
                    go_wp2_with (at_builtin; refine wpList_append_own_at _ rfl _ _ 27 rfl (w.heap.size + 3) 37 i0 (.agg #[.int .i64 0, .int .i64 0]) 2 16 Try.underlying27 hi hz0 hz1 hz2 rfl (by decide) _ _ _ rfl (D4.own.alloc _) ⟨wr.heap.size + 1, 0, none⟩ 1 1 [.int .i64 f, .int .i64 (ls s i)] rfl rfl ?x1 ?x2 ?x3 ?x4 ?x5 ?_)
                    case x1 => have := news_run (wr.alloc (.cells #[.int .i64 (fs t (J + k)), .int .i64 (ls t (J + k))] 37)) f (ls s i); simpa using this
                    case x2 => intro u hu; simp at hu; rcases hu with rfl | rfl <;> rfl
                    case x3 => unfold maxLen; omega
                    case x4 => omega
                    case x5 => simp; omega
                    intro v8 W8 hown8 hgrow8 _ hat8
                    have D8 := D4.append _ (f, ls s i) hown8 hgrow8 hat8 (by simp)
                    clear hown8 hgrow8 hat8 D4
                    go_wp2
                    go_roundw
                    case rel => exact ⟨i + 1, J, out2 ++ [(f, ls s i)], by omega, by omega, by go_num, rfl, D8.own, HF2.out, D8.below⟩
                    case measure => simp [intOf]; omega
                  · have HF2 : Hid (out2 ++ diff (s.drop (i + 1)) (t.drop J) = diff s t) := by
                      have := HFIN.out
                      rw [lastRun, if_neg hfl, List.append_nil] at this; exact this
                    have hfl' : ls s i < f := by omega
                    clear hfl
                    go_wp2
                    go_roundw
                    case rel => exact ⟨i + 1, J, out2, by omega, by omega, by go_num, rfl, D4.own, HF2.out, D4.below⟩
                    case measure => simp [intOf]; omega
                · have h7' : fs t (J + k) ≤ ls s i := by omega
                  have hol3 : out2.length ≤ (diff s t).length := by
                    have h3 := congrArg List.length HCE.out.1
                    have h4 := congrArg List.length (diff_round hil hinv.out HJ3.out)
                    simp only [List.length_append] at h3 h4
                    omega
                  have HCS : Hid _ := cutEq_step HCE.out hml h7
                  have e2 := D.r1
                  have hsD := D.size
                  have hsD4 := D4.size
                  clear h7
                  by_cases h8 : f < fs t (J + k)
                  · have HCS2 : Hid (CutEq (ls s i) t J out (fs s i) (k + 1) (out2 ++ [(f, fs t (J + k) - 1)]) (ls t (J + k) + 1)) := by
                      have := HCS.out
                      rw [if_pos h8] at this; exact this
                    clear HCS
                    go_wp2_with (at_builtin; refine wpList_append_own_at _ rfl _ _ 27 rfl (w.heap.size + 3) 37 i0 (.agg #[.int .i64 0, .int .i64 0]) 2 16 Try.underlying27 hi hz0 hz1 hz2 rfl (by decide) _ _ _ rfl (D4.own.alloc _) ⟨wr.heap.size + 1, 0, none⟩ 1 1 [.int .i64 f, .int .i64 (fs t (J + k) - 1)] rfl rfl ?y1 ?y2 ?y3 ?y4 ?y5 ?_)
                    case y1 => have := news_run (wr.alloc (.cells #[.int .i64 (fs t (J + k)), .int .i64 (ls t (J + k))] 37)) f (fs t (J + k) - 1); simpa using this
                    case y2 => intro u hu; simp at hu; rcases hu with rfl | rfl <;> rfl
                    case y3 => unfold maxLen; omega
                    case y4 => omega
                    case y5 => simp; omega
                    intro v8 W8 hown8 hgrow8 _ hat8
                    have D8 := D4.append _ (f, fs t (J + k) - 1) hown8 hgrow8 hat8 (by simp)
                    have e3 : W8.cell? ⟨wr.heap.size, 1, none⟩ = some (.int .i64 (ls t (J + k))) := D.kept _ _ rfl (by rw [World.cell?_alloc_at _ _ _ _ rfl]; rfl) hgrow8
                    clear hown8 hgrow8 hat8 D D4 e1 e2
                    go_wp2
                    go_roundw
                    case rel => exact ⟨k + 1, out2 ++ [(f, fs t (J + k) - 1)], ls t (J + k) + 1, by omega, by go_num, rfl, by omega, by omega, HCS2.out, D8⟩
                    case measure => simp [intOf]; omega
                  · have HCS2 : Hid (CutEq (ls s i) t J out (fs s i) (k + 1) out2 (ls t (J + k) + 1)) := by
                      have := HCS.out
                      rw [if_neg h8, List.append_nil] at this; exact this
                    have h8' : fs t (J + k) ≤ f := by omega
                    clear HCS h8
                    go_wp2
                    go_roundw
                    case rel => exact ⟨k + 1, out2, ls t (J + k) + 1, by omega, by go_num, rfl, by omega, by omega, HCS2.out, D4⟩
                    case measure => simp [intOf]; omega
              · have HA2 : Hid (out ++ (cut (ls s i) (fs s i) (t.drop J)).1 = out2 ∧ (cut (ls s i) (fs s i) (t.drop J)).2 = f) := cutEq_done HCE.out (cut_end (by rw [hvt.1]; omega))
                have HFIN : Hid ((out2 ++ lastRun f (ls s i)) ++ diff (s.drop (i + 1)) (t.drop J) = diff s t) := by
                  have h3 := diff_round hil hinv.out HJ3.out
                  rw [HA2.out.1, HA2.out.2] at h3; exact h3
                have g1 := D.r1
                have hs3 := D.size
                have hsD := D.size
                have hol2 : out2.length ≤ (diff s t).length := by
                  have h3 := congrArg List.length HFIN.out
                  rw [List.length_append, List.length_append] at h3
                  omega
                by_cases hfl : f ≤ ls s i
                · have HF2 : Hid (out2 ++ [(f, ls s i)] ++ diff (s.drop (i + 1)) (t.drop J) = diff s t) := by
                    have := HFIN.out
                    rw [lastRun, if_pos hfl] at this; exact this
                  go_wp2_with (at_builtin; refine wpList_append_own_at _ rfl _ _ 27 rfl (w.heap.size + 3) 37 i0 (.agg #[.int .i64 0, .int .i64 0]) 2 16 Try.underlying27 hi hz0 hz1 hz2 rfl (by decide) _ _ _ rfl (D.own.alloc _) ⟨wr.heap.size, 0, none⟩ 1 1 [.int .i64 f, .int .i64 (ls s i)] rfl rfl ?x1 ?x2 ?x3 ?x4 ?x5 ?_)
                  case x1 => exact news_run _ _ _
                  case x2 => intro u hu; simp at hu; rcases hu with rfl | rfl <;> rfl
                  case x3 => unfold maxLen; omega
                  case x4 => omega
                  case x5 => simp; omega
                  intro v8 W8 hown8 hgrow8 _ hat8
                  have D8 := D.append _ (f, ls s i) hown8 hgrow8 hat8 (by simp)
                  clear hown8 hgrow8 hat8 D
                  go_wp2
                  go_roundw
                  case rel => exact ⟨i + 1, J, out2 ++ [(f, ls s i)], by omega, by omega, by go_num, rfl, D8.own, HF2.out, D8.below⟩
                  case measure => simp [intOf]; omega
                · have HF2 : Hid (out2 ++ diff (s.drop (i + 1)) (t.drop J) = diff s t) := by
                    have := HFIN.out
                    rw [lastRun, if_neg hfl, List.append_nil] at this; exact this
                  have hfl' : ls s i < f := by omega
                  clear hfl
                  go_wp2
                  go_roundw
                  case rel => exact ⟨i + 1, J, out2, by omega, by omega, by go_num, rfl, D.own, HF2.out, D.below⟩
                  case measure => simp [intOf]; omega
        · have q1 : decide ((J : Int) < (l1 : Int)) = false := by simp; omega
          have HJ3 : Hid (t.drop J = adv (fs s i) (t.drop j)) := by show _ = _; rw [← HJ.out, adv_drop_end (by rw [hvt.1]; omega)]
          have HA2 : Hid (out ++ (cut (ls s i) (fs s i) (t.drop J)).1 = out ∧ (cut (ls s i) (fs s i) (t.drop J)).2 = fs s i) := by
            show _ ∧ _
            rw [cut_end (by rw [hvt.1]; omega)]; exact ⟨by simp, rfl⟩
          have hJc : (J : Int) ≤ (l1 : Int) := by omega
          have hJd : (l1 : Int) ≤ (c1 : Int) := by omega
          go_wp2
          go_quiet (fail)
          have D3 := D2.step (below_drewN (Below.refl _ _) nq)
          generalize wr.drewN nq = W3 at D3 ⊢
          clear D2 D e0 e1 hB2
          have e0 := D3.r0
          have e1 : W3.cell? ⟨w.heap.size + 1, 0, none⟩ = some (.slice a1 l1 c1) := (D3.below.cell (p := ⟨w.heap.size + 1, 0, none⟩) (by simp)).trans k1
          by_cases hcJ : c1 ≤ J
          all_goals
            go_wp2
            refine wp_loop_rounds 1 ?_
            rw [rounds_succ]
            have HFIN : Hid ((out ++ lastRun (fs s i) (ls s i)) ++ diff (s.drop (i + 1)) (t.drop J) = diff s t) := by
              have h3 := diff_round hil hinv.out HJ3.out
              rw [HA2.out.1, HA2.out.2] at h3; exact h3
            have g1 := D3.r1
            have hs3 := D3.size
            have hsD := D3.size
            have hol2 : out.length ≤ (diff s t).length := by
              have h3 := congrArg List.length HFIN.out
              rw [List.length_append, List.length_append] at h3
              omega
            by_cases hfl : (fs s i) ≤ ls s i
            · have HF2 : Hid (out ++ [((fs s i), ls s i)] ++ diff (s.drop (i + 1)) (t.drop J) = diff s t) := by
                have := HFIN.out
                rw [lastRun, if_pos hfl] at this; exact this
              go_wp2_with (at_builtin; refine wpList_append_own_at _ rfl _ _ 27 rfl (w.heap.size + 3) 37 i0 (.agg #[.int .i64 0, .int .i64 0]) 2 16 Try.underlying27 hi hz0 hz1 hz2 rfl (by decide) _ _ _ rfl (D3.own.alloc _) ⟨W3.heap.size, 0, none⟩ 1 1 [.int .i64 (fs s i), .int .i64 (ls s i)] rfl rfl ?x1 ?x2 ?x3 ?x4 ?x5 ?_)
              case x1 => exact news_run _ _ _
              case x2 => intro u hu; simp at hu; rcases hu with rfl | rfl <;> rfl
              case x3 => unfold maxLen; omega
              case x4 => omega
              case x5 => simp; omega
              intro v8 W8 hown8 hgrow8 _ hat8
              have D8 := D3.append _ ((fs s i), ls s i) hown8 hgrow8 hat8 (by simp)
              clear hown8 hgrow8 hat8 D3
              go_wp2
              go_roundw
              case rel => exact ⟨i + 1, J, out ++ [((fs s i), ls s i)], by omega, by omega, by go_num, rfl, D8.own, HF2.out, D8.below⟩
              case measure => simp [intOf]; omega
            · exact absurd r2 hfl
    · have q1 : decide ((i : Int) < (l0 : Int)) = false := by simp; omega
      have hio : out = diff s t := by
        have h3 := hinv.out
        rw [List.drop_eq_nil_of_le (show s.length ≤ i by rw [hvs.1]; omega), diff, List.append_nil] at h3; exact h3
      subst hio
      obtain ⟨av, cv, hve, hview, _, hcok⟩ := own_view (ownsRow_setCell_below hown (a := ⟨w.heap.size + 2, 0, none⟩) (by simp) u5) rfl
      subst hve
      have g2 : wr.cell? ⟨w.heap.size + 1 + 1, 0, none⟩ = some (.slice none 0 0) := (hB.cell (p := ⟨w.heap.size + 2, 0, none⟩) (by simp)).trans k2
      have g3 : wr.frozen? ⟨w.heap.size + 1 + 1, 0, none⟩ = false := (hB.frozen (p := ⟨w.heap.size + 2, 0, none⟩) (by simp)).trans k3
      have hB2 := (kB.trans (hB.mono (by omega))).setCell (p := ⟨w.heap.size + 2, 0, none⟩) (by simp) (.slice av (diff s t).length cv)
      clear hown hinv
      go_wp2
      exact bodyPost_ret (v := .agg #[.slice av (diff s t).length cv]) (by simp [results, Try.results16, go_sem, g2]) rfl ⟨_, _, rfl, hview, hcok, hB2⟩

end Go.Proofs.Qxb6617965a
