import Derived.Test.Qxb6617965aV4
import Derived.Deep.RegionHeld3
namespace Go.Proofs.Qxb6617965a
open Go.RowKit Cpu

/-- The three blocks that both methods lay first: two boxes, and the result's. -/
def laid3 (w : World) (v0 v1 : Value) : World := ((w.alloc (.cells #[v0] 29)).alloc (.cells #[v1] 29)).alloc (.cells #[.slice none 0 0] 29)
theorem laid3_size (w : World) (v0 v1 : Value) : (laid3 w v0 v1).heap.size = w.heap.size + 3 := by simp [laid3]
theorem laid3_0 (w : World) (v0 v1 : Value) : (laid3 w v0 v1).cell? ⟨w.heap.size, 0, none⟩ = some v0 := by
  unfold laid3
  rw [World.cell?_alloc_past _ _ _ (by simp; omega), World.cell?_alloc_past _ _ _ (by simp), World.cell?_alloc_at _ _ _ _ rfl]; rfl
theorem laid3_1 (w : World) (v0 v1 : Value) : (laid3 w v0 v1).cell? ⟨w.heap.size + 1, 0, none⟩ = some v1 := by
  unfold laid3
  rw [World.cell?_alloc_past _ _ _ (by simp), World.cell?_alloc_at _ _ _ _ (by simp)]; rfl
theorem laid3_2 (w : World) (v0 v1 : Value) : (laid3 w v0 v1).cell? ⟨w.heap.size + 2, 0, none⟩ = some (.slice none 0 0) := by
  unfold laid3
  rw [World.cell?_alloc_at _ _ _ _ (by simp)]; rfl
theorem laid3_f (w : World) (v0 v1 : Value) : (laid3 w v0 v1).frozen? ⟨w.heap.size + 2, 0, none⟩ = false := by
  unfold laid3
  exact World.frozen?_alloc_at _ _ _ _ (by simp)
theorem laid3_below (w : World) (v0 v1 : Value) : Below w.heap.size w (laid3 w v0 v1) :=
  (((Below.refl _ _).alloc (Nat.le_refl _) _).alloc (by simp) _).alloc (by simp; omega) _

/-- Two boxes of a run each, laid one behind the other. -/
structure Two (w W : World) (ba bb : Nat) (x0 x1 y0 y1 : Value) : Prop where
  a0 : W.cell? ⟨ba, 0, none⟩ = some x0
  a1 : W.cell? ⟨ba, 1, none⟩ = some x1
  b0 : W.cell? ⟨bb, 0, none⟩ = some y0
  b1 : W.cell? ⟨bb, 1, none⟩ = some y1
  below : ∀ B w0, Below B w0 w → B ≤ w.heap.size → Below B w0 W
  own : ∀ base e v n xs, w.ownsRow base e 2 v n xs → W.ownsRow base e 2 v n xs
  size : W.heap.size = w.heap.size + 2
  lta : ba < W.heap.size
  ltb : bb < W.heap.size
  gea : w.heap.size ≤ ba
  geb : w.heap.size ≤ bb

theorem two_new (w : World) (x0 x1 y0 y1 : Value) : Two w (((w.alloc (.cells #[x0, x1] 37)).alloc (.cells #[y0, y1] 37)).drew) w.heap.size (w.heap.size + 1) x0 x1 y0 y1 := by
  refine ⟨?_, ?_, ?_, ?_, ?_, ?_, ?_, ?_, ?_, ?_, ?_⟩
  · show ((w.alloc (.cells #[x0, x1] 37)).alloc (.cells #[y0, y1] 37)).cell? _ = _
    rw [World.cell?_alloc_past _ _ _ (by simp), World.cell?_alloc_at _ _ _ _ rfl]; rfl
  · show ((w.alloc (.cells #[x0, x1] 37)).alloc (.cells #[y0, y1] 37)).cell? _ = _
    rw [World.cell?_alloc_past _ _ _ (by simp), World.cell?_alloc_at _ _ _ _ rfl]; rfl
  · show ((w.alloc (.cells #[x0, x1] 37)).alloc (.cells #[y0, y1] 37)).cell? _ = _
    rw [World.cell?_alloc_at _ _ _ _ (by simp)]; rfl
  · show ((w.alloc (.cells #[x0, x1] 37)).alloc (.cells #[y0, y1] 37)).cell? _ = _
    rw [World.cell?_alloc_at _ _ _ _ (by simp)]; rfl
  · intro B w0 h hB
    exact ((h.alloc hB _).alloc (by simp; omega) _).drew
  · intro base e v n xs h
    exact ((h.alloc _).alloc _).drew
  · show ((w.alloc (.cells #[x0, x1] 37)).alloc (.cells #[y0, y1] 37)).heap.size = _
    simp
  · show _ < ((w.alloc (.cells #[x0, x1] 37)).alloc (.cells #[y0, y1] 37)).heap.size
    simp; omega
  · show _ < ((w.alloc (.cells #[x0, x1] 37)).alloc (.cells #[y0, y1] 37)).heap.size
    simp
  · exact Nat.le_refl _
  · omega
theorem Two.swap {w W : World} {ba bb : Nat} {x0 x1 y0 y1 : Value} (h : Two w W ba bb x0 x1 y0 y1) : Two w W bb ba y0 y1 x0 x1 :=
  ⟨h.b0, h.b1, h.a0, h.a1, h.below, h.own, h.size, h.ltb, h.lta, h.geb, h.gea⟩

theorem Two.draws {w W : World} {ba bb n : Nat} {x0 x1 y0 y1 : Value} (h : Two w W ba bb x0 x1 y0 y1) : Two w (W.drewN n) ba bb x0 x1 y0 y1 :=
  ⟨h.a0, h.a1, h.b0, h.b1, fun B w0 k hk => below_drewN (h.below B w0 k hk) _, h.own, h.size, h.lta, h.ltb, h.gea, h.geb⟩

theorem piece_is (a b : Int × Int) {F L : Int} (hF : (if a.1 < b.1 then b.1 else a.1) = F) (hL : (if b.2 < a.2 then b.2 else a.2) = L) : piece a b = if F ≤ L then [(F, L)] else [] := by
  have e1 : max a.1 b.1 = F := by rw [← hF]; split <;> omega
  have e2 : min a.2 b.2 = L := by rw [← hL]; split <;> omega
  unfold piece; rw [e1, e2]

theorem news_run (w : World) (F L : Int) : ∀ j u, ([.int .i64 F, .int .i64 L] : List Value)[j]? = some u → (w.alloc (.cells #[.int .i64 F, .int .i64 L] 37)).cell? ((⟨w.heap.size, 0, none⟩ : Addr).add j) = some u := by
  intro j u hu
  rw [Addr.add_lit, World.cell?_alloc_at _ _ _ _ rfl]
  match j, hu with
  | 0, hu => simpa using hu
  | 1, hu => simpa using hu

theorem kept_cell {w w' : World} {v : Value} {o : Obj} {b off n : Nat} {x : Value} (hg : (w.alloc o).grownBy w' v.ownBlock) (hb : b < w.heap.size) (hc : w.cell? ⟨b, off, none⟩ = some x) (hr : ∀ k, v.ownBlock = some k → k < n) (hn : n ≤ b) : w'.cell? ⟨b, off, none⟩ = some x := by
  refine hg.cell (a := ⟨b, off, none⟩) ?_ ?_
  · rw [World.cell?_alloc_past _ _ _ hb]; exact hc
  · intro h
    have := hr b h.symm
    omega

/-- A round's step: what it appends, and where it goes on. -/
theorem inter_round {s t out : List (Int × Int)} {i j : Nat} (hi : i < s.length) (hj : j < t.length) (h : out ++ inter (s.drop i) (t.drop j) = inter s t) :
    (out ++ piece (fs s i, ls s i) (fs t j, ls t j)) ++ (if ls s i < ls t j then inter (s.drop (i + 1)) (t.drop j) else inter (s.drop i) (t.drop (j + 1))) = inter s t := by
  rw [← h, drop_at s i hi, drop_at t j hj, inter_cons, List.append_assoc]

theorem own_grown {w w' : World} {base : Nat} {v : Value} {n : Nat} {xs : List Value} (hB : base ≤ w.heap.size) (hown : w.ownsRow base 37 2 v n xs) (hg : w.grownBy w' v.ownBlock) {w0 : World} (h : Below base w0 w) : Below base w0 w' :=
  h.grown hg hB fun k hk => (hown.lt k hk).1

set_option maxHeartbeats 1000000 in
set_option maxRecDepth 100000 in
theorem inter_walk (a0 a1 : Option Addr) (l0 c0 l1 c1 : Nat) (s t : List (Int × Int)) (w : World) (hvs : View w a0 l0 s) (hvt : View w a1 l1 t) (m0 : l0 ≤ 1099511627776) (m1 : l1 ≤ 1099511627776) :
    Calls Try.prog 13 #[.agg #[.slice a0 l0 c0], .agg #[.slice a1 l1 c1]] w fun e w' => ∃ a' cap', e = .returned (.agg #[.slice a' (inter s t).length cap']) ∧ View w' a' (inter s t).length (inter s t) ∧ CapOk (inter s t).length cap' ∧ Below w.heap.size w w' := by
  obtain ⟨i0, hi, hz0, hz1, hz2⟩ := info_parts Try.info37
  have HL : Hid ((inter s t).length ≤ l0 + l1) := by have := inter_length s t; rw [hvs.1, hvt.1] at this; exact this
  have k0 := laid3_0 w (.slice a0 l0 c0) (.slice a1 l1 c1)
  have k1 := laid3_1 w (.slice a0 l0 c0) (.slice a1 l1 c1)
  have k2 := laid3_2 w (.slice a0 l0 c0) (.slice a1 l1 c1)
  have k3 := laid3_f w (.slice a0 l0 c0) (.slice a1 l1 c1)
  have kB := laid3_below w (.slice a0 l0 c0) (.slice a1 l1 c1)
  have ks := laid3_size w (.slice a0 l0 c0) (.slice a1 l1 c1)
  obtain ⟨W, hW⟩ : ∃ W, W = laid3 w (.slice a0 l0 c0) (.slice a1 l1 c1) := ⟨_, rfl⟩
  rw [← hW] at k0 k1 k2 k3 kB ks
  have HW : Hid (W = laid3 w (.slice a0 l0 c0) (.slice a1 l1 c1)) := hW
  have KS : Hid (W.heap.size = w.heap.size + 3) := ks
  have hvs' := hvs.below kB
  have hvt' := hvt.below kB
  clear hW ks
  go_enter Try.func13, Try.ntmps13
  go_wp2
  have hWW := HW.out
  unfold laid3 at hWW
  rw [← hWW]
  clear hWW
  go_loopw [5, 6, 7] (fun v x y wr => ∃ (i j : Nat) (out : List (Int × Int)), i ≤ l0 ∧ j ≤ l1 ∧ x = .int .i64 i ∧ y = .int .i64 j ∧ wr.ownsRow (w.heap.size + 3) 37 2 v out.length (flat out) ∧ Hid (out ++ inter (s.drop i) (t.drop j) = inter s t) ∧ Below (w.heap.size + 3) W wr)
    (fun _ x y _ => (l0 - (intOf x).toNat) + (l1 - (intOf y).toNat))
  case atStart => exact ⟨0, 0, [], by omega, by omega, rfl, rfl, World.ownsRow_nil _ _ _ _, rfl, Below.refl _ _⟩
  case round =>
    obtain ⟨i, j, out, hi', hj', rfl, rfl, hown, hinv, hB⟩ := hrel
    have g0 : wr.cell? ⟨w.heap.size, 0, none⟩ = some (.slice a0 l0 c0) := (hB.cell (p := ⟨w.heap.size, 0, none⟩) (by simp)).trans k0
    have g1 : wr.cell? ⟨w.heap.size + 1, 0, none⟩ = some (.slice a1 l1 c1) := (hB.cell (p := ⟨w.heap.size + 1, 0, none⟩) (by simp)).trans k1
    by_cases h1 : i < l0
    · have q1 : decide ((i : Int) < (l0 : Int)) = true := by simp; omega
      by_cases h2 : j < l1
      · obtain ⟨b0, off0, ha0, hb0, hr0⟩ := hvs.2 (by omega)
        subst ha0
        obtain ⟨b1, off1, ha1, hb1, hr1⟩ := hvt.2 (by omega)
        subst ha1
        obtain ⟨f1, f2⟩ := ((hr0.below kB hb0).below hB (by omega)) i (by rw [hvs.1]; exact h1)
        obtain ⟨f3, f4⟩ := ((hr1.below kB hb1).below hB (by omega)) j (by rw [hvt.1]; exact h2)
        have i1 : (i : Int) < (l0 : Int) := by omega
        have i2 : (0 : Int) ≤ (i : Int) := by omega
        have i3 : (j : Int) < (l1 : Int) := by omega
        have i4 : (0 : Int) ≤ (j : Int) := by omega
        have n0 := World.new_ne wr _ g0
        have n1 := World.new_ne wr _ g1
        have n2 := World.new_ne wr _ f1
        have n3 := World.new_ne wr _ f3
        simp only at n0 n1 n2 n3
        go_wp2
        go_region_held3 (fun w' => w'.cell? ⟨w.heap.size, 0, none⟩ = some (.slice (some ⟨b0, off0, none⟩) l0 c0) ∧ w'.cell? ⟨w.heap.size + 1, 0, none⟩ = some (.slice (some ⟨b1, off1, none⟩) l1 c1) ∧ w'.cell? ⟨b0, off0 + i * 2, none⟩ = some (.int .i64 (fs s i)) ∧ w'.cell? ⟨b0, off0 + i * 2 + 1, none⟩ = some (.int .i64 (ls s i)) ∧ w'.cell? ⟨b1, off1 + j * 2, none⟩ = some (.int .i64 (fs t j)) ∧ w'.cell? ⟨b1, off1 + j * 2 + 1, none⟩ = some (.int .i64 (ls t j))) (go_keep) (fail)
        all_goals go_wp2
        have T := two_new wr (.int .i64 (fs s i)) (.int .i64 (ls s i)) (.int .i64 (fs t j)) (.int .i64 (ls t j))
        generalize ((wr.alloc (Obj.cells #[.int .i64 (fs s i), .int .i64 (ls s i)] 37)).alloc (Obj.cells #[.int .i64 (fs t j), .int .i64 (ls t j)] 37)).drew = W2 at T ⊢
        rotate_left
        have T := (two_new wr (.int .i64 (fs t j)) (.int .i64 (ls t j)) (.int .i64 (fs s i)) (.int .i64 (ls s i))).swap
        generalize ((wr.alloc (Obj.cells #[.int .i64 (fs t j), .int .i64 (ls t j)] 37)).alloc (Obj.cells #[.int .i64 (fs s i), .int .i64 (ls s i)] 37)).drew = W2 at T ⊢
        rotate_left
        all_goals
          have d1 := T.a0
          have d2 := T.a1
          have d3 := T.b0
          have d4 := T.b1
          clear f1 f2 f3 f4 g0 g1 n0 n1 n2 n3
          go_quiet (fail)
          clear d1 d2 d3 d4
          replace T := T.draws (n := nq)
          have d1 := T.a0
          have d2 := T.a1
          have d3 := T.b0
          have d4 := T.b1
          have hB2 := T.below _ _ hB (by have := hB.size; have := KS.out; omega)
          have hown2 := T.own _ _ _ _ _ hown
          have hlta := T.lta
          have hltb := T.ltb
          have hgea := T.gea
          have hgeb := T.geb
          have hwr := hB.size
          generalize W2.drewN nq = W3 at *
          generalize hF : (if fs s i < fs t j then fs t j else fs s i) = F
          generalize hL : (if ls t j < ls s i then ls t j else ls s i) = L
          have HPC := piece_is (fs s i, ls s i) (fs t j, ls t j) hF hL
          have HRD : Hid _ := inter_round (by rw [hvs.1]; exact h1) (by rw [hvt.1]; exact h2) hinv.out
          have hrow : ∀ k, Value.ownBlock u5 = some k → k < wr.heap.size := fun k hk => (hown.lt k hk).2
          clear hF hL T hown
          have hs3 : w.heap.size + 3 ≤ W3.heap.size := by have := hB2.size; have := KS.out; omega
          have hol : out.length ≤ 2199023255552 := by
            have h3 := congrArg List.length hinv.out
            rw [List.length_append] at h3
            have := HL.out
            omega
          by_cases hFL : F ≤ L
          · have HP2 : Hid (piece (fs s i, ls s i) (fs t j, ls t j) = [(F, L)]) := by show _ = _; rw [HPC, if_pos hFL]
            clear HPC
            go_wp2_with (at_builtin; refine wpList_append_own _ rfl _ _ 27 rfl (w.heap.size + 3) 37 i0 (.agg #[.int .i64 0, .int .i64 0]) 2 16 Try.underlying27 hi hz0 hz1 hz2 rfl (by decide) _ _ _ rfl (hown2.alloc _) ⟨W3.heap.size, 0, none⟩ 1 1 [.int .i64 F, .int .i64 L] rfl rfl ?c1 ?c2 ?c3 ?c4 ?c5 ?_)
            case c1 => exact news_run _ _ _
            case c2 => intro u hu; simp at hu; rcases hu with rfl | rfl <;> rfl
            case c3 => unfold maxLen; omega
            case c4 => omega
            case c5 => simp; omega
            intro v4 W4 hown4 hgrow4 _
            have e2 := kept_cell hgrow4 hlta d2 hrow hgea
            have e4 := kept_cell hgrow4 hltb d4 hrow hgeb
            have hB5 := own_grown (by simp; omega) (hown2.alloc _) hgrow4 (hB2.alloc hs3 _)
            have hown5 : W4.ownsRow (w.heap.size + 3) 37 2 v4 (out ++ [(F, L)]).length (flat (out ++ [(F, L)])) := by
              rw [flat_append, List.length_append]; exact hown4
            clear d1 d2 d3 d4 hown4 hgrow4 hown2 hB2
            by_cases h5 : ls s i < ls t j
            · have HR6 : Hid (out ++ [(F, L)] ++ inter (s.drop (i + 1)) (t.drop j) = inter s t) := by show _ = _; have := HRD.out; rw [HP2.out, if_pos h5] at this; simpa using this
              go_wp2
              go_roundw
              case rel => exact ⟨i + 1, j, out ++ [(F, L)], by omega, by omega, by go_num, rfl, hown5, HR6.out, hB5⟩
              case measure => simp [intOf]; omega
            · have HR6 : Hid (out ++ [(F, L)] ++ inter (s.drop i) (t.drop (j + 1)) = inter s t) := by show _ = _; have := HRD.out; rw [HP2.out, if_neg h5] at this; simpa using this
              go_wp2
              go_roundw
              case rel => exact ⟨i, j + 1, out ++ [(F, L)], by omega, by omega, rfl, by go_num, hown5, HR6.out, hB5⟩
              case measure => simp [intOf]; omega
          · have HP2 : Hid (piece (fs s i, ls s i) (fs t j, ls t j) = []) := by show _ = _; rw [HPC, if_neg hFL]
            have hFL' : L < F := by omega
            have hown5 := hown2
            have hB5 := hB2
            clear HPC hFL
            by_cases h5 : ls s i < ls t j
            · have HR6 : Hid (out ++ inter (s.drop (i + 1)) (t.drop j) = inter s t) := by show _ = _; have := HRD.out; rw [HP2.out, if_pos h5] at this; simpa using this
              go_wp2
              go_roundw
              case rel => exact ⟨i + 1, j, out, by omega, by omega, by go_num, rfl, hown5, HR6.out, hB5⟩
              case measure => simp [intOf]; omega
            · have HR6 : Hid (out ++ inter (s.drop i) (t.drop (j + 1)) = inter s t) := by show _ = _; have := HRD.out; rw [HP2.out, if_neg h5] at this; simpa using this
              go_wp2
              go_roundw
              case rel => exact ⟨i, j + 1, out, by omega, by omega, rfl, by go_num, hown5, HR6.out, hB5⟩
              case measure => simp [intOf]; omega
      · have q2 : decide ((j : Int) < (l1 : Int)) = false := by simp; omega
        have hio : out = inter s t := by
          have h3 := hinv.out
          rw [List.drop_eq_nil_of_le (show t.length ≤ j by rw [hvt.1]; omega), inter_nil_right, List.append_nil] at h3; exact h3
        subst hio
        obtain ⟨av, cv, hve, hview, _, hcok⟩ := own_view (ownsRow_setCell_below hown (a := ⟨w.heap.size + 2, 0, none⟩) (by simp) u5) rfl
        subst hve
        have g2 : wr.cell? ⟨w.heap.size + 1 + 1, 0, none⟩ = some (.slice none 0 0) := (hB.cell (p := ⟨w.heap.size + 2, 0, none⟩) (by simp)).trans k2
        have g3 : wr.frozen? ⟨w.heap.size + 1 + 1, 0, none⟩ = false := (hB.frozen (p := ⟨w.heap.size + 2, 0, none⟩) (by simp)).trans k3
        have hB2 := (kB.trans (hB.mono (by omega))).setCell (p := ⟨w.heap.size + 2, 0, none⟩) (by simp) (.slice av (inter s t).length cv)
        clear hown hinv
        go_wp2
        exact bodyPost_ret (v := .agg #[.slice av (inter s t).length cv]) (by simp [results, Try.results13, go_sem, g2]) rfl ⟨_, _, rfl, hview, hcok, hB2⟩
    · have q1 : decide ((i : Int) < (l0 : Int)) = false := by simp; omega
      have hio : out = inter s t := by
        have h3 := hinv.out
        rw [List.drop_eq_nil_of_le (show s.length ≤ i by rw [hvs.1]; omega), inter_nil_left, List.append_nil] at h3; exact h3
      subst hio
      obtain ⟨av, cv, hve, hview, _, hcok⟩ := own_view (ownsRow_setCell_below hown (a := ⟨w.heap.size + 2, 0, none⟩) (by simp) u5) rfl
      subst hve
      have g2 : wr.cell? ⟨w.heap.size + 1 + 1, 0, none⟩ = some (.slice none 0 0) := (hB.cell (p := ⟨w.heap.size + 2, 0, none⟩) (by simp)).trans k2
      have g3 : wr.frozen? ⟨w.heap.size + 1 + 1, 0, none⟩ = false := (hB.frozen (p := ⟨w.heap.size + 2, 0, none⟩) (by simp)).trans k3
      have hB2 := (kB.trans (hB.mono (by omega))).setCell (p := ⟨w.heap.size + 2, 0, none⟩) (by simp) (.slice av (inter s t).length cv)
      clear hown hinv
      go_wp2
      exact bodyPost_ret (v := .agg #[.slice av (inter s t).length cv]) (by simp [results, Try.results13, go_sem, g2]) rfl ⟨_, _, rfl, hview, hcok, hB2⟩

end Go.Proofs.Qxb6617965a
