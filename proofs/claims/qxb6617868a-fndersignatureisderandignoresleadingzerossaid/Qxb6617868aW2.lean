import Derived.Test.Qxb6617868aW1
namespace Go.Proofs.Qxb6617868a
open Go.RowKit Der

theorem Try.info5 : (Try.prog.info? 5).map (fun i => (i.zero, i.size, i.bytes)) = some (some (.int .u8 0), 1, 1) := by kernel_rfl

/-- The bytes that a slice of the call's own owns. -/
def Own (w : World) (base : Nat) (v : Value) (zs : List Int) : Prop := w.ownsRow base 5 1 v zs.length (zs.map (Value.int .u8))

theorem Own.form {w : World} {base : Nat} {v : Value} {zs : List Int} (h : Own w base v zs) (hp : 0 < zs.length) :
    ∃ g cap, v = .slice (some ⟨g, 0, none⟩) zs.length cap ∧ base ≤ g ∧ g < w.heap.size ∧ zs.length ≤ cap ∧ cap ≤ maxLen ∧ Row w g 0 zs := by
  have h' := h
  rcases h.2 with ⟨_, h0⟩ | ⟨g, cap, cur, rfl, hb, hg, hn, hm, _⟩
  · omega
  · refine ⟨g, cap, rfl, hb, (Array.getElem?_eq_some_iff.1 hg).1, hn, hm, fun i hi => ?_⟩
    rw [Nat.zero_add, World.ownsRow.cellAt h' i (by omega)]
    simp [nth, hi]

theorem Row.below {w w' : World} {B b off : Nat} {zs : List Int} (h : Row w b off zs) (hB : Below B w w') (hb : b < B) : Row w' b off zs :=
  fun i hi => (hB.cell (p := ⟨b, off + i, none⟩) hb).trans (h i hi)

theorem Row.news {w : World} {b off : Nat} {zs : List Int} (h : Row w b off zs) : ∀ j u, (zs.map (Value.int .u8))[j]? = some u → w.cell? ((⟨b, off, none⟩ : Addr).add j) = some u := by
  intro j u hu
  have hj : j < zs.length := by have := (List.getElem?_eq_some_iff.1 hu).1; simpa using this
  rw [Addr.add_lit, h j hj]
  rw [← hu]
  simp [nth, hj]

theorem news2 (w : World) (x y : Value) : ∀ j u, ([x, y] : List Value)[j]? = some u → (w.alloc (.cells #[x, y] 5)).cell? ((⟨w.heap.size, 0, none⟩ : Addr).add j) = some u := by
  intro j u hu
  rw [Addr.add_lit, World.cell?_alloc_at _ _ _ _ rfl]
  match j, hu with
  | 0, hu => simpa using hu
  | 1, hu => simpa using hu

theorem grown_below {B : Nat} {w0 w w' : World} {v : Value} {n : Nat} {xs : List Value} (h : Below B w0 w) (hown : w.ownsRow B 5 1 v n xs) (hg : w.grownBy w' v.ownBlock) (hB : B ≤ w.heap.size) : Below B w0 w' :=
  h.grown hg hB fun k hk => (hown.lt k hk).1

set_option maxHeartbeats 400000 in
theorem appInt_any (base b off len cap : Nat) (v : Value) (xs zs : List Int) (w : World) (hz : zs.length = len) (hl : 1 ≤ len) (hm : len + top zs ≤ 127) (hr : Row w b off zs) (hb : Byt zs) (hbb : b < base)
    (hbase : base ≤ w.heap.size) (hown : Own w base v xs) (hxs : xs.length ≤ 1048576) :
    Calls Try.prog 27 #[v, .slice (some ⟨b, off, none⟩) len cap] w fun e w' => ∃ v', e = .returned v' ∧ Own w' base v' (xs ++ enc zs) ∧ Below base w w' := by
  obtain ⟨i0, hi, hz0, hz1, hz2⟩ := info_parts Try.info5
  have h0 := hr.head (by omega)
  have hb0 := (hb 0).1
  have hb1 := (hb 0).2
  have hm1 : (len : Int) + (top zs : Int) ≤ 127 := by omega
  have htop := top_le zs
  have hz' := hz
  have hB0 : Below base w w := Below.refl _ _
  by_cases ht : 128 ≤ nth zs 0
  · have e1 : xs ++ enc zs = xs ++ [2, 2 + (len : Int) + (top zs : Int) - 2] ++ [0] ++ zs := by
      simp [enc, pad, ht, hz']; omega
    clear hz'
    go_enter Try.func27, Try.ntmps27
    go_wp2_with fail
    refine (size_any b off len cap zs w hz hl (by omega) hr hb).mono ?_
    rintro e w' ⟨rfl, rfl⟩
    have HE : Hid (xs ++ enc zs = xs ++ [2, 2 + (len : Int) + (top zs : Int) - 2] ++ [0] ++ zs) := e1
    have HZ : Hid (zs.length = len) := hz
    clear e1 hz
    go_wp2_with (at_builtin; refine wpList_append_own _ rfl _ _ 27 rfl base 5 i0 (.int .u8 0) 1 1 Try.underlying27 hi hz0 hz1 hz2 rfl (by decide) v _ _ rfl (hown.alloc _) ⟨w.heap.size, 0, none⟩ 2 2 [.int .u8 2, .int .u8 (2 + (len : Int) + (top zs : Int) - 2)] rfl rfl ?c1 ?c2 ?c3 ?c4 ?c5 ?_)
    case c1 => exact news2 _ _ _
    case c2 => intro u hu; simp at hu; rcases hu with rfl | rfl <;> rfl
    case c3 => unfold maxLen; omega
    case c4 => omega
    case c5 => simp; omega
    intro v1 w1 hown1 hgrow1 _
    have hB1 := grown_below (hB0.alloc hbase _) (hown.alloc _) hgrow1 (by simp; omega)
    have hs1 : base ≤ w1.heap.size := by have := hB1.size; omega
    have h01 : w1.cell? ⟨b, off, none⟩ = some (.int .u8 (nth zs 0)) := (hB1.cell hbb).trans h0
    clear hgrow1
    go_wp2_with (at_builtin; refine wpList_append_own _ rfl _ _ 27 rfl base 5 i0 (.int .u8 0) 1 1 Try.underlying27 hi hz0 hz1 hz2 rfl (by decide) v1 _ _ rfl (hown1.alloc _) ⟨w1.heap.size, 0, none⟩ 1 1 [.int .u8 0] rfl rfl ?d1 ?d2 ?d3 ?d4 ?d5 ?_)
    case d1 => exact cell_one_new _ _ _
    case d2 => intro u hu; simp at hu; subst hu; rfl
    case d3 => unfold maxLen; omega
    case d4 => omega
    case d5 => simp; omega
    intro v2 w2 hown2 hgrow2 _
    have hB2 := grown_below (hB1.alloc hs1 _) (hown1.alloc _) hgrow2 (by simp; omega)
    have hs2 : base ≤ w2.heap.size := by have := hB2.size; omega
    have hr2 := hr.below hB2 hbb
    clear hgrow2
    go_wp2_with (at_builtin; refine wpList_append_own _ rfl _ _ 27 rfl base 5 i0 (.int .u8 0) 1 1 Try.underlying27 hi hz0 hz1 hz2 rfl (by decide) v2 _ _ rfl hown2 ⟨b, off, none⟩ len cap (zs.map (Value.int .u8)) rfl ?f0 ?f1 ?f2 ?f3 ?f4 ?f5 ?_)
    case f0 => simp [HZ.out]
    case f1 => exact hr2.news
    case f2 => exact ints_oneCell _ _
    case f3 => unfold maxLen; omega
    case f4 => omega
    case f5 => exact hs2
    intro v3 w3 hown3 hgrow3 _
    have hB3 := grown_below hB2 hown2 hgrow3 hs2
    go_wp2
    go_ret
    refine ⟨_, rfl, ?_, hB3⟩
    rw [HE.out]
    unfold Own
    have e3 : (xs ++ [2, 2 + (len : Int) + (top zs : Int) - 2] ++ [0] ++ zs).length = xs.length + 2 + 1 + len := by simp [HZ.out]; omega
    rw [e3]
    simpa using hown3
  · have e1 : xs ++ enc zs = xs ++ [2, 2 + (len : Int) + (top zs : Int) - 2] ++ zs := by
      simp [enc, pad, ht, hz']; omega
    clear hz'
    go_enter Try.func27, Try.ntmps27
    go_wp2_with fail
    refine (size_any b off len cap zs w hz hl (by omega) hr hb).mono ?_
    rintro e w' ⟨rfl, rfl⟩
    have HE : Hid (xs ++ enc zs = xs ++ [2, 2 + (len : Int) + (top zs : Int) - 2] ++ zs) := e1
    have HZ : Hid (zs.length = len) := hz
    clear e1 hz
    go_wp2_with (at_builtin; refine wpList_append_own _ rfl _ _ 27 rfl base 5 i0 (.int .u8 0) 1 1 Try.underlying27 hi hz0 hz1 hz2 rfl (by decide) v _ _ rfl (hown.alloc _) ⟨w.heap.size, 0, none⟩ 2 2 [.int .u8 2, .int .u8 (2 + (len : Int) + (top zs : Int) - 2)] rfl rfl ?c1 ?c2 ?c3 ?c4 ?c5 ?_)
    case c1 => exact news2 _ _ _
    case c2 => intro u hu; simp at hu; rcases hu with rfl | rfl <;> rfl
    case c3 => unfold maxLen; omega
    case c4 => omega
    case c5 => simp; omega
    intro v1 w1 hown1 hgrow1 _
    have hB1 := grown_below (hB0.alloc hbase _) (hown.alloc _) hgrow1 (by simp; omega)
    have hs1 : base ≤ w1.heap.size := by have := hB1.size; omega
    have h01 : w1.cell? ⟨b, off, none⟩ = some (.int .u8 (nth zs 0)) := (hB1.cell hbb).trans h0
    have hr1 := hr.below hB1 hbb
    clear hgrow1
    go_wp2_with (at_builtin; refine wpList_append_own _ rfl _ _ 27 rfl base 5 i0 (.int .u8 0) 1 1 Try.underlying27 hi hz0 hz1 hz2 rfl (by decide) v1 _ _ rfl hown1 ⟨b, off, none⟩ len cap (zs.map (Value.int .u8)) rfl ?f0 ?f1 ?f2 ?f3 ?f4 ?f5 ?_)
    case f0 => simp [HZ.out]
    case f1 => exact hr1.news
    case f2 => exact ints_oneCell _ _
    case f3 => unfold maxLen; omega
    case f4 => omega
    case f5 => exact hs1
    intro v3 w3 hown3 hgrow3 _
    have hB3 := grown_below hB1 hown1 hgrow3 hs1
    go_wp2
    go_ret
    refine ⟨_, rfl, ?_, hB3⟩
    rw [HE.out]
    unfold Own
    have e3 : (xs ++ [2, 2 + (len : Int) + (top zs : Int) - 2] ++ zs).length = xs.length + 2 + len := by simp [HZ.out]; omega
    rw [e3]
    simpa using hown3

/-- 'ZZappendDERInteger'. -/
theorem zzApp_any (base b off len cap : Nat) (v : Value) (xs zs : List Int) (w : World) (hz : zs.length = len) (hl : 1 ≤ len) (hm : len + top zs ≤ 127) (hr : Row w b off zs) (hb : Byt zs) (hbb : b < base)
    (hbase : base ≤ w.heap.size) (hown : Own w base v xs) (hxs : xs.length ≤ 1048576) :
    Calls Try.prog 21 #[v, .slice (some ⟨b, off, none⟩) len cap] w fun e w' => ∃ v', e = .returned v' ∧ Own w' base v' (xs ++ enc zs) ∧ Below base w w' := by
  go_enter Try.func21, Try.ntmps21
  go_wp2_with fail
  refine (appInt_any base b off len cap v xs zs w hz hl hm hr hb hbb hbase hown hxs).mono ?_
  rintro e w1 ⟨v1, rfl, ho, hB⟩
  go_wp2
  go_ret
  exact ⟨_, rfl, ho, hB⟩

theorem madeList (n : Nat) : (madeCells (Value.int .u8 0).cells (n * 1)).toList = List.replicate n (Value.int .u8 0) := by
  rw [Nat.mul_one]; exact toList_madeCells_one _ _

/-- The copy as far as the k-th byte. -/
def part (zs : List Int) (k : Nat) : List Value := (zs.take k).map (Value.int .u8) ++ List.replicate (zs.length - k) (Value.int .u8 0)
theorem part_zero (zs : List Int) : part zs 0 = List.replicate zs.length (Value.int .u8 0) := by simp [part]
theorem part_all (zs : List Int) : part zs zs.length = zs.map (Value.int .u8) := by simp [part]
theorem part_succ (zs : List Int) (k : Nat) (h : k < zs.length) : (part zs k).set k (.int .u8 (nth zs k)) = part zs (k + 1) := by
  unfold part
  have e : zs.length - k = (zs.length - (k + 1)) + 1 := by omega
  have hl : ((zs.take k).map (Value.int .u8)).length = k := by simp; omega
  rw [e, List.replicate_succ, List.set_append_right _ _ (by omega), hl, Nat.sub_self, List.set_cons_zero, List.take_succ_eq_append_getElem h, List.map_append, List.append_assoc]
  simp [nth, h]

set_option maxHeartbeats 400000 in
theorem clone_some (b off len cap : Nat) (zs : List Int) (w : World) (hz : zs.length = len) (hm : len ≤ 1048576) (hr : Row w b off zs) (hbb : b < w.heap.size) :
    Calls Try.prog 20 #[.slice (some ⟨b, off, none⟩) len cap] w fun e w' => ∃ v', e = .returned v' ∧ Own w' w.heap.size v' zs ∧ Below w.heap.size w w' := by
  obtain ⟨i0, hi, hz0, hz1, hz2⟩ := info_parts Try.info5
  have hnil := @Lib.run_eql_slice_nil Try.prog
  go_enter Try.func20, Try.ntmps20
  go_wp2_with (at_make; refine wpList_make_full _ rfl _ _ 27 rfl w.heap.size 5 i0 (.int .u8 0) 1 Try.underlying27 hi hz0 hz1 _ _ _ _ len rfl rfl rfl rfl ?b1 ?b2 ?b3 ?_)
  case b1 => rw [hz2]; omega
  case b2 => unfold maxLen; omega
  case b3 => exact Nat.le_refl _
  intro w1 hown1 hgrow1
  have hB1 : Below w.heap.size w w1 := (Below.refl _ _).grown hgrow1 (Nat.le_refl _) (fun k h => by cases h)
  rw [show (madeCells #[Value.int .u8 0] len).toList = part zs 0 by rw [part_zero, hz]; exact toList_madeCells_one _ _] at hown1
  have HZ : Hid (zs.length = len) := hz
  clear hgrow1 hz
  go_wp2
  go_loopw [4] (fun i wr => ∃ k : Nat, k ≤ len ∧ i = .int .i64 k ∧ wr.ownsRow w.heap.size 5 1 (.slice (some ⟨w.heap.size, 0, none⟩) len len) len (part zs k) ∧ Below w.heap.size w wr) (fun i _ => len - (intOf i).toNat)
  case atStart => exact ⟨0, Nat.zero_le _, rfl, hown1, hB1⟩
  case round =>
    obtain ⟨k, hk, rfl, hown, hB⟩ := hrel
    by_cases hlt : k < len
    · have hc : wr.cell? ⟨b, off + k, none⟩ = some (.int .u8 (nth zs k)) := hr.below hB hbb k (by rw [HZ.out]; exact hlt)
      have hcw : wr.cell? ⟨w.heap.size, k, none⟩ = (part zs k)[k]? := hown.cellAt k (by omega)
      have hfr : wr.frozen? ⟨w.heap.size, k, none⟩ = false := hown.frozenAt k
      obtain ⟨u, hu⟩ : ∃ u, (part zs k)[k]? = some u := ⟨_, List.getElem?_eq_getElem (by have := HZ.out; simp [part]; omega)⟩
      rw [hu] at hcw
      clear hu
      go_wp2
      go_roundw
      case rel => exact ⟨k + 1, by omega, by go_num, by rw [← part_succ zs k (by rw [HZ.out]; exact hlt)]; exact (hown.stored k _).1, hB.setCell (Nat.le_refl _) _⟩
      case measure => simp [intOf]; omega
    · go_wp2
      go_ret
      obtain rfl : k = len := by omega
      refine ⟨_, rfl, ?_, hB⟩
      unfold Own
      have := part_all zs
      rw [HZ.out] at this ⊢
      rw [← this]; exact hown

theorem clone_nil (w : World) : Calls Try.prog 20 #[.slice none 0 0] w fun e w' => ∃ v', e = .returned v' ∧ Own w' w.heap.size v' [] ∧ Below w.heap.size w w' := by
  have hnil := @Lib.run_eql_slice_nil Try.prog
  go_enter Try.func20, Try.ntmps20
  go_wp2
  go_ret
  exact ⟨_, rfl, World.ownsRow_nil _ _ _ _, Below.refl _ _⟩

theorem clone_empty (x : Addr) (cap : Nat) (w : World) : Calls Try.prog 20 #[.slice (some x) 0 cap] w fun e w' => ∃ v', e = .returned v' ∧ Own w' w.heap.size v' [] ∧ Below w.heap.size w w' := by
  obtain ⟨i0, hi, hz0, hz1, hz2⟩ := info_parts Try.info5
  have hnil := @Lib.run_eql_slice_nil Try.prog
  go_enter Try.func20, Try.ntmps20
  go_wp2_with (at_make; refine wpList_make_full _ rfl _ _ 27 rfl w.heap.size 5 i0 (.int .u8 0) 1 Try.underlying27 hi hz0 hz1 _ _ _ _ 0 rfl rfl rfl rfl ?b1 ?b2 ?b3 ?_)
  case b1 => simp
  case b2 => simp
  case b3 => exact Nat.le_refl _
  intro w1 hown1 hgrow1
  have hB1 : Below w.heap.size w w1 := (Below.refl _ _).grown hgrow1 (Nat.le_refl _) (fun k h => by cases h)
  clear hgrow1
  go_wp2
  refine wp_loop_rounds 1 ?_
  rw [rounds_succ]
  go_wp2
  go_ret
  exact ⟨_, rfl, by simpa [Own, madeCells] using hown1, hB1⟩

theorem bytes19_yes (a0 a1 : Option Addr) (len0 cap0 len1 cap1 : Nat) (w : World) (h : len0 + len1 ≤ 1048576) :
    Calls Try.prog 19 #[.slice a0 len0 cap0, .slice a1 len1 cap1] w fun e w' => e = .returned (.bool true) ∧ w = w' := by
  go_enter Try.func19, Try.ntmps19
  go_wp2
  go_ret
  exact ⟨rfl, rfl⟩

theorem bytes19_no (a0 a1 : Option Addr) (len0 cap0 len1 cap1 : Nat) (w : World) (h0 : len0 ≤ maxLen) (h1 : len1 ≤ maxLen) (h : ¬ len0 + len1 ≤ 1048576) :
    Calls Try.prog 19 #[.slice a0 len0 cap0, .slice a1 len1 cap1] w fun e w' => e = .returned (.bool false) ∧ w = w' := by
  unfold maxLen at h0 h1
  by_cases g0 : len0 ≤ 1048576
  · by_cases g1 : len1 ≤ 1048576
    · go_enter Try.func19, Try.ntmps19
      go_wp2
      go_ret
      exact ⟨rfl, rfl⟩
    · go_enter Try.func19, Try.ntmps19
      go_wp2
      go_ret
      exact ⟨rfl, rfl⟩
  · go_enter Try.func19, Try.ntmps19
    go_wp2
    go_ret
    exact ⟨rfl, rfl⟩

end Go.Proofs.Qxb6617868a
