import Derived.Test.Qxb6617868aW2
import Derived.Laws.CopyOwn
import Derived.BigQuiet
import Derived.WalkSmall
namespace Go.Proofs.Qxb6617868a
open Go.RowKit Der

theorem Try.size5 : (Try.prog.info? 5).map (·.size) = some 1 := by kernel_rfl

/-- A row that is owned up to its capacity is known whole. -/
theorem full_block {w : World} {base g n : Nat} {xs : List Value} (h : w.ownsRow base 5 1 (.slice (some ⟨g, 0, none⟩) n n) n xs) : w.heap[g]? = some (.cells xs.toArray 5 (0, 0)) := by
  rcases h.2 with ⟨h', _⟩ | ⟨g', cap', cur, h', _, hg, _, _, hs, ht⟩
  · simp at h'
  · simp only [Value.slice.injEq, Option.some.injEq, Addr.mk.injEq, and_true, true_and] at h'
    obtain ⟨rfl, rfl⟩ := h'
    rw [hg]
    have : cur.toList.take (n * 1) = cur.toList := List.take_of_length_le (by rw [Array.length_toList, hs]; exact Nat.le_refl _)
    rw [this] at ht
    subst ht
    simp

theorem splice_all {α : Type} (L cs : List α) (h : L.length = cs.length) : splice L 0 cs = cs := by
  simp [splice, ← h]

theorem row_of_block {w : World} {g : Nat} {zs : List Int} (h : w.heap[g]? = some (.cells (zs.map (Value.int .u8)).toArray 5 (0, 0))) : Row w g 0 zs := by
  intro i hi
  rw [Nat.zero_add, cell_of_row w g i _ 5 (0, 0) h]
  simp [nth, hi]

theorem block_lt {w : World} {g : Nat} {o : Obj} (h : w.heap[g]? = some o) : g < w.heap.size := (Array.getElem?_eq_some_iff.1 h).1

theorem copy_src {w : World} {b off : Nat} {ns : List Int} {g : Nat} (hr : Row w b off ns) : 0 < (ns.map (Value.int .u8)).length → some (⟨g, 0, none⟩ : Addr) = some ⟨g, 0, none⟩ ∧ ∃ ad, some (⟨b, off, none⟩ : Addr) = some ad ∧ ∀ j v, (ns.map (Value.int .u8))[j]? = some v → w.cell? (ad.add j) = some v :=
  fun _ => ⟨rfl, _, rfl, hr.news⟩

/-- A slice of bytes that came in: nil, empty or not. -/
def View (w : World) (a : Option Addr) (len : Nat) (zs : List Int) : Prop :=
  zs.length = len ∧ Byt zs ∧ (0 < len → ∃ b off, a = some ⟨b, off, none⟩ ∧ b < w.heap.size ∧ Row w b off zs)

theorem View.below {w w' : World} {a : Option Addr} {len : Nat} {zs : List Int} (h : View w a len zs) (hB : Below w.heap.size w w') : View w' a len zs :=
  ⟨h.1, h.2.1, fun hp => by
    obtain ⟨b, off, ha, hb, hr⟩ := h.2.2 hp
    exact ⟨b, off, ha, by have := hB.size; omega, hr.below hB hb⟩⟩

theorem clone_any (a : Option Addr) (len cap : Nat) (zs : List Int) (w : World) (hv : View w a len zs) (hm : len ≤ 1048576) (hc : a = none → cap = 0) :
    Calls Try.prog 20 #[.slice a len cap] w fun e w' => ∃ v', e = .returned v' ∧ Own w' w.heap.size v' zs ∧ Below w.heap.size w w' := by
  by_cases hp : 0 < len
  · obtain ⟨b, off, rfl, hb, hr⟩ := hv.2.2 hp
    exact clone_some b off len cap zs w hv.1 hm hr hb
  · obtain rfl : len = 0 := by omega
    obtain rfl : zs = [] := List.eq_nil_of_length_eq_zero hv.1
    cases a with
    | none => rw [hc rfl]; exact clone_nil w
    | some x => exact clone_empty x cap w

theorem pad_hi {ns : List Int} (h : 128 ≤ nth ns 0) : pad ns ++ ns = 0 :: ns := by simp [pad, h]
theorem pad_lo {ns : List Int} (h : ¬ 128 ≤ nth ns 0) : pad ns ++ ns = ns := by simp [pad, h]
theorem enc_zero (ns : List Int) : nth (enc ns) 0 = 2 := rfl
theorem enc_one (ns : List Int) : nth (enc ns) 1 = (ns.length : Int) + (top ns : Int) := by
  show ((ns.length + top ns : Nat) : Int) = _
  omega
theorem enc_rest (ns : List Int) (i : Nat) : nth (enc ns) (2 + i) = nth (pad ns ++ ns) i := by
  rw [show 2 + i = i + 1 + 1 by omega]; rfl

/-- Equal rows are equal at each place. -/
theorem Row.tail {w : World} {b off : Nat} {zs : List Int} (h : Row w b off zs) (k : Nat) : Row w b (off + k) (zs.drop k) := by
  intro i hi
  rw [List.length_drop] at hi
  rw [nth_drop, Nat.add_assoc]
  exact h (k + i) (by omega)

/-- What the walk must know of the encoding. -/
structure EncIs (ns E : List Int) (len1 L : Nat) : Prop where
  eq : enc ns = E
  len : E.length = L
  lenIs : L = 2 + len1 + top ns
  e0 : nth E 0 = 2
  e1 : nth E 1 = (len1 : Int) + (top ns : Int)
  rest : ∀ i, nth E (2 + i) = nth (pad ns ++ ns) i
  drop : E.drop 2 = pad ns ++ ns

theorem encIs (ns : List Int) {len1 : Nat} (h : ns.length = len1) : ∃ E L, EncIs ns E len1 L :=
  ⟨enc ns, (enc ns).length, rfl, rfl, by rw [enc_length, h], rfl, by rw [enc_one, h], enc_rest ns, rfl⟩

set_option maxHeartbeats 1000000 in
set_option maxRecDepth 100000 in
theorem law7_core (a0 : Option Addr) (len0 cap0 b1 o1 len1 cap1 : Nat) (ds ns : List Int) (w : World) (hv : View w a0 len0 ds) (hc0 : a0 = none → cap0 = 0) (hns : ns.length = len1) (h0 : len0 ≤ 65536) (h1 : 1 ≤ len1) (ht : len1 + top ns ≤ 127)
    (hrn : Row w b1 o1 ns) (hbn : Byt ns) (hb1 : b1 < w.heap.size) :
    Calls Try.prog 7 #[.slice a0 len0 cap0, .slice (some ⟨b1, o1, none⟩) len1 cap1] w fun e w' => e = .returned (.bool true) ∧ Below w.heap.size w w' := by
  obtain ⟨i0, hi, hz0, hz1, hz2⟩ := info_parts Try.info5
  have hnil := fun w a n c => run_neq_slice_nil_any (P := Try.prog) w 27 5 a n c 0 0 Try.underlying27
  have hlen1 : (len1 : Int) ≤ 127 := by omega
  have hbnd := hbn 0
  go_enter Try.func7, Try.ntmps7
  go_wp2_with fail
  refine (bytes19_yes _ _ len0 cap0 len1 cap1 w (by omega)).mono ?_
  rintro e w' ⟨rfl, rfl⟩
  go_wp2_with (at_make; refine wpList_make_full _ rfl _ _ 27 rfl w.heap.size 5 i0 (.int .u8 0) 1 Try.underlying27 hi hz0 hz1 _ _ _ _ len1 rfl rfl rfl rfl ?b1 ?b2 ?b3 ?_)
  case b1 => rw [hz2]; omega
  case b2 => unfold maxLen; omega
  case b3 => exact Nat.le_refl _
  intro w1 hown1 hgrow1
  have hB1 : Below w.heap.size w w1 := (Below.refl _ _).grown hgrow1 (Nat.le_refl _) (fun k h => by cases h)
  have hg1 := full_block hown1
  clear hown1 hgrow1
  obtain ⟨cur, hcur⟩ : ∃ cur, cur = (madeCells #[Value.int IntKind.u8 0] len1).toList := ⟨_, rfl⟩
  obtain ⟨cs, hcs⟩ : ∃ cs, cs = ns.map (Value.int .u8) := ⟨_, rfl⟩
  have hsp : splice cur 0 cs = cs := splice_all _ _ (by rw [hcur, hcs]; simp [madeCells, hns])
  rw [← hcur] at hg1
  have hrn1 := hrn.below hB1 hb1
  have hcl : cs.length = len1 := by rw [hcs]; simp [hns]
  have hcl2 : cur.length = len1 := by rw [hcur]; simp [madeCells]
  have hsrc := copy_src (g := w.heap.size) hrn1
  have hone := ints_oneCell .u8 ns
  rw [← hcs] at hsrc hone
  have HC : Hid (cs = ns.map (Value.int .u8)) := hcs
  have HS : Hid (splice cur 0 cs = cs) := hsp
  have HL : Hid (cs.length = len1 ∧ cur.length = len1) := ⟨hcl, hcl2⟩
  have HN : Hid (ns.length = len1) := hns
  clear hcur hcs hsp hcl hcl2 hns
  go_wp2_with (refine wpList_copy_splice rfl (.tmp 31) (.tmp 32) 27 27 rfl 5 Try.underlying27 Try.size5 _ _ _ _ _ _ rfl rfl w.heap.size 0 cur 5 hg1 cs ?e1 hsrc ?e2 hone w.heap.size w hB1 (Nat.le_refl _) ?_)
  case e1 => simp [HL.out.1]
  case e2 => simp [HL.out.1, HL.out.2]
  intro w2 hg2 hB2
  have hg2' := hg2.out
  rw [HS.out, HC.out] at hg2'
  have hrn2 := row_of_block hg2'
  have hH2 := block_lt hg2'
  have hd0 := hrn2.head (by rw [HN.out]; exact h1)
  have hv2 := hv.below hB2
  clear hg1 hg2 hg2' hsrc hone HC HS HL hrn1 hB1 hrn
  by_cases hh : 128 ≤ nth ns 0
  all_goals
    have HH : Hid _ := hh
    have htp : top ns = if 128 ≤ nth ns 0 then 1 else 0 := rfl
    simp only [hh, if_true, if_false] at htp
    have HT : Hid (top ns = _) := htp
    have ht' : (len1 : Int) + (top ns : Int) ≤ 127 := by omega
    rw [htp] at ht'
    clear htp
    obtain ⟨E, L, HX⟩ := encIs ns HN.out
    have hEb : 3 ≤ L ∧ L ≤ 130 := by have := HX.lenIs; omega
    obtain ⟨hEb1, hEb2⟩ := hEb
    go_wp2_with fail
    refine (clone_any a0 len0 cap0 ds w2 hv2 (by omega) hc0).mono ?_
    rintro e w3 ⟨v3, rfl, hown3, hB3⟩
    have hs3 := hB3.size
    have hrn3 := hrn2.below hB3 hH2
    go_wp2_with fail
    refine (zzApp_any w2.heap.size w.heap.size 0 len1 len1 v3 ds ns w3 HN.out h1 ht hrn3 hbn hH2 hs3 hown3 (by have := hv.1; omega)).mono ?_
    rintro e w4 ⟨v4, rfl, hown4, hB4⟩
    have hs4 := hB4.size
    have hrn4 := hrn3.below hB4 hH2
    rw [HX.eq] at hown4
    have hDl : (ds ++ E).length = len0 + L := by rw [List.length_append, hv.1, HX.len]
    obtain ⟨g4, cap4, hv4, hg4a, hg4b, hc4, hm4, hr4⟩ := hown4.form (by omega)
    rw [hDl] at hv4 hc4
    subst hv4
    clear hown4 hDl
    go_wp2_with (at_make; refine wpList_make_own _ rfl _ _ 27 rfl w4.heap.size 5 i0 (.int .u8 0) 1 Try.underlying27 hi hz0 hz1 _ _ _ 0 rfl rfl rfl ?m1 ?m2 ?m3 ?_)
    case m1 => simp
    case m2 => simp
    case m3 => exact Nat.le_refl _
    intro w5 hown5 hgrow5
    have hB5 : Below w4.heap.size w4 w5 := (Below.refl _ _).grown hgrow5 (Nat.le_refl _) (fun k h => by cases h)
    have hs5 := hB5.size
    have hH4 : w.heap.size < w4.heap.size := by omega
    have hrn5 := hrn4.below hB5 hH4
    go_wp2_with fail
    refine (zzApp_any w4.heap.size w.heap.size 0 len1 len1 _ [] ns w5 HN.out h1 ht hrn5 hbn hH4 hs5 hown5 (by simp)).mono ?_
    rintro e w6 ⟨v6, rfl, hown6, hB6⟩
    have hs6 := hB6.size
    rw [List.nil_append, HX.eq] at hown6
    obtain ⟨g6, cap6, hv6, hg6a, hg6b, hc6, hm6, hr6⟩ := hown6.form (by have := HX.len; omega)
    rw [HX.len] at hv6 hc6
    subst hv6
    have hB46 := hB5.trans hB6
    have hr4' := hr4.below hB46 hg4b
    have hrn6 := hrn4.below hB46 hH4
    have hg4c : g4 < w6.heap.size := by omega
    have hH6 : w.heap.size < w6.heap.size := by omega
    have hB06 : Below w.heap.size w w6 := (hB2.trans (hB3.mono (by omega))).trans ((hB4.mono (by omega)).trans (hB46.mono (by omega)))
    have hv6 := hv.below hB06
    clear hown6 hown5 hgrow5 hB5 hB6 hB46 hrn5 hrn4 hrn3 hrn2 hr4 hown3 hB2 hB3 hB4 hv2 hd0 hv hg4a hg4b hg6a hs3 hs4 hs5 hs6 hH2 hH4 hi hz0 hz1 hz2 hnil hc0
    go_wp2
    go_loopw [10] (fun i wr => ∃ k : Nat, k ≤ len0 ∧ i = .int .i64 k ∧ Below w6.heap.size w6 wr) (fun i _ => len0 - (intOf i).toNat)
    case atStart => exact ⟨0, Nat.zero_le _, rfl, Below.refl _ _⟩
    case round =>
      obtain ⟨k, hk, rfl, hB⟩ := hrel
      by_cases hlt : k < len0
      · obtain ⟨b0, o0, ha0, hb0, hr0⟩ := hv6.2.2 (by omega)
        subst ha0
        have f1 : wr.cell? ⟨g4, k, none⟩ = some (.int .u8 (nth ds k)) := by
          have := hr4'.below hB hg4c k (by rw [List.length_append, hv6.1]; omega)
          rw [Nat.zero_add, nth_append_left _ _ _ (by rw [hv6.1]; exact hlt)] at this; exact this
        have f2 : wr.cell? ⟨b0, o0 + k, none⟩ = some (.int .u8 (nth ds k)) := hr0.below hB hb0 k (by rw [hv6.1]; exact hlt)
        have i1 : (k : Int) < (len0 : Int) := by omega
        have i2 : (0 : Int) ≤ (k : Int) := by omega
        go_wp2
        go_quiet (fail)
        go_wp2
        go_roundw
        case rel => exact ⟨k + 1, by omega, by go_num, below_drewN hB _⟩
        case measure => simp [intOf]; omega
      · go_wp2
        go_loopw [11] (fun i wr => ∃ k : Nat, k ≤ L ∧ i = .int .i64 k ∧ Below w6.heap.size w6 wr) (fun i _ => L - (intOf i).toNat)
        case atStart => exact ⟨0, Nat.zero_le _, rfl, hB⟩
        case round =>
          clear hB
          obtain ⟨j, hj, rfl, hB⟩ := hrel
          have hr4b := hr4'.below hB hg4c
          have hr6b := hr6.below hB hg6b
          by_cases hjl : j < L
          · have f1 : wr.cell? ⟨g4, len0 + j, none⟩ = some (.int .u8 (nth E j)) := by
              have := hr4b (len0 + j) (by rw [List.length_append, hv6.1, HX.len]; omega)
              rw [Nat.zero_add, ← hv6.1, nth_append_right, hv6.1] at this; exact this
            have f2 : wr.cell? ⟨g6, j, none⟩ = some (.int .u8 (nth E j)) := by
              have := hr6b j (by rw [HX.len]; omega)
              rw [Nat.zero_add] at this; exact this
            have i1 : (j : Int) < (L : Int) := by omega
            have i2 : (0 : Int) ≤ (j : Int) := by omega
            go_wp2
            go_quiet (fail)
            go_wp2
            go_roundw
            case rel => exact ⟨j + 1, by omega, by go_num, below_drewN hB _⟩
            case measure => simp [intOf]; omega
          · have hrnb := hrn6.below hB hH6
            have hrc : Row wr g6 2 (pad ns ++ ns) := by
              have := hr6b.tail 2
              rw [HX.drop] at this; exact this
            have f0 : wr.cell? ⟨g6, 0, none⟩ = some (.int .u8 2) := by
              have := hr6b 0 (by rw [HX.len]; omega)
              rw [HX.e0] at this; exact this
            have f1 := hr6b 1 (by rw [HX.len]; omega)
            rw [Nat.zero_add, HX.e1, HT.out] at f1
            have l1 : (L : Int) ≤ 2 + (len1 : Int) + (top ns : Int) := by have := HX.lenIs; omega
            have l2 : 2 + (len1 : Int) + (top ns : Int) ≤ (L : Int) := by have := HX.lenIs; omega
            rw [HT.out] at l1 l2
            have c6 : (L : Int) ≤ (cap6 : Int) := by omega
            have c7 : (cap6 : Int) ≤ 9223372036854775807 := by unfold maxLen at hm6; omega
            have hpl : (pad ns ++ ns).length = L - 2 := by rw [List.length_append, pad_length, HN.out]; have := HX.lenIs; omega
            have HP : Hid ((pad ns ++ ns).length = L - 2) := hpl
            clear hpl
            have q1 : decide ((L : Int) < 3) = false := by simp; omega
            have q4 : decide (L - 2 < len1) = false := by simp; omega
            have hdg : ∀ i, dig (pad ns ++ ns) i = dig ns i := dig_pad ns
            have HD : Hid (∀ i, dig (pad ns ++ ns) i = dig ns i) := hdg
            clear hdg hr4b hr6b HX hr4' hr6 hrn6 hv6 HT
            first
            | (have hh' : Hid (128 ≤ nth ns 0) := HH
               have f2 : wr.cell? ⟨g6, 2, none⟩ = some (.int .u8 0) := by
                 have := hrc 0 (by rw [pad_hi hh'.out]; simp)
                 rw [pad_hi hh'.out] at this; exact this
               have f3 : wr.cell? ⟨g6, 3, none⟩ = some (.int .u8 (nth ns 0)) := by
                 have := hrc 1 (by rw [pad_hi hh'.out]; simp; have := HN.out; omega)
                 rw [pad_hi hh'.out] at this; exact this
               have q2 : decide ((128 : Int) ≤ (len1 : Int) + 1) = false := by simp; omega
               have q3 : ((L : Int) != 2 + ((len1 : Int) + 1)) = false := by simp; omega
               have q5 : decide ((128 : Int) ≤ nth ns 0) = true := by simpa using hh'.out
               have q6 : decide (len1 < L - 2) = true := by simp; omega
               go_wp2_with fail
               refine (sameNumber_yes g6 2 (L - 2) (cap6 - 2) w.heap.size 0 len1 len1 (pad ns ++ ns) ns wr HP.out HN.out (by omega) (by omega) hrc hrnb HD.out).mono ?_
               rintro e w' ⟨rfl, rfl⟩
               go_wp2
               go_ret
               exact ⟨rfl, hB06.trans (hB.mono (by omega))⟩)
            | (have hh' : Hid (¬ 128 ≤ nth ns 0) := HH
               have f2 : wr.cell? ⟨g6, 2, none⟩ = some (.int .u8 (nth ns 0)) := by
                 have := hrc 0 (by rw [pad_lo hh'.out]; have := HN.out; omega)
                 rw [pad_lo hh'.out] at this; exact this
               have q2 : decide ((128 : Int) ≤ (len1 : Int)) = false := by simp; omega
               have q3 : ((L : Int) != 2 + (len1 : Int)) = false := by simp; omega
               have q5 : decide ((128 : Int) ≤ nth ns 0) = false := by simpa using hh'.out
               have q6 : decide (len1 < L - 2) = false := by simp; omega
               go_wp2_with fail
               refine (sameNumber_yes g6 2 (L - 2) (cap6 - 2) w.heap.size 0 len1 len1 (pad ns ++ ns) ns wr HP.out HN.out (by omega) (by omega) hrc hrnb HD.out).mono ?_
               rintro e w' ⟨rfl, rfl⟩
               go_wp2
               go_ret
               exact ⟨rfl, hB06.trans (hB.mono (by omega))⟩)

set_option maxHeartbeats 400000 in
set_option maxRecDepth 100000 in
theorem law7_long (a0 : Option Addr) (len0 cap0 b1 o1 len1 cap1 : Nat) (ns : List Int) (w : World) (hns : ns.length = len1) (h0 : len0 ≤ 65536) (h1 : 1 ≤ len1) (h2 : len1 ≤ 65536) (ht : 127 < len1 + top ns)
    (hrn : Row w b1 o1 ns) (hbn : Byt ns) (hb1 : b1 < w.heap.size) :
    Calls Try.prog 7 #[.slice a0 len0 cap0, .slice (some ⟨b1, o1, none⟩) len1 cap1] w fun e w' => e = .returned (.bool true) ∧ Below w.heap.size w w' := by
  obtain ⟨i0, hi, hz0, hz1, hz2⟩ := info_parts Try.info5
  have hnil := fun w a n c => run_neq_slice_nil_any (P := Try.prog) w 27 5 a n c 0 0 Try.underlying27
  have hbnd := hbn 0
  go_enter Try.func7, Try.ntmps7
  go_wp2_with fail
  refine (bytes19_yes _ _ len0 cap0 len1 cap1 w (by omega)).mono ?_
  rintro e w' ⟨rfl, rfl⟩
  go_wp2_with (at_make; refine wpList_make_full _ rfl _ _ 27 rfl w.heap.size 5 i0 (.int .u8 0) 1 Try.underlying27 hi hz0 hz1 _ _ _ _ len1 rfl rfl rfl rfl ?b1 ?b2 ?b3 ?_)
  case b1 => rw [hz2]; omega
  case b2 => unfold maxLen; omega
  case b3 => exact Nat.le_refl _
  intro w1 hown1 hgrow1
  have hB1 : Below w.heap.size w w1 := (Below.refl _ _).grown hgrow1 (Nat.le_refl _) (fun k h => by cases h)
  have hg1 := full_block hown1
  clear hown1 hgrow1
  obtain ⟨cur, hcur⟩ : ∃ cur, cur = (madeCells #[Value.int IntKind.u8 0] len1).toList := ⟨_, rfl⟩
  obtain ⟨cs, hcs⟩ : ∃ cs, cs = ns.map (Value.int .u8) := ⟨_, rfl⟩
  have hsp : splice cur 0 cs = cs := splice_all _ _ (by rw [hcur, hcs]; simp [madeCells, hns])
  rw [← hcur] at hg1
  have hrn1 := hrn.below hB1 hb1
  have hcl : cs.length = len1 := by rw [hcs]; simp [hns]
  have hcl2 : cur.length = len1 := by rw [hcur]; simp [madeCells]
  have hsrc := copy_src (g := w.heap.size) hrn1
  have hone := ints_oneCell .u8 ns
  rw [← hcs] at hsrc hone
  have HC : Hid (cs = ns.map (Value.int .u8)) := hcs
  have HS : Hid (splice cur 0 cs = cs) := hsp
  have HL : Hid (cs.length = len1 ∧ cur.length = len1) := ⟨hcl, hcl2⟩
  have HN : Hid (ns.length = len1) := hns
  clear hcur hcs hsp hcl hcl2 hns
  go_wp2_with (refine wpList_copy_splice rfl (.tmp 31) (.tmp 32) 27 27 rfl 5 Try.underlying27 Try.size5 _ _ _ _ _ _ rfl rfl w.heap.size 0 cur 5 hg1 cs ?e1 hsrc ?e2 hone w.heap.size w hB1 (Nat.le_refl _) ?_)
  case e1 => simp [HL.out.1]
  case e2 => simp [HL.out.1, HL.out.2]
  intro w2 hg2 hB2
  have hg2' := hg2.out
  rw [HS.out, HC.out] at hg2'
  have hrn2 := row_of_block hg2'
  have hH2 := block_lt hg2'
  have hd0 := hrn2.head (by rw [HN.out]; exact h1)
  clear hg1 hg2 hg2' hsrc hone HC HS HL hrn1 hB1 hrn
  by_cases hh : 128 ≤ nth ns 0
  all_goals
    have htp : top ns = if 128 ≤ nth ns 0 then 1 else 0 := rfl
    simp only [hh, if_true, if_false] at htp
    have ht' : (127 : Int) < (len1 : Int) + (top ns : Int) := by omega
    rw [htp] at ht'
    clear htp
    go_wp2
    go_ret
    exact ⟨rfl, hB2⟩

end Go.Proofs.Qxb6617868a
