import Derived.Test.Qxb6617965aProg
import Derived.Test.Qxb6617965aCpu2
import Derived.WalkKit
import Derived.WalkSpells
import Derived.BigQuiet
import Derived.WalkSmall
namespace Go.Proofs.Qxb6617965a
open Go.RowKit Cpu

/-- The cells of a row of runs. -/
def PRow (w : World) (b off : Nat) (rs : List (Int × Int)) : Prop :=
  ∀ i, i < rs.length → w.cell? ⟨b, off + i * 2, none⟩ = some (.int .i64 (fs rs i)) ∧ w.cell? ⟨b, off + i * 2 + 1, none⟩ = some (.int .i64 (ls rs i))
/-- A slice of runs: nil, empty or not. -/
def View (w : World) (a : Option Addr) (len : Nat) (rs : List (Int × Int)) : Prop :=
  rs.length = len ∧ (0 < len → ∃ b off, a = some ⟨b, off, none⟩ ∧ b < w.heap.size ∧ PRow w b off rs)

theorem PRow.below {w w' : World} {B b off : Nat} {rs : List (Int × Int)} (h : PRow w b off rs) (hB : Below B w w') (hb : b < B) : PRow w' b off rs :=
  fun i hi => ⟨(hB.cell (p := ⟨b, off + i * 2, none⟩) hb).trans (h i hi).1, (hB.cell (p := ⟨b, off + i * 2 + 1, none⟩) hb).trans (h i hi).2⟩
theorem View.below {w w' : World} {a : Option Addr} {len : Nat} {rs : List (Int × Int)} (h : View w a len rs) (hB : Below w.heap.size w w') : View w' a len rs :=
  ⟨h.1, fun hp => by
    obtain ⟨b, off, ha, hb, hr⟩ := h.2 hp
    exact ⟨b, off, ha, by have := hB.size; omega, hr.below hB hb⟩⟩

set_option maxHeartbeats 400000 in
theorem inRange_yes (a : Option Addr) (len cap : Nat) (rs : List (Int × Int)) (w : World) (hv : View w a len rs) (hm : len ≤ 1099511627776) (hin : InR rs) :
    Calls Try.prog 8 #[.slice a len cap] w fun e w' => e = .returned (.bool true) ∧ Below w.heap.size w w' := by
  go_enter Try.func8, Try.ntmps8
  go_wp2
  go_loopw [3] (fun i wr => ∃ k : Nat, k ≤ len ∧ i = .int .i64 k ∧ Below w.heap.size w wr) (fun i _ => len - (intOf i).toNat)
  case atStart => exact ⟨0, Nat.zero_le _, rfl, Below.refl _ _⟩
  case round =>
    obtain ⟨k, hk, rfl, hB⟩ := hrel
    by_cases hlt : k < len
    · obtain ⟨b, off, ha, hb, hr⟩ := hv.2 (by omega)
      subst ha
      have hkl : k < rs.length := by rw [hv.1]; exact hlt
      obtain ⟨f1, f2⟩ := hr.below hB hb k hkl
      obtain ⟨r1, r2, r3⟩ := hin _ (at_mem rs k hkl)
      simp only at r1 r2 r3
      have i1 : (k : Int) < (len : Int) := by omega
      have i2 : (0 : Int) ≤ (k : Int) := by omega
      have q1 : decide (fs rs k < 0) = false := by simp; omega
      have q2 : decide (ls rs k < fs rs k) = false := by simp; omega
      have q3 : decide ((1073741824 : Int) < ls rs k) = false := by simp; omega
      go_wp2
      go_quiet (fail)
      go_wp2
      go_roundw
      case rel => exact ⟨k + 1, by omega, by go_num, below_drewN hB _⟩
      case measure => simp [intOf]; omega
    · go_wp2
      go_ret
      exact ⟨rfl, hB⟩

/-- One run in range. -/
def RunOk (rs : List (Int × Int)) (i : Nat) : Prop := 0 ≤ fs rs i ∧ fs rs i ≤ ls rs i ∧ ls rs i ≤ 1073741824
theorem inR_of (rs : List (Int × Int)) (h : ∀ i, i < rs.length → RunOk rs i) : InR rs := by
  intro p hp
  obtain ⟨i, hi, e1, e2⟩ := mem_at rs p hp
  have := h i hi
  unfold RunOk at this
  omega

/-- The way on behind a region that draws, inside a round. -/
theorem succ_all {P : Nat → Prop} {k : Nat} (h : ∀ i, i < k → P i) (hk : P k) : ∀ i, i < k + 1 → P i := by
  intro i hi
  by_cases e : i = k
  · subst e; exact hk
  · exact h i (by omega)

set_option maxHeartbeats 400000 in
theorem inRange_no (a : Option Addr) (len cap : Nat) (rs : List (Int × Int)) (w : World) (hv : View w a len rs) (hm : len ≤ 1099511627776) (hin : ¬ InR rs) :
    Calls Try.prog 8 #[.slice a len cap] w fun e w' => e = .returned (.bool false) ∧ Below w.heap.size w w' := by
  have HIN : Hid (¬ InR rs) := hin
  clear hin
  go_enter Try.func8, Try.ntmps8
  go_wp2
  go_loopw [3] (fun i wr => ∃ k : Nat, k ≤ len ∧ i = .int .i64 k ∧ Hid (∀ i, i < k → RunOk rs i) ∧ Below w.heap.size w wr) (fun i _ => len - (intOf i).toNat)
  case atStart => exact ⟨0, Nat.zero_le _, rfl, fun i h => absurd h (by omega), Below.refl _ _⟩
  case round =>
    obtain ⟨k, hk, rfl, hok, hB⟩ := hrel
    by_cases hlt : k < len
    · obtain ⟨b, off, ha, hb, hr⟩ := hv.2 (by omega)
      subst ha
      have hkl : k < rs.length := by rw [hv.1]; exact hlt
      obtain ⟨f1, f2⟩ := hr.below hB hb k hkl
      have i1 : (k : Int) < (len : Int) := by omega
      have i2 : (0 : Int) ≤ (k : Int) := by omega
      by_cases r1 : fs rs k < 0
      · have q1 : decide (fs rs k < 0) = true := by simpa using r1
        go_wp2
        go_quiet (fail)
        go_wp2
        go_ret
        exact ⟨rfl, below_drewN hB _⟩
      · have q1 : decide (fs rs k < 0) = false := by simpa using r1
        by_cases r2 : ls rs k < fs rs k
        · have q2 : decide (ls rs k < fs rs k) = true := by simpa using r2
          go_wp2
          go_quiet (fail)
          go_wp2
          go_ret
          exact ⟨rfl, below_drewN hB _⟩
        · have q2 : decide (ls rs k < fs rs k) = false := by simpa using r2
          by_cases r3 : 1073741824 < ls rs k
          · have q3 : decide ((1073741824 : Int) < ls rs k) = true := by simpa using r3
            go_wp2
            go_quiet (fail)
            go_wp2
            go_ret
            exact ⟨rfl, below_drewN hB _⟩
          · have q3 : decide ((1073741824 : Int) < ls rs k) = false := by simpa using r3
            have hokk : Hid (RunOk rs k) := ⟨by omega, by omega, by omega⟩
            go_wp2
            go_quiet (fail)
            go_wp2
            go_roundw
            case rel => exact ⟨k + 1, by omega, by go_num, succ_all hok.out hokk.out, below_drewN hB _⟩
            case measure => simp [intOf]; omega
    · exact absurd (inR_of rs fun i hi => hok.out i (by have := hv.1; omega)) HIN.out

set_option maxHeartbeats 400000 in
theorem canon_yes (a : Option Addr) (len cap : Nat) (rs : List (Int × Int)) (w : World) (hv : View w a len rs) (hm : len ≤ 1099511627776) (hin : InR rs) (hc : Canon rs) :
    Calls Try.prog 9 #[.slice a len cap] w fun e w' => e = .returned (.bool true) ∧ Below w.heap.size w w' := by
  have HST : Hid (∀ i, i < rs.length → Step rs i) := canon_step hc
  clear hc
  go_enter Try.func9, Try.ntmps9
  go_wp2
  go_loopw [3] (fun i wr => ∃ k : Nat, k ≤ len ∧ i = .int .i64 k ∧ Below w.heap.size w wr) (fun i _ => len - (intOf i).toNat)
  case atStart => exact ⟨0, Nat.zero_le _, rfl, Below.refl _ _⟩
  case round =>
    obtain ⟨k, hk, rfl, hB⟩ := hrel
    by_cases hlt : k < len
    · obtain ⟨b, off, ha, hb, hr⟩ := hv.2 (by omega)
      subst ha
      have hkl : k < rs.length := by rw [hv.1]; exact hlt
      have hrb := hr.below hB hb
      obtain ⟨f1, f2⟩ := hrb k hkl
      obtain ⟨s1, s2⟩ := HST.out k hkl
      have i1 : (k : Int) < (len : Int) := by omega
      have i2 : (0 : Int) ≤ (k : Int) := by omega
      have q1 : decide (ls rs k < fs rs k) = false := by simp; omega
      by_cases h0 : 0 < k
      · have s3 := s2 h0
        obtain ⟨r1, r2, r3⟩ := hin _ (at_mem rs (k - 1) (by omega))
        obtain ⟨_, f4⟩ := hrb (k - 1) (by omega)
        simp only at r1 r2 r3
        have i3 : (0 : Int) < (k : Int) := by omega
        have q2 : decide ((0 : Int) < (k : Int)) = true := by simp; omega
        clear s2
        go_wp2
        go_quiet (fail)
        go_wp2
        go_quiet (fail)
        go_wp2
        go_roundw
        case rel => exact ⟨k + 1, by omega, by go_num, below_drewN hB _⟩
        case measure => simp [intOf]; omega
      · have q2 : decide ((0 : Int) < (k : Int)) = false := by simp; omega
        clear s2
        go_wp2
        go_quiet (fail)
        go_wp2
        go_quiet (fail)
        go_wp2
        go_roundw
        case rel => exact ⟨k + 1, by omega, by go_num, below_drewN hB _⟩
        case measure => simp [intOf]; omega
    · go_wp2
      go_ret
      exact ⟨rfl, hB⟩

set_option maxHeartbeats 400000 in
theorem canon_no (a : Option Addr) (len cap : Nat) (rs : List (Int × Int)) (w : World) (hv : View w a len rs) (hm : len ≤ 1099511627776) (hin : InR rs) (hc : ¬ Canon rs) :
    Calls Try.prog 9 #[.slice a len cap] w fun e w' => e = .returned (.bool false) ∧ Below w.heap.size w w' := by
  have HNC : Hid (¬ Canon rs) := hc
  clear hc
  go_enter Try.func9, Try.ntmps9
  go_wp2
  go_loopw [3] (fun i wr => ∃ k : Nat, k ≤ len ∧ i = .int .i64 k ∧ Hid (∀ i, i < k → Step rs i) ∧ Below w.heap.size w wr) (fun i _ => len - (intOf i).toNat)
  case atStart => exact ⟨0, Nat.zero_le _, rfl, fun i h => absurd h (by omega), Below.refl _ _⟩
  case round =>
    obtain ⟨k, hk, rfl, hok, hB⟩ := hrel
    by_cases hlt : k < len
    · obtain ⟨b, off, ha, hb, hr⟩ := hv.2 (by omega)
      subst ha
      have hkl : k < rs.length := by rw [hv.1]; exact hlt
      have hrb := hr.below hB hb
      obtain ⟨f1, f2⟩ := hrb k hkl
      have s1 : fs rs k ≤ ls rs k := (hin _ (at_mem rs k hkl)).2.1
      obtain ⟨u1, u2, u3⟩ := hin _ (at_mem rs k hkl)
      simp only at u1 u2 u3
      have i1 : (k : Int) < (len : Int) := by omega
      have i2 : (0 : Int) ≤ (k : Int) := by omega
      have q1 : decide (ls rs k < fs rs k) = false := by simp; omega
      by_cases h0 : 0 < k
      · obtain ⟨r1, r2, r3⟩ := hin _ (at_mem rs (k - 1) (by omega))
        obtain ⟨_, f4⟩ := hrb (k - 1) (by omega)
        simp only at r1 r2 r3
        have i3 : (0 : Int) < (k : Int) := by omega
        have q2 : decide ((0 : Int) < (k : Int)) = true := by simp; omega
        by_cases s3 : ls rs (k - 1) + 1 < fs rs k
        · have hst : Hid (Step rs k) := ⟨s1, fun _ => s3⟩
          go_wp2
          go_quiet (fail)
          go_wp2
          go_quiet (fail)
          go_wp2
          go_roundw
          case rel => exact ⟨k + 1, by omega, by go_num, succ_all hok.out hst.out, below_drewN hB _⟩
          case measure => simp [intOf]; omega
        · have s4 : fs rs k ≤ ls rs (k - 1) + 1 := by omega
          clear s3
          go_wp2
          go_quiet (fail)
          go_wp2
          go_quiet (fail)
          go_wp2
          go_ret
          exact ⟨rfl, below_drewN (below_drewN hB _) _⟩
      · have q2 : decide ((0 : Int) < (k : Int)) = false := by simp; omega
        have hst : Hid (Step rs k) := ⟨s1, fun h => absurd h h0⟩
        go_wp2
        go_quiet (fail)
        go_wp2
        go_quiet (fail)
        go_wp2
        go_roundw
        case rel => exact ⟨k + 1, by omega, by go_num, succ_all hok.out hst.out, below_drewN hB _⟩
        case measure => simp [intOf]; omega
    · exact absurd (canon_of_steps fun i hi => hok.out i (by have := hv.1; omega)) HNC.out

end Go.Proofs.Qxb6617965a
