import Derived.Test.Qxb6617868aProg
import Derived.Test.Qxb6617868aDer
import Derived.WalkKit
import Derived.WalkSpells
namespace Go.Proofs.Qxb6617868a
open Go.RowKit Der

/-- The cells of a row of bytes. -/
def Row (w : World) (b off : Nat) (zs : List Int) : Prop := ∀ i, i < zs.length → w.cell? ⟨b, off + i, none⟩ = some (.int .u8 (nth zs i))

theorem Row.head {w : World} {b off : Nat} {zs : List Int} (h : Row w b off zs) (hl : 0 < zs.length) : w.cell? ⟨b, off, none⟩ = some (.int .u8 (nth zs 0)) := h 0 hl

theorem ret_int {k : IntKind} {a b : Int} (h : a = b) : Ending.returned (.int k a) = .returned (.int k b) := by rw [h]

theorem top_div (zs : List Int) (hb : Byt zs) : nth zs 0 / 128 = (top zs : Int) := by
  have h := hb 0
  unfold top; split <;> omega

theorem size_any (b off len cap : Nat) (zs : List Int) (w : World) (hz : zs.length = len) (hl : 1 ≤ len) (hm : len ≤ 1048576) (hr : Row w b off zs) (hb : Byt zs) :
    Calls Try.prog 30 #[.slice (some ⟨b, off, none⟩) len cap] w fun e w' => e = .returned (.int .i64 (2 + len + top zs)) ∧ w = w' := by
  have h0 := hr.head (by omega)
  have hb0 := (hb 0).1
  have hb1 := (hb 0).2
  have hcap : (0 : Int) < len := by omega
  clear hz
  go_enter Try.func30, Try.ntmps30
  go_wp2
  go_ret
  exact ⟨ret_int (by rw [top_div zs hb]), rfl⟩

theorem dig_at (za : List Int) (k : Nat) (h : k < za.length) : nth za (za.length - 1 - k) = dig za k := by
  unfold dig; rw [if_pos h]
theorem dig_out (za : List Int) (k : Nat) (h : za.length ≤ k) : dig za k = 0 := by
  unfold dig; rw [if_neg (by omega)]

set_option maxHeartbeats 400000 in
theorem sameNumber_yes (ba oa la ca bb ob lb cb : Nat) (za zb : List Int) (w : World) (hza : za.length = la) (hzb : zb.length = lb) (hla : la ≤ 1048576) (hlb : lb ≤ 1048576)
    (hra : Row w ba oa za) (hrb : Row w bb ob zb) (hd : ∀ i, dig za i = dig zb i) :
    Calls Try.prog 22 #[.slice (some ⟨ba, oa, none⟩) la ca, .slice (some ⟨bb, ob, none⟩) lb cb] w fun e w' => e = .returned (.bool true) ∧ w = w' := by
  have cA : ∀ k v, k < la → dig za k = v → w.cell? ⟨ba, oa + (la - 1 - k), none⟩ = some (.int .u8 v) := fun k v h e => by
    subst hza; subst e; rw [hra _ (by omega), dig_at za k h]
  have cB : ∀ k v, k < lb → dig zb k = v → w.cell? ⟨bb, ob + (lb - 1 - k), none⟩ = some (.int .u8 v) := fun k v h e => by
    subst hzb; subst e; rw [hrb _ (by omega), dig_at zb k h]
  have oA : ∀ k, la ≤ k → dig za k = 0 := fun k h => dig_out za k (by omega)
  have oB : ∀ k, lb ≤ k → dig zb k = 0 := fun k h => dig_out zb k (by omega)
  have HA : Hid (∀ k v, k < la → dig za k = v → w.cell? ⟨ba, oa + (la - 1 - k), none⟩ = some (.int .u8 v)) := cA
  have HB : Hid (∀ k v, k < lb → dig zb k = v → w.cell? ⟨bb, ob + (lb - 1 - k), none⟩ = some (.int .u8 v)) := cB
  have HoA : Hid (∀ k, la ≤ k → dig za k = 0) := oA
  have HoB : Hid (∀ k, lb ≤ k → dig zb k = 0) := oB
  have Hd : Hid (∀ i, dig za i = dig zb i) := hd
  clear cA cB oA oB hd hza hzb
  by_cases hab : la < lb
  all_goals
    go_enter Try.func22, Try.ntmps22
    go_wp2
    go_loop [6] (fun i => ∃ k : Nat, k ≤ max la lb ∧ i = .int .i64 k) (fun i => (max la lb) - (intOf i).toNat)
    case atStart => exact ⟨0, by omega, rfl⟩
    case round =>
      obtain ⟨k, hk, rfl⟩ := hrel
      by_cases h1 : k < la
      · by_cases h2 : k < lb
        · have a1 := HA.out k _ h1 rfl
          have b1 := HB.out k _ h2 (Hd.out k).symm
          go_wp2
          go_round
          case rel => exact ⟨k + 1, by omega, by go_num⟩
          case measure => simp [intOf]; omega
        · first
          | (exfalso; omega)
          | (have a1 := HA.out k _ h1 ((Hd.out k).trans (HoB.out k (by omega)))
             go_wp2
             go_round
             case rel => exact ⟨k + 1, by omega, by go_num⟩
             case measure => simp [intOf]; omega)
      · by_cases h2 : k < lb
        · first
          | (exfalso; omega)
          | (have b1 := HB.out k _ h2 ((Hd.out k).symm.trans (HoA.out k (by omega)))
             go_wp2
             go_round
             case rel => exact ⟨k + 1, by omega, by go_num⟩
             case measure => simp [intOf]; omega)
        · go_wp2
          go_ret
          exact ⟨rfl, rfl⟩

end Go.Proofs.Qxb6617868a
