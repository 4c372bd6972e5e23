import Derived.Test.Qxb6616547aProg
import Derived.WalkKit
import Derived.WalkSpells
namespace Go.Proofs.Qxb6616547a
open Go.RowKit

/-- 'lacksCore'. -/
def lacks (u : Bool) (m mn : Int) : Bool := u || decide (m < mn)

theorem lacks11 (b : Nat) (m mn : Int) (u : Bool) (w : World) (h1 : w.cell? ⟨b, 1, none⟩ = some (.int .i64 mn)) (h4 : w.cell? ⟨b, 4, none⟩ = some (.bool u)) :
    Calls Try.prog 11 #[.pointer (some ⟨b, 0, none⟩), .int .i64 m] w fun e w' => e = .returned (.bool (lacks u m mn)) ∧ w = w' := by
  cases u
  · go_enter Try.func11, Try.ntmps11
    go_wp2
    go_ret
    exact ⟨by simp [lacks], rfl⟩
  · go_enter Try.func11, Try.ntmps11
    go_wp2
    go_ret
    exact ⟨by simp [lacks], rfl⟩

theorem lacks9 (b : Nat) (m mn : Int) (u : Bool) (w : World) (h1 : w.cell? ⟨b, 1, none⟩ = some (.int .i64 mn)) (h4 : w.cell? ⟨b, 4, none⟩ = some (.bool u)) :
    Calls Try.prog 9 #[.pointer (some ⟨b, 0, none⟩), .int .i64 m] w fun e w' => e = .returned (.bool (lacks u m mn)) ∧ w = w' := by
  go_enter Try.func9, Try.ntmps9
  go_wp2_with fail
  refine (lacks11 b m mn u w h1 h4).mono ?_
  rintro e w' ⟨rfl, rfl⟩
  go_wp2
  go_ret
  exact ⟨rfl, rfl⟩

theorem gang8 (a0 a5 a6 a7 : ByteArray) (a1 a2 a3 : Int) (a4 : Bool) (w : World) :
    Calls Try.prog 8 #[.string a0, .int .i64 a1, .int .i64 a2, .int .i64 a3, .bool a4, .string a5, .string a6, .string a7] w fun e w' =>
      e = .returned (.pointer (some ⟨w.heap.size, 0, none⟩)) ∧ w'.cell? ⟨w.heap.size, 1, none⟩ = some (.int .i64 a1) ∧ w'.cell? ⟨w.heap.size, 4, none⟩ = some (.bool a4) ∧ Grown w w' := by
  go_enter Try.func8, Try.ntmps8
  go_wp2
  go_ret
  refine ⟨rfl, ?_, ?_, ?_⟩
  · rw [World.cell?_alloc_at _ _ _ _ rfl]; rfl
  · rw [World.cell?_alloc_at _ _ _ _ rfl]; rfl
  · exact (Grown.refl _).alloc _ _

/-- The sum of the lengths is within the bound. -/
def Small (a0 a5 a6 a7 : ByteArray) : Prop := a0.size + a5.size + a6.size + a7.size ≤ 1048576

theorem bytes7_yes (a0 a5 a6 a7 : ByteArray) (a1 a2 a3 a8 a9 : Int) (a4 : Bool) (w : World) (h : a0.size + a5.size + a6.size + a7.size ≤ 1048576) :
    Calls Try.prog 7 #[.string a0, .int .i64 a1, .int .i64 a2, .int .i64 a3, .bool a4, .string a5, .string a6, .string a7, .int .i64 a8, .int .i64 a9] w fun e w' => e = .returned (.bool true) ∧ w = w' := by
  go_enter Try.func7, Try.ntmps7
  go_wp2
  go_ret
  exact ⟨rfl, rfl⟩

theorem bytes7_no (a0 a5 a6 a7 : ByteArray) (a1 a2 a3 a8 a9 : Int) (a4 : Bool) (w : World) (h0 : a0.size ≤ maxLen) (h5 : a5.size ≤ maxLen) (h6 : a6.size ≤ maxLen) (h7 : a7.size ≤ maxLen) (h : ¬ a0.size + a5.size + a6.size + a7.size ≤ 1048576) :
    Calls Try.prog 7 #[.string a0, .int .i64 a1, .int .i64 a2, .int .i64 a3, .bool a4, .string a5, .string a6, .string a7, .int .i64 a8, .int .i64 a9] w fun e w' => e = .returned (.bool false) ∧ w = w' := by
  unfold maxLen at h0 h5 h6 h7
  by_cases g0 : a0.size ≤ 1048576
  · by_cases g5 : a5.size ≤ 1048576
    · by_cases k5 : a0.size + a5.size ≤ 1048576
      · by_cases g6 : a6.size ≤ 1048576
        · by_cases k6 : a0.size + a5.size + a6.size ≤ 1048576
          · by_cases g7 : a7.size ≤ 1048576
            all_goals
              go_enter Try.func7, Try.ntmps7
              go_wp2
              go_ret
              exact ⟨rfl, rfl⟩
          · go_enter Try.func7, Try.ntmps7
            go_wp2
            go_ret
            exact ⟨rfl, rfl⟩
        · go_enter Try.func7, Try.ntmps7
          go_wp2
          go_ret
          exact ⟨rfl, rfl⟩
      · go_enter Try.func7, Try.ntmps7
        go_wp2
        go_ret
        exact ⟨rfl, rfl⟩
    · go_enter Try.func7, Try.ntmps7
      go_wp2
      go_ret
      exact ⟨rfl, rfl⟩
  · go_enter Try.func7, Try.ntmps7
    go_wp2
    go_ret
    exact ⟨rfl, rfl⟩

end Go.Proofs.Qxb6616547a
