import Derived.Test.Qxb6617965aV7
import Derived.ProofKit
import Derived.OpenShut
import Derived.Deep.Slices
namespace Go.Proofs.Qxb6617965a
open Go.RowKit Cpu Go.ChangeShapes Go.WideShapes

theorem Try.cells34 : Try.prog.cellsOf 34 = 2 := by kernel_rfl
theorem Try.cells3 : Try.prog.cellsOf 3 = 1 := by kernel_rfl

/-- One element: a pair of integers in two cells. -/
theorem pair_of {H : Type} {enc : TypeId × Value → H} {w : World} {base n : Nat} {spare : Nat → Bool} {held : Bool} {cs : List Value} {y : DataW H × List MemPlace}
    (h : DataW.trod enc Try.prog w base spare held n 34 cs = some y) : ∃ p : Int × Int, cs = [.int .i64 p.1, .int .i64 p.2] := by
  obtain ⟨xs, m, _, _, hl, _, hx⟩ := DataW.trod_array Try.underlying34 h
  rw [Try.cells34] at hl
  rw [Try.cells3] at hx
  match cs, hl with
  | [c0, c1], _ =>
    have h0 := hx 0 (by omega)
    have h1 := hx 1 (by omega)
    simp at h0 h1
    match xs, h0, h1 with
    | y0 :: y1 :: _, h0, h1 =>
      simp at h0 h1
      obtain ⟨a, e0, _⟩ := DataW.trod_int Try.underlying3 h0
      obtain ⟨b, e1, _⟩ := DataW.trod_int Try.underlying3 h1
      simp at e0 e1
      exact ⟨(a, b), by rw [e0, e1]⟩
    | [_], h0, h1 =>
      simp at h1
      unfold DataW.trod at h1
      cases m <;> simp_all
    | [], h0, h1 =>
      simp at h0
      unfold DataW.trod at h0
      cases m <;> simp_all

/-- What the walks are told of a slice of pairs that came in. -/
theorem view_of {H : Type} {enc : TypeId × Value → H} {w : World} {fuel : Nat} {a : Option Addr} {len cap : Nat} {x : DataW H × List MemPlace}
    (h : DataW.trod enc Try.prog w 0 (fun _ => true) true fuel 22 [.slice a len cap] = some x) : ∃ rs, View w a len rs ∧ len ≤ maxLen ∧ (a = none → cap = 0) := by
  rcases Go.Deep.open_slice Try.underlying22 h with ⟨hcs, _⟩ | ⟨y, l, c, m, n, D, Pl, hcs, _, hl, hm, hmm, _, hx⟩
  · simp at hcs
    obtain ⟨rfl, rfl, rfl⟩ := hcs
    exact ⟨[], ⟨rfl, fun h => absurd h (by omega)⟩, Nat.zero_le _, fun _ => rfl⟩
  · simp at hcs
    obtain ⟨rfl, rfl, rfl⟩ := hcs
    simp at hmm
    subst hmm
    have each : ∀ i, i < m → ∃ p : Int × Int, w.cell? (y.add (i * 2)) = some (.int .i64 p.1) ∧ w.cell? (y.add (i * 2 + 1)) = some (.int .i64 p.2) := by
      intro i hi
      obtain ⟨cs', h1, h2⟩ := hx i hi
      rw [Try.cells34] at h1
      obtain ⟨p, rfl⟩ := pair_of h2
      obtain ⟨_, _, hcell⟩ := World.cells?_some h1
      have e0 := hcell 0 (by omega)
      have e1 := hcell 1 (by omega)
      rw [Go.Deep.add_add] at e0 e1
      exact ⟨p, by simpa using e0, by simpa using e1⟩
    obtain ⟨f, hf⟩ := Go.Deep.choose_lt each
    have hfs : ∀ i, i < len → fs ((List.range len).map f) i = (f i).1 ∧ ls ((List.range len).map f) i = (f i).2 := fun i hi => by simp [fs, ls, hi]
    refine ⟨(List.range len).map f, ⟨by simp, fun hp => ?_⟩, by omega, fun h => by cases h⟩
    obtain ⟨b, off, spot⟩ := y
    have hspot : spot = none := by simpa [Addr.add] using World.cell?_spot (hf 0 (by omega)).1
    subst hspot
    refine ⟨b, off, rfl, World.block_lt_of_cell? w _ (hf 0 (by omega)).1, fun i hi => ?_⟩
    have hi' : i < len := by simpa using hi
    rw [(hfs i hi').1, (hfs i hi').2, Nat.add_assoc, ← add_plain, ← add_plain]
    exact hf i (by omega)

end Go.Proofs.Qxb6617965a
