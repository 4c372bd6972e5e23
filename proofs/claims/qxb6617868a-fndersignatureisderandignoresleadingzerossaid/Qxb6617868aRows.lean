/-
  No cell of these rows narrows 'for every input' (looked for: loops, veiled, ifaces, maps, wideKeys, modest, calm, conditions, laid).
  DERIVED. THE GIVEN ROWS OF THIS SEAT. 5 by the template 'for every input the law returns true; each argument reads behind the call as it read before'; 0 by the template 'total and deterministic' (their statements: Qxb6617868aTotals.lean).
  GIVEN WITH THE SEED: the statements are not yours to turn. If you find one false, say at which input.
  Laid BY PROGRAM, IN A SANDBOX (cutbox-rows.mjs): the forced cells as the released guide's own fill.sh prints them over the translation 9ee1844062082c29… (all of the seat's roots in one cut). By AI agents, Wed Nov 11 2026. No macro, syntax, notation, axiom, sorry.
-/
import Derived.Test.Qxb6617868aChecked
import GoSem.Claim
import GoSem.ClaimJoined
import GoSem.ClaimMapViews
import Derived.JoinedTies
import Derived.KernelRfl
namespace Go.Proofs.Qxb6617868a
/- THE CELL 'sum', in the pinned program and in every row, IS THE sha256 OF THE DUMP (.gsa) THAT Qxb6617868aProg.lean LOADS. Nothing in Lean hashes anything: it is a label: what it is worth is what the hold of that sum in a sandbox is worth. -/
noncomputable def Try.pinned : Pinned := { name := "qxb6617868a", sum := "9ee1844062082c297a2eba5719fc2cc0f743453ecf63d5a8ba120a58c64e4b1f", checked := Try.checked }
namespace Rows
def none {H : Type} : Left H := { results := [], args := [] }

/-- 'zzlaws_jwtsvid_b1.FnFindDotsInsertNonDotByte': WHATEVER THE INPUT: true; the input reads as it did. -/
def fnFindDotsInsertNonDotByteSpec : ChangeSpec := { name := "fnFindDotsInsertNonDotByte", fn := fun _ => fun
  | [d1, d2, d3] => { results := [.lit (.bool true)], args := [d1, d2, d3] }
  | _ => none }
def fnFindDotsInsertNonDotByteRow : OpenClaim := { program := "qxb6617868a", sum := "9ee1844062082c297a2eba5719fc2cc0f743453ecf63d5a8ba120a58c64e4b1f", func := "example.com/mark-of-origin/mark-of-origin/zzlaws_jwtsvid_b1.FnFindDotsInsertNonDotByte", spec := "fnFindDotsInsertNonDotByte", inPlace := ["internal/bytealg.IndexByteString"], apart := false }
def FnFindDotsInsertNonDotByteSaid : Prop := fnFindDotsInsertNonDotByteRow.holds Try.pinned (OpenSpec.ofChange fnFindDotsInsertNonDotByteSpec)

/-- ITS FALSE NEIGHBOUR: 'it returns false'. Refute it at one input. -/
def fnFindDotsInsertNonDotByteWrong : ChangeSpec := { name := "fnFindDotsInsertNonDotByte", fn := fun _ => fun
  | [d1, d2, d3] => { results := [.lit (.bool false)], args := [d1, d2, d3] }
  | _ => none }
def FnFindDotsInsertNonDotByteWrongFalsely : Prop := fnFindDotsInsertNonDotByteRow.holds Try.pinned (OpenSpec.ofChange fnFindDotsInsertNonDotByteWrong)

/-- 'zzlaws_jwtsvid_b1.FnFindDotsTailAfterSecondDotKeepsDots': WHATEVER THE INPUT: true; the input reads as it did. -/
def fnFindDotsTailAfterSecondDotKeepsDotsSpec : ChangeSpec := { name := "fnFindDotsTailAfterSecondDotKeepsDots", fn := fun _ => fun
  | [d1, d2] => { results := [.lit (.bool true)], args := [d1, d2] }
  | _ => none }
def fnFindDotsTailAfterSecondDotKeepsDotsRow : OpenClaim := { program := "qxb6617868a", sum := "9ee1844062082c297a2eba5719fc2cc0f743453ecf63d5a8ba120a58c64e4b1f", func := "example.com/mark-of-origin/mark-of-origin/zzlaws_jwtsvid_b1.FnFindDotsTailAfterSecondDotKeepsDots", spec := "fnFindDotsTailAfterSecondDotKeepsDots", inPlace := ["internal/bytealg.IndexByteString"], apart := false }
def FnFindDotsTailAfterSecondDotKeepsDotsSaid : Prop := fnFindDotsTailAfterSecondDotKeepsDotsRow.holds Try.pinned (OpenSpec.ofChange fnFindDotsTailAfterSecondDotKeepsDotsSpec)

/-- ITS FALSE NEIGHBOUR: 'it returns false'. Refute it at one input. -/
def fnFindDotsTailAfterSecondDotKeepsDotsWrong : ChangeSpec := { name := "fnFindDotsTailAfterSecondDotKeepsDots", fn := fun _ => fun
  | [d1, d2] => { results := [.lit (.bool false)], args := [d1, d2] }
  | _ => none }
def FnFindDotsTailAfterSecondDotKeepsDotsWrongFalsely : Prop := fnFindDotsTailAfterSecondDotKeepsDotsRow.holds Try.pinned (OpenSpec.ofChange fnFindDotsTailAfterSecondDotKeepsDotsWrong)

/-- 'zzlaws_jwtsvid_b1.FnDerSignatureIsDERAndIgnoresLeadingZeros': WHATEVER THE INPUT: true; the input reads as it did. -/
def fnDerSignatureIsDERAndIgnoresLeadingZerosSpec : ChangeSpec := { name := "fnDerSignatureIsDERAndIgnoresLeadingZeros", fn := fun _ => fun
  | [d1, d2] => { results := [.lit (.bool true)], args := [d1, d2] }
  | _ => none }
def fnDerSignatureIsDERAndIgnoresLeadingZerosRow : OpenClaim := { program := "qxb6617868a", sum := "9ee1844062082c297a2eba5719fc2cc0f743453ecf63d5a8ba120a58c64e4b1f", func := "example.com/mark-of-origin/mark-of-origin/zzlaws_jwtsvid_b1.FnDerSignatureIsDERAndIgnoresLeadingZeros", spec := "fnDerSignatureIsDERAndIgnoresLeadingZeros", apart := false }
def FnDerSignatureIsDERAndIgnoresLeadingZerosSaid : Prop := fnDerSignatureIsDERAndIgnoresLeadingZerosRow.holds Try.pinned (OpenSpec.ofChange fnDerSignatureIsDERAndIgnoresLeadingZerosSpec)

/-- ITS FALSE NEIGHBOUR: 'it returns false'. Refute it at one input. -/
def fnDerSignatureIsDERAndIgnoresLeadingZerosWrong : ChangeSpec := { name := "fnDerSignatureIsDERAndIgnoresLeadingZeros", fn := fun _ => fun
  | [d1, d2] => { results := [.lit (.bool false)], args := [d1, d2] }
  | _ => none }
def FnDerSignatureIsDERAndIgnoresLeadingZerosWrongFalsely : Prop := fnDerSignatureIsDERAndIgnoresLeadingZerosRow.holds Try.pinned (OpenSpec.ofChange fnDerSignatureIsDERAndIgnoresLeadingZerosWrong)

/-- 'zzlaws_jwtsvid_b1.FnDerSignatureSwapHalvesSwapsIntegers': WHATEVER THE INPUT: true; the input reads as it did. -/
def fnDerSignatureSwapHalvesSwapsIntegersSpec : ChangeSpec := { name := "fnDerSignatureSwapHalvesSwapsIntegers", fn := fun _ => fun
  | [d] => { results := [.lit (.bool true)], args := [d] }
  | _ => none }
def fnDerSignatureSwapHalvesSwapsIntegersRow : OpenClaim := { program := "qxb6617868a", sum := "9ee1844062082c297a2eba5719fc2cc0f743453ecf63d5a8ba120a58c64e4b1f", func := "example.com/mark-of-origin/mark-of-origin/zzlaws_jwtsvid_b1.FnDerSignatureSwapHalvesSwapsIntegers", spec := "fnDerSignatureSwapHalvesSwapsIntegers", apart := false }
def FnDerSignatureSwapHalvesSwapsIntegersSaid : Prop := fnDerSignatureSwapHalvesSwapsIntegersRow.holds Try.pinned (OpenSpec.ofChange fnDerSignatureSwapHalvesSwapsIntegersSpec)

/-- ITS FALSE NEIGHBOUR: 'it returns false'. Refute it at one input. -/
def fnDerSignatureSwapHalvesSwapsIntegersWrong : ChangeSpec := { name := "fnDerSignatureSwapHalvesSwapsIntegers", fn := fun _ => fun
  | [d] => { results := [.lit (.bool false)], args := [d] }
  | _ => none }
def FnDerSignatureSwapHalvesSwapsIntegersWrongFalsely : Prop := fnDerSignatureSwapHalvesSwapsIntegersRow.holds Try.pinned (OpenSpec.ofChange fnDerSignatureSwapHalvesSwapsIntegersWrong)

/-- 'zzlaws_jwtsvid_b1.FnAppendDERIntegerAppendsTheOneEncoding': WHATEVER THE INPUT: true; the input reads as it did. -/
def fnAppendDERIntegerAppendsTheOneEncodingSpec : ChangeSpec := { name := "fnAppendDERIntegerAppendsTheOneEncoding", fn := fun _ => fun
  | [d1, d2] => { results := [.lit (.bool true)], args := [d1, d2] }
  | _ => none }
def fnAppendDERIntegerAppendsTheOneEncodingRow : OpenClaim := { program := "qxb6617868a", sum := "9ee1844062082c297a2eba5719fc2cc0f743453ecf63d5a8ba120a58c64e4b1f", func := "example.com/mark-of-origin/mark-of-origin/zzlaws_jwtsvid_b1.FnAppendDERIntegerAppendsTheOneEncoding", spec := "fnAppendDERIntegerAppendsTheOneEncoding", apart := false }
def FnAppendDERIntegerAppendsTheOneEncodingSaid : Prop := fnAppendDERIntegerAppendsTheOneEncodingRow.holds Try.pinned (OpenSpec.ofChange fnAppendDERIntegerAppendsTheOneEncodingSpec)

/-- ITS FALSE NEIGHBOUR: 'it returns false'. Refute it at one input. -/
def fnAppendDERIntegerAppendsTheOneEncodingWrong : ChangeSpec := { name := "fnAppendDERIntegerAppendsTheOneEncoding", fn := fun _ => fun
  | [d1, d2] => { results := [.lit (.bool false)], args := [d1, d2] }
  | _ => none }
def FnAppendDERIntegerAppendsTheOneEncodingWrongFalsely : Prop := fnAppendDERIntegerAppendsTheOneEncodingRow.holds Try.pinned (OpenSpec.ofChange fnAppendDERIntegerAppendsTheOneEncodingWrong)

end Rows
end Go.Proofs.Qxb6617868a
