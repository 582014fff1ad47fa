/-
  No cell of these rows narrows 'for every input' (looked for: loops, veiled, ifaces, maps, wideKeys, modest, calm, conditions, laid).
  DERIVED. THE GIVEN ROWS OF THIS SEAT. 5 by the template 'for every input the law returns true; each argument reads behind the call as it read before'; 0 by the template 'total and deterministic' (their statements: Qxb6604318aModsTotals.lean).
  GIVEN WITH THE SEED: the statements are not yours to turn. If you find one false, say at which input.
  Laid BY PROGRAM, IN A SANDBOX (cutbox-rows.mjs): the forced cells as the released guide's own fill.sh prints them over the translation 8db1eae8de57f2ef… (all of the seat's roots in one cut). By AI agents, Wed Nov 11 2026. No macro, syntax, notation, axiom, sorry.
-/
import Derived.Test.Qxb6604318aModsChecked
import GoSem.Claim
import GoSem.ClaimJoined
import GoSem.ClaimMapViews
import Derived.JoinedTies
import Derived.KernelRfl
namespace Go.Proofs.Qxb6604318aMods
/- THE CELL 'sum', in the pinned program and in every row, IS THE sha256 OF THE DUMP (.gsa) THAT Qxb6604318aModsProg.lean LOADS. Nothing in Lean hashes anything: it is a label: what it is worth is what the hold of that sum in a sandbox is worth. -/
noncomputable def Trym.pinned : Pinned := { name := "qxb6604318amods", sum := "8db1eae8de57f2efa43a139cdfb8513bd930abefa48e596864cfe98d54a516be", checked := Trym.checked }
namespace Rows
def none {H : Type} : Left H := { results := [], args := [] }

/-- 'zzlaws_internal_phone_b1.FnMaskMatchesPositionModel': WHATEVER THE INPUT: true; the input reads as it did. -/
def fnMaskMatchesPositionModelSpec : ChangeSpec := { name := "fnMaskMatchesPositionModel", fn := fun _ => fun
  | [d] => { results := [.lit (.bool true)], args := [d] }
  | _ => none }
def fnMaskMatchesPositionModelRow : OpenClaim := { program := "qxb6604318amods", sum := "8db1eae8de57f2efa43a139cdfb8513bd930abefa48e596864cfe98d54a516be", func := "example.com/latchkey/latchkey/zzlaws_internal_phone_b1.FnMaskMatchesPositionModel", spec := "fnMaskMatchesPositionModel", inPlace := ["internal/abi.NoEscape", "internal/bytealg.MakeNoZero"], make := .lifted ["publicsums"], apart := false }
def FnMaskMatchesPositionModelSaid : Prop := fnMaskMatchesPositionModelRow.holds Trym.pinned (OpenSpec.ofChange fnMaskMatchesPositionModelSpec)

/-- ITS FALSE NEIGHBOUR: 'it returns false'. Refute it at one input. -/
def fnMaskMatchesPositionModelWrong : ChangeSpec := { name := "fnMaskMatchesPositionModel", fn := fun _ => fun
  | [d] => { results := [.lit (.bool false)], args := [d] }
  | _ => none }
def FnMaskMatchesPositionModelWrongFalsely : Prop := fnMaskMatchesPositionModelRow.holds Trym.pinned (OpenSpec.ofChange fnMaskMatchesPositionModelWrong)

/-- 'zzlaws_internal_phone_b1.FnMaskIdempotent': WHATEVER THE INPUT: true; the input reads as it did. -/
def fnMaskIdempotentSpec : ChangeSpec := { name := "fnMaskIdempotent", fn := fun _ => fun
  | [d] => { results := [.lit (.bool true)], args := [d] }
  | _ => none }
def fnMaskIdempotentRow : OpenClaim := { program := "qxb6604318amods", sum := "8db1eae8de57f2efa43a139cdfb8513bd930abefa48e596864cfe98d54a516be", func := "example.com/latchkey/latchkey/zzlaws_internal_phone_b1.FnMaskIdempotent", spec := "fnMaskIdempotent", inPlace := ["internal/abi.NoEscape", "internal/bytealg.MakeNoZero"], make := .lifted ["publicsums"], apart := false }
def FnMaskIdempotentSaid : Prop := fnMaskIdempotentRow.holds Trym.pinned (OpenSpec.ofChange fnMaskIdempotentSpec)

/-- ITS FALSE NEIGHBOUR: 'it returns false'. Refute it at one input. -/
def fnMaskIdempotentWrong : ChangeSpec := { name := "fnMaskIdempotent", fn := fun _ => fun
  | [d] => { results := [.lit (.bool false)], args := [d] }
  | _ => none }
def FnMaskIdempotentWrongFalsely : Prop := fnMaskIdempotentRow.holds Trym.pinned (OpenSpec.ofChange fnMaskIdempotentWrong)

/-- 'zzlaws_internal_phone_b1.FnMaskEqualExactlyWhenShownPartsAgree': WHATEVER THE INPUT: true; the input reads as it did. -/
def fnMaskEqualExactlyWhenShownPartsAgreeSpec : ChangeSpec := { name := "fnMaskEqualExactlyWhenShownPartsAgree", fn := fun _ => fun
  | [d1, d2] => { results := [.lit (.bool true)], args := [d1, d2] }
  | _ => none }
def fnMaskEqualExactlyWhenShownPartsAgreeRow : OpenClaim := { program := "qxb6604318amods", sum := "8db1eae8de57f2efa43a139cdfb8513bd930abefa48e596864cfe98d54a516be", func := "example.com/latchkey/latchkey/zzlaws_internal_phone_b1.FnMaskEqualExactlyWhenShownPartsAgree", spec := "fnMaskEqualExactlyWhenShownPartsAgree", inPlace := ["internal/abi.NoEscape", "internal/bytealg.MakeNoZero"], make := .lifted ["publicsums"], apart := false }
def FnMaskEqualExactlyWhenShownPartsAgreeSaid : Prop := fnMaskEqualExactlyWhenShownPartsAgreeRow.holds Trym.pinned (OpenSpec.ofChange fnMaskEqualExactlyWhenShownPartsAgreeSpec)

/-- ITS FALSE NEIGHBOUR: 'it returns false'. Refute it at one input. -/
def fnMaskEqualExactlyWhenShownPartsAgreeWrong : ChangeSpec := { name := "fnMaskEqualExactlyWhenShownPartsAgree", fn := fun _ => fun
  | [d1, d2] => { results := [.lit (.bool false)], args := [d1, d2] }
  | _ => none }
def FnMaskEqualExactlyWhenShownPartsAgreeWrongFalsely : Prop := fnMaskEqualExactlyWhenShownPartsAgreeRow.holds Trym.pinned (OpenSpec.ofChange fnMaskEqualExactlyWhenShownPartsAgreeWrong)

/-- 'zzlaws_internal_phone_b1.FnDropSeparatorKeepsOrDrops': WHATEVER THE INPUT: true; the input reads as it did. -/
def fnDropSeparatorKeepsOrDropsSpec : ChangeSpec := { name := "fnDropSeparatorKeepsOrDrops", fn := fun _ => fun
  | [d] => { results := [.lit (.bool true)], args := [d] }
  | _ => none }
def fnDropSeparatorKeepsOrDropsRow : OpenClaim := { program := "qxb6604318amods", sum := "8db1eae8de57f2efa43a139cdfb8513bd930abefa48e596864cfe98d54a516be", func := "example.com/latchkey/latchkey/zzlaws_internal_phone_b1.FnDropSeparatorKeepsOrDrops", spec := "fnDropSeparatorKeepsOrDrops", make := .lifted ["publicsums"], apart := false }
def FnDropSeparatorKeepsOrDropsSaid : Prop := fnDropSeparatorKeepsOrDropsRow.holds Trym.pinned (OpenSpec.ofChange fnDropSeparatorKeepsOrDropsSpec)

/-- ITS FALSE NEIGHBOUR: 'it returns false'. Refute it at one input. -/
def fnDropSeparatorKeepsOrDropsWrong : ChangeSpec := { name := "fnDropSeparatorKeepsOrDrops", fn := fun _ => fun
  | [d] => { results := [.lit (.bool false)], args := [d] }
  | _ => none }
def FnDropSeparatorKeepsOrDropsWrongFalsely : Prop := fnDropSeparatorKeepsOrDropsRow.holds Trym.pinned (OpenSpec.ofChange fnDropSeparatorKeepsOrDropsWrong)

/-- 'zzlaws_internal_phone_b1.FnDropSeparatorCleansAndKeepsDigits': WHATEVER THE INPUT: true; the input reads as it did. -/
def fnDropSeparatorCleansAndKeepsDigitsSpec : ChangeSpec := { name := "fnDropSeparatorCleansAndKeepsDigits", fn := fun _ => fun
  | [d] => { results := [.lit (.bool true)], args := [d] }
  | _ => none }
def fnDropSeparatorCleansAndKeepsDigitsRow : OpenClaim := { program := "qxb6604318amods", sum := "8db1eae8de57f2efa43a139cdfb8513bd930abefa48e596864cfe98d54a516be", func := "example.com/latchkey/latchkey/zzlaws_internal_phone_b1.FnDropSeparatorCleansAndKeepsDigits", spec := "fnDropSeparatorCleansAndKeepsDigits", make := .lifted ["publicsums"], apart := false }
def FnDropSeparatorCleansAndKeepsDigitsSaid : Prop := fnDropSeparatorCleansAndKeepsDigitsRow.holds Trym.pinned (OpenSpec.ofChange fnDropSeparatorCleansAndKeepsDigitsSpec)

/-- ITS FALSE NEIGHBOUR: 'it returns false'. Refute it at one input. -/
def fnDropSeparatorCleansAndKeepsDigitsWrong : ChangeSpec := { name := "fnDropSeparatorCleansAndKeepsDigits", fn := fun _ => fun
  | [d] => { results := [.lit (.bool false)], args := [d] }
  | _ => none }
def FnDropSeparatorCleansAndKeepsDigitsWrongFalsely : Prop := fnDropSeparatorCleansAndKeepsDigitsRow.holds Trym.pinned (OpenSpec.ofChange fnDropSeparatorCleansAndKeepsDigitsWrong)

end Rows
end Go.Proofs.Qxb6604318aMods
