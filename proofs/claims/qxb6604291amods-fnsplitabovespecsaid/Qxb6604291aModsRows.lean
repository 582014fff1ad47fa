/-
  No cell of these rows narrows 'for every input' (looked for: loops, veiled, ifaces, maps, wideKeys, modest, calm, conditions, laid).
  DERIVED. THE GIVEN ROWS OF THIS SEAT. 2 by the template 'for every input the law returns true; each argument reads behind the call as it read before'; 0 by the template 'total and deterministic' (their statements: Qxb6604291aModsTotals.lean).
  GIVEN WITH THE SEED: the statements are not yours to turn. If you find one false, say at which input.
  Laid BY PROGRAM, IN A SANDBOX (cutbox-rows.mjs): the forced cells as the released guide's own fill.sh prints them over the translation e3429e4b25a7aaf6… (all of the seat's roots in one cut). By AI agents, Wed Nov 11 2026. No macro, syntax, notation, axiom, sorry.
-/
import Derived.Test.Qxb6604291aModsChecked
import GoSem.Claim
import GoSem.ClaimJoined
import GoSem.ClaimMapViews
import Derived.JoinedTies
import Derived.KernelRfl
namespace Go.Proofs.Qxb6604291aMods
/- THE CELL 'sum', in the pinned program and in every row, IS THE sha256 OF THE DUMP (.gsa) THAT Qxb6604291aModsProg.lean LOADS. Nothing in Lean hashes anything: it is a label: what it is worth is what the hold of that sum in a sandbox is worth. -/
noncomputable def Trym.pinned : Pinned := { name := "qxb6604291amods", sum := "e3429e4b25a7aaf621993f5297f75dcabfd126d30cfee0717b1e10b5f50586b7", checked := Trym.checked }
namespace Rows
def none {H : Type} : Left H := { results := [], args := [] }

/-- 'zzlaws_pricing_b1.FnSplitAboveSpec': WHATEVER THE INPUT: true; the input reads as it did. -/
def fnSplitAboveSpecSpec : ChangeSpec := { name := "fnSplitAboveSpec", fn := fun _ => fun
  | [d] => { results := [.lit (.bool true)], args := [d] }
  | _ => none }
def fnSplitAboveSpecRow : OpenClaim := { program := "qxb6604291amods", sum := "e3429e4b25a7aaf621993f5297f75dcabfd126d30cfee0717b1e10b5f50586b7", func := "example.com/tallyledger/tallyledger/zzlaws_pricing_b1.FnSplitAboveSpec", spec := "fnSplitAboveSpec", make := .lifted ["publicsums"], apart := false }
def FnSplitAboveSpecSaid : Prop := fnSplitAboveSpecRow.holds Trym.pinned (OpenSpec.ofChange fnSplitAboveSpecSpec)

/-- ITS FALSE NEIGHBOUR: 'it returns false'. Refute it at one input. -/
def fnSplitAboveSpecWrong : ChangeSpec := { name := "fnSplitAboveSpec", fn := fun _ => fun
  | [d] => { results := [.lit (.bool false)], args := [d] }
  | _ => none }
def FnSplitAboveSpecWrongFalsely : Prop := fnSplitAboveSpecRow.holds Trym.pinned (OpenSpec.ofChange fnSplitAboveSpecWrong)

/-- 'zzlaws_pricing_b1.FnSplitAboveBuildRoundTrip': WHATEVER THE INPUT: true; the input reads as it did. -/
def fnSplitAboveBuildRoundTripSpec : ChangeSpec := { name := "fnSplitAboveBuildRoundTrip", fn := fun _ => fun
  | [d1, d2] => { results := [.lit (.bool true)], args := [d1, d2] }
  | _ => none }
def fnSplitAboveBuildRoundTripRow : OpenClaim := { program := "qxb6604291amods", sum := "e3429e4b25a7aaf621993f5297f75dcabfd126d30cfee0717b1e10b5f50586b7", func := "example.com/tallyledger/tallyledger/zzlaws_pricing_b1.FnSplitAboveBuildRoundTrip", spec := "fnSplitAboveBuildRoundTrip", make := .lifted ["publicsums"], apart := false }
def FnSplitAboveBuildRoundTripSaid : Prop := fnSplitAboveBuildRoundTripRow.holds Trym.pinned (OpenSpec.ofChange fnSplitAboveBuildRoundTripSpec)

/-- ITS FALSE NEIGHBOUR: 'it returns false'. Refute it at one input. -/
def fnSplitAboveBuildRoundTripWrong : ChangeSpec := { name := "fnSplitAboveBuildRoundTrip", fn := fun _ => fun
  | [d1, d2] => { results := [.lit (.bool false)], args := [d1, d2] }
  | _ => none }
def FnSplitAboveBuildRoundTripWrongFalsely : Prop := fnSplitAboveBuildRoundTripRow.holds Trym.pinned (OpenSpec.ofChange fnSplitAboveBuildRoundTripWrong)

end Rows
end Go.Proofs.Qxb6604291aMods
