/-
  No cell of these rows narrows 'for every input' (looked for: loops, veiled, ifaces, maps, wideKeys, modest, calm, conditions, laid).
  DERIVED. THE GIVEN ROWS OF THIS SEAT. 6 by the template 'for every input the law returns true; each argument reads behind the call as it read before'; 0 by the template 'total and deterministic' (their statements: Qxb6603324aModsTotals.lean).
  GIVEN WITH THE SEED: the statements are not yours to turn. If you find one false, say at which input.
  Laid BY PROGRAM, IN A SANDBOX (cutbox-rows.mjs): the forced cells as the released guide's own fill.sh prints them over the translation 3d3c263efb7fd739… (all of the seat's roots in one cut). By AI agents, Wed Nov 11 2026. No macro, syntax, notation, axiom, sorry.
-/
import Derived.Test.Qxb6603324aModsChecked
import GoSem.Claim
import GoSem.ClaimJoined
import GoSem.ClaimMapViews
import Derived.JoinedTies
import Derived.KernelRfl
namespace Go.Proofs.Qxb6603324aMods
/- THE CELL 'sum', in the pinned program and in every row, IS THE sha256 OF THE DUMP (.gsa) THAT Qxb6603324aModsProg.lean LOADS. Nothing in Lean hashes anything: it is a label: what it is worth is what the hold of that sum in a sandbox is worth. -/
noncomputable def Trym.pinned : Pinned := { name := "qxb6603324amods", sum := "3d3c263efb7fd73933ab10ff177631d8aacd3cac37727cb959b1eb465c1ae794", checked := Trym.checked }
namespace Rows
def none {H : Type} : Left H := { results := [], args := [] }

/-- 'zzlaws_root_b1.FnCompareVersionsModel': WHATEVER THE INPUT: true; the input reads as it did. -/
def fnCompareVersionsModelSpec : ChangeSpec := { name := "fnCompareVersionsModel", fn := fun _ => fun
  | [d1, d2] => { results := [.lit (.bool true)], args := [d1, d2] }
  | _ => none }
def fnCompareVersionsModelRow : OpenClaim := { program := "qxb6603324amods", sum := "3d3c263efb7fd73933ab10ff177631d8aacd3cac37727cb959b1eb465c1ae794", func := "example.com/keyglass/keyglass/zzlaws_root_b1.FnCompareVersionsModel", spec := "fnCompareVersionsModel", make := .lifted ["publicsums"], apart := false }
def FnCompareVersionsModelSaid : Prop := fnCompareVersionsModelRow.holds Trym.pinned (OpenSpec.ofChange fnCompareVersionsModelSpec)

/-- ITS FALSE NEIGHBOUR: 'it returns false'. Refute it at one input. -/
def fnCompareVersionsModelWrong : ChangeSpec := { name := "fnCompareVersionsModel", fn := fun _ => fun
  | [d1, d2] => { results := [.lit (.bool false)], args := [d1, d2] }
  | _ => none }
def FnCompareVersionsModelWrongFalsely : Prop := fnCompareVersionsModelRow.holds Trym.pinned (OpenSpec.ofChange fnCompareVersionsModelWrong)

/-- 'zzlaws_root_b1.FnCompareVersionsAntisymmetric': WHATEVER THE INPUT: true; the input reads as it did. -/
def fnCompareVersionsAntisymmetricSpec : ChangeSpec := { name := "fnCompareVersionsAntisymmetric", fn := fun _ => fun
  | [d1, d2] => { results := [.lit (.bool true)], args := [d1, d2] }
  | _ => none }
def fnCompareVersionsAntisymmetricRow : OpenClaim := { program := "qxb6603324amods", sum := "3d3c263efb7fd73933ab10ff177631d8aacd3cac37727cb959b1eb465c1ae794", func := "example.com/keyglass/keyglass/zzlaws_root_b1.FnCompareVersionsAntisymmetric", spec := "fnCompareVersionsAntisymmetric", make := .lifted ["publicsums"], apart := false }
def FnCompareVersionsAntisymmetricSaid : Prop := fnCompareVersionsAntisymmetricRow.holds Trym.pinned (OpenSpec.ofChange fnCompareVersionsAntisymmetricSpec)

/-- ITS FALSE NEIGHBOUR: 'it returns false'. Refute it at one input. -/
def fnCompareVersionsAntisymmetricWrong : ChangeSpec := { name := "fnCompareVersionsAntisymmetric", fn := fun _ => fun
  | [d1, d2] => { results := [.lit (.bool false)], args := [d1, d2] }
  | _ => none }
def FnCompareVersionsAntisymmetricWrongFalsely : Prop := fnCompareVersionsAntisymmetricRow.holds Trym.pinned (OpenSpec.ofChange fnCompareVersionsAntisymmetricWrong)

/-- 'zzlaws_root_b1.FnCompareVersionsTransitive': WHATEVER THE INPUT: true; the input reads as it did. -/
def fnCompareVersionsTransitiveSpec : ChangeSpec := { name := "fnCompareVersionsTransitive", fn := fun _ => fun
  | [d1, d2, d3] => { results := [.lit (.bool true)], args := [d1, d2, d3] }
  | _ => none }
def fnCompareVersionsTransitiveRow : OpenClaim := { program := "qxb6603324amods", sum := "3d3c263efb7fd73933ab10ff177631d8aacd3cac37727cb959b1eb465c1ae794", func := "example.com/keyglass/keyglass/zzlaws_root_b1.FnCompareVersionsTransitive", spec := "fnCompareVersionsTransitive", make := .lifted ["publicsums"], apart := false }
def FnCompareVersionsTransitiveSaid : Prop := fnCompareVersionsTransitiveRow.holds Trym.pinned (OpenSpec.ofChange fnCompareVersionsTransitiveSpec)

/-- ITS FALSE NEIGHBOUR: 'it returns false'. Refute it at one input. -/
def fnCompareVersionsTransitiveWrong : ChangeSpec := { name := "fnCompareVersionsTransitive", fn := fun _ => fun
  | [d1, d2, d3] => { results := [.lit (.bool false)], args := [d1, d2, d3] }
  | _ => none }
def FnCompareVersionsTransitiveWrongFalsely : Prop := fnCompareVersionsTransitiveRow.holds Trym.pinned (OpenSpec.ofChange fnCompareVersionsTransitiveWrong)

/-- 'zzlaws_root_b1.FnOwnUpdatesStep': WHATEVER THE INPUT: true; the input reads as it did. -/
def fnOwnUpdatesStepSpec : ChangeSpec := { name := "fnOwnUpdatesStep", fn := fun _ => fun
  | [d1, d2] => { results := [.lit (.bool true)], args := [d1, d2] }
  | _ => none }
def fnOwnUpdatesStepRow : OpenClaim := { program := "qxb6603324amods", sum := "3d3c263efb7fd73933ab10ff177631d8aacd3cac37727cb959b1eb465c1ae794", func := "example.com/keyglass/keyglass/zzlaws_root_b1.FnOwnUpdatesStep", spec := "fnOwnUpdatesStep", unfollowed := true, recurses := true, make := .lifted ["publicsums"], apart := false }
def FnOwnUpdatesStepSaid : Prop := fnOwnUpdatesStepRow.holds Trym.pinned (OpenSpec.ofChange fnOwnUpdatesStepSpec)

/-- ITS FALSE NEIGHBOUR: 'it returns false'. Refute it at one input. -/
def fnOwnUpdatesStepWrong : ChangeSpec := { name := "fnOwnUpdatesStep", fn := fun _ => fun
  | [d1, d2] => { results := [.lit (.bool false)], args := [d1, d2] }
  | _ => none }
def FnOwnUpdatesStepWrongFalsely : Prop := fnOwnUpdatesStepRow.holds Trym.pinned (OpenSpec.ofChange fnOwnUpdatesStepWrong)

/-- 'zzlaws_root_b1.FnOwnUpdatesPrefix': WHATEVER THE INPUT: true; the input reads as it did. -/
def fnOwnUpdatesPrefixSpec : ChangeSpec := { name := "fnOwnUpdatesPrefix", fn := fun _ => fun
  | [d1, d2] => { results := [.lit (.bool true)], args := [d1, d2] }
  | _ => none }
def fnOwnUpdatesPrefixRow : OpenClaim := { program := "qxb6603324amods", sum := "3d3c263efb7fd73933ab10ff177631d8aacd3cac37727cb959b1eb465c1ae794", func := "example.com/keyglass/keyglass/zzlaws_root_b1.FnOwnUpdatesPrefix", spec := "fnOwnUpdatesPrefix", unfollowed := true, recurses := true, make := .lifted ["publicsums"], apart := false }
def FnOwnUpdatesPrefixSaid : Prop := fnOwnUpdatesPrefixRow.holds Trym.pinned (OpenSpec.ofChange fnOwnUpdatesPrefixSpec)

/-- ITS FALSE NEIGHBOUR: 'it returns false'. Refute it at one input. -/
def fnOwnUpdatesPrefixWrong : ChangeSpec := { name := "fnOwnUpdatesPrefix", fn := fun _ => fun
  | [d1, d2] => { results := [.lit (.bool false)], args := [d1, d2] }
  | _ => none }
def FnOwnUpdatesPrefixWrongFalsely : Prop := fnOwnUpdatesPrefixRow.holds Trym.pinned (OpenSpec.ofChange fnOwnUpdatesPrefixWrong)

/-- 'zzlaws_root_b1.FnOwnUpdatesSentOnlyGrants': WHATEVER THE INPUT: true; the input reads as it did. -/
def fnOwnUpdatesSentOnlyGrantsSpec : ChangeSpec := { name := "fnOwnUpdatesSentOnlyGrants", fn := fun _ => fun
  | [d1, d2] => { results := [.lit (.bool true)], args := [d1, d2] }
  | _ => none }
def fnOwnUpdatesSentOnlyGrantsRow : OpenClaim := { program := "qxb6603324amods", sum := "3d3c263efb7fd73933ab10ff177631d8aacd3cac37727cb959b1eb465c1ae794", func := "example.com/keyglass/keyglass/zzlaws_root_b1.FnOwnUpdatesSentOnlyGrants", spec := "fnOwnUpdatesSentOnlyGrants", unfollowed := true, recurses := true, make := .lifted ["publicsums"], apart := false }
def FnOwnUpdatesSentOnlyGrantsSaid : Prop := fnOwnUpdatesSentOnlyGrantsRow.holds Trym.pinned (OpenSpec.ofChange fnOwnUpdatesSentOnlyGrantsSpec)

/-- ITS FALSE NEIGHBOUR: 'it returns false'. Refute it at one input. -/
def fnOwnUpdatesSentOnlyGrantsWrong : ChangeSpec := { name := "fnOwnUpdatesSentOnlyGrants", fn := fun _ => fun
  | [d1, d2] => { results := [.lit (.bool false)], args := [d1, d2] }
  | _ => none }
def FnOwnUpdatesSentOnlyGrantsWrongFalsely : Prop := fnOwnUpdatesSentOnlyGrantsRow.holds Trym.pinned (OpenSpec.ofChange fnOwnUpdatesSentOnlyGrantsWrong)

end Rows
end Go.Proofs.Qxb6603324aMods
