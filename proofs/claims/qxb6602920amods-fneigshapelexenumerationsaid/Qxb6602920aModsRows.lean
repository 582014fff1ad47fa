/-
  No cell of these rows narrows 'for every input' (looked for: loops, veiled, ifaces, maps, wideKeys, modest, calm, conditions, laid).
  DERIVED. THE GIVEN ROWS OF THIS SEAT. 5 by the template 'for every input the law returns true; each argument reads behind the call as it read before'; 0 by the template 'total and deterministic' (their statements: Qxb6602920aModsTotals.lean).
  GIVEN WITH THE SEED: the statements are not yours to turn. If you find one false, say at which input.
  Laid BY PROGRAM, IN A SANDBOX (cutbox-rows.mjs): the forced cells as the released guide's own fill.sh prints them over the translation 43276d9501debbe8… (all of the seat's roots in one cut). By AI agents, Wed Nov 11 2026. No macro, syntax, notation, axiom, sorry.
-/
import Derived.Test.Qxb6602920aModsChecked
import GoSem.Claim
import GoSem.ClaimJoined
import GoSem.ClaimMapViews
import Derived.JoinedTies
import Derived.KernelRfl
namespace Go.Proofs.Qxb6602920aMods
/- THE CELL 'sum', in the pinned program and in every row, IS THE sha256 OF THE DUMP (.gsa) THAT Qxb6602920aModsProg.lean LOADS. Nothing in Lean hashes anything: it is a label: what it is worth is what the hold of that sum in a sandbox is worth. -/
noncomputable def Trym.pinned : Pinned := { name := "qxb6602920amods", sum := "43276d9501debbe81a824698ef331a1fefd06cbf1d9f76a9fd6b299e32f15d6d", checked := Trym.checked }
namespace Rows
def none {H : Type} : Left H := { results := [], args := [] }

/-- 'zzlaws_root_b1.FnEIGShapeLexEnumeration': WHATEVER THE INPUT: true; the input reads as it did. -/
def fnEIGShapeLexEnumerationSpec : ChangeSpec := { name := "fnEIGShapeLexEnumeration", fn := fun _ => fun
  | [d1, d2] => { results := [.lit (.bool true)], args := [d1, d2] }
  | _ => none }
def fnEIGShapeLexEnumerationRow : OpenClaim := { program := "qxb6602920amods", sum := "43276d9501debbe81a824698ef331a1fefd06cbf1d9f76a9fd6b299e32f15d6d", func := "example.com/fusillade/fusillade/zzlaws_root_b1.FnEIGShapeLexEnumeration", spec := "fnEIGShapeLexEnumeration", make := .lifted ["publicsums"], apart := false }
def FnEIGShapeLexEnumerationSaid : Prop := fnEIGShapeLexEnumerationRow.holds Trym.pinned (OpenSpec.ofChange fnEIGShapeLexEnumerationSpec)

/-- ITS FALSE NEIGHBOUR: 'it returns false'. Refute it at one input. -/
def fnEIGShapeLexEnumerationWrong : ChangeSpec := { name := "fnEIGShapeLexEnumeration", fn := fun _ => fun
  | [d1, d2] => { results := [.lit (.bool false)], args := [d1, d2] }
  | _ => none }
def FnEIGShapeLexEnumerationWrongFalsely : Prop := fnEIGShapeLexEnumerationRow.holds Trym.pinned (OpenSpec.ofChange fnEIGShapeLexEnumerationWrong)

/-- 'zzlaws_root_b1.FnEIGShapeChildIndex': WHATEVER THE INPUT: true; the input reads as it did. -/
def fnEIGShapeChildIndexSpec : ChangeSpec := { name := "fnEIGShapeChildIndex", fn := fun _ => fun
  | [d1, d2] => { results := [.lit (.bool true)], args := [d1, d2] }
  | _ => none }
def fnEIGShapeChildIndexRow : OpenClaim := { program := "qxb6602920amods", sum := "43276d9501debbe81a824698ef331a1fefd06cbf1d9f76a9fd6b299e32f15d6d", func := "example.com/fusillade/fusillade/zzlaws_root_b1.FnEIGShapeChildIndex", spec := "fnEIGShapeChildIndex", make := .lifted ["publicsums"], apart := false }
def FnEIGShapeChildIndexSaid : Prop := fnEIGShapeChildIndexRow.holds Trym.pinned (OpenSpec.ofChange fnEIGShapeChildIndexSpec)

/-- ITS FALSE NEIGHBOUR: 'it returns false'. Refute it at one input. -/
def fnEIGShapeChildIndexWrong : ChangeSpec := { name := "fnEIGShapeChildIndex", fn := fun _ => fun
  | [d1, d2] => { results := [.lit (.bool false)], args := [d1, d2] }
  | _ => none }
def FnEIGShapeChildIndexWrongFalsely : Prop := fnEIGShapeChildIndexRow.holds Trym.pinned (OpenSpec.ofChange fnEIGShapeChildIndexWrong)

/-- 'zzlaws_root_b1.FnEIGStoreOrderFree': WHATEVER THE INPUT: true; the input reads as it did. -/
def fnEIGStoreOrderFreeSpec : ChangeSpec := { name := "fnEIGStoreOrderFree", fn := fun _ => fun
  | [d1, d2, d3, d4, d5, d6, d7, d8, d9] => { results := [.lit (.bool true)], args := [d1, d2, d3, d4, d5, d6, d7, d8, d9] }
  | _ => none }
def fnEIGStoreOrderFreeRow : OpenClaim := { program := "qxb6602920amods", sum := "43276d9501debbe81a824698ef331a1fefd06cbf1d9f76a9fd6b299e32f15d6d", func := "example.com/fusillade/fusillade/zzlaws_root_b1.FnEIGStoreOrderFree", spec := "fnEIGStoreOrderFree", make := .lifted ["publicsums"], apart := false }
def FnEIGStoreOrderFreeSaid : Prop := fnEIGStoreOrderFreeRow.holds Trym.pinned (OpenSpec.ofChange fnEIGStoreOrderFreeSpec)

/-- ITS FALSE NEIGHBOUR: 'it returns false'. Refute it at one input. -/
def fnEIGStoreOrderFreeWrong : ChangeSpec := { name := "fnEIGStoreOrderFree", fn := fun _ => fun
  | [d1, d2, d3, d4, d5, d6, d7, d8, d9] => { results := [.lit (.bool false)], args := [d1, d2, d3, d4, d5, d6, d7, d8, d9] }
  | _ => none }
def FnEIGStoreOrderFreeWrongFalsely : Prop := fnEIGStoreOrderFreeRow.holds Trym.pinned (OpenSpec.ofChange fnEIGStoreOrderFreeWrong)

/-- 'zzlaws_root_b1.FnEIGDecideIdempotent': WHATEVER THE INPUT: true; the input reads as it did. -/
def fnEIGDecideIdempotentSpec : ChangeSpec := { name := "fnEIGDecideIdempotent", fn := fun _ => fun
  | [d1, d2, d3] => { results := [.lit (.bool true)], args := [d1, d2, d3] }
  | _ => none }
def fnEIGDecideIdempotentRow : OpenClaim := { program := "qxb6602920amods", sum := "43276d9501debbe81a824698ef331a1fefd06cbf1d9f76a9fd6b299e32f15d6d", func := "example.com/fusillade/fusillade/zzlaws_root_b1.FnEIGDecideIdempotent", spec := "fnEIGDecideIdempotent", inPlace := ["internal/bytealg.Count", "internal/bytealg.IndexByte", "internal/bytealg.Index"], named := ["internal/bytealg.MaxLen"], make := .lifted ["publicsums"], apart := false }
def FnEIGDecideIdempotentSaid : Prop := fnEIGDecideIdempotentRow.holds Trym.pinned (OpenSpec.ofChange fnEIGDecideIdempotentSpec)

/-- ITS FALSE NEIGHBOUR: 'it returns false'. Refute it at one input. -/
def fnEIGDecideIdempotentWrong : ChangeSpec := { name := "fnEIGDecideIdempotent", fn := fun _ => fun
  | [d1, d2, d3] => { results := [.lit (.bool false)], args := [d1, d2, d3] }
  | _ => none }
def FnEIGDecideIdempotentWrongFalsely : Prop := fnEIGDecideIdempotentRow.holds Trym.pinned (OpenSpec.ofChange fnEIGDecideIdempotentWrong)

/-- 'zzlaws_root_b1.FnEIGDecideMonotone': WHATEVER THE INPUT: true; the input reads as it did. -/
def fnEIGDecideMonotoneSpec : ChangeSpec := { name := "fnEIGDecideMonotone", fn := fun _ => fun
  | [d1, d2, d3, d4] => { results := [.lit (.bool true)], args := [d1, d2, d3, d4] }
  | _ => none }
def fnEIGDecideMonotoneRow : OpenClaim := { program := "qxb6602920amods", sum := "43276d9501debbe81a824698ef331a1fefd06cbf1d9f76a9fd6b299e32f15d6d", func := "example.com/fusillade/fusillade/zzlaws_root_b1.FnEIGDecideMonotone", spec := "fnEIGDecideMonotone", inPlace := ["internal/bytealg.Count", "internal/bytealg.IndexByte", "internal/bytealg.Index"], named := ["internal/bytealg.MaxLen"], make := .lifted ["publicsums"], apart := false }
def FnEIGDecideMonotoneSaid : Prop := fnEIGDecideMonotoneRow.holds Trym.pinned (OpenSpec.ofChange fnEIGDecideMonotoneSpec)

/-- ITS FALSE NEIGHBOUR: 'it returns false'. Refute it at one input. -/
def fnEIGDecideMonotoneWrong : ChangeSpec := { name := "fnEIGDecideMonotone", fn := fun _ => fun
  | [d1, d2, d3, d4] => { results := [.lit (.bool false)], args := [d1, d2, d3, d4] }
  | _ => none }
def FnEIGDecideMonotoneWrongFalsely : Prop := fnEIGDecideMonotoneRow.holds Trym.pinned (OpenSpec.ofChange fnEIGDecideMonotoneWrong)

end Rows
end Go.Proofs.Qxb6602920aMods
