/-
  No cell of these rows narrows 'for every input' (looked for: loops, veiled, ifaces, maps, wideKeys, modest, calm, conditions, laid).
  DERIVED. THE GIVEN ROWS OF THIS SEAT. 8 by the template 'for every input the law returns true; each argument reads behind the call as it read before'; 0 by the template 'total and deterministic' (their statements: Qxb6000715aTotals.lean).
  GIVEN WITH THE SEED: the statements are not yours to turn. If you find one false, say at which input.
  Laid BY PROGRAM, IN A SANDBOX (cutbox-rows.mjs): the forced cells as the released guide's own fill.sh prints them over the translation 7bc24fd260575a6c… (all of the seat's roots in one cut). By AI agents, Wed Nov 11 2026. No macro, syntax, notation, axiom, sorry.
-/
import Derived.Test.Qxb6000715aChecked
import GoSem.Claim
import GoSem.ClaimJoined
import GoSem.ClaimMapViews
import Derived.JoinedTies
import Derived.KernelRfl
namespace Go.Proofs.Qxb6000715a
/- THE CELL 'sum', in the pinned program and in every row, IS THE sha256 OF THE DUMP (.gsa) THAT Qxb6000715aProg.lean LOADS. Nothing in Lean hashes anything: it is a label: what it is worth is what the hold of that sum in a sandbox is worth. -/
noncomputable def Try.pinned : Pinned := { name := "qxb6000715a", sum := "7bc24fd260575a6c44d1d3c6212d962a42d9df2f37654ff6e1f07c825e07efec", checked := Try.checked }
namespace Rows
def none {H : Type} : Left H := { results := [], args := [] }

/-- 'zzlaws_root_b1.FnSplitReferenceTagCarriesNoSeparator': WHATEVER THE INPUT: true; the input reads as it did. -/
def fnSplitReferenceTagCarriesNoSeparatorSpec : ChangeSpec := { name := "fnSplitReferenceTagCarriesNoSeparator", fn := fun _ => fun
  | [d] => { results := [.lit (.bool true)], args := [d] }
  | _ => none }
def fnSplitReferenceTagCarriesNoSeparatorRow : OpenClaim := { program := "qxb6000715a", sum := "7bc24fd260575a6c44d1d3c6212d962a42d9df2f37654ff6e1f07c825e07efec", func := "example.com/terrarium-rig/terrarium-rig/zzlaws_root_b1.FnSplitReferenceTagCarriesNoSeparator", spec := "fnSplitReferenceTagCarriesNoSeparator", inPlace := ["internal/bytealg.IndexByteString", "internal/bytealg.IndexString"], named := ["internal/bytealg.MaxLen"], apart := false }
def FnSplitReferenceTagCarriesNoSeparatorSaid : Prop := fnSplitReferenceTagCarriesNoSeparatorRow.holds Try.pinned (OpenSpec.ofChange fnSplitReferenceTagCarriesNoSeparatorSpec)

/-- ITS FALSE NEIGHBOUR: 'it returns false'. Refute it at one input. -/
def fnSplitReferenceTagCarriesNoSeparatorWrong : ChangeSpec := { name := "fnSplitReferenceTagCarriesNoSeparator", fn := fun _ => fun
  | [d] => { results := [.lit (.bool false)], args := [d] }
  | _ => none }
def FnSplitReferenceTagCarriesNoSeparatorWrongFalsely : Prop := fnSplitReferenceTagCarriesNoSeparatorRow.holds Try.pinned (OpenSpec.ofChange fnSplitReferenceTagCarriesNoSeparatorWrong)

/-- 'zzlaws_root_b1.FnSplitReferenceComposeRoundTrip': WHATEVER THE INPUT: true; the input reads as it did. -/
def fnSplitReferenceComposeRoundTripSpec : ChangeSpec := { name := "fnSplitReferenceComposeRoundTrip", fn := fun _ => fun
  | [d1, d2, d3] => { results := [.lit (.bool true)], args := [d1, d2, d3] }
  | _ => none }
def fnSplitReferenceComposeRoundTripRow : OpenClaim := { program := "qxb6000715a", sum := "7bc24fd260575a6c44d1d3c6212d962a42d9df2f37654ff6e1f07c825e07efec", func := "example.com/terrarium-rig/terrarium-rig/zzlaws_root_b1.FnSplitReferenceComposeRoundTrip", spec := "fnSplitReferenceComposeRoundTrip", inPlace := ["internal/bytealg.IndexByteString", "internal/bytealg.IndexString"], named := ["internal/bytealg.MaxLen"], apart := false }
def FnSplitReferenceComposeRoundTripSaid : Prop := fnSplitReferenceComposeRoundTripRow.holds Try.pinned (OpenSpec.ofChange fnSplitReferenceComposeRoundTripSpec)

/-- ITS FALSE NEIGHBOUR: 'it returns false'. Refute it at one input. -/
def fnSplitReferenceComposeRoundTripWrong : ChangeSpec := { name := "fnSplitReferenceComposeRoundTrip", fn := fun _ => fun
  | [d1, d2, d3] => { results := [.lit (.bool false)], args := [d1, d2, d3] }
  | _ => none }
def FnSplitReferenceComposeRoundTripWrongFalsely : Prop := fnSplitReferenceComposeRoundTripRow.holds Try.pinned (OpenSpec.ofChange fnSplitReferenceComposeRoundTripWrong)

/-- 'zzlaws_root_b1.FnSplitReferenceHalvesArePieces': WHATEVER THE INPUT: true; the input reads as it did. -/
def fnSplitReferenceHalvesArePiecesSpec : ChangeSpec := { name := "fnSplitReferenceHalvesArePieces", fn := fun _ => fun
  | [d] => { results := [.lit (.bool true)], args := [d] }
  | _ => none }
def fnSplitReferenceHalvesArePiecesRow : OpenClaim := { program := "qxb6000715a", sum := "7bc24fd260575a6c44d1d3c6212d962a42d9df2f37654ff6e1f07c825e07efec", func := "example.com/terrarium-rig/terrarium-rig/zzlaws_root_b1.FnSplitReferenceHalvesArePieces", spec := "fnSplitReferenceHalvesArePieces", inPlace := ["internal/bytealg.IndexByteString", "internal/bytealg.IndexString"], named := ["internal/bytealg.MaxLen"], apart := false }
def FnSplitReferenceHalvesArePiecesSaid : Prop := fnSplitReferenceHalvesArePiecesRow.holds Try.pinned (OpenSpec.ofChange fnSplitReferenceHalvesArePiecesSpec)

/-- ITS FALSE NEIGHBOUR: 'it returns false'. Refute it at one input. -/
def fnSplitReferenceHalvesArePiecesWrong : ChangeSpec := { name := "fnSplitReferenceHalvesArePieces", fn := fun _ => fun
  | [d] => { results := [.lit (.bool false)], args := [d] }
  | _ => none }
def FnSplitReferenceHalvesArePiecesWrongFalsely : Prop := fnSplitReferenceHalvesArePiecesRow.holds Try.pinned (OpenSpec.ofChange fnSplitReferenceHalvesArePiecesWrong)

/-- 'zzlaws_root_b1.FnRegistryOfResultShape': WHATEVER THE INPUT: true; the input reads as it did. -/
def fnRegistryOfResultShapeSpec : ChangeSpec := { name := "fnRegistryOfResultShape", fn := fun _ => fun
  | [d] => { results := [.lit (.bool true)], args := [d] }
  | _ => none }
def fnRegistryOfResultShapeRow : OpenClaim := { program := "qxb6000715a", sum := "7bc24fd260575a6c44d1d3c6212d962a42d9df2f37654ff6e1f07c825e07efec", func := "example.com/terrarium-rig/terrarium-rig/zzlaws_root_b1.FnRegistryOfResultShape", spec := "fnRegistryOfResultShape", inPlace := ["internal/bytealg.IndexByteString", "internal/bytealg.IndexString"], named := ["internal/bytealg.MaxLen"], apart := false }
def FnRegistryOfResultShapeSaid : Prop := fnRegistryOfResultShapeRow.holds Try.pinned (OpenSpec.ofChange fnRegistryOfResultShapeSpec)

/-- ITS FALSE NEIGHBOUR: 'it returns false'. Refute it at one input. -/
def fnRegistryOfResultShapeWrong : ChangeSpec := { name := "fnRegistryOfResultShape", fn := fun _ => fun
  | [d] => { results := [.lit (.bool false)], args := [d] }
  | _ => none }
def FnRegistryOfResultShapeWrongFalsely : Prop := fnRegistryOfResultShapeRow.holds Try.pinned (OpenSpec.ofChange fnRegistryOfResultShapeWrong)

/-- 'zzlaws_root_b1.FnRegistryOfIgnoresVersion': WHATEVER THE INPUT: true; the input reads as it did. -/
def fnRegistryOfIgnoresVersionSpec : ChangeSpec := { name := "fnRegistryOfIgnoresVersion", fn := fun _ => fun
  | [d1, d2, d3] => { results := [.lit (.bool true)], args := [d1, d2, d3] }
  | _ => none }
def fnRegistryOfIgnoresVersionRow : OpenClaim := { program := "qxb6000715a", sum := "7bc24fd260575a6c44d1d3c6212d962a42d9df2f37654ff6e1f07c825e07efec", func := "example.com/terrarium-rig/terrarium-rig/zzlaws_root_b1.FnRegistryOfIgnoresVersion", spec := "fnRegistryOfIgnoresVersion", inPlace := ["internal/bytealg.IndexByteString", "internal/bytealg.IndexString"], named := ["internal/bytealg.MaxLen"], apart := false }
def FnRegistryOfIgnoresVersionSaid : Prop := fnRegistryOfIgnoresVersionRow.holds Try.pinned (OpenSpec.ofChange fnRegistryOfIgnoresVersionSpec)

/-- ITS FALSE NEIGHBOUR: 'it returns false'. Refute it at one input. -/
def fnRegistryOfIgnoresVersionWrong : ChangeSpec := { name := "fnRegistryOfIgnoresVersion", fn := fun _ => fun
  | [d1, d2, d3] => { results := [.lit (.bool false)], args := [d1, d2, d3] }
  | _ => none }
def FnRegistryOfIgnoresVersionWrongFalsely : Prop := fnRegistryOfIgnoresVersionRow.holds Try.pinned (OpenSpec.ofChange fnRegistryOfIgnoresVersionWrong)

/-- 'zzlaws_root_b1.FnRegistryOfNamedHost': WHATEVER THE INPUT: true; the input reads as it did. -/
def fnRegistryOfNamedHostSpec : ChangeSpec := { name := "fnRegistryOfNamedHost", fn := fun _ => fun
  | [d1, d2] => { results := [.lit (.bool true)], args := [d1, d2] }
  | _ => none }
def fnRegistryOfNamedHostRow : OpenClaim := { program := "qxb6000715a", sum := "7bc24fd260575a6c44d1d3c6212d962a42d9df2f37654ff6e1f07c825e07efec", func := "example.com/terrarium-rig/terrarium-rig/zzlaws_root_b1.FnRegistryOfNamedHost", spec := "fnRegistryOfNamedHost", inPlace := ["internal/bytealg.IndexByteString", "internal/bytealg.IndexString"], named := ["internal/bytealg.MaxLen"], apart := false }
def FnRegistryOfNamedHostSaid : Prop := fnRegistryOfNamedHostRow.holds Try.pinned (OpenSpec.ofChange fnRegistryOfNamedHostSpec)

/-- ITS FALSE NEIGHBOUR: 'it returns false'. Refute it at one input. -/
def fnRegistryOfNamedHostWrong : ChangeSpec := { name := "fnRegistryOfNamedHost", fn := fun _ => fun
  | [d1, d2] => { results := [.lit (.bool false)], args := [d1, d2] }
  | _ => none }
def FnRegistryOfNamedHostWrongFalsely : Prop := fnRegistryOfNamedHostRow.holds Try.pinned (OpenSpec.ofChange fnRegistryOfNamedHostWrong)

/-- 'zzlaws_root_b1.FnReplicaNamesLayout': WHATEVER THE INPUT: true; the input reads as it did. -/
def fnReplicaNamesLayoutSpec : ChangeSpec := { name := "fnReplicaNamesLayout", fn := fun _ => fun
  | [d1, d2, d3, d4] => { results := [.lit (.bool true)], args := [d1, d2, d3, d4] }
  | _ => none }
def fnReplicaNamesLayoutRow : OpenClaim := { program := "qxb6000715a", sum := "7bc24fd260575a6c44d1d3c6212d962a42d9df2f37654ff6e1f07c825e07efec", func := "example.com/terrarium-rig/terrarium-rig/zzlaws_root_b1.FnReplicaNamesLayout", spec := "fnReplicaNamesLayout", apart := false }
def FnReplicaNamesLayoutSaid : Prop := fnReplicaNamesLayoutRow.holds Try.pinned (OpenSpec.ofChange fnReplicaNamesLayoutSpec)

/-- ITS FALSE NEIGHBOUR: 'it returns false'. Refute it at one input. -/
def fnReplicaNamesLayoutWrong : ChangeSpec := { name := "fnReplicaNamesLayout", fn := fun _ => fun
  | [d1, d2, d3, d4] => { results := [.lit (.bool false)], args := [d1, d2, d3, d4] }
  | _ => none }
def FnReplicaNamesLayoutWrongFalsely : Prop := fnReplicaNamesLayoutRow.holds Try.pinned (OpenSpec.ofChange fnReplicaNamesLayoutWrong)

/-- 'zzlaws_root_b1.FnReplicaNamesGrowByAppending': WHATEVER THE INPUT: true; the input reads as it did. -/
def fnReplicaNamesGrowByAppendingSpec : ChangeSpec := { name := "fnReplicaNamesGrowByAppending", fn := fun _ => fun
  | [d1, d2, d3, d4, d5] => { results := [.lit (.bool true)], args := [d1, d2, d3, d4, d5] }
  | _ => none }
def fnReplicaNamesGrowByAppendingRow : OpenClaim := { program := "qxb6000715a", sum := "7bc24fd260575a6c44d1d3c6212d962a42d9df2f37654ff6e1f07c825e07efec", func := "example.com/terrarium-rig/terrarium-rig/zzlaws_root_b1.FnReplicaNamesGrowByAppending", spec := "fnReplicaNamesGrowByAppending", apart := false }
def FnReplicaNamesGrowByAppendingSaid : Prop := fnReplicaNamesGrowByAppendingRow.holds Try.pinned (OpenSpec.ofChange fnReplicaNamesGrowByAppendingSpec)

/-- ITS FALSE NEIGHBOUR: 'it returns false'. Refute it at one input. -/
def fnReplicaNamesGrowByAppendingWrong : ChangeSpec := { name := "fnReplicaNamesGrowByAppending", fn := fun _ => fun
  | [d1, d2, d3, d4, d5] => { results := [.lit (.bool false)], args := [d1, d2, d3, d4, d5] }
  | _ => none }
def FnReplicaNamesGrowByAppendingWrongFalsely : Prop := fnReplicaNamesGrowByAppendingRow.holds Try.pinned (OpenSpec.ofChange fnReplicaNamesGrowByAppendingWrong)

end Rows
end Go.Proofs.Qxb6000715a
