/-
  No cell of these rows narrows 'for every input' (looked for: loops, veiled, ifaces, maps, wideKeys, modest, calm, conditions, laid).
  DERIVED. THE GIVEN ROWS OF THIS SEAT. 9 by the template 'for every input the law returns true; each argument reads behind the call as it read before'; 0 by the template 'total and deterministic' (their statements: Qxb6600191aTotals.lean).
  GIVEN WITH THE SEED: the statements are not yours to turn. If you find one false, say at which input.
  Laid BY PROGRAM, IN A SANDBOX (cutbox-rows.mjs): the forced cells as the released guide's own fill.sh prints them over the translation c6fc67328d54f024… (all of the seat's roots in one cut). By AI agents, Wed Nov 11 2026. No macro, syntax, notation, axiom, sorry.
-/
import Derived.Test.Qxb6600191aChecked
import GoSem.Claim
import GoSem.ClaimJoined
import GoSem.ClaimMapViews
import Derived.JoinedTies
import Derived.KernelRfl
namespace Go.Proofs.Qxb6600191a
/- THE CELL 'sum', in the pinned program and in every row, IS THE sha256 OF THE DUMP (.gsa) THAT Qxb6600191aProg.lean LOADS. Nothing in Lean hashes anything: it is a label: what it is worth is what the hold of that sum in a sandbox is worth. -/
noncomputable def Try.pinned : Pinned := { name := "qxb6600191a", sum := "c6fc67328d54f024f7f026bdb75170564a02bed27c96e9c7e6f36a94d86b3f23", checked := Try.checked }
namespace Rows
def none {H : Type} : Left H := { results := [], args := [] }

/-- 'zzlaws_policy_b1.FnSplitGlobSpec': WHATEVER THE INPUT: true; the input reads as it did. -/
def fnSplitGlobSpecSpec : ChangeSpec := { name := "fnSplitGlobSpec", fn := fun _ => fun
  | [d] => { results := [.lit (.bool true)], args := [d] }
  | _ => none }
def fnSplitGlobSpecRow : OpenClaim := { program := "qxb6600191a", sum := "c6fc67328d54f024f7f026bdb75170564a02bed27c96e9c7e6f36a94d86b3f23", func := "example.com/bailiwick/bailiwick/zzlaws_policy_b1.FnSplitGlobSpec", spec := "fnSplitGlobSpec", inPlace := ["internal/bytealg.IndexByteString", "internal/bytealg.IndexString"], named := ["internal/bytealg.MaxLen"], apart := false }
def FnSplitGlobSpecSaid : Prop := fnSplitGlobSpecRow.holds Try.pinned (OpenSpec.ofChange fnSplitGlobSpecSpec)

/-- ITS FALSE NEIGHBOUR: 'it returns false'. Refute it at one input. -/
def fnSplitGlobSpecWrong : ChangeSpec := { name := "fnSplitGlobSpec", fn := fun _ => fun
  | [d] => { results := [.lit (.bool false)], args := [d] }
  | _ => none }
def FnSplitGlobSpecWrongFalsely : Prop := fnSplitGlobSpecRow.holds Try.pinned (OpenSpec.ofChange fnSplitGlobSpecWrong)

/-- 'zzlaws_policy_b1.FnSplitGlobParts': WHATEVER THE INPUT: true; the input reads as it did. -/
def fnSplitGlobPartsSpec : ChangeSpec := { name := "fnSplitGlobParts", fn := fun _ => fun
  | [d] => { results := [.lit (.bool true)], args := [d] }
  | _ => none }
def fnSplitGlobPartsRow : OpenClaim := { program := "qxb6600191a", sum := "c6fc67328d54f024f7f026bdb75170564a02bed27c96e9c7e6f36a94d86b3f23", func := "example.com/bailiwick/bailiwick/zzlaws_policy_b1.FnSplitGlobParts", spec := "fnSplitGlobParts", inPlace := ["internal/bytealg.IndexByteString", "internal/bytealg.IndexString"], named := ["internal/bytealg.MaxLen"], apart := false }
def FnSplitGlobPartsSaid : Prop := fnSplitGlobPartsRow.holds Try.pinned (OpenSpec.ofChange fnSplitGlobPartsSpec)

/-- ITS FALSE NEIGHBOUR: 'it returns false'. Refute it at one input. -/
def fnSplitGlobPartsWrong : ChangeSpec := { name := "fnSplitGlobParts", fn := fun _ => fun
  | [d] => { results := [.lit (.bool false)], args := [d] }
  | _ => none }
def FnSplitGlobPartsWrongFalsely : Prop := fnSplitGlobPartsRow.holds Try.pinned (OpenSpec.ofChange fnSplitGlobPartsWrong)

/-- 'zzlaws_policy_b1.FnSplitGlobExtend': WHATEVER THE INPUT: true; the input reads as it did. -/
def fnSplitGlobExtendSpec : ChangeSpec := { name := "fnSplitGlobExtend", fn := fun _ => fun
  | [d1, d2] => { results := [.lit (.bool true)], args := [d1, d2] }
  | _ => none }
def fnSplitGlobExtendRow : OpenClaim := { program := "qxb6600191a", sum := "c6fc67328d54f024f7f026bdb75170564a02bed27c96e9c7e6f36a94d86b3f23", func := "example.com/bailiwick/bailiwick/zzlaws_policy_b1.FnSplitGlobExtend", spec := "fnSplitGlobExtend", inPlace := ["internal/bytealg.IndexByteString", "internal/bytealg.IndexString"], named := ["internal/bytealg.MaxLen"], apart := false }
def FnSplitGlobExtendSaid : Prop := fnSplitGlobExtendRow.holds Try.pinned (OpenSpec.ofChange fnSplitGlobExtendSpec)

/-- ITS FALSE NEIGHBOUR: 'it returns false'. Refute it at one input. -/
def fnSplitGlobExtendWrong : ChangeSpec := { name := "fnSplitGlobExtend", fn := fun _ => fun
  | [d1, d2] => { results := [.lit (.bool false)], args := [d1, d2] }
  | _ => none }
def FnSplitGlobExtendWrongFalsely : Prop := fnSplitGlobExtendRow.holds Try.pinned (OpenSpec.ofChange fnSplitGlobExtendWrong)

/-- 'zzlaws_policy_b1.FnPlainNamesSpec': WHATEVER THE INPUT: true; the input reads as it did. -/
def fnPlainNamesSpecSpec : ChangeSpec := { name := "fnPlainNamesSpec", fn := fun _ => fun
  | [d] => { results := [.lit (.bool true)], args := [d] }
  | _ => none }
def fnPlainNamesSpecRow : OpenClaim := { program := "qxb6600191a", sum := "c6fc67328d54f024f7f026bdb75170564a02bed27c96e9c7e6f36a94d86b3f23", func := "example.com/bailiwick/bailiwick/zzlaws_policy_b1.FnPlainNamesSpec", spec := "fnPlainNamesSpec", apart := false }
def FnPlainNamesSpecSaid : Prop := fnPlainNamesSpecRow.holds Try.pinned (OpenSpec.ofChange fnPlainNamesSpecSpec)

/-- ITS FALSE NEIGHBOUR: 'it returns false'. Refute it at one input. -/
def fnPlainNamesSpecWrong : ChangeSpec := { name := "fnPlainNamesSpec", fn := fun _ => fun
  | [d] => { results := [.lit (.bool false)], args := [d] }
  | _ => none }
def FnPlainNamesSpecWrongFalsely : Prop := fnPlainNamesSpecRow.holds Try.pinned (OpenSpec.ofChange fnPlainNamesSpecWrong)

/-- 'zzlaws_policy_b1.FnPlainNamesPrefixPlain': WHATEVER THE INPUT: true; the input reads as it did. -/
def fnPlainNamesPrefixPlainSpec : ChangeSpec := { name := "fnPlainNamesPrefixPlain", fn := fun _ => fun
  | [d] => { results := [.lit (.bool true)], args := [d] }
  | _ => none }
def fnPlainNamesPrefixPlainRow : OpenClaim := { program := "qxb6600191a", sum := "c6fc67328d54f024f7f026bdb75170564a02bed27c96e9c7e6f36a94d86b3f23", func := "example.com/bailiwick/bailiwick/zzlaws_policy_b1.FnPlainNamesPrefixPlain", spec := "fnPlainNamesPrefixPlain", apart := false }
def FnPlainNamesPrefixPlainSaid : Prop := fnPlainNamesPrefixPlainRow.holds Try.pinned (OpenSpec.ofChange fnPlainNamesPrefixPlainSpec)

/-- ITS FALSE NEIGHBOUR: 'it returns false'. Refute it at one input. -/
def fnPlainNamesPrefixPlainWrong : ChangeSpec := { name := "fnPlainNamesPrefixPlain", fn := fun _ => fun
  | [d] => { results := [.lit (.bool false)], args := [d] }
  | _ => none }
def FnPlainNamesPrefixPlainWrongFalsely : Prop := fnPlainNamesPrefixPlainRow.holds Try.pinned (OpenSpec.ofChange fnPlainNamesPrefixPlainWrong)

/-- 'zzlaws_policy_b1.FnPlainNamesDecidedEarly': WHATEVER THE INPUT: true; the input reads as it did. -/
def fnPlainNamesDecidedEarlySpec : ChangeSpec := { name := "fnPlainNamesDecidedEarly", fn := fun _ => fun
  | [d1, d2] => { results := [.lit (.bool true)], args := [d1, d2] }
  | _ => none }
def fnPlainNamesDecidedEarlyRow : OpenClaim := { program := "qxb6600191a", sum := "c6fc67328d54f024f7f026bdb75170564a02bed27c96e9c7e6f36a94d86b3f23", func := "example.com/bailiwick/bailiwick/zzlaws_policy_b1.FnPlainNamesDecidedEarly", spec := "fnPlainNamesDecidedEarly", apart := false }
def FnPlainNamesDecidedEarlySaid : Prop := fnPlainNamesDecidedEarlyRow.holds Try.pinned (OpenSpec.ofChange fnPlainNamesDecidedEarlySpec)

/-- ITS FALSE NEIGHBOUR: 'it returns false'. Refute it at one input. -/
def fnPlainNamesDecidedEarlyWrong : ChangeSpec := { name := "fnPlainNamesDecidedEarly", fn := fun _ => fun
  | [d1, d2] => { results := [.lit (.bool false)], args := [d1, d2] }
  | _ => none }
def FnPlainNamesDecidedEarlyWrongFalsely : Prop := fnPlainNamesDecidedEarlyRow.holds Try.pinned (OpenSpec.ofChange fnPlainNamesDecidedEarlyWrong)

/-- 'zzlaws_policy_b1.FnMayClimbSpec': WHATEVER THE INPUT: true; the input reads as it did. -/
def fnMayClimbSpecSpec : ChangeSpec := { name := "fnMayClimbSpec", fn := fun _ => fun
  | [d] => { results := [.lit (.bool true)], args := [d] }
  | _ => none }
def fnMayClimbSpecRow : OpenClaim := { program := "qxb6600191a", sum := "c6fc67328d54f024f7f026bdb75170564a02bed27c96e9c7e6f36a94d86b3f23", func := "example.com/bailiwick/bailiwick/zzlaws_policy_b1.FnMayClimbSpec", spec := "fnMayClimbSpec", inPlace := ["internal/bytealg.IndexByteString"], apart := false }
def FnMayClimbSpecSaid : Prop := fnMayClimbSpecRow.holds Try.pinned (OpenSpec.ofChange fnMayClimbSpecSpec)

/-- ITS FALSE NEIGHBOUR: 'it returns false'. Refute it at one input. -/
def fnMayClimbSpecWrong : ChangeSpec := { name := "fnMayClimbSpec", fn := fun _ => fun
  | [d] => { results := [.lit (.bool false)], args := [d] }
  | _ => none }
def FnMayClimbSpecWrongFalsely : Prop := fnMayClimbSpecRow.holds Try.pinned (OpenSpec.ofChange fnMayClimbSpecWrong)

/-- 'zzlaws_policy_b1.FnMayClimbDotDotSegment': WHATEVER THE INPUT: true; the input reads as it did. -/
def fnMayClimbDotDotSegmentSpec : ChangeSpec := { name := "fnMayClimbDotDotSegment", fn := fun _ => fun
  | [d1, d2] => { results := [.lit (.bool true)], args := [d1, d2] }
  | _ => none }
def fnMayClimbDotDotSegmentRow : OpenClaim := { program := "qxb6600191a", sum := "c6fc67328d54f024f7f026bdb75170564a02bed27c96e9c7e6f36a94d86b3f23", func := "example.com/bailiwick/bailiwick/zzlaws_policy_b1.FnMayClimbDotDotSegment", spec := "fnMayClimbDotDotSegment", inPlace := ["internal/bytealg.IndexByteString"], apart := false }
def FnMayClimbDotDotSegmentSaid : Prop := fnMayClimbDotDotSegmentRow.holds Try.pinned (OpenSpec.ofChange fnMayClimbDotDotSegmentSpec)

/-- ITS FALSE NEIGHBOUR: 'it returns false'. Refute it at one input. -/
def fnMayClimbDotDotSegmentWrong : ChangeSpec := { name := "fnMayClimbDotDotSegment", fn := fun _ => fun
  | [d1, d2] => { results := [.lit (.bool false)], args := [d1, d2] }
  | _ => none }
def FnMayClimbDotDotSegmentWrongFalsely : Prop := fnMayClimbDotDotSegmentRow.holds Try.pinned (OpenSpec.ofChange fnMayClimbDotDotSegmentWrong)

/-- 'zzlaws_policy_b1.FnMayClimbExtend': WHATEVER THE INPUT: true; the input reads as it did. -/
def fnMayClimbExtendSpec : ChangeSpec := { name := "fnMayClimbExtend", fn := fun _ => fun
  | [d1, d2] => { results := [.lit (.bool true)], args := [d1, d2] }
  | _ => none }
def fnMayClimbExtendRow : OpenClaim := { program := "qxb6600191a", sum := "c6fc67328d54f024f7f026bdb75170564a02bed27c96e9c7e6f36a94d86b3f23", func := "example.com/bailiwick/bailiwick/zzlaws_policy_b1.FnMayClimbExtend", spec := "fnMayClimbExtend", inPlace := ["internal/bytealg.IndexByteString"], apart := false }
def FnMayClimbExtendSaid : Prop := fnMayClimbExtendRow.holds Try.pinned (OpenSpec.ofChange fnMayClimbExtendSpec)

/-- ITS FALSE NEIGHBOUR: 'it returns false'. Refute it at one input. -/
def fnMayClimbExtendWrong : ChangeSpec := { name := "fnMayClimbExtend", fn := fun _ => fun
  | [d1, d2] => { results := [.lit (.bool false)], args := [d1, d2] }
  | _ => none }
def FnMayClimbExtendWrongFalsely : Prop := fnMayClimbExtendRow.holds Try.pinned (OpenSpec.ofChange fnMayClimbExtendWrong)

end Rows
end Go.Proofs.Qxb6600191a
