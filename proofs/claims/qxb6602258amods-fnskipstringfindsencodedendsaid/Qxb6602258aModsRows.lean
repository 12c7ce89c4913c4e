/-
  No cell of these rows narrows 'for every input' (looked for: loops, veiled, ifaces, maps, wideKeys, modest, calm, conditions, laid).
  DERIVED. THE GIVEN ROWS OF THIS SEAT. 8 by the template 'for every input the law returns true; each argument reads behind the call as it read before'; 0 by the template 'total and deterministic' (their statements: Qxb6602258aModsTotals.lean).
  GIVEN WITH THE SEED: the statements are not yours to turn. If you find one false, say at which input.
  Laid BY PROGRAM, IN A SANDBOX (cutbox-rows.mjs): the forced cells as the released guide's own fill.sh prints them over the translation b20bb283f1ee201e… (all of the seat's roots in one cut). By AI agents, Wed Nov 11 2026. No macro, syntax, notation, axiom, sorry.
-/
import Derived.Test.Qxb6602258aModsChecked
import GoSem.Claim
import GoSem.ClaimJoined
import GoSem.ClaimMapViews
import Derived.JoinedTies
import Derived.KernelRfl
namespace Go.Proofs.Qxb6602258aMods
/- THE CELL 'sum', in the pinned program and in every row, IS THE sha256 OF THE DUMP (.gsa) THAT Qxb6602258aModsProg.lean LOADS. Nothing in Lean hashes anything: it is a label: what it is worth is what the hold of that sum in a sandbox is worth. -/
noncomputable def Trym.pinned : Pinned := { name := "qxb6602258amods", sum := "b20bb283f1ee201e5d1ac2e05c4f045b54bd061dad992d9a150f417cf6ddb5a2", checked := Trym.checked }
namespace Rows
def none {H : Type} : Left H := { results := [], args := [] }

/-- 'zzlaws_root_b1.FnSkipStringMatchesModel': WHATEVER THE INPUT: true; the input reads as it did. -/
def fnSkipStringMatchesModelSpec : ChangeSpec := { name := "fnSkipStringMatchesModel", fn := fun _ => fun
  | [d1, d2] => { results := [.lit (.bool true)], args := [d1, d2] }
  | _ => none }
def fnSkipStringMatchesModelRow : OpenClaim := { program := "qxb6602258amods", sum := "b20bb283f1ee201e5d1ac2e05c4f045b54bd061dad992d9a150f417cf6ddb5a2", func := "example.com/plenum/plenum/zzlaws_root_b1.FnSkipStringMatchesModel", spec := "fnSkipStringMatchesModel", make := .lifted ["publicsums"], apart := false }
def FnSkipStringMatchesModelSaid : Prop := fnSkipStringMatchesModelRow.holds Trym.pinned (OpenSpec.ofChange fnSkipStringMatchesModelSpec)

/-- ITS FALSE NEIGHBOUR: 'it returns false'. Refute it at one input. -/
def fnSkipStringMatchesModelWrong : ChangeSpec := { name := "fnSkipStringMatchesModel", fn := fun _ => fun
  | [d1, d2] => { results := [.lit (.bool false)], args := [d1, d2] }
  | _ => none }
def FnSkipStringMatchesModelWrongFalsely : Prop := fnSkipStringMatchesModelRow.holds Trym.pinned (OpenSpec.ofChange fnSkipStringMatchesModelWrong)

/-- 'zzlaws_root_b1.FnSkipStringCut': WHATEVER THE INPUT: true; the input reads as it did. -/
def fnSkipStringCutSpec : ChangeSpec := { name := "fnSkipStringCut", fn := fun _ => fun
  | [d1, d2, d3] => { results := [.lit (.bool true)], args := [d1, d2, d3] }
  | _ => none }
def fnSkipStringCutRow : OpenClaim := { program := "qxb6602258amods", sum := "b20bb283f1ee201e5d1ac2e05c4f045b54bd061dad992d9a150f417cf6ddb5a2", func := "example.com/plenum/plenum/zzlaws_root_b1.FnSkipStringCut", spec := "fnSkipStringCut", make := .lifted ["publicsums"], apart := false }
def FnSkipStringCutSaid : Prop := fnSkipStringCutRow.holds Trym.pinned (OpenSpec.ofChange fnSkipStringCutSpec)

/-- ITS FALSE NEIGHBOUR: 'it returns false'. Refute it at one input. -/
def fnSkipStringCutWrong : ChangeSpec := { name := "fnSkipStringCut", fn := fun _ => fun
  | [d1, d2, d3] => { results := [.lit (.bool false)], args := [d1, d2, d3] }
  | _ => none }
def FnSkipStringCutWrongFalsely : Prop := fnSkipStringCutRow.holds Trym.pinned (OpenSpec.ofChange fnSkipStringCutWrong)

/-- 'zzlaws_root_b1.FnSkipStringFindsEncodedEnd': WHATEVER THE INPUT: true; the input reads as it did. -/
def fnSkipStringFindsEncodedEndSpec : ChangeSpec := { name := "fnSkipStringFindsEncodedEnd", fn := fun _ => fun
  | [d1, d2, d3] => { results := [.lit (.bool true)], args := [d1, d2, d3] }
  | _ => none }
def fnSkipStringFindsEncodedEndRow : OpenClaim := { program := "qxb6602258amods", sum := "b20bb283f1ee201e5d1ac2e05c4f045b54bd061dad992d9a150f417cf6ddb5a2", func := "example.com/plenum/plenum/zzlaws_root_b1.FnSkipStringFindsEncodedEnd", spec := "fnSkipStringFindsEncodedEnd", make := .lifted ["publicsums"], apart := false }
def FnSkipStringFindsEncodedEndSaid : Prop := fnSkipStringFindsEncodedEndRow.holds Trym.pinned (OpenSpec.ofChange fnSkipStringFindsEncodedEndSpec)

/-- ITS FALSE NEIGHBOUR: 'it returns false'. Refute it at one input. -/
def fnSkipStringFindsEncodedEndWrong : ChangeSpec := { name := "fnSkipStringFindsEncodedEnd", fn := fun _ => fun
  | [d1, d2, d3] => { results := [.lit (.bool false)], args := [d1, d2, d3] }
  | _ => none }
def FnSkipStringFindsEncodedEndWrongFalsely : Prop := fnSkipStringFindsEncodedEndRow.holds Trym.pinned (OpenSpec.ofChange fnSkipStringFindsEncodedEndWrong)

/-- 'zzlaws_root_b1.FnSkipNumberMatchesModel': WHATEVER THE INPUT: true; the input reads as it did. -/
def fnSkipNumberMatchesModelSpec : ChangeSpec := { name := "fnSkipNumberMatchesModel", fn := fun _ => fun
  | [d1, d2] => { results := [.lit (.bool true)], args := [d1, d2] }
  | _ => none }
def fnSkipNumberMatchesModelRow : OpenClaim := { program := "qxb6602258amods", sum := "b20bb283f1ee201e5d1ac2e05c4f045b54bd061dad992d9a150f417cf6ddb5a2", func := "example.com/plenum/plenum/zzlaws_root_b1.FnSkipNumberMatchesModel", spec := "fnSkipNumberMatchesModel", unfollowed := true, recurses := true, make := .lifted ["publicsums"], apart := false }
def FnSkipNumberMatchesModelSaid : Prop := fnSkipNumberMatchesModelRow.holds Trym.pinned (OpenSpec.ofChange fnSkipNumberMatchesModelSpec)

/-- ITS FALSE NEIGHBOUR: 'it returns false'. Refute it at one input. -/
def fnSkipNumberMatchesModelWrong : ChangeSpec := { name := "fnSkipNumberMatchesModel", fn := fun _ => fun
  | [d1, d2] => { results := [.lit (.bool false)], args := [d1, d2] }
  | _ => none }
def FnSkipNumberMatchesModelWrongFalsely : Prop := fnSkipNumberMatchesModelRow.holds Trym.pinned (OpenSpec.ofChange fnSkipNumberMatchesModelWrong)

/-- 'zzlaws_root_b1.FnSkipNumberCut': WHATEVER THE INPUT: true; the input reads as it did. -/
def fnSkipNumberCutSpec : ChangeSpec := { name := "fnSkipNumberCut", fn := fun _ => fun
  | [d1, d2, d3] => { results := [.lit (.bool true)], args := [d1, d2, d3] }
  | _ => none }
def fnSkipNumberCutRow : OpenClaim := { program := "qxb6602258amods", sum := "b20bb283f1ee201e5d1ac2e05c4f045b54bd061dad992d9a150f417cf6ddb5a2", func := "example.com/plenum/plenum/zzlaws_root_b1.FnSkipNumberCut", spec := "fnSkipNumberCut", unfollowed := true, recurses := true, make := .lifted ["publicsums"], apart := false }
def FnSkipNumberCutSaid : Prop := fnSkipNumberCutRow.holds Trym.pinned (OpenSpec.ofChange fnSkipNumberCutSpec)

/-- ITS FALSE NEIGHBOUR: 'it returns false'. Refute it at one input. -/
def fnSkipNumberCutWrong : ChangeSpec := { name := "fnSkipNumberCut", fn := fun _ => fun
  | [d1, d2, d3] => { results := [.lit (.bool false)], args := [d1, d2, d3] }
  | _ => none }
def FnSkipNumberCutWrongFalsely : Prop := fnSkipNumberCutRow.holds Trym.pinned (OpenSpec.ofChange fnSkipNumberCutWrong)

/-- 'zzlaws_root_b1.FnSkipValueMatchesModel': WHATEVER THE INPUT: true; the input reads as it did. -/
def fnSkipValueMatchesModelSpec : ChangeSpec := { name := "fnSkipValueMatchesModel", fn := fun _ => fun
  | [d1, d2, d3] => { results := [.lit (.bool true)], args := [d1, d2, d3] }
  | _ => none }
def fnSkipValueMatchesModelRow : OpenClaim := { program := "qxb6602258amods", sum := "b20bb283f1ee201e5d1ac2e05c4f045b54bd061dad992d9a150f417cf6ddb5a2", func := "example.com/plenum/plenum/zzlaws_root_b1.FnSkipValueMatchesModel", spec := "fnSkipValueMatchesModel", unfollowed := true, recurses := true, make := .lifted ["publicsums"], apart := false }
def FnSkipValueMatchesModelSaid : Prop := fnSkipValueMatchesModelRow.holds Trym.pinned (OpenSpec.ofChange fnSkipValueMatchesModelSpec)

/-- ITS FALSE NEIGHBOUR: 'it returns false'. Refute it at one input. -/
def fnSkipValueMatchesModelWrong : ChangeSpec := { name := "fnSkipValueMatchesModel", fn := fun _ => fun
  | [d1, d2, d3] => { results := [.lit (.bool false)], args := [d1, d2, d3] }
  | _ => none }
def FnSkipValueMatchesModelWrongFalsely : Prop := fnSkipValueMatchesModelRow.holds Trym.pinned (OpenSpec.ofChange fnSkipValueMatchesModelWrong)

/-- 'zzlaws_root_b1.FnSkipValueCut': WHATEVER THE INPUT: true; the input reads as it did. -/
def fnSkipValueCutSpec : ChangeSpec := { name := "fnSkipValueCut", fn := fun _ => fun
  | [d1, d2, d3, d4] => { results := [.lit (.bool true)], args := [d1, d2, d3, d4] }
  | _ => none }
def fnSkipValueCutRow : OpenClaim := { program := "qxb6602258amods", sum := "b20bb283f1ee201e5d1ac2e05c4f045b54bd061dad992d9a150f417cf6ddb5a2", func := "example.com/plenum/plenum/zzlaws_root_b1.FnSkipValueCut", spec := "fnSkipValueCut", unfollowed := true, recurses := true, make := .lifted ["publicsums"], apart := false }
def FnSkipValueCutSaid : Prop := fnSkipValueCutRow.holds Trym.pinned (OpenSpec.ofChange fnSkipValueCutSpec)

/-- ITS FALSE NEIGHBOUR: 'it returns false'. Refute it at one input. -/
def fnSkipValueCutWrong : ChangeSpec := { name := "fnSkipValueCut", fn := fun _ => fun
  | [d1, d2, d3, d4] => { results := [.lit (.bool false)], args := [d1, d2, d3, d4] }
  | _ => none }
def FnSkipValueCutWrongFalsely : Prop := fnSkipValueCutRow.holds Trym.pinned (OpenSpec.ofChange fnSkipValueCutWrong)

/-- 'zzlaws_root_b1.FnSkipValueDepthMonotone': WHATEVER THE INPUT: true; the input reads as it did. -/
def fnSkipValueDepthMonotoneSpec : ChangeSpec := { name := "fnSkipValueDepthMonotone", fn := fun _ => fun
  | [d1, d2, d3, d4] => { results := [.lit (.bool true)], args := [d1, d2, d3, d4] }
  | _ => none }
def fnSkipValueDepthMonotoneRow : OpenClaim := { program := "qxb6602258amods", sum := "b20bb283f1ee201e5d1ac2e05c4f045b54bd061dad992d9a150f417cf6ddb5a2", func := "example.com/plenum/plenum/zzlaws_root_b1.FnSkipValueDepthMonotone", spec := "fnSkipValueDepthMonotone", unfollowed := true, recurses := true, make := .lifted ["publicsums"], apart := false }
def FnSkipValueDepthMonotoneSaid : Prop := fnSkipValueDepthMonotoneRow.holds Trym.pinned (OpenSpec.ofChange fnSkipValueDepthMonotoneSpec)

/-- ITS FALSE NEIGHBOUR: 'it returns false'. Refute it at one input. -/
def fnSkipValueDepthMonotoneWrong : ChangeSpec := { name := "fnSkipValueDepthMonotone", fn := fun _ => fun
  | [d1, d2, d3, d4] => { results := [.lit (.bool false)], args := [d1, d2, d3, d4] }
  | _ => none }
def FnSkipValueDepthMonotoneWrongFalsely : Prop := fnSkipValueDepthMonotoneRow.holds Trym.pinned (OpenSpec.ofChange fnSkipValueDepthMonotoneWrong)

end Rows
end Go.Proofs.Qxb6602258aMods
