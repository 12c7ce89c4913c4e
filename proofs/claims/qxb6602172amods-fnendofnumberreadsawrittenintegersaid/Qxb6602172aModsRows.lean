/-
  No cell of these rows narrows 'for every input' (looked for: loops, veiled, ifaces, maps, wideKeys, modest, calm, conditions, laid).
  DERIVED. THE GIVEN ROWS OF THIS SEAT. 6 by the template 'for every input the law returns true; each argument reads behind the call as it read before'; 0 by the template 'total and deterministic' (their statements: Qxb6602172aModsTotals.lean).
  GIVEN WITH THE SEED: the statements are not yours to turn. If you find one false, say at which input.
  Laid BY PROGRAM, IN A SANDBOX (cutbox-rows.mjs): the forced cells as the released guide's own fill.sh prints them over the translation b1315c27df45a7be… (all of the seat's roots in one cut). By AI agents, Wed Nov 11 2026. No macro, syntax, notation, axiom, sorry.
-/
import Derived.Test.Qxb6602172aModsChecked
import GoSem.Claim
import GoSem.ClaimJoined
import GoSem.ClaimMapViews
import Derived.JoinedTies
import Derived.KernelRfl
namespace Go.Proofs.Qxb6602172aMods
/- THE CELL 'sum', in the pinned program and in every row, IS THE sha256 OF THE DUMP (.gsa) THAT Qxb6602172aModsProg.lean LOADS. Nothing in Lean hashes anything: it is a label: what it is worth is what the hold of that sum in a sandbox is worth. -/
noncomputable def Trym.pinned : Pinned := { name := "qxb6602172amods", sum := "b1315c27df45a7bed1deea519c260fd48959f4bed35520f012ee3cfb19c7fcfb", checked := Trym.checked }
namespace Rows
def none {H : Type} : Left H := { results := [], args := [] }

/-- 'zzlaws_root_b1.FnIsNameCharIsExactlyTheNameAlphabet': WHATEVER THE INPUT: true; the input reads as it did. -/
def fnIsNameCharIsExactlyTheNameAlphabetSpec : ChangeSpec := { name := "fnIsNameCharIsExactlyTheNameAlphabet", fn := fun _ => fun
  | [d] => { results := [.lit (.bool true)], args := [d] }
  | _ => none }
def fnIsNameCharIsExactlyTheNameAlphabetRow : OpenClaim := { program := "qxb6602172amods", sum := "b1315c27df45a7bed1deea519c260fd48959f4bed35520f012ee3cfb19c7fcfb", func := "example.com/mooring/mooring/zzlaws_root_b1.FnIsNameCharIsExactlyTheNameAlphabet", spec := "fnIsNameCharIsExactlyTheNameAlphabet", inPlace := ["internal/bytealg.IndexByteString", "internal/bytealg.IndexString"], named := ["internal/bytealg.MaxLen"], make := .lifted ["publicsums"], apart := false }
def FnIsNameCharIsExactlyTheNameAlphabetSaid : Prop := fnIsNameCharIsExactlyTheNameAlphabetRow.holds Trym.pinned (OpenSpec.ofChange fnIsNameCharIsExactlyTheNameAlphabetSpec)

/-- ITS FALSE NEIGHBOUR: 'it returns false'. Refute it at one input. -/
def fnIsNameCharIsExactlyTheNameAlphabetWrong : ChangeSpec := { name := "fnIsNameCharIsExactlyTheNameAlphabet", fn := fun _ => fun
  | [d] => { results := [.lit (.bool false)], args := [d] }
  | _ => none }
def FnIsNameCharIsExactlyTheNameAlphabetWrongFalsely : Prop := fnIsNameCharIsExactlyTheNameAlphabetRow.holds Trym.pinned (OpenSpec.ofChange fnIsNameCharIsExactlyTheNameAlphabetWrong)

/-- 'zzlaws_root_b1.FnEndOfEscapeDependsOnlyOnWhatFollows': WHATEVER THE INPUT: true; the input reads as it did. -/
def fnEndOfEscapeDependsOnlyOnWhatFollowsSpec : ChangeSpec := { name := "fnEndOfEscapeDependsOnlyOnWhatFollows", fn := fun _ => fun
  | [d1, d2] => { results := [.lit (.bool true)], args := [d1, d2] }
  | _ => none }
def fnEndOfEscapeDependsOnlyOnWhatFollowsRow : OpenClaim := { program := "qxb6602172amods", sum := "b1315c27df45a7bed1deea519c260fd48959f4bed35520f012ee3cfb19c7fcfb", func := "example.com/mooring/mooring/zzlaws_root_b1.FnEndOfEscapeDependsOnlyOnWhatFollows", spec := "fnEndOfEscapeDependsOnlyOnWhatFollows", make := .lifted ["publicsums"], apart := false }
def FnEndOfEscapeDependsOnlyOnWhatFollowsSaid : Prop := fnEndOfEscapeDependsOnlyOnWhatFollowsRow.holds Trym.pinned (OpenSpec.ofChange fnEndOfEscapeDependsOnlyOnWhatFollowsSpec)

/-- ITS FALSE NEIGHBOUR: 'it returns false'. Refute it at one input. -/
def fnEndOfEscapeDependsOnlyOnWhatFollowsWrong : ChangeSpec := { name := "fnEndOfEscapeDependsOnlyOnWhatFollows", fn := fun _ => fun
  | [d1, d2] => { results := [.lit (.bool false)], args := [d1, d2] }
  | _ => none }
def FnEndOfEscapeDependsOnlyOnWhatFollowsWrongFalsely : Prop := fnEndOfEscapeDependsOnlyOnWhatFollowsRow.holds Trym.pinned (OpenSpec.ofChange fnEndOfEscapeDependsOnlyOnWhatFollowsWrong)

/-- 'zzlaws_root_b1.FnEndOfEscapeIsSelfContained': WHATEVER THE INPUT: true; the input reads as it did. -/
def fnEndOfEscapeIsSelfContainedSpec : ChangeSpec := { name := "fnEndOfEscapeIsSelfContained", fn := fun _ => fun
  | [d1, d2] => { results := [.lit (.bool true)], args := [d1, d2] }
  | _ => none }
def fnEndOfEscapeIsSelfContainedRow : OpenClaim := { program := "qxb6602172amods", sum := "b1315c27df45a7bed1deea519c260fd48959f4bed35520f012ee3cfb19c7fcfb", func := "example.com/mooring/mooring/zzlaws_root_b1.FnEndOfEscapeIsSelfContained", spec := "fnEndOfEscapeIsSelfContained", make := .lifted ["publicsums"], apart := false }
def FnEndOfEscapeIsSelfContainedSaid : Prop := fnEndOfEscapeIsSelfContainedRow.holds Trym.pinned (OpenSpec.ofChange fnEndOfEscapeIsSelfContainedSpec)

/-- ITS FALSE NEIGHBOUR: 'it returns false'. Refute it at one input. -/
def fnEndOfEscapeIsSelfContainedWrong : ChangeSpec := { name := "fnEndOfEscapeIsSelfContained", fn := fun _ => fun
  | [d1, d2] => { results := [.lit (.bool false)], args := [d1, d2] }
  | _ => none }
def FnEndOfEscapeIsSelfContainedWrongFalsely : Prop := fnEndOfEscapeIsSelfContainedRow.holds Trym.pinned (OpenSpec.ofChange fnEndOfEscapeIsSelfContainedWrong)

/-- 'zzlaws_root_b1.FnEndOfNumberMatchesAutomaton': WHATEVER THE INPUT: true; the input reads as it did. -/
def fnEndOfNumberMatchesAutomatonSpec : ChangeSpec := { name := "fnEndOfNumberMatchesAutomaton", fn := fun _ => fun
  | [d1, d2] => { results := [.lit (.bool true)], args := [d1, d2] }
  | _ => none }
def fnEndOfNumberMatchesAutomatonRow : OpenClaim := { program := "qxb6602172amods", sum := "b1315c27df45a7bed1deea519c260fd48959f4bed35520f012ee3cfb19c7fcfb", func := "example.com/mooring/mooring/zzlaws_root_b1.FnEndOfNumberMatchesAutomaton", spec := "fnEndOfNumberMatchesAutomaton", make := .lifted ["publicsums"], apart := false }
def FnEndOfNumberMatchesAutomatonSaid : Prop := fnEndOfNumberMatchesAutomatonRow.holds Trym.pinned (OpenSpec.ofChange fnEndOfNumberMatchesAutomatonSpec)

/-- ITS FALSE NEIGHBOUR: 'it returns false'. Refute it at one input. -/
def fnEndOfNumberMatchesAutomatonWrong : ChangeSpec := { name := "fnEndOfNumberMatchesAutomaton", fn := fun _ => fun
  | [d1, d2] => { results := [.lit (.bool false)], args := [d1, d2] }
  | _ => none }
def FnEndOfNumberMatchesAutomatonWrongFalsely : Prop := fnEndOfNumberMatchesAutomatonRow.holds Trym.pinned (OpenSpec.ofChange fnEndOfNumberMatchesAutomatonWrong)

/-- 'zzlaws_root_b1.FnEndOfNumberIsSelfContained': WHATEVER THE INPUT: true; the input reads as it did. -/
def fnEndOfNumberIsSelfContainedSpec : ChangeSpec := { name := "fnEndOfNumberIsSelfContained", fn := fun _ => fun
  | [d1, d2] => { results := [.lit (.bool true)], args := [d1, d2] }
  | _ => none }
def fnEndOfNumberIsSelfContainedRow : OpenClaim := { program := "qxb6602172amods", sum := "b1315c27df45a7bed1deea519c260fd48959f4bed35520f012ee3cfb19c7fcfb", func := "example.com/mooring/mooring/zzlaws_root_b1.FnEndOfNumberIsSelfContained", spec := "fnEndOfNumberIsSelfContained", make := .lifted ["publicsums"], apart := false }
def FnEndOfNumberIsSelfContainedSaid : Prop := fnEndOfNumberIsSelfContainedRow.holds Trym.pinned (OpenSpec.ofChange fnEndOfNumberIsSelfContainedSpec)

/-- ITS FALSE NEIGHBOUR: 'it returns false'. Refute it at one input. -/
def fnEndOfNumberIsSelfContainedWrong : ChangeSpec := { name := "fnEndOfNumberIsSelfContained", fn := fun _ => fun
  | [d1, d2] => { results := [.lit (.bool false)], args := [d1, d2] }
  | _ => none }
def FnEndOfNumberIsSelfContainedWrongFalsely : Prop := fnEndOfNumberIsSelfContainedRow.holds Trym.pinned (OpenSpec.ofChange fnEndOfNumberIsSelfContainedWrong)

/-- 'zzlaws_root_b1.FnEndOfNumberReadsAWrittenInteger': WHATEVER THE INPUT: true; the input reads as it did. -/
def fnEndOfNumberReadsAWrittenIntegerSpec : ChangeSpec := { name := "fnEndOfNumberReadsAWrittenInteger", fn := fun _ => fun
  | [d1, d2] => { results := [.lit (.bool true)], args := [d1, d2] }
  | _ => none }
def fnEndOfNumberReadsAWrittenIntegerRow : OpenClaim := { program := "qxb6602172amods", sum := "b1315c27df45a7bed1deea519c260fd48959f4bed35520f012ee3cfb19c7fcfb", func := "example.com/mooring/mooring/zzlaws_root_b1.FnEndOfNumberReadsAWrittenInteger", spec := "fnEndOfNumberReadsAWrittenInteger", make := .lifted ["publicsums"], apart := false }
def FnEndOfNumberReadsAWrittenIntegerSaid : Prop := fnEndOfNumberReadsAWrittenIntegerRow.holds Trym.pinned (OpenSpec.ofChange fnEndOfNumberReadsAWrittenIntegerSpec)

/-- ITS FALSE NEIGHBOUR: 'it returns false'. Refute it at one input. -/
def fnEndOfNumberReadsAWrittenIntegerWrong : ChangeSpec := { name := "fnEndOfNumberReadsAWrittenInteger", fn := fun _ => fun
  | [d1, d2] => { results := [.lit (.bool false)], args := [d1, d2] }
  | _ => none }
def FnEndOfNumberReadsAWrittenIntegerWrongFalsely : Prop := fnEndOfNumberReadsAWrittenIntegerRow.holds Trym.pinned (OpenSpec.ofChange fnEndOfNumberReadsAWrittenIntegerWrong)

end Rows
end Go.Proofs.Qxb6602172aMods
