/-
  NARROWER THAN 'FOR EVERY INPUT', by the rows' own cells (each row's printed sentence says how): FnThaiWeighModel: maps · FnThaiWeighIgnoresOut: maps.
  DERIVED. THE GIVEN ROWS OF THIS SEAT. 2 by the template 'for every input the law returns true; each argument reads behind the call as it read before'; 0 by the template 'total and deterministic' (their statements: Qxb6602158aModsTotals.lean).
  GIVEN WITH THE SEED: the statements are not yours to turn. If you find one false, say at which input.
  Laid BY PROGRAM, IN A SANDBOX (cutbox-rows.mjs): the forced cells as the released guide's own fill.sh prints them over the translation 41435cf1a30692a6… (all of the seat's roots in one cut). By AI agents, Wed Nov 11 2026. No macro, syntax, notation, axiom, sorry.
-/
import Derived.Test.Qxb6602158aModsChecked
import GoSem.Claim
import GoSem.ClaimJoined
import GoSem.ClaimMapViews
import Derived.JoinedTies
import Derived.KernelRfl
namespace Go.Proofs.Qxb6602158aMods
/- THE CELL 'sum', in the pinned program and in every row, IS THE sha256 OF THE DUMP (.gsa) THAT Qxb6602158aModsProg.lean LOADS. Nothing in Lean hashes anything: it is a label: what it is worth is what the hold of that sum in a sandbox is worth. -/
noncomputable def Trym.pinned : Pinned := { name := "qxb6602158amods", sum := "41435cf1a30692a6e380464105eec110e9e2be6d6d16d1551a3ae2f50b60bb07", checked := Trym.checked }
namespace Rows
def none {H : Type} : Left H := { results := [], args := [] }

/-- 'zzlaws_root_b1.FnThaiWeighModel': WHATEVER THE INPUT: true; the input reads as it did. -/
def fnThaiWeighModelSpec : ChangeSpec := { name := "fnThaiWeighModel", fn := fun _ => fun
  | [d1, d2, d3, d4, d5, d6, d7] => { results := [.lit (.bool true)], args := [d1, d2, d3, d4, d5, d6, d7] }
  | _ => none }
def fnThaiWeighModelRow : OpenClaim := { program := "qxb6602158amods", sum := "41435cf1a30692a6e380464105eec110e9e2be6d6d16d1551a3ae2f50b60bb07", func := "example.com/tailrace/tailrace/zzlaws_root_b1.FnThaiWeighModel", spec := "fnThaiWeighModel", maps := true, make := .lifted ["publicsums"], apart := false }
def FnThaiWeighModelSaid : Prop := fnThaiWeighModelRow.holds Trym.pinned (OpenSpec.ofChange fnThaiWeighModelSpec)

/-- ITS FALSE NEIGHBOUR: 'it returns false'. Refute it at one input. -/
def fnThaiWeighModelWrong : ChangeSpec := { name := "fnThaiWeighModel", fn := fun _ => fun
  | [d1, d2, d3, d4, d5, d6, d7] => { results := [.lit (.bool false)], args := [d1, d2, d3, d4, d5, d6, d7] }
  | _ => none }
def FnThaiWeighModelWrongFalsely : Prop := fnThaiWeighModelRow.holds Trym.pinned (OpenSpec.ofChange fnThaiWeighModelWrong)

/-- 'zzlaws_root_b1.FnThaiWeighIgnoresOut': WHATEVER THE INPUT: true; the input reads as it did. -/
def fnThaiWeighIgnoresOutSpec : ChangeSpec := { name := "fnThaiWeighIgnoresOut", fn := fun _ => fun
  | [d1, d2, d3, d4, d5, d6, d7] => { results := [.lit (.bool true)], args := [d1, d2, d3, d4, d5, d6, d7] }
  | _ => none }
def fnThaiWeighIgnoresOutRow : OpenClaim := { program := "qxb6602158amods", sum := "41435cf1a30692a6e380464105eec110e9e2be6d6d16d1551a3ae2f50b60bb07", func := "example.com/tailrace/tailrace/zzlaws_root_b1.FnThaiWeighIgnoresOut", spec := "fnThaiWeighIgnoresOut", maps := true, make := .lifted ["publicsums"], apart := false }
def FnThaiWeighIgnoresOutSaid : Prop := fnThaiWeighIgnoresOutRow.holds Trym.pinned (OpenSpec.ofChange fnThaiWeighIgnoresOutSpec)

/-- ITS FALSE NEIGHBOUR: 'it returns false'. Refute it at one input. -/
def fnThaiWeighIgnoresOutWrong : ChangeSpec := { name := "fnThaiWeighIgnoresOut", fn := fun _ => fun
  | [d1, d2, d3, d4, d5, d6, d7] => { results := [.lit (.bool false)], args := [d1, d2, d3, d4, d5, d6, d7] }
  | _ => none }
def FnThaiWeighIgnoresOutWrongFalsely : Prop := fnThaiWeighIgnoresOutRow.holds Trym.pinned (OpenSpec.ofChange fnThaiWeighIgnoresOutWrong)

end Rows
end Go.Proofs.Qxb6602158aMods
