/-
  No cell of these rows narrows 'for every input' (looked for: loops, veiled, ifaces, maps, wideKeys, modest, calm, conditions, laid).
  DERIVED. THE GIVEN ROWS OF THIS SEAT. 3 by the template 'for every input the law returns true; each argument reads behind the call as it read before'; 0 by the template 'total and deterministic' (their statements: Qxb6614569aModsTotals.lean).
  GIVEN WITH THE SEED: the statements are not yours to turn. If you find one false, say at which input.
  Laid BY PROGRAM, IN A SANDBOX (cutbox-rows.mjs): the forced cells as the released guide's own fill.sh prints them over the translation ed75b7a09e7dc683… (all of the seat's roots in one cut). By AI agents, Wed Nov 11 2026. No macro, syntax, notation, axiom, sorry.
-/
import Derived.Test.Qxb6614569aModsChecked
import GoSem.Claim
import GoSem.ClaimJoined
import GoSem.ClaimMapViews
import Derived.JoinedTies
import Derived.KernelRfl
namespace Go.Proofs.Qxb6614569aMods
/- THE CELL 'sum', in the pinned program and in every row, IS THE sha256 OF THE DUMP (.gsa) THAT Qxb6614569aModsProg.lean LOADS. Nothing in Lean hashes anything: it is a label: what it is worth is what the hold of that sum in a sandbox is worth. -/
noncomputable def Trym.pinned : Pinned := { name := "qxb6614569amods", sum := "ed75b7a09e7dc6831ff7fe58e910408d3073aec77500fcf399c0fd267e160243", checked := Trym.checked }
namespace Rows
def none {H : Type} : Left H := { results := [], args := [] }

/-- 'zzlaws_daemon_b1.FnFreeMatchesModel': WHATEVER THE INPUT: true; the input reads as it did. -/
def fnFreeMatchesModelSpec : ChangeSpec := { name := "fnFreeMatchesModel", fn := fun _ => fun
  | [d1, d2, d3, d4] => { results := [.lit (.bool true)], args := [d1, d2, d3, d4] }
  | _ => none }
def fnFreeMatchesModelRow : OpenClaim := { program := "qxb6614569amods", sum := "ed75b7a09e7dc6831ff7fe58e910408d3073aec77500fcf399c0fd267e160243", func := "example.com/namelease/namelease/zzlaws_daemon_b1.FnFreeMatchesModel", spec := "fnFreeMatchesModel", make := .lifted ["publicsums"], apart := false }
def FnFreeMatchesModelSaid : Prop := fnFreeMatchesModelRow.holds Trym.pinned (OpenSpec.ofChange fnFreeMatchesModelSpec)

/-- ITS FALSE NEIGHBOUR: 'it returns false'. Refute it at one input. -/
def fnFreeMatchesModelWrong : ChangeSpec := { name := "fnFreeMatchesModel", fn := fun _ => fun
  | [d1, d2, d3, d4] => { results := [.lit (.bool false)], args := [d1, d2, d3, d4] }
  | _ => none }
def FnFreeMatchesModelWrongFalsely : Prop := fnFreeMatchesModelRow.holds Trym.pinned (OpenSpec.ofChange fnFreeMatchesModelWrong)

/-- 'zzlaws_daemon_b1.FnDropRemovesOneAndOnce': WHATEVER THE INPUT: true; the input reads as it did. -/
def fnDropRemovesOneAndOnceSpec : ChangeSpec := { name := "fnDropRemovesOneAndOnce", fn := fun _ => fun
  | [d1, d2] => { results := [.lit (.bool true)], args := [d1, d2] }
  | _ => none }
def fnDropRemovesOneAndOnceRow : OpenClaim := { program := "qxb6614569amods", sum := "ed75b7a09e7dc6831ff7fe58e910408d3073aec77500fcf399c0fd267e160243", func := "example.com/namelease/namelease/zzlaws_daemon_b1.FnDropRemovesOneAndOnce", spec := "fnDropRemovesOneAndOnce", make := .lifted ["publicsums"], apart := false }
def FnDropRemovesOneAndOnceSaid : Prop := fnDropRemovesOneAndOnceRow.holds Trym.pinned (OpenSpec.ofChange fnDropRemovesOneAndOnceSpec)

/-- ITS FALSE NEIGHBOUR: 'it returns false'. Refute it at one input. -/
def fnDropRemovesOneAndOnceWrong : ChangeSpec := { name := "fnDropRemovesOneAndOnce", fn := fun _ => fun
  | [d1, d2] => { results := [.lit (.bool false)], args := [d1, d2] }
  | _ => none }
def FnDropRemovesOneAndOnceWrongFalsely : Prop := fnDropRemovesOneAndOnceRow.holds Trym.pinned (OpenSpec.ofChange fnDropRemovesOneAndOnceWrong)

/-- 'zzlaws_daemon_b1.FnDropTwoInEitherOrder': WHATEVER THE INPUT: true; the input reads as it did. -/
def fnDropTwoInEitherOrderSpec : ChangeSpec := { name := "fnDropTwoInEitherOrder", fn := fun _ => fun
  | [d1, d2, d3] => { results := [.lit (.bool true)], args := [d1, d2, d3] }
  | _ => none }
def fnDropTwoInEitherOrderRow : OpenClaim := { program := "qxb6614569amods", sum := "ed75b7a09e7dc6831ff7fe58e910408d3073aec77500fcf399c0fd267e160243", func := "example.com/namelease/namelease/zzlaws_daemon_b1.FnDropTwoInEitherOrder", spec := "fnDropTwoInEitherOrder", make := .lifted ["publicsums"], apart := false }
def FnDropTwoInEitherOrderSaid : Prop := fnDropTwoInEitherOrderRow.holds Trym.pinned (OpenSpec.ofChange fnDropTwoInEitherOrderSpec)

/-- ITS FALSE NEIGHBOUR: 'it returns false'. Refute it at one input. -/
def fnDropTwoInEitherOrderWrong : ChangeSpec := { name := "fnDropTwoInEitherOrder", fn := fun _ => fun
  | [d1, d2, d3] => { results := [.lit (.bool false)], args := [d1, d2, d3] }
  | _ => none }
def FnDropTwoInEitherOrderWrongFalsely : Prop := fnDropTwoInEitherOrderRow.holds Trym.pinned (OpenSpec.ofChange fnDropTwoInEitherOrderWrong)

end Rows
end Go.Proofs.Qxb6614569aMods
