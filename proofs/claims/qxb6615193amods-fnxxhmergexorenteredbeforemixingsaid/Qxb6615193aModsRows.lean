/-
  No cell of these rows narrows 'for every input' (looked for: loops, veiled, ifaces, maps, wideKeys, modest, calm, conditions, laid).
  DERIVED. THE GIVEN ROWS OF THIS SEAT. 1 by the template 'for every input the law returns true; each argument reads behind the call as it read before'; 0 by the template 'total and deterministic' (their statements: Qxb6615193aModsTotals.lean).
  GIVEN WITH THE SEED: the statements are not yours to turn. If you find one false, say at which input.
  Laid BY PROGRAM, IN A SANDBOX (cutbox-rows.mjs): the forced cells as the released guide's own fill.sh prints them over the translation b0639fe5c97d220a… (all of the seat's roots in one cut). By AI agents, Wed Nov 11 2026. No macro, syntax, notation, axiom, sorry.
-/
import Derived.Test.Qxb6615193aModsChecked
import GoSem.Claim
import GoSem.ClaimJoined
import GoSem.ClaimMapViews
import Derived.JoinedTies
import Derived.KernelRfl
namespace Go.Proofs.Qxb6615193aMods
/- THE CELL 'sum', in the pinned program and in every row, IS THE sha256 OF THE DUMP (.gsa) THAT Qxb6615193aModsProg.lean LOADS. Nothing in Lean hashes anything: it is a label: what it is worth is what the hold of that sum in a sandbox is worth. -/
noncomputable def Trym.pinned : Pinned := { name := "qxb6615193amods", sum := "b0639fe5c97d220aaa886b0b44c44debf1e0225ba9bdd7903eccf0e5a045e129", checked := Trym.checked }
namespace Rows
def none {H : Type} : Left H := { results := [], args := [] }

/-- 'zzlaws_root_b1.FnXxhMergeXorEnteredBeforeMixing': WHATEVER THE INPUT: true; the input reads as it did. -/
def fnXxhMergeXorEnteredBeforeMixingSpec : ChangeSpec := { name := "fnXxhMergeXorEnteredBeforeMixing", fn := fun _ => fun
  | [d1, d2, d3] => { results := [.lit (.bool true)], args := [d1, d2, d3] }
  | _ => none }
def fnXxhMergeXorEnteredBeforeMixingRow : OpenClaim := { program := "qxb6615193amods", sum := "b0639fe5c97d220aaa886b0b44c44debf1e0225ba9bdd7903eccf0e5a045e129", func := "example.com/tryst/tryst/zzlaws_root_b1.FnXxhMergeXorEnteredBeforeMixing", spec := "fnXxhMergeXorEnteredBeforeMixing", make := .lifted ["publicsums"], apart := false }
def FnXxhMergeXorEnteredBeforeMixingSaid : Prop := fnXxhMergeXorEnteredBeforeMixingRow.holds Trym.pinned (OpenSpec.ofChange fnXxhMergeXorEnteredBeforeMixingSpec)

/-- ITS FALSE NEIGHBOUR: 'it returns false'. Refute it at one input. -/
def fnXxhMergeXorEnteredBeforeMixingWrong : ChangeSpec := { name := "fnXxhMergeXorEnteredBeforeMixing", fn := fun _ => fun
  | [d1, d2, d3] => { results := [.lit (.bool false)], args := [d1, d2, d3] }
  | _ => none }
def FnXxhMergeXorEnteredBeforeMixingWrongFalsely : Prop := fnXxhMergeXorEnteredBeforeMixingRow.holds Trym.pinned (OpenSpec.ofChange fnXxhMergeXorEnteredBeforeMixingWrong)

end Rows
end Go.Proofs.Qxb6615193aMods
