/-
  No cell of these rows narrows 'for every input' (looked for: loops, veiled, ifaces, maps, wideKeys, modest, calm, conditions, laid).
  DERIVED. THE GIVEN ROWS OF THIS SEAT. 1 by the template 'for every input the law returns true; each argument reads behind the call as it read before'; 0 by the template 'total and deterministic' (their statements: Qxb6614824aModsTotals.lean).
  GIVEN WITH THE SEED: the statements are not yours to turn. If you find one false, say at which input.
  Laid BY PROGRAM, IN A SANDBOX (cutbox-rows.mjs): the forced cells as the released guide's own fill.sh prints them over the translation e0b96dda64522d28… (all of the seat's roots in one cut). By AI agents, Wed Nov 11 2026. No macro, syntax, notation, axiom, sorry.
-/
import Derived.Test.Qxb6614824aModsChecked
import GoSem.Claim
import GoSem.ClaimJoined
import GoSem.ClaimMapViews
import Derived.JoinedTies
import Derived.KernelRfl
namespace Go.Proofs.Qxb6614824aMods
/- THE CELL 'sum', in the pinned program and in every row, IS THE sha256 OF THE DUMP (.gsa) THAT Qxb6614824aModsProg.lean LOADS. Nothing in Lean hashes anything: it is a label: what it is worth is what the hold of that sum in a sandbox is worth. -/
noncomputable def Trym.pinned : Pinned := { name := "qxb6614824amods", sum := "e0b96dda64522d28ce2f3f2224ad1cb4c6165048ac29c876759c298cc9193c36", checked := Trym.checked }
namespace Rows
def none {H : Type} : Left H := { results := [], args := [] }

/-- 'zzlaws_link_b1.FnFollowsOnlyTheNextBytesOfTheSameBuffer': WHATEVER THE INPUT: true; the input reads as it did. -/
def fnFollowsOnlyTheNextBytesOfTheSameBufferSpec : ChangeSpec := { name := "fnFollowsOnlyTheNextBytesOfTheSameBuffer", fn := fun _ => fun
  | [d1, d2, d3, d4, d5, d6, d7, d8] => { results := [.lit (.bool true)], args := [d1, d2, d3, d4, d5, d6, d7, d8] }
  | _ => none }
def fnFollowsOnlyTheNextBytesOfTheSameBufferRow : OpenClaim := { program := "qxb6614824amods", sum := "e0b96dda64522d28ce2f3f2224ad1cb4c6165048ac29c876759c298cc9193c36", func := "example.com/chainwise/chainwise/zzlaws_link_b1.FnFollowsOnlyTheNextBytesOfTheSameBuffer", spec := "fnFollowsOnlyTheNextBytesOfTheSameBuffer", make := .lifted ["publicsums"], apart := false }
def FnFollowsOnlyTheNextBytesOfTheSameBufferSaid : Prop := fnFollowsOnlyTheNextBytesOfTheSameBufferRow.holds Trym.pinned (OpenSpec.ofChange fnFollowsOnlyTheNextBytesOfTheSameBufferSpec)

/-- ITS FALSE NEIGHBOUR: 'it returns false'. Refute it at one input. -/
def fnFollowsOnlyTheNextBytesOfTheSameBufferWrong : ChangeSpec := { name := "fnFollowsOnlyTheNextBytesOfTheSameBuffer", fn := fun _ => fun
  | [d1, d2, d3, d4, d5, d6, d7, d8] => { results := [.lit (.bool false)], args := [d1, d2, d3, d4, d5, d6, d7, d8] }
  | _ => none }
def FnFollowsOnlyTheNextBytesOfTheSameBufferWrongFalsely : Prop := fnFollowsOnlyTheNextBytesOfTheSameBufferRow.holds Trym.pinned (OpenSpec.ofChange fnFollowsOnlyTheNextBytesOfTheSameBufferWrong)

end Rows
end Go.Proofs.Qxb6614824aMods
