/-
  No cell of these rows narrows 'for every input' (looked for: loops, veiled, ifaces, maps, wideKeys, modest, calm, conditions, laid).
  DERIVED. THE GIVEN ROWS OF THIS SEAT. 1 by the template 'for every input the law returns true; each argument reads behind the call as it read before'; 0 by the template 'total and deterministic' (their statements: Qxb6614571aModsTotals.lean).
  GIVEN WITH THE SEED: the statements are not yours to turn. If you find one false, say at which input.
  Laid BY PROGRAM, IN A SANDBOX (cutbox-rows.mjs): the forced cells as the released guide's own fill.sh prints them over the translation 6b8a2dbd24d99c60… (all of the seat's roots in one cut). By AI agents, Wed Nov 11 2026. No macro, syntax, notation, axiom, sorry.
-/
import Derived.Test.Qxb6614571aModsChecked
import GoSem.Claim
import GoSem.ClaimJoined
import GoSem.ClaimMapViews
import Derived.JoinedTies
import Derived.KernelRfl
namespace Go.Proofs.Qxb6614571aMods
/- THE CELL 'sum', in the pinned program and in every row, IS THE sha256 OF THE DUMP (.gsa) THAT Qxb6614571aModsProg.lean LOADS. Nothing in Lean hashes anything: it is a label: what it is worth is what the hold of that sum in a sandbox is worth. -/
noncomputable def Trym.pinned : Pinned := { name := "qxb6614571amods", sum := "6b8a2dbd24d99c6069152ee69023aeb80348d77b903780ebfac09823eaeaffc6", checked := Trym.checked }
namespace Rows
def none {H : Type} : Left H := { results := [], args := [] }

/-- 'zzlaws_replica_b1.FnRoundTimeExceedsLagTime': WHATEVER THE INPUT: true; the input reads as it did. -/
def fnRoundTimeExceedsLagTimeSpec : ChangeSpec := { name := "fnRoundTimeExceedsLagTime", fn := fun _ => fun
  | [d] => { results := [.lit (.bool true)], args := [d] }
  | _ => none }
def fnRoundTimeExceedsLagTimeRow : OpenClaim := { program := "qxb6614571amods", sum := "6b8a2dbd24d99c6069152ee69023aeb80348d77b903780ebfac09823eaeaffc6", func := "example.com/quorumlab/quorumlab/zzlaws_replica_b1.FnRoundTimeExceedsLagTime", spec := "fnRoundTimeExceedsLagTime", make := .lifted ["publicsums"], apart := false }
def FnRoundTimeExceedsLagTimeSaid : Prop := fnRoundTimeExceedsLagTimeRow.holds Trym.pinned (OpenSpec.ofChange fnRoundTimeExceedsLagTimeSpec)

/-- ITS FALSE NEIGHBOUR: 'it returns false'. Refute it at one input. -/
def fnRoundTimeExceedsLagTimeWrong : ChangeSpec := { name := "fnRoundTimeExceedsLagTime", fn := fun _ => fun
  | [d] => { results := [.lit (.bool false)], args := [d] }
  | _ => none }
def FnRoundTimeExceedsLagTimeWrongFalsely : Prop := fnRoundTimeExceedsLagTimeRow.holds Trym.pinned (OpenSpec.ofChange fnRoundTimeExceedsLagTimeWrong)

end Rows
end Go.Proofs.Qxb6614571aMods
