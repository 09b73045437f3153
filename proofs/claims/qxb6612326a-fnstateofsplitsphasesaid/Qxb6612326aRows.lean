/-
  No cell of these rows narrows 'for every input' (looked for: loops, veiled, ifaces, maps, wideKeys, modest, calm, conditions, laid).
  DERIVED. THE GIVEN ROWS OF THIS SEAT. 1 by the template 'for every input the law returns true; each argument reads behind the call as it read before'; 0 by the template 'total and deterministic' (their statements: Qxb6612326aTotals.lean).
  GIVEN WITH THE SEED: the statements are not yours to turn. If you find one false, say at which input.
  Laid BY PROGRAM, IN A SANDBOX (cutbox-rows.mjs): the forced cells as the released guide's own fill.sh prints them over the translation 6ffe9b1c85eb4f6d… (all of the seat's roots in one cut). By AI agents, Wed Nov 11 2026. No macro, syntax, notation, axiom, sorry.
-/
import Derived.Test.Qxb6612326aChecked
import GoSem.Claim
import GoSem.ClaimJoined
import GoSem.ClaimMapViews
import Derived.JoinedTies
import Derived.KernelRfl
namespace Go.Proofs.Qxb6612326a
/- THE CELL 'sum', in the pinned program and in every row, IS THE sha256 OF THE DUMP (.gsa) THAT Qxb6612326aProg.lean LOADS. Nothing in Lean hashes anything: it is a label: what it is worth is what the hold of that sum in a sandbox is worth. -/
noncomputable def Try.pinned : Pinned := { name := "qxb6612326a", sum := "6ffe9b1c85eb4f6d1b11213535c5a085563800278b5e1605b54236a1b947dc1f", checked := Try.checked }
namespace Rows
def none {H : Type} : Left H := { results := [], args := [] }

/-- 'zzlaws_pkg_circuit_b1.FnStateOfSplitsPhase': WHATEVER THE INPUT: true; the input reads as it did. -/
def fnStateOfSplitsPhaseSpec : ChangeSpec := { name := "fnStateOfSplitsPhase", fn := fun _ => fun
  | [d] => { results := [.lit (.bool true)], args := [d] }
  | _ => none }
def fnStateOfSplitsPhaseRow : OpenClaim := { program := "qxb6612326a", sum := "6ffe9b1c85eb4f6d1b11213535c5a085563800278b5e1605b54236a1b947dc1f", func := "example.com/enodia/enodia/zzlaws_pkg_circuit_b1.FnStateOfSplitsPhase", spec := "fnStateOfSplitsPhase", apart := false }
def FnStateOfSplitsPhaseSaid : Prop := fnStateOfSplitsPhaseRow.holds Try.pinned (OpenSpec.ofChange fnStateOfSplitsPhaseSpec)

/-- ITS FALSE NEIGHBOUR: 'it returns false'. Refute it at one input. -/
def fnStateOfSplitsPhaseWrong : ChangeSpec := { name := "fnStateOfSplitsPhase", fn := fun _ => fun
  | [d] => { results := [.lit (.bool false)], args := [d] }
  | _ => none }
def FnStateOfSplitsPhaseWrongFalsely : Prop := fnStateOfSplitsPhaseRow.holds Try.pinned (OpenSpec.ofChange fnStateOfSplitsPhaseWrong)

end Rows
end Go.Proofs.Qxb6612326a
