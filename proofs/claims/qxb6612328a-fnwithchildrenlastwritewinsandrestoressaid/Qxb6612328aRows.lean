/-
  No cell of these rows narrows 'for every input' (looked for: loops, veiled, ifaces, maps, wideKeys, modest, calm, conditions, laid).
  DERIVED. THE GIVEN ROWS OF THIS SEAT. 1 by the template 'for every input the law returns true; each argument reads behind the call as it read before'; 0 by the template 'total and deterministic' (their statements: Qxb6612328aTotals.lean).
  GIVEN WITH THE SEED: the statements are not yours to turn. If you find one false, say at which input.
  Laid BY PROGRAM, IN A SANDBOX (cutbox-rows.mjs): the forced cells as the released guide's own fill.sh prints them over the translation c089003262406f12… (all of the seat's roots in one cut). By AI agents, Wed Nov 11 2026. No macro, syntax, notation, axiom, sorry.
-/
import Derived.Test.Qxb6612328aChecked
import GoSem.Claim
import GoSem.ClaimJoined
import GoSem.ClaimMapViews
import Derived.JoinedTies
import Derived.KernelRfl
namespace Go.Proofs.Qxb6612328a
/- THE CELL 'sum', in the pinned program and in every row, IS THE sha256 OF THE DUMP (.gsa) THAT Qxb6612328aProg.lean LOADS. Nothing in Lean hashes anything: it is a label: what it is worth is what the hold of that sum in a sandbox is worth. -/
noncomputable def Try.pinned : Pinned := { name := "qxb6612328a", sum := "c089003262406f120a809986c178c688f3b152da0a5ab2e18fbbb37169931f6c", checked := Try.checked }
namespace Rows
def none {H : Type} : Left H := { results := [], args := [] }

/-- 'zzlaws_root_b1.FnWithChildrenLastWriteWinsAndRestores': WHATEVER THE INPUT: true; the input reads as it did. -/
def fnWithChildrenLastWriteWinsAndRestoresSpec : ChangeSpec := { name := "fnWithChildrenLastWriteWinsAndRestores", fn := fun _ => fun
  | [d1, d2, d3, d4, d5] => { results := [.lit (.bool true)], args := [d1, d2, d3, d4, d5] }
  | _ => none }
def fnWithChildrenLastWriteWinsAndRestoresRow : OpenClaim := { program := "qxb6612328a", sum := "c089003262406f120a809986c178c688f3b152da0a5ab2e18fbbb37169931f6c", func := "example.com/inscript/inscript/zzlaws_root_b1.FnWithChildrenLastWriteWinsAndRestores", spec := "fnWithChildrenLastWriteWinsAndRestores", apart := false }
def FnWithChildrenLastWriteWinsAndRestoresSaid : Prop := fnWithChildrenLastWriteWinsAndRestoresRow.holds Try.pinned (OpenSpec.ofChange fnWithChildrenLastWriteWinsAndRestoresSpec)

/-- ITS FALSE NEIGHBOUR: 'it returns false'. Refute it at one input. -/
def fnWithChildrenLastWriteWinsAndRestoresWrong : ChangeSpec := { name := "fnWithChildrenLastWriteWinsAndRestores", fn := fun _ => fun
  | [d1, d2, d3, d4, d5] => { results := [.lit (.bool false)], args := [d1, d2, d3, d4, d5] }
  | _ => none }
def FnWithChildrenLastWriteWinsAndRestoresWrongFalsely : Prop := fnWithChildrenLastWriteWinsAndRestoresRow.holds Try.pinned (OpenSpec.ofChange fnWithChildrenLastWriteWinsAndRestoresWrong)

end Rows
end Go.Proofs.Qxb6612328a
