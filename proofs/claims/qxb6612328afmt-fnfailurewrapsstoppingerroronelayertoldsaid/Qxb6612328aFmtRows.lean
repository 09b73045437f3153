/-
  No cell of these rows narrows 'for every input' (looked for: loops, veiled, ifaces, maps, wideKeys, modest, calm, conditions, laid).
  DERIVED. THE GIVEN ROWS OF THIS SEAT. 2 by the template 'for every input the law returns true; each argument reads behind the call as it read before'; 0 by the template 'total and deterministic' (their statements: Qxb6612328aFmtTotals.lean).
  GIVEN WITH THE SEED: the statements are not yours to turn. If you find one false, say at which input.
  Laid BY PROGRAM, IN A SANDBOX (cutbox-rows.mjs): the forced cells as the released guide's own fill.sh prints them over the translation 31fdd57c3c04c19c… (all of the seat's roots in one cut). By AI agents, Wed Nov 11 2026. No macro, syntax, notation, axiom, sorry.
-/
import Derived.Test.Qxb6612328aFmtChecked
import GoSem.Claim
import GoSem.ClaimJoined
import GoSem.ClaimMapViews
import Derived.JoinedTies
import Derived.KernelRfl
namespace Go.Proofs.Qxb6612328aFmt
/- THE CELL 'sum', in the pinned program and in every row, IS THE sha256 OF THE DUMP (.gsa) THAT Qxb6612328aFmtProg.lean LOADS. Nothing in Lean hashes anything: it is a label: what it is worth is what the hold of that sum in a sandbox is worth. -/
noncomputable def Tryf.pinned : Pinned := { name := "qxb6612328afmt", sum := "31fdd57c3c04c19c8dfa620dc93b3acf519f2545e87271d8ae43544a6cceab87", checked := Tryf.checked }
namespace Rows
def none {H : Type} : Left H := { results := [], args := [] }

/-- 'zzlaws_root_b1.FnFailureNilExactlyWhenToldWhole': WHATEVER THE INPUT: true; the input reads as it did. -/
def fnFailureNilExactlyWhenToldWholeSpec : ChangeSpec := { name := "fnFailureNilExactlyWhenToldWhole", fn := fun _ => fun
  | [d1, d2, d3] => { results := [.lit (.bool true)], args := [d1, d2, d3] }
  | _ => none }
def fnFailureNilExactlyWhenToldWholeRow : OpenClaim := { program := "qxb6612328afmt", sum := "31fdd57c3c04c19c8dfa620dc93b3acf519f2545e87271d8ae43544a6cceab87", func := "example.com/inscript/inscript/zzlaws_root_b1.FnFailureNilExactlyWhenToldWhole", spec := "fnFailureNilExactlyWhenToldWhole", stops := ["fmt.errorf"], inPlace := ["fmt.errorf", "internal/reflectlite.TypeOf"], unfollowed := true, recurses := true, apart := false }
/-- NO THEOREM (fmt's text is open here; it may be false): for the released tool's asking of the row's closed facts alone. THE STATEMENT IS 'FnFailureNilExactlyWhenToldWholeToldSaid' (Qxb6612328aFmtCards.lean). -/
def FnFailureNilExactlyWhenToldWholeFormAsk : Prop := fnFailureNilExactlyWhenToldWholeRow.holds Tryf.pinned (OpenSpec.ofChange fnFailureNilExactlyWhenToldWholeSpec)

/-- ITS FALSE NEIGHBOUR: 'it returns false'. Refute it at one input. -/
def fnFailureNilExactlyWhenToldWholeWrong : ChangeSpec := { name := "fnFailureNilExactlyWhenToldWhole", fn := fun _ => fun
  | [d1, d2, d3] => { results := [.lit (.bool false)], args := [d1, d2, d3] }
  | _ => none }
def FnFailureNilExactlyWhenToldWholeWrongFormAsk : Prop := fnFailureNilExactlyWhenToldWholeRow.holds Tryf.pinned (OpenSpec.ofChange fnFailureNilExactlyWhenToldWholeWrong)

/-- 'zzlaws_root_b1.FnFailureWrapsStoppingErrorOneLayer': WHATEVER THE INPUT: true; the input reads as it did. -/
def fnFailureWrapsStoppingErrorOneLayerSpec : ChangeSpec := { name := "fnFailureWrapsStoppingErrorOneLayer", fn := fun _ => fun
  | [d1, d2, d3, d4] => { results := [.lit (.bool true)], args := [d1, d2, d3, d4] }
  | _ => none }
def fnFailureWrapsStoppingErrorOneLayerRow : OpenClaim := { program := "qxb6612328afmt", sum := "31fdd57c3c04c19c8dfa620dc93b3acf519f2545e87271d8ae43544a6cceab87", func := "example.com/inscript/inscript/zzlaws_root_b1.FnFailureWrapsStoppingErrorOneLayer", spec := "fnFailureWrapsStoppingErrorOneLayer", stops := ["fmt.errorf"], inPlace := ["fmt.errorf", "internal/reflectlite.TypeOf"], unfollowed := true, recurses := true, apart := false }
/-- NO THEOREM (fmt's text is open here; it may be false): for the released tool's asking of the row's closed facts alone. THE STATEMENT IS 'FnFailureWrapsStoppingErrorOneLayerToldSaid' (Qxb6612328aFmtCards.lean). -/
def FnFailureWrapsStoppingErrorOneLayerFormAsk : Prop := fnFailureWrapsStoppingErrorOneLayerRow.holds Tryf.pinned (OpenSpec.ofChange fnFailureWrapsStoppingErrorOneLayerSpec)

/-- ITS FALSE NEIGHBOUR: 'it returns false'. Refute it at one input. -/
def fnFailureWrapsStoppingErrorOneLayerWrong : ChangeSpec := { name := "fnFailureWrapsStoppingErrorOneLayer", fn := fun _ => fun
  | [d1, d2, d3, d4] => { results := [.lit (.bool false)], args := [d1, d2, d3, d4] }
  | _ => none }
def FnFailureWrapsStoppingErrorOneLayerWrongFormAsk : Prop := fnFailureWrapsStoppingErrorOneLayerRow.holds Tryf.pinned (OpenSpec.ofChange fnFailureWrapsStoppingErrorOneLayerWrong)

end Rows
end Go.Proofs.Qxb6612328aFmt
