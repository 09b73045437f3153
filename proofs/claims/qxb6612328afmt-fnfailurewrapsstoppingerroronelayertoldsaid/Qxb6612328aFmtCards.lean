/-
  DERIVED. GIVEN WITH THE SEED: THE CARDS: each row of Qxb6612328aFmtRows.lean that lists a variable, with what it lists TIED to the program's text (the seventh form; the later family's looks); each row that meets fmt, with fmt's text TOLD by the authors' own Lean function (tested against real Go, not proved from fmt's source: count such statements apart). THE CARD IS WHAT COUNTS. Prove the row's statement (the work); the ties are given (Qxb6612328aFmtTie.lean); close each card by the builder's one call (the guide's Derived/Test/ToyasCard.lean, 'card_holds'). Laid BY PROGRAM, IN A SANDBOX (cutbox-door.mjs). By AI agents, Wed Nov 11 2026. No macro, syntax, notation, axiom, sorry.
-/
import Derived.Test.Qxb6612328aFmtRows
import GoSem.ClaimSeven
namespace Go.Proofs.Qxb6612328aFmt
namespace Rows

/-- THE TOLD CARD OF 'zzlaws_root_b1.FnFailureNilExactlyWhenToldWhole'. -/
def fnFailureNilExactlyWhenToldWholeCard : Claim7 := { stood := { row := fnFailureNilExactlyWhenToldWholeRow, standIns := [], harness := (true, "2ec2cc1371cbb12505420c1faaa8f799f5bacead3a74fce212c1aad0c1062643"), looks := true }, told := true, goes := false }
def FnFailureNilExactlyWhenToldWholeToldSaid : Prop := Claim7.holds Tryf.pinned (.plain (OpenSpec.ofChange fnFailureNilExactlyWhenToldWholeSpec)) fnFailureNilExactlyWhenToldWholeCard
/-- ITS FALSE NEIGHBOUR. Refute it at one input. -/
def FnFailureNilExactlyWhenToldWholeToldWrongFalsely : Prop := Claim7.holds Tryf.pinned (.plain (OpenSpec.ofChange fnFailureNilExactlyWhenToldWholeWrong)) fnFailureNilExactlyWhenToldWholeCard

/-- THE TOLD CARD OF 'zzlaws_root_b1.FnFailureWrapsStoppingErrorOneLayer'. -/
def fnFailureWrapsStoppingErrorOneLayerCard : Claim7 := { stood := { row := fnFailureWrapsStoppingErrorOneLayerRow, standIns := [], harness := (true, "2ec2cc1371cbb12505420c1faaa8f799f5bacead3a74fce212c1aad0c1062643"), looks := true }, told := true, goes := false }
def FnFailureWrapsStoppingErrorOneLayerToldSaid : Prop := Claim7.holds Tryf.pinned (.plain (OpenSpec.ofChange fnFailureWrapsStoppingErrorOneLayerSpec)) fnFailureWrapsStoppingErrorOneLayerCard
/-- ITS FALSE NEIGHBOUR. Refute it at one input. -/
def FnFailureWrapsStoppingErrorOneLayerToldWrongFalsely : Prop := Claim7.holds Tryf.pinned (.plain (OpenSpec.ofChange fnFailureWrapsStoppingErrorOneLayerWrong)) fnFailureWrapsStoppingErrorOneLayerCard
end Rows
end Go.Proofs.Qxb6612328aFmt
