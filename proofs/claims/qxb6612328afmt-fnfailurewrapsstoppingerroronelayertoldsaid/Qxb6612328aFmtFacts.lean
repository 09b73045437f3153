/-
  Closed facts on the dump for the walks over fmt.errorf (stopped) and errors.Is, errors.Unwrap (walked).
-/
import Derived.Test.Qxb6612328aFmtRows
import Derived.WalkKit
import Derived.Stop.CallBack
import Derived.Stop.IfaceNil
import Derived.LaidEql
import Derived.Stop.Asserts
import Derived.RowKitTokens
import Derived.WalkSpells
import GoSem.ClaimData
namespace Go.Proofs.Qxb6612328aFmt
open Go.RowKit Go.Extern.Stop Go.Stop Go.Extern

/-! ### fmt.errorf -/
theorem call18 (args : Array Value) (w : World) : (callFunc 18 args).run Tryf.prog w = ((FmtStop.errorf #[9, 60] #[26] args).run Tryf.prog w).andThen fun v w' => .ok (.value v) w' :=
  run_callFunc_extern Tryf.func18 (by kernel_rfl) (by kernel_rfl) (by kernel_rfl) (by kernel_rfl) args w
theorem guard (name : String) (w : World) : (FmtStop.guard name).run Tryf.prog w = .ok () w := by kernel_rfl
theorem fmt2 : FmtStop.printed? ⟨#[114, 117, 110, 32, 37, 115, 58, 32, 37, 119]⟩ 2 = some [(0, 115, false), (1, 119, false)] := by kernel_rfl
theorem fmt2r (w : World) : (FmtDoors.printed ⟨#[114, 117, 110, 32, 37, 115, 58, 32, 37, 119]⟩ 2).run Tryf.prog w = .ok [(0, 115, false), (1, 119, false)] w := by kernel_rfl
/-- What a string reads as: its shape. -/
def shape9 : List UInt8 := [12, 6, 0, 0, 0, 0, 0, 0, 0, 115, 116, 114, 105, 110, 103]
theorem op9_115w (name : String) (s : ByteArray) (w : World) : (FmtStop.operand name true 115 false (.iface 9 (.string s))).run Tryf.prog w = .ok (shape9, FmtStop.pack s.data.toList) w := by kernel_rfl
theorem ptr48 (w : World) : (FmtStop.ptrTo "errors.errorString").run Tryf.prog w = .ok 48 w := by kernel_rfl
theorem elem48 (w : World) : (elemOf 48).run Tryf.prog w = .ok 50 w := by kernel_rfl
theorem isError48 (w : World) : (FmtDoors.textMethod 48 "Error").run Tryf.prog w = .ok true w := by kernel_rfl
theorem ptr61 (w : World) : (FmtStop.ptrTo "fmt.wrapError").run Tryf.prog w = .ok 61 w := by kernel_rfl
theorem elem61 (w : World) : (elemOf 61).run Tryf.prog w = .ok 92 w := by kernel_rfl
theorem isError61 (w : World) : (FmtDoors.textMethod 61 "Error").run Tryf.prog w = .ok true w := by kernel_rfl
/-- An error of errors.New's make as an operand under w: whatever its type's name is. -/
theorem opPlain48_119w : ∃ X : List UInt8, ∀ (name : String) (a : Addr) (s : ByteArray) (w : World), w.cell? a = some (.string s) →
    (FmtStop.operand name true 119 false (.iface 48 (.pointer (some a)))).run Tryf.prog w = .ok (X, s.data.toList) w := by
  refine ⟨14 :: FmtStop.pack Tryf.t48.str.toUTF8.data.toList, fun name a s w hc => ?_⟩
  have h1 : (typeStr 48).run Tryf.prog w = .ok Tryf.t48.str w := by kernel_rfl
  have d2 : Tryf.t48.desc = .pointer 50 := rfl
  have d3 : Tryf.t50.desc = .named "errors.errorString" 49 := rfl
  simp [FmtStop.operand, h1, d2, d3, run_load, hc]
end Go.Proofs.Qxb6612328aFmt
