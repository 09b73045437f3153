/-
  errors.Is and errors.Unwrap by their contracts, for the errors that this road hands them. After the guide's worked family Sentry, at this dump's numbers.
  26: error · 48: pointer to errors.errorString · 50: errors.errorString · 61: pointer to fmt.wrapError · 52: reflectlite's rtype · 54, 44, 57: the three interfaces that errors.is asks for.
-/
import Derived.Test.Qxb6612328aFmtFacts
namespace Go.Proofs.Qxb6612328aFmt
open Go.RowKit Go.Extern.Stop Go.Stop Go.Extern

theorem call15 (v : Value) (w : World) : (callFunc 15 #[.iface 48 v]).run Tryf.prog w = .ok (.value (.iface 52 (.agg #[.pointer (some ⟨0, 48, none⟩)]))) w := by kernel_rfl
theorem call39 (w : World) : (callFunc 39 #[.agg #[.pointer (some ⟨0, 48, none⟩)]]).run Tryf.prog w = .ok (.value (.bool true)) w := by kernel_rfl
theorem methodComparable (v : Value) (w : World) : (Go.method 223 52 v "Comparable").run Tryf.prog w = .ok (39, v) w := by kernel_rfl
theorem methodUnwrap (v : Value) (w : World) : (Go.method 223 61 v "Unwrap").run Tryf.prog w = .ok (49, v) w := by kernel_rfl
theorem isComp : (Tryf.prog.info? 48).map (·.comparable) = some true := by kernel_rfl
theorem isSize : (Tryf.prog.info? 50).map (·.size) = some 1 := by kernel_rfl
theorem noIsW (v : Value) (xT : TypeId) (w : World) : (Instr.typeAssert (.iface 61 v) xT 54 true).run Tryf.prog w = .ok (.tuple #[.nilIface, .bool false]) w := run_typeAssert_lacksB Tryf.underlying54 (by kernel_rfl) (by kernel_rfl) v xT w
theorem hasUnwrapW (v : Value) (xT : TypeId) (w : World) : (Instr.typeAssert (.iface 61 v) xT 44 true).run Tryf.prog w = .ok (.tuple #[.iface 61 v, .bool true]) w := run_typeAssert_hasB Tryf.underlying44 (by kernel_rfl) v xT w

/-- errors.Is(x, x), x a pointer to an errors.errorString. -/
theorem is_same (a : Addr) (w : World) :
    Calls Tryf.prog 10 #[.iface 48 (.pointer (some a)), .iface 48 (.pointer (some a))] w fun e w' => e = .returned (.bool true) ∧ w' = w := by
  obtain ⟨i, hi, hcmp⟩ := Option.map_eq_some_iff.1 isComp
  obtain ⟨j, hj, hjs⟩ := Option.map_eq_some_iff.1 isSize
  have h15 := call15
  have h39 := call39
  have mR := methodComparable
  have heq := run_eql_iface_ptr_same (P := Tryf.prog) w a Tryf.underlying26 Tryf.underlying48 hi hcmp hj
  go_enter Tryf.func10, Tryf.ntmps10
  go_wp2
  refine wp_loop_rounds 1 ?_
  rw [rounds_succ]
  go_wp2
  go_ret
  exact ⟨rfl, rfl⟩

/-- errors.Is(e, x), e a pointer to a fmt.wrapError that wraps x itself: one Unwrap, then equal. -/
theorem is_wrap_same (pb po : Nat) (b : Addr) (w : World) (h1 : w.cell? ⟨pb, po + 1, none⟩ = some (.iface 48 (.pointer (some b)))) :
    Calls Tryf.prog 10 #[.iface 61 (.pointer (some ⟨pb, po, none⟩)), .iface 48 (.pointer (some b))] w fun e w' => e = .returned (.bool true) ∧ w' = w := by
  obtain ⟨i, hi, hcmp⟩ := Option.map_eq_some_iff.1 isComp
  obtain ⟨j, hj, hjs⟩ := Option.map_eq_some_iff.1 isSize
  have h15 := call15
  have h39 := call39
  have mR := methodComparable
  have nW := noIsW
  have uW := hasUnwrapW
  have mU := methodUnwrap
  have heq := run_eql_iface_ptr_same (P := Tryf.prog) w b Tryf.underlying26 Tryf.underlying48 hi hcmp hj
  have hty := run_eql_iface_types (P := Tryf.prog) 61 48 (.pointer (some ⟨pb, po, none⟩)) (.pointer (some b)) Tryf.underlying26 (by decide) w
  go_enter Tryf.func10, Tryf.ntmps10
  go_wp2
  refine wp_loop_rounds 2 ?_
  rw [rounds_succ]
  go_wp2
  rw [rounds_succ]
  go_wp2
  go_ret
  exact ⟨rfl, rfl⟩

/-- errors.Unwrap of a pointer to a fmt.wrapError: what it wraps. -/
theorem unwrap_wrap (pb po : Nat) (v : Value) (w : World) (h1 : w.cell? ⟨pb, po + 1, none⟩ = some v) :
    Calls Tryf.prog 12 #[.iface 61 (.pointer (some ⟨pb, po, none⟩))] w fun e w' => e = .returned v ∧ w' = w := by
  have uW := hasUnwrapW
  have mU := methodUnwrap
  go_enter Tryf.func12, Tryf.ntmps12
  go_wp2
  go_ret
  exact ⟨rfl, rfl⟩
end Go.Proofs.Qxb6612328aFmt
