/-
  The contracts of errors.New, the streamers' makers and readers, failure.
-/
import Derived.Test.Qxb6612328aFmtFacts
namespace Go.Proofs.Qxb6612328aFmt
open Go.RowKit Go.Extern.Stop Go.Stop Go.Extern
attribute [local go_sem] call18 guard fmt2 fmt2r op9_115w ptr48 elem48 isError48 ptr61 elem61 isError61

theorem new_any (s : ByteArray) (w : World) : Calls Tryf.prog 14 #[.string s] w fun e w' => e = .returned (.iface 48 (.pointer (some ⟨w.heap.size, 0, none⟩))) ∧ w' = w.alloc (.cells #[.string s] 50) := by
  go_enter Tryf.func14, Tryf.ntmps14
  go_wp2
  go_ret
  exact ⟨rfl, rfl⟩
theorem whole_any (w : World) : Calls Tryf.prog 6 #[] w fun e w' => e = .returned (.pointer (some ⟨w.heap.size, 0, none⟩)) ∧ w' = w.alloc (.cells #[.slice none 0 0, .int .i64 0, .nilIface, .slice none 0 0] 37) := by
  go_enter Tryf.func6, Tryf.ntmps6
  go_wp2
  go_ret
  exact ⟨rfl, rfl⟩
theorem stopped_any (s : ByteArray) (w : World) : Calls Tryf.prog 8 #[.string s] w fun e w' => e = .returned (.pointer (some ⟨w.heap.size + 1, 0, none⟩)) ∧
    w' = (w.alloc (.cells #[.string s] 50)).alloc (.cells #[.slice none 0 0, .int .i64 0, .iface 48 (.pointer (some ⟨w.heap.size, 0, none⟩)), .slice none 0 0] 37) := by
  go_enter Tryf.func8, Tryf.ntmps8
  go_wp2_with (go_at_call 14; refine (new_any s _).mono ?_; rintro e w' ⟨rfl, rfl⟩)
  go_ret
  exact ⟨rfl, rfl⟩
theorem err_any (p : Nat) (v : Value) (w : World) (h : w.cell? ⟨p, 2, none⟩ = some v) : Calls Tryf.prog 9 #[.pointer (some ⟨p, 0, none⟩)] w fun e w' => e = .returned v ∧ w' = w := by
  go_enter Tryf.func9, Tryf.ntmps9
  go_wp2
  go_ret
  exact ⟨rfl, rfl⟩
theorem failure_nil (p : Nat) (r : ByteArray) (w : World) (h : w.cell? ⟨p, 2, none⟩ = some .nilIface) : Calls Tryf.prog 13 #[.pointer (some ⟨p, 0, none⟩), .string r] w fun e w' => e = .returned .nilIface ∧ w' = w := by
  go_enter Tryf.func13, Tryf.ntmps13
  go_wp2
  go_ret
  exact ⟨rfl, rfl⟩

/-- What failure leaves where the stream was stopped: a new wrapError that wraps the stopping error. -/
def Wrapped (a : Addr) (w : World) (e : Ending) (w' : World) : Prop :=
  e = .returned (.iface 61 (.pointer (some ⟨w.heap.size + 1, 0, none⟩))) ∧ w'.cell? ⟨w.heap.size + 1, 1, none⟩ = some (.iface 48 (.pointer (some a))) ∧ w'.heap.size = w.heap.size + 2 ∧ Below w.heap.size w w'

theorem wrapped_mk (a : Addr) (w : World) (x y : Value) (t u : TypeId) {z : Value} :
    Wrapped a w (.returned (.iface 61 (.pointer (some ⟨w.heap.size + 1, 0, none⟩)))) ((w.alloc (.cells #[x, y] t)).alloc (.cells #[z, .iface 48 (.pointer (some a))] u)).drew := by
  refine ⟨rfl, by simp, by simp, (((Below.refl _ w).alloc (Nat.le_refl _) _).alloc (by simp) _).drew⟩

theorem failure_err (F : Interp) (p : Nat) (a : Addr) (s r : ByteArray) (w : World) (hF : F.answers w.tape) (h : w.cell? ⟨p, 2, none⟩ = some (.iface 48 (.pointer (some a)))) (hs : w.cell? a = some (.string s)) :
    Calls Tryf.prog 13 #[.pointer (some ⟨p, 0, none⟩), .string r] w (Wrapped a w) := by
  have hF' := answers_open hF
  obtain ⟨X, hX⟩ := opPlain48_119w
  have hop := fun o1 => hX "fmt.errorf" a s (w.alloc o1) (cell_later ((Below.refl _ w).alloc (Nat.le_refl _) o1) hs)
  clear hX
  go_enter Tryf.func13, Tryf.ntmps13
  go_wp2
  go_ret
  exact wrapped_mk a w _ _ 20 92

theorem zfailure_nil (p : Nat) (r : ByteArray) (w : World) (h : w.cell? ⟨p, 2, none⟩ = some .nilIface) : Calls Tryf.prog 7 #[.pointer (some ⟨p, 0, none⟩), .string r] w fun e w' => e = .returned .nilIface ∧ w' = w := by
  go_enter Tryf.func7, Tryf.ntmps7
  go_wp2_with (go_at_call 13; refine (failure_nil p r _ h).mono ?_; rintro e w' ⟨rfl, rfl⟩)
  go_ret
  exact ⟨rfl, rfl⟩
theorem zfailure_err (F : Interp) (p : Nat) (a : Addr) (s r : ByteArray) (w : World) (hF : F.answers w.tape) (h : w.cell? ⟨p, 2, none⟩ = some (.iface 48 (.pointer (some a)))) (hs : w.cell? a = some (.string s)) :
    Calls Tryf.prog 7 #[.pointer (some ⟨p, 0, none⟩), .string r] w (Wrapped a w) := by
  go_enter Tryf.func7, Tryf.ntmps7
  go_wp2_with fail
  refine (failure_err F p a s r w hF h hs).mono ?_
  rintro e w1 ⟨rfl, h1, h2, h3⟩
  have H : Hid (Wrapped a w (.returned (.iface 61 (.pointer (some ⟨w.heap.size + 1, 0, none⟩)))) w1) := ⟨rfl, h1, h2, h3⟩
  clear h1 h2 h3
  go_wp2
  go_ret
  exact H.out
end Go.Proofs.Qxb6612328aFmt
