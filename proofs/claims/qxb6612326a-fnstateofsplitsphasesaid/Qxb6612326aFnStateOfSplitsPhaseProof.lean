/-
  The walk of FnStateOfSplitsPhase over the given translation, and the row. The frame below the walk is the skeleton tool's.
-/
import Derived.Test.Qxb6612326aRows
import Derived.WalkKit
import Derived.ProofKit
import Derived.OpenShut
import Derived.ShutString
namespace Go.Proofs.Qxb6612326a.fnStateOfSplitsPhase
open Go.ChangeShapes Go.WideShapes Go.ChangeAt Go.RowKit
open Go.ChangeMaps (open_string shut_string)
set_option linter.unusedVariables false      -- a walk need not use every 'w<i>' (that an integer argument fits its kind)

theorem own : ownKnob Try.prog.godebug = none := by kernel_rfl

theorem low (n : Nat) (h : n < 18446744073709551616) : bits .and .u64 (n : Int) 3 = ((n % 4 : Nat) : Int) := by
  rw [show (3 : Int) = ((3 : Nat) : Int) from rfl, u64_and_nat n 3 h (by omega), nat_mask2]
theorem high (n : Nat) (h : n < 18446744073709551616) : IntKind.u64.wrap ((n : Int) / 4 * 4) = ((n / 4 * 4 : Nat) : Int) := by
  rw [IntKind.wrap_u64]; omega
theorem join (n : Nat) (h : n < 18446744073709551616) : bits .or .u64 (IntKind.u64.wrap ((n : Int) / 4 * 4)) (bits .and .u64 (n : Int) 3 % 256) = (n : Int) := by
  rw [low n h, high n h, show ((n % 4 : Nat) : Int) % 256 = ((n % 4 : Nat) : Int) from by omega, u64_or_nat _ _ (by omega) (by omega), nat_join 2 _ _ (by omega) (by omega)]
  omega

/-! ### STEP 1: THE WALK: the Go text returns true. -/
theorem walk (a0 : Int) (w0 : (Lit.int .u64 a0).wf = true) (w : World) :
    Calls Try.prog 3 #[.int .u64 a0] w fun e w' => e = .returned (.bool true) ∧ Grown w w' := by
  obtain ⟨b0, b1⟩ := bounds_u64 w0
  obtain ⟨n, rfl⟩ := Int.eq_ofNat_of_zero_le b0
  have hn : n < 18446744073709551616 := by omega
  have hj : Hid (bits .or .u64 (IntKind.u64.wrap ((n : Int) / 4 * 4)) (bits .and .u64 (n : Int) 3 % 256) = (n : Int)) := join n hn
  have hl : bits .and .u64 (n : Int) 3 % 256 ≤ 3 := by rw [low n hn]; omega
  clear hn b1 b0 w0
  go_enter Try.func3, Try.ntmps3
  go_wp2
  go_ret
  exact ⟨by rw [hj.out]; simp, Grown.refl _⟩

/-! ### THE ROW's STEP: WRITTEN OUT: LEAVE IT -/
set_option maxRecDepth 100000 in
theorem lifted (os : Os) (started : os.Started) (H : Type) (enc : TypeId × Value → H) :
    ReturnsInHanded {} Try.checked os 3 .any (Rows.fnStateOfSplitsPhaseSpec.pre6 enc Try.prog Try.f3 Rows.fnStateOfSplitsPhaseRow.domain false) (Rows.fnStateOfSplitsPhaseSpec.post enc Try.prog Try.f3 false true false false) := by
  refine returnsInHanded_of_change (C := Try.checked) own started (by kernel_rfl) Try.func3
    (ChangeSpec.witness6 (enc := enc) (C := Try.checked) false ⟨#[], #[.int .u64 0], []⟩ 8 (by kernel_rfl) (by kernel_rfl) (by kernel_rfl) (by kernel_rfl)) ?_
  intro W base args ds gs before hval0 hW hcnd _
  have hval : ∀ (j : Nat) t v, Try.f3.params[j]? = some t → args[j]? = some v → Value.okWide Try.prog W .any base t v := hval0
  have hW' := hW
  obtain ⟨p, q, hA0, hV, rfl, hfz, hnd⟩ := hW
  have hA : DataW.TrodAll enc Try.prog W 0 (fun _ => true) true Try.f3.params.toList args.toList ds p := hA0
  rw [Try.params3] at hA hval
  obtain ⟨v0, vs0, d0, ds0, p0, q0, hargs, rfl, rfl, h0, r0⟩ := trodAll_cons hA
  obtain ⟨rfl, rfl, rfl⟩ := trodAll_nil r0
  obtain rfl : args = #[v0] := by cases args; simp_all
  obtain ⟨rfl, rfl⟩ := trodVars_none hV
  obtain ⟨a0, rfl, rfl, rfl, w0⟩ := open_int Try.underlying22 (hval 0 22 v0 rfl rfl) h0
  clear hA0 hval0
  simp only [List.append_nil] at hW'
  refine (walk a0 w0 W).mono fun e W' ⟨he, hg⟩ => ?_
  subst he
  exact ⟨_, rfl, post_of_same (pa := []) (pv := []) hW' (fun _ _ _ => (trodAll_cons_mk (shut_bool Try.underlying4 _) trodAll_mk0)) (fun sp _ => (trodAll_cons_mk (shut_int Try.underlying22 w0) trodAll_mk0)) (fun _ _ => rfl) rfl
    (hg.frame _) hg.2.1 (ok_one (by kernel_rfl) rfl (okWide_bool_mk Try.underlying4 _))⟩

theorem over : Rows.fnStateOfSplitsPhaseRow.holds Try.pinned (OpenSpec.ofChange Rows.fnStateOfSplitsPhaseSpec) :=
  OpenClaim.holds_of_wide 3 Try.f3 rfl rfl rfl rfl rfl rfl rfl ⟨rfl, rfl, rfl, rfl, rfl⟩ rfl rfl rfl rfl rfl (by kernel_rfl) Try.func3 (by kernel_rfl)
    (of_decide_eq_true (by kernel_rfl)) (by unfold Func.isWrapper; first | (rw [if_pos (by decide +kernel)]; kernel_rfl) | (rw [if_neg (by decide +kernel)]; exact ⟨rfl, rfl⟩))
    (fun os started H enc _ => lifted os started H enc)

/-- ████ THE STATEMENT ████ -/
theorem proved : Rows.FnStateOfSplitsPhaseSaid :=
  over
end Go.Proofs.Qxb6612326a.fnStateOfSplitsPhase
