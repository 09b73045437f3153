/-
  The walks of ZZnewProfile, WithChildren, ZZprofileChildren and FnWithChildrenLastWriteWinsAndRestores.
-/
import Derived.Test.Qxb6612328aRows
import Derived.WalkKit
import Derived.KernelRfl
namespace Go.Proofs.Qxb6612328a
open Go.RowKit

theorem newProfile_any (k : Int) (l : Bool) (c : Int) (w : World) :
    Calls Try.prog 4 #[.int .u64 k, .bool l, .int .i64 c] w fun e w' => e = .returned (.agg #[.int .u64 k, .bool l, .int .i64 c]) ∧ w' = w.alloc (.cells #[.int .u64 k, .bool l, .int .i64 c] 26) := by
  go_enter Try.func4, Try.ntmps4
  go_wp2
  exact bodyPost_ret (v := .agg #[.int .u64 k, .bool l, .int .i64 c]) (by simp [results, Try.results4, go_sem]) rfl ⟨rfl, rfl⟩
theorem withChildren_any (k : Int) (l : Bool) (c p : Int) (w : World) :
    Calls Try.prog 5 #[.agg #[.int .u64 k, .bool l, .int .i64 c], .int .i64 p] w fun e w' => e = .returned (.agg #[.int .u64 k, .bool l, .int .i64 p]) ∧ w' = (w.alloc (.cells #[.int .u64 k, .bool l, .int .i64 p] 26)).alloc (.cells #[.int .u64 k, .bool l, .int .i64 p] 26) := by
  go_enter Try.func5, Try.ntmps5
  go_wp2
  exact bodyPost_ret (v := .agg #[.int .u64 k, .bool l, .int .i64 p]) (by simp [results, Try.results5, go_sem]) rfl ⟨rfl, rfl⟩
theorem children_any (k : Int) (l : Bool) (c : Int) (w : World) :
    Calls Try.prog 6 #[.agg #[.int .u64 k, .bool l, .int .i64 c]] w fun e w' => e = .returned (.int .i64 c) ∧ w' = w.alloc (.cells #[.int .u64 k, .bool l, .int .i64 c] 26) := by
  go_enter Try.func6, Try.ntmps6
  go_wp2
  go_ret
  exact ⟨rfl, rfl⟩

set_option maxRecDepth 100000 in
set_option maxHeartbeats 1000000 in
theorem law_in (a0 : Int) (a1 : Bool) (a2 a3 a4 : Int) (h : (a0 / 128 != 0) = false) (w : World) :
    Calls Try.prog 3 #[.int .u64 a0, .bool a1, .int .i64 a2, .int .i64 a3, .int .i64 a4] w fun e w' => e = .returned (.bool true) ∧ Grown w w' := by
  go_enter Try.func3, Try.ntmps3
  go_wp2_with fail
  refine (newProfile_any a0 a1 a2 w).mono ?_
  rintro e w1 ⟨rfl, rfl⟩
  go_wp2_with fail
  refine (withChildren_any a0 a1 a2 a3 _).mono ?_
  rintro e w1 ⟨rfl, rfl⟩
  go_wp2_with fail
  refine (withChildren_any a0 a1 a3 a4 _).mono ?_
  rintro e w1 ⟨rfl, rfl⟩
  go_wp2_with fail
  refine (withChildren_any a0 a1 a2 a4 _).mono ?_
  rintro e w1 ⟨rfl, rfl⟩
  go_wp2_with fail
  refine (withChildren_any a0 a1 a2 a3 _).mono ?_
  rintro e w1 ⟨rfl, rfl⟩
  go_wp2_with fail
  refine (withChildren_any a0 a1 a3 a2 _).mono ?_
  rintro e w1 ⟨rfl, rfl⟩
  go_wp2_with fail
  refine (children_any a0 a1 a4 _).mono ?_
  rintro e w1 ⟨rfl, rfl⟩
  go_wp2
  go_ret
  refine ⟨rfl, ?_⟩
  iterate 16 refine Grown.alloc ?_ _ _
  exact Grown.refl _

theorem law_out (a0 : Int) (a1 : Bool) (a2 a3 a4 : Int) (h : (a0 / 128 != 0) = true) (w : World) :
    Calls Try.prog 3 #[.int .u64 a0, .bool a1, .int .i64 a2, .int .i64 a3, .int .i64 a4] w fun e w' => e = .returned (.bool true) ∧ Grown w w' := by
  go_enter Try.func3, Try.ntmps3
  go_wp2
  go_ret
  exact ⟨rfl, Grown.refl _⟩
end Go.Proofs.Qxb6612328a
