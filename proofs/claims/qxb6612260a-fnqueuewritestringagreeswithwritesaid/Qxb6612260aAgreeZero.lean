/-
  The walk of FnQueueWriteStringAgreesWithWrite at a slice of length 0, wherever it leads.
-/
import Derived.Test.Qxb6612260aAgreeWalk
namespace Go.Proofs.Qxb6612260a
open Go.Conc Go.RowKit

theorem zzBytes_zero (a0 : Option Addr) (cap : Nat) (w : World) : Calls Try.prog 6 #[.slice a0 0 cap] w fun e w' => e = .returned (.bool true) ∧ w' = w := by
  go_enter Try.func6, Try.ntmps6
  go_wp2
  go_loop [3, 4] (fun _ i => i = .int .i64 0) (fun _ _ => 0)
  case atStart => exact rfl
  case round =>
    subst hrel
    go_wp2
    go_ret
    exact ⟨rfl, rfl⟩
theorem zzb1_zero (a0 : Option Addr) (cap : Nat) (w : World) : Calls Try.prog 7 #[.slice a0 0 cap, .int .i64 0] w fun e w' => e = .returned (.int .i64 0) ∧ w' = w := by
  go_enter Try.func7, Try.ntmps7
  go_wp2
  go_loop [5, 6] (fun n i => n = .int .i64 0 ∧ i = .int .i64 0) (fun _ _ => 0)
  case atStart => exact ⟨rfl, rfl⟩
  case round =>
    obtain ⟨rfl, rfl⟩ := hrel
    go_wp2
    go_ret
    exact ⟨rfl, rfl⟩

set_option maxRecDepth 100000 in
set_option maxHeartbeats 1000000 in
theorem agree_zero (a0 : Option Addr) (cap : Nat) (w : World) :
    Calls Try.prog 3 #[.slice a0 0 cap] w fun e w' => e = .returned (.bool true) ∧ Below w.heap.size w w' := by
  go_enter Try.func3, Try.ntmps3
  go_wp2_with fail
  refine (zzBytes_zero a0 cap w).mono ?_
  rintro e w1 ⟨rfl, h1⟩
  subst h1
  go_wp2_with fail
  refine (zzb1_zero a0 cap _).mono ?_
  rintro e w2 ⟨rfl, h2⟩
  subst h2
  go_wp2_with fail
  refine (new_idle _).mono ?_
  rintro e w3 ⟨ca, da, rfl, g1, g2, g3, g4, g5, g6⟩
  have G : Hid (w2.heap.size ≤ ca ∧ ca < w2.heap.size + 2 ∧ w3.heap.size = w2.heap.size + 3 ∧ w3.heap[w2.heap.size + 2]? = some (qobj ca da (.slice none 0 0) 0) ∧ w3.heap[ca]? = some (.chan 1 #[] false 0 0 false) ∧ Below w2.heap.size w2 w3) := ⟨g1, g2, g3, g4, g5, g6⟩
  clear g1 g2 g3 g4 g5 g6
  go_wp2_with fail
  refine (new_idle _).mono ?_
  rintro e w4 ⟨cb, db, rfl, k1, k2, k3, k4, k5, k6⟩
  obtain ⟨g1, g2, g3, g4, g5, g6⟩ := G.out
  obtain ⟨L, P⟩ := pair_start g1 g2 g3 g4 g5 g6 k1 k2 k3 k4 k5 k6
  clear g1 g2 g3 g4 g5 g6 k1 k2 k3 k4 k5 k6 G
  generalize w2.heap.size + 2 = qa at L P ⊢
  generalize w3.heap.size + 2 = qb at L P ⊢
  generalize w2.heap.size + 6 = base at L P
  clear L
  go_wp2_with fail
  go_loopw [5, 6, 7] (fun sm gv i wr => sm = .int .i64 0 ∧ gv = .int .i64 0 ∧ i = .int .i64 0 ∧ Pair w2 wr base qa ca da qb cb db (.slice none 0 0) (.slice none 0 0) []) (fun _ _ _ _ => 0)
  case atStart => exact ⟨rfl, rfl, rfl, P⟩
  case round =>
    obtain ⟨rfl, rfl, rfl, PR⟩ := hrel
    clear P
    go_wp2_with fail
    refine (sameHeld_any base qa ca da qb cb db _ _ [] wr PR.a PR.b (by simp)).mono ?_
    rintro e w5 ⟨rfl, h5⟩
    subst h5
    go_wp2_with fail
    refine (size_any base qa ca da 0 _ [] _ PR.a).mono ?_
    rintro e w6 ⟨rfl, h6⟩
    subst h6
    rw [show total [] = 0 from rfl]
    go_wp2_with fail
    refine (heldLen_any base qa ca da 0 _ [] _ PR.a).mono ?_
    rintro e w7 ⟨rfl, h7⟩
    subst h7
    go_wp2_with fail
    refine (wakeLen_any base qa ca da 0 _ [] _ PR.a).mono ?_
    rintro e w8 ⟨rfl, h8⟩
    subst h8
    rw [show sent ([] : List ByteArray).length = 0 from rfl]
    go_wp2
    go_ret
    exact ⟨rfl, PR.below⟩
end Go.Proofs.Qxb6612260a
