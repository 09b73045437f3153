/-
  The contracts of ZZnewIdleQueue, ZZwakeLen and ZZsignal.
-/
import Derived.Test.Qxb6612260aSignal
import Derived.RegionTactic
import Derived.ChangeAlike
namespace Go.Proofs.Qxb6612260a
open Go.Conc Go.RowKit

/-- A Queue in memory: its eight cells. -/
def qobj (c d : Nat) (held : Value) (size : Int) : Obj := .cells #[.nilIface, .chan (some c), .chan (some d), .int .i32 0, .int .u32 0, held, .int .i64 size, .bool false] 51

theorem heap3 (w : World) (x y z : Obj) : (((w.alloc x).alloc y).alloc z).drew.heap = ((w.heap.push x).push y).push z := rfl

theorem push3_2 (A : Array Obj) (x y z : Obj) : (((A.push x).push y).push z)[A.size + 2]? = some z := by
  rw [Array.getElem?_push, if_pos (by simp)]
theorem push3_1 (A : Array Obj) (x y z : Obj) : (((A.push x).push y).push z)[A.size + 1]? = some y := by
  rw [Array.getElem?_push, if_neg (by simp), Array.getElem?_push, if_pos (by simp)]
theorem push3_0 (A : Array Obj) (x y z : Obj) : (((A.push x).push y).push z)[A.size]? = some x := by
  rw [Array.getElem?_push, if_neg (by simp; omega), Array.getElem?_push, if_neg (by simp), Array.getElem?_push, if_pos rfl]

/-- A NEW QUEUE: three new blocks; the two channels' order is open. -/
theorem new_idle (w : World) : Calls Try.prog 8 #[] w fun e w' => ∃ c d : Nat, e = .returned (.pointer (some ⟨w.heap.size + 2, 0, none⟩)) ∧ w.heap.size ≤ c ∧ c < w.heap.size + 2 ∧
    w'.heap.size = w.heap.size + 3 ∧ w'.heap[w.heap.size + 2]? = some (qobj c d (.slice none 0 0) 0) ∧ w'.heap[c]? = some (.chan 1 #[] false 0 0 false) ∧ Below w.heap.size w w' := by
  have hm1 := mk1
  have hm0 := mk0
  go_enter Try.func8, Try.ntmps8
  go_wp2
  go_region
  all_goals go_wp2
  all_goals go_ret
  · refine ⟨w.heap.size, w.heap.size + 1, rfl, Nat.le_refl _, by omega, ?_, ?_, ?_, ?_⟩
    · rw [heap3]; simp
    · rw [heap3]; exact push3_2 _ _ _ _
    · rw [heap3]; exact push3_0 _ _ _ _
    · exact ((((Below.refl _ w).alloc (Nat.le_refl _) _).alloc (by simp) _).alloc (by simp; omega) _).drew
  · refine ⟨w.heap.size + 1, w.heap.size, rfl, by omega, by omega, ?_, ?_, ?_, ?_⟩
    · rw [heap3]; simp
    · rw [heap3]; exact push3_2 _ _ _ _
    · rw [heap3]; exact push3_1 _ _ _ _
    · exact ((((Below.refl _ w).alloc (Nat.le_refl _) _).alloc (by simp) _).alloc (by simp; omega) _).drew

theorem wake_len (q o c s r : Nat) (buf : Array Value) (w : World) (hq : w.cell? ⟨q, o + 1, none⟩ = some (.chan (some c))) (hc : w.heap[c]? = some (.chan 1 buf false s r false)) :
    Calls Try.prog 14 #[.pointer (some ⟨q, o, none⟩)] w fun e w' => e = .returned (.int .i64 buf.size) ∧ w' = w := by
  have hlen := fun ty => run_len_chan (P := Try.prog) 39 ty Try.underlying39 hc
  go_enter Try.func14, Try.ntmps14
  go_wp2
  go_ret
  exact ⟨rfl, rfl⟩

theorem zsignal_room (q o c s r : Nat) (w : World) (hq : w.cell? ⟨q, o + 1, none⟩ = some (.chan (some c))) (hc : w.heap[c]? = some (.chan 1 #[] false s r false)) :
    Calls Try.prog 15 #[.pointer (some ⟨q, o, none⟩)] w fun e w' => e = .returned (.tuple #[]) ∧ w' = w.setChan c 1 #[.agg #[]] false (s + 1) r false := by
  go_enter Try.func15, Try.ntmps15
  go_wp2_with (go_at_call 21; refine (signal_room q o c s r _ hq hc).mono ?_; rintro e w' ⟨rfl, rfl⟩)
  go_end0
  exact ⟨rfl, rfl⟩
theorem zsignal_full (q o c s r : Nat) (w : World) (hq : w.cell? ⟨q, o + 1, none⟩ = some (.chan (some c))) (hc : w.heap[c]? = some (.chan 1 #[.agg #[]] false s r false)) :
    Calls Try.prog 15 #[.pointer (some ⟨q, o, none⟩)] w fun e w' => e = .returned (.tuple #[]) ∧ w' = w := by
  go_enter Try.func15, Try.ntmps15
  go_wp2_with (go_at_call 21; refine (signal_full q o c s r _ hq hc).mono ?_; rintro e w' ⟨rfl, rfl⟩)
  go_end0
  exact ⟨rfl, rfl⟩
end Go.Proofs.Qxb6612260a
