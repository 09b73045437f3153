/-
  The walk of FnSwapSelectionSortMatchesInsertionSort where a slice is nil.
-/
import Derived.Test.Qxb6612374aSelWalk
namespace Go.Proofs.Qxb6612374a
open Go.RowKit

set_option maxRecDepth 100000 in
set_option maxHeartbeats 2000000 in
theorem sel_nn (w : World) :
    Calls Try.prog 3 #[.slice none 0 0, .slice none 0 0] w fun e w' => e = .returned (.bool true) ∧ Below w.heap.size w w' := by
  obtain ⟨i0, hi, hz0, hz1, hz2⟩ := info_parts info27
  have hs0 := fun (a : Option Addr) (n c : Nat) (w : World) => run_neq_slice_nil_any (P := Try.prog) w 22 27 a n c 0 0 Try.underlying22
  go_enter Try.func3, Try.ntmps3
  go_wp2_with fail
  refine (bytes7 none none 0 0 0 0 w (by omega) (by omega)).mono ?_
  rintro e w1 ⟨b, rfl, h1⟩
  subst h1
  have HB : Hid (Below w1.heap.size w1 w1) := Below.refl _ _
  cases b with
  | false =>
    go_wp2
    go_ret
    exact ⟨rfl, Below.refl _ _⟩
  | true =>
    clear hi hz0 hz1 hz2
    go_wp2_with fail
    refine (newRuns_zero _ _ _ _ _).mono ?_
    rintro e w9 ⟨rfl, k9⟩
    have HB9 : Hid (Below w1.heap.size w1 w9) := HB.out.trans (Below.mono (k9.below (fun _ h => h.elim)) HB.out.size)
    clear k9 HB
    go_wp2_with fail
    go_loopw [9] (fun i wr => i = .int .i64 0 ∧ Hid (Below w1.heap.size w1 wr)) (fun _ _ => 0)
    case atStart => exact ⟨rfl, HB9⟩
    case round =>
      obtain ⟨rfl, hB⟩ := hrel
      clear HB9
      obtain ⟨i1, hi, hz0, hz1, hz2⟩ := info_parts info27
      go_wp2_with (at_make; refine wpList_make_full _ rfl _ _ 22 rfl w1.heap.size 27 i1 _ 1 Try.underlying22 hi hz0 hz1 _ _ _ _ 0 rfl rfl rfl rfl ?m2 ?m3 ?m4 ?_)
      case m2 => omega
      case m3 => unfold maxLen; omega
      case m4 => exact hB.out.size
      intro wa hown hgrow
      have hBa : Hid (Below w1.heap.size w1 wa) := below_keep hB.out ((Keeps.refl _ _).grown hgrow)
      clear hown hgrow hB
      go_wp2_with (at_make; refine wpList_make_full _ rfl _ _ 22 rfl w1.heap.size 27 i1 _ 1 Try.underlying22 hi hz0 hz1 _ _ _ _ 0 rfl rfl rfl rfl ?o2 ?o3 ?o4 ?_)
      case o2 => omega
      case o3 => unfold maxLen; omega
      case o4 => exact hBa.out.size
      intro wb hown hgrow
      have hBb : Hid (Below w1.heap.size w1 wb) := below_keep hBa.out ((Keeps.refl _ _).grown hgrow)
      clear hown hgrow hBa hi hz0 hz1 hz2
      go_wp2_with fail
      go_loopw [18] (fun i wr => i = .int .i64 0 ∧ Hid (Below w1.heap.size w1 wr)) (fun _ _ => 0)
      case atStart => exact ⟨rfl, hBb⟩
      case round =>
        obtain ⟨rfl, hB'⟩ := hrel
        clear hBb
        go_wp2_with fail
        go_loopw [22] (fun i wr => i = .int .i64 0 ∧ Hid (Below w1.heap.size w1 wr)) (fun _ _ => 0)
        case atStart => exact ⟨rfl, hB'⟩
        case round =>
          obtain ⟨rfl, hB2⟩ := hrel
          go_wp2
          go_ret
          exact ⟨rfl, hB2.out⟩

set_option maxRecDepth 100000 in
set_option maxHeartbeats 2000000 in
theorem sel_ns (x1 : Addr) (c1 : Nat) (w : World) :
    Calls Try.prog 3 #[.slice none 0 0, .slice (some x1) 0 c1] w fun e w' => e = .returned (.bool true) ∧ Below w.heap.size w w' := by
  obtain ⟨i0, hi, hz0, hz1, hz2⟩ := info_parts info27
  have hs0 := fun (a : Option Addr) (n c : Nat) (w : World) => run_neq_slice_nil_any (P := Try.prog) w 22 27 a n c 0 0 Try.underlying22
  go_enter Try.func3, Try.ntmps3
  go_wp2_with fail
  refine (bytes7 none (some x1) 0 0 0 c1 w (by omega) (by omega)).mono ?_
  rintro e w1 ⟨b, rfl, h1⟩
  subst h1
  have HB : Hid (Below w1.heap.size w1 w1) := Below.refl _ _
  cases b with
  | false =>
    go_wp2
    go_ret
    exact ⟨rfl, Below.refl _ _⟩
  | true =>
    go_wp2_with (at_make; refine wpList_make_full _ rfl _ _ 22 rfl w1.heap.size 27 i0 _ 1 Try.underlying22 hi hz0 hz1 _ _ _ _ 0 rfl rfl rfl rfl ?c2 ?c3 ?c4 ?_)
    case c2 => omega
    case c3 => unfold maxLen; omega
    case c4 => exact HB.out.size
    intro w2 hown hgrow
    have HB2 : Hid (Below w1.heap.size w1 w2) := HB.out.trans ⟨hgrow.os, hgrow.tape, hgrow.output, hgrow.size, fun k hk => hgrow.block k (by have := HB.out.size; omega) (by simp)⟩
    clear hown hgrow HB
    have HB := HB2
    clear HB2
    go_wp2_with (refine wpList_copy_nothing rfl (.tmp 56) (.tmp 57) 22 22 rfl 27 Try.underlying22 size27 _ _ _ _ _ _ rfl rfl rfl ?_)
    clear hi hz0 hz1 hz2
    go_wp2_with fail
    refine (newRuns_zero _ _ _ _ _).mono ?_
    rintro e w9 ⟨rfl, k9⟩
    have HB9 : Hid (Below w1.heap.size w1 w9) := HB.out.trans (Below.mono (k9.below (fun _ h => h.elim)) HB.out.size)
    clear k9 HB
    go_wp2_with fail
    go_loopw [9] (fun i wr => i = .int .i64 0 ∧ Hid (Below w1.heap.size w1 wr)) (fun _ _ => 0)
    case atStart => exact ⟨rfl, HB9⟩
    case round =>
      obtain ⟨rfl, hB⟩ := hrel
      clear HB9
      obtain ⟨i1, hi, hz0, hz1, hz2⟩ := info_parts info27
      go_wp2_with (at_make; refine wpList_make_full _ rfl _ _ 22 rfl w1.heap.size 27 i1 _ 1 Try.underlying22 hi hz0 hz1 _ _ _ _ 0 rfl rfl rfl rfl ?m2 ?m3 ?m4 ?_)
      case m2 => omega
      case m3 => unfold maxLen; omega
      case m4 => exact hB.out.size
      intro wa hown hgrow
      have hBa : Hid (Below w1.heap.size w1 wa) := below_keep hB.out ((Keeps.refl _ _).grown hgrow)
      clear hown hgrow hB
      go_wp2_with (at_make; refine wpList_make_full _ rfl _ _ 22 rfl w1.heap.size 27 i1 _ 1 Try.underlying22 hi hz0 hz1 _ _ _ _ 0 rfl rfl rfl rfl ?o2 ?o3 ?o4 ?_)
      case o2 => omega
      case o3 => unfold maxLen; omega
      case o4 => exact hBa.out.size
      intro wb hown hgrow
      have hBb : Hid (Below w1.heap.size w1 wb) := below_keep hBa.out ((Keeps.refl _ _).grown hgrow)
      clear hown hgrow hBa hi hz0 hz1 hz2
      go_wp2_with fail
      go_loopw [18] (fun i wr => i = .int .i64 0 ∧ Hid (Below w1.heap.size w1 wr)) (fun _ _ => 0)
      case atStart => exact ⟨rfl, hBb⟩
      case round =>
        obtain ⟨rfl, hB'⟩ := hrel
        clear hBb
        go_wp2_with fail
        go_loopw [22] (fun i wr => i = .int .i64 0 ∧ Hid (Below w1.heap.size w1 wr)) (fun _ _ => 0)
        case atStart => exact ⟨rfl, hB'⟩
        case round =>
          obtain ⟨rfl, hB2⟩ := hrel
          go_wp2
          go_ret
          exact ⟨rfl, hB2.out⟩

set_option maxRecDepth 100000 in
set_option maxHeartbeats 2000000 in
theorem sel_sn (x0 : Addr) (c0 : Nat) (w : World) :
    Calls Try.prog 3 #[.slice (some x0) 0 c0, .slice none 0 0] w fun e w' => e = .returned (.bool true) ∧ Below w.heap.size w w' := by
  obtain ⟨i0, hi, hz0, hz1, hz2⟩ := info_parts info27
  have hs0 := fun (a : Option Addr) (n c : Nat) (w : World) => run_neq_slice_nil_any (P := Try.prog) w 22 27 a n c 0 0 Try.underlying22
  go_enter Try.func3, Try.ntmps3
  go_wp2_with fail
  refine (bytes7 (some x0) none 0 0 c0 0 w (by omega) (by omega)).mono ?_
  rintro e w1 ⟨b, rfl, h1⟩
  subst h1
  have HB : Hid (Below w1.heap.size w1 w1) := Below.refl _ _
  cases b with
  | false =>
    go_wp2
    go_ret
    exact ⟨rfl, Below.refl _ _⟩
  | true =>
    go_wp2_with (at_make; refine wpList_make_full _ rfl _ _ 22 rfl w1.heap.size 27 i0 _ 1 Try.underlying22 hi hz0 hz1 _ _ _ _ 0 rfl rfl rfl rfl ?c2 ?c3 ?c4 ?_)
    case c2 => omega
    case c3 => unfold maxLen; omega
    case c4 => exact HB.out.size
    intro w2 hown hgrow
    have HB2 : Hid (Below w1.heap.size w1 w2) := HB.out.trans ⟨hgrow.os, hgrow.tape, hgrow.output, hgrow.size, fun k hk => hgrow.block k (by have := HB.out.size; omega) (by simp)⟩
    clear hown hgrow HB
    have HB := HB2
    clear HB2
    go_wp2_with (refine wpList_copy_nothing rfl (.tmp 47) (.tmp 48) 22 22 rfl 27 Try.underlying22 size27 _ _ _ _ _ _ rfl rfl rfl ?_)
    clear hi hz0 hz1 hz2
    go_wp2_with fail
    refine (newRuns_zero _ _ _ _ _).mono ?_
    rintro e w9 ⟨rfl, k9⟩
    have HB9 : Hid (Below w1.heap.size w1 w9) := HB.out.trans (Below.mono (k9.below (fun _ h => h.elim)) HB.out.size)
    clear k9 HB
    go_wp2_with fail
    go_loopw [9] (fun i wr => i = .int .i64 0 ∧ Hid (Below w1.heap.size w1 wr)) (fun _ _ => 0)
    case atStart => exact ⟨rfl, HB9⟩
    case round =>
      obtain ⟨rfl, hB⟩ := hrel
      clear HB9
      obtain ⟨i1, hi, hz0, hz1, hz2⟩ := info_parts info27
      go_wp2_with (at_make; refine wpList_make_full _ rfl _ _ 22 rfl w1.heap.size 27 i1 _ 1 Try.underlying22 hi hz0 hz1 _ _ _ _ 0 rfl rfl rfl rfl ?m2 ?m3 ?m4 ?_)
      case m2 => omega
      case m3 => unfold maxLen; omega
      case m4 => exact hB.out.size
      intro wa hown hgrow
      have hBa : Hid (Below w1.heap.size w1 wa) := below_keep hB.out ((Keeps.refl _ _).grown hgrow)
      clear hown hgrow hB
      go_wp2_with (at_make; refine wpList_make_full _ rfl _ _ 22 rfl w1.heap.size 27 i1 _ 1 Try.underlying22 hi hz0 hz1 _ _ _ _ 0 rfl rfl rfl rfl ?o2 ?o3 ?o4 ?_)
      case o2 => omega
      case o3 => unfold maxLen; omega
      case o4 => exact hBa.out.size
      intro wb hown hgrow
      have hBb : Hid (Below w1.heap.size w1 wb) := below_keep hBa.out ((Keeps.refl _ _).grown hgrow)
      clear hown hgrow hBa hi hz0 hz1 hz2
      go_wp2_with fail
      go_loopw [18] (fun i wr => i = .int .i64 0 ∧ Hid (Below w1.heap.size w1 wr)) (fun _ _ => 0)
      case atStart => exact ⟨rfl, hBb⟩
      case round =>
        obtain ⟨rfl, hB'⟩ := hrel
        clear hBb
        go_wp2_with fail
        go_loopw [22] (fun i wr => i = .int .i64 0 ∧ Hid (Below w1.heap.size w1 wr)) (fun _ _ => 0)
        case atStart => exact ⟨rfl, hB'⟩
        case round =>
          obtain ⟨rfl, hB2⟩ := hrel
          go_wp2
          go_ret
          exact ⟨rfl, hB2.out⟩
end Go.Proofs.Qxb6612374a
