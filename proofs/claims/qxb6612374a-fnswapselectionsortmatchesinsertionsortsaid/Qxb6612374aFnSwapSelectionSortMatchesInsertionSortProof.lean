/-
  The row of FnSwapSelectionSortMatchesInsertionSort out of its walks. The frame is the skeleton tool's.
-/
import Derived.Test.Qxb6612374aRows
import Derived.Test.Qxb6612374aSelNil
import Derived.WalkKit
import Derived.ProofKit
import Derived.OpenShut
import Derived.ShutString
import Derived.ChangeOld
import Derived.Below
namespace Go.Proofs.Qxb6612374a.fnSwapSelectionSortMatchesInsertionSort
open Go.ChangeShapes Go.WideShapes Go.ChangeAt Go.RowKit
open Go.ChangeMaps (open_string shut_string)
set_option linter.unusedVariables false

theorem own : ownKnob Try.prog.godebug = none := by kernel_rfl
theorem laidOut : laidOutB Try.prog = true := by kernel_rfl

/-- WHAT THE WALK IS TOLD OF A SLICE OF INTEGERS THAT CAME IN: it is nil; or it leads to a row of 'cap' cells, the numbers 'zs' (the first 'len' are its elements, the rest its spare room), each fitting its kind. -/
def IsRow (k : IntKind) (w : World) (a : Option Addr) (len cap : Nat) (zs : List Int) : Prop :=
  (a = none ∧ len = 0 ∧ cap = 0 ∧ zs = []) ∨
  ∃ x, a = some x ∧ len ≤ cap ∧ cap ≤ maxLen ∧ zs.length = cap ∧ (∀ i, i < zs.length → w.cell? (x.add i) = some (.int k (zs.getD i 0))) ∧ ∀ n ∈ zs, (Lit.int k n).wf = true

theorem row_cells {w : World} {x : Addr} {n : Nat} {zs : List Int} (hc : ∀ i, i < zs.length → w.cell? (x.add i) = some (.int .u64 (zs.getD i 0))) (_hn : n ≤ zs.length) : ∀ j v, (ints (zs.take n))[j]? = some v → w.cell? (x.add j) = some v := by
  intro j v hv
  rw [ints, List.getElem?_map, Option.map_eq_some_iff] at hv
  obtain ⟨z, hz, rfl⟩ := hv
  rw [List.getElem?_take] at hz
  split at hz
  · have hj : j < zs.length := (List.getElem?_eq_some_iff.1 hz).1
    rw [hc j hj]
    simp [List.getD, hz]
  · cases hz
theorem row_block {w : World} {x : Addr} {zs : List Int} (hc : ∀ i, i < zs.length → w.cell? (x.add i) = some (.int .u64 (zs.getD i 0))) (h : 0 < zs.length) : x.block < w.heap.size := by
  have := World.block_lt_of_cell? w (x.add 0) (hc 0 h)
  rwa [block_add] at this

/-! ### STEP 1: THE WALK: the Go text returns true and writes nothing that was there. -/
theorem walk (a0 : Option Addr) (len0 cap0 : Nat) (z0 : List Int) (a1 : Option Addr) (len1 cap1 : Nat) (z1 : List Int) (w : World) (w0 : IsRow .u64 w a0 len0 cap0 z0) (w1 : IsRow .u64 w a1 len1 cap1 z1) :
    Calls Try.prog 3 #[.slice a0 len0 cap0, .slice a1 len1 cap1] w fun e w' => e = .returned (.bool true) ∧ Below w.heap.size w w' := by
  have b0 : len0 ≤ 9223372036854775807 := by
    rcases w0 with ⟨_, h, _, _⟩ | ⟨_, _, h1, h2, _⟩
    · omega
    · unfold maxLen at h2; omega
  have b1 : len1 ≤ 9223372036854775807 := by
    rcases w1 with ⟨_, h, _, _⟩ | ⟨_, _, h1, h2, _⟩
    · omega
    · unfold maxLen at h2; omega
  by_cases h : 1024 < len0 ∨ 1024 < len1 ∨ len0 ≠ len1
  · exact sel_early a0 a1 len0 len1 cap0 cap1 w b0 b1 h
  · obtain rfl : len0 = len1 := by omega
    rcases w0 with ⟨rfl, rfl, rfl, rfl⟩ | ⟨x0, rfl, hl0, hm0, hz0, hc0, _⟩
    · rcases w1 with ⟨rfl, _, rfl, rfl⟩ | ⟨x1, rfl, hl1, hm1, hz1, hc1, _⟩
      · exact sel_nn w
      · exact sel_ns x1 cap1 w
    · rcases w1 with ⟨rfl, rfl, rfl, rfl⟩ | ⟨x1, rfl, hl1, hm1, hz1, hc1, _⟩
      · exact sel_sn x0 cap0 w
      · exact sel_some x0 x1 len0 cap0 cap1 (z0.take len0) (z1.take len0) w (by omega) (by simp; omega) (by simp; omega) (fun h => row_block hc0 (by omega)) (fun h => row_block hc1 (by omega)) (row_cells hc0 (by omega)) (row_cells hc1 (by omega))

/-! ### THE ROW's STEP: WRITTEN OUT: LEAVE IT -/
set_option maxRecDepth 100000 in
theorem lifted (os : Os) (started : os.Started) (H : Type) (enc : TypeId × Value → H) :
    ReturnsInHanded {} Try.checked os 3 .any (Rows.fnSwapSelectionSortMatchesInsertionSortSpec.pre6 enc Try.prog Try.f3 Rows.fnSwapSelectionSortMatchesInsertionSortRow.domain false) (Rows.fnSwapSelectionSortMatchesInsertionSortSpec.post enc Try.prog Try.f3 false true false false) := by
  refine returnsInHanded_of_change (C := Try.checked) own started (by kernel_rfl) Try.func3
    (ChangeSpec.witness6 (enc := enc) (C := Try.checked) false ⟨#[], #[.slice none 0 0, .slice none 0 0], []⟩ 8 (by kernel_rfl) (by kernel_rfl) (by kernel_rfl) (by kernel_rfl)) ?_
  intro W base args ds gs before hval0 hW hcnd _
  have hval : ∀ (j : Nat) t v, Try.f3.params[j]? = some t → args[j]? = some v → Value.okWide Try.prog W .any base t v := hval0
  have hW' := hW
  obtain ⟨p, q, hA0, hV, rfl, hfz, hnd⟩ := hW
  have hA : DataW.TrodAll enc Try.prog W 0 (fun _ => true) true Try.f3.params.toList args.toList ds p := hA0
  rw [Try.params3] at hA hval
  obtain ⟨v0, vs0, d0, ds0, p0, q0, hargs, rfl, rfl, h0, r0⟩ := trodAll_cons hA
  obtain ⟨v1, vs1, d1, ds1, p1, q1, rfl, rfl, rfl, h1, r1⟩ := trodAll_cons r0
  obtain ⟨rfl, rfl, rfl⟩ := trodAll_nil r1
  obtain rfl : args = #[v0, v1] := by cases args; simp_all
  obtain ⟨rfl, rfl⟩ := trodVars_none hV
  obtain ⟨a0, len0, cap0, rfl⟩ := okWide_slice Try.underlying22 (hval 0 22 v0 rfl rfl)
  have k0 := h0
  have lt0 : ∀ x ∈ p0, x.block < W.heap.size := by obtain ⟨m, hm⟩ := k0; exact DataW.trod_lt m _ _ _ hm
  obtain ⟨z0, w0⟩ : ∃ zs, IsRow .u64 W a0 len0 cap0 zs := by
    obtain ⟨fuel, hf⟩ := h0
    rcases open_ints Try.underlying22 Try.underlying27 (by kernel_rfl) hf with ⟨hcs, _⟩ | ⟨x, l, c, zs, hcs, _, hl, hm, hz, _, hcell, hwz⟩
    · simp [Value.cells] at hcs
      obtain ⟨rfl, rfl, rfl⟩ := hcs
      exact ⟨[], .inl ⟨rfl, rfl, rfl, rfl⟩⟩
    · simp [Value.cells] at hcs
      obtain ⟨rfl, rfl, rfl⟩ := hcs
      exact ⟨zs, .inr ⟨_, rfl, hl, hm, by simpa using hz, hcell, hwz⟩⟩
  obtain ⟨a1, len1, cap1, rfl⟩ := okWide_slice Try.underlying22 (hval 1 22 v1 rfl rfl)
  have k1 := h1
  have lt1 : ∀ x ∈ p1, x.block < W.heap.size := by obtain ⟨m, hm⟩ := k1; exact DataW.trod_lt m _ _ _ hm
  obtain ⟨z1, w1⟩ : ∃ zs, IsRow .u64 W a1 len1 cap1 zs := by
    obtain ⟨fuel, hf⟩ := h1
    rcases open_ints Try.underlying22 Try.underlying27 (by kernel_rfl) hf with ⟨hcs, _⟩ | ⟨x, l, c, zs, hcs, _, hl, hm, hz, _, hcell, hwz⟩
    · simp [Value.cells] at hcs
      obtain ⟨rfl, rfl, rfl⟩ := hcs
      exact ⟨[], .inl ⟨rfl, rfl, rfl, rfl⟩⟩
    · simp [Value.cells] at hcs
      obtain ⟨rfl, rfl, rfl⟩ := hcs
      exact ⟨zs, .inr ⟨_, rfl, hl, hm, by simpa using hz, hcell, hwz⟩⟩
  clear hA0 hval0
  refine (walk a0 len0 cap0 z0 a1 len1 cap1 z1 W w0 w1).mono fun e W' ⟨he, bel⟩ => ?_
  subst he
  exact ⟨_, rfl, _, _, _, [], _, [], hW', trodAll_mk1 (shut_bool Try.underlying4 _), (trodAll_cons_mk (Below.trod laidOut (by kernel_rfl) (of_decide_eq_true (by kernel_rfl)) k0 bel lt0) (trodAll_cons_mk (Below.trod laidOut (by kernel_rfl) (of_decide_eq_true (by kernel_rfl)) k1 bel lt1) trodAll_mk0)), rfl, bel.frame _, fun h => by cases h⟩

theorem over : Rows.fnSwapSelectionSortMatchesInsertionSortRow.holds Try.pinned (OpenSpec.ofChange Rows.fnSwapSelectionSortMatchesInsertionSortSpec) :=
  OpenClaim.holds_of_wide 3 Try.f3 rfl rfl rfl rfl rfl rfl rfl ⟨rfl, rfl, rfl, rfl, rfl⟩ rfl rfl rfl rfl rfl (by kernel_rfl) Try.func3 (by kernel_rfl)
    (of_decide_eq_true (by kernel_rfl)) (by unfold Func.isWrapper; first | (rw [if_pos (by decide +kernel)]; kernel_rfl) | (rw [if_neg (by decide +kernel)]; exact ⟨rfl, rfl⟩))
    (fun os started H enc _ => lifted os started H enc)

/-- ████ THE STATEMENT ████ -/
theorem proved : Rows.FnSwapSelectionSortMatchesInsertionSortSaid := over
end Go.Proofs.Qxb6612374a.fnSwapSelectionSortMatchesInsertionSort
