/-
  The contracts of ZZfreeRun, runLess, Swap and ZZnewFreeRuns.
-/
import Derived.Test.Qxb6612374aMem
import Derived.RegionTactic
import Derived.BigRegion
import Derived.ChangeAlike
namespace Go.Proofs.Qxb6612374a
open Go.RowKit

set_option maxRecDepth 100000 in
theorem freeRun_any (b n i : Nat) (hs : List (Int × Int)) (f c : Int) (w : World) (_hn : n ≤ 65536) (hi : i < n) (hr : Row w b 47 (flat hs)) (hx : hs[i]? = some (f, c)) :
    Calls Try.prog 9 #[.slice (some ⟨b, 0, none⟩) n n, .int .i64 i] w fun e w' => e = .returned (.tuple #[.int .u64 f, .int .u64 c]) ∧ Keeps (fun _ => False) w w' := by
  have c0 : w.cell? ⟨b, i * 2, none⟩ = some (.int .u64 f) := (hr.cell _).trans (flat_get0 hs i _ hx)
  have c1 : w.cell? ⟨b, i * 2 + 1, none⟩ = some (.int .u64 c) := (hr.cell _).trans (flat_get1 hs i _ hx)
  have hi' : (i : Int) < (n : Int) := by omega
  clear hr hx
  go_enter Try.func9, Try.ntmps9
  go_wp2
  go_quiet (fail)
  go_wp2
  go_ret2
  exact ⟨rfl, (Keeps.refl _ _).drewN nq⟩

/-- The order of runs, as runLess tells it. -/
def lessB (f1 c1 f2 c2 : Int) : Bool := decide (f1 < f2) || (f1 == f2 && decide (c1 < c2))
theorem ret_bool {a b : Bool} (h : a = b) : Ending.returned (.bool a) = .returned (.bool b) := by rw [h]
theorem runLess_any (f1 c1 f2 c2 : Int) (w : World) : Calls Try.prog 10 #[.int .u64 f1, .int .u64 c1, .int .u64 f2, .int .u64 c2] w fun e w' => e = .returned (.bool (lessB f1 c1 f2 c2)) ∧ w' = w := by
  by_cases h1 : f1 < f2
  · go_enter Try.func10, Try.ntmps10
    go_wp2
    go_ret
    exact ⟨ret_bool (by simp [lessB, h1]), rfl⟩
  · by_cases h2 : f1 = f2
    · subst h2
      by_cases h3 : c1 < c2
      · go_enter Try.func10, Try.ntmps10
        go_wp2
        go_ret
        exact ⟨ret_bool (by simp [lessB, h3]), rfl⟩
      · have d1 : decide (c1 < c2) = false := by simpa using h3
        go_enter Try.func10, Try.ntmps10
        go_wp2
        go_ret
        exact ⟨ret_bool (by simp [lessB, d1]), rfl⟩
    · have d1 : decide (f1 < f2) = false := by simpa using h1
      have d2 : (f1 == f2) = false := by simpa using h2
      go_enter Try.func10, Try.ntmps10
      go_wp2
      go_ret
      exact ⟨ret_bool (by simp [lessB, d1, d2]), rfl⟩

theorem cell_set_some {w : World} {p q : Addr} {x v : Value} (h : w.cell? q = some v) : ∃ v', (w.setCell p x).cell? q = some v' := by
  by_cases e : p = q
  · subst e; exact ⟨x, World.cell?_setCell_same w p x h⟩
  · exact ⟨v, (World.cell?_setCell_other w p q x e).trans h⟩

/-- The two runs exchanged. -/
def swp (hs : List (Int × Int)) (i j : Nat) (p q : Int × Int) : List (Int × Int) := (hs.set i q).set j p

set_option maxRecDepth 100000 in
set_option maxHeartbeats 1000000 in
theorem swap_core (b n i j : Nat) (fi ci fj cj : Int) (w : World) (_hn : n ≤ 65536) (hi : i < n) (hj : j < n)
    (c0 : w.cell? ⟨b, i * 2, none⟩ = some (.int .u64 fi)) (c1 : w.cell? ⟨b, i * 2 + 1, none⟩ = some (.int .u64 ci)) (d0 : w.cell? ⟨b, j * 2, none⟩ = some (.int .u64 fj)) (d1 : w.cell? ⟨b, j * 2 + 1, none⟩ = some (.int .u64 cj))
    (hf : ∀ k, w.frozen? ⟨b, k, none⟩ = false) :
    Calls Try.prog 11 #[.slice (some ⟨b, 0, none⟩) n n, .int .i64 i, .int .i64 j] w fun e w' => e = .returned (.tuple #[]) ∧
      ∃ nq, w' = ((((w.setCell ⟨b, i * 2, none⟩ (.int .u64 fj)).setCell ⟨b, i * 2 + 1, none⟩ (.int .u64 cj)).setCell ⟨b, j * 2, none⟩ (.int .u64 fi)).setCell ⟨b, j * 2 + 1, none⟩ (.int .u64 ci)).drewN nq := by
  have hi' : (i : Int) < (n : Int) := by omega
  have hj' : (j : Int) < (n : Int) := by omega
  obtain ⟨v0, e0⟩ := cell_set_some (p := ⟨b, i * 2, none⟩) (x := .int .u64 fj) d0
  obtain ⟨v1, e1⟩ := cell_set_some (p := ⟨b, i * 2, none⟩) (x := .int .u64 fj) d1
  obtain ⟨v2, e2⟩ := cell_set_some (p := ⟨b, i * 2 + 1, none⟩) (x := .int .u64 cj) e1
  go_enter Try.func11, Try.ntmps11
  go_wp2
  go_region
  go_end0
  exact ⟨rfl, 1, rfl⟩

theorem swap_any (b n i j : Nat) (hs : List (Int × Int)) (p q : Int × Int) (w : World) (hn : n ≤ 65536) (hi : i < n) (hj : j < n) (hr : Row w b 47 (flat hs)) (hp : hs[i]? = some p) (hq : hs[j]? = some q) :
    Calls Try.prog 11 #[.slice (some ⟨b, 0, none⟩) n n, .int .i64 i, .int .i64 j] w fun e w' => e = .returned (.tuple #[]) ∧ Row w' b 47 (flat (swp hs i j p q)) ∧ Keeps (fun k => k = b) w w' := by
  refine (swap_core b n i j p.1 p.2 q.1 q.2 w hn hi hj ((hr.cell _).trans (flat_get0 hs i _ hp)) ((hr.cell _).trans (flat_get1 hs i _ hp)) ((hr.cell _).trans (flat_get0 hs j _ hq)) ((hr.cell _).trans (flat_get1 hs j _ hq)) hr.frozen).mono ?_
  rintro e w' ⟨rfl, nq, rfl⟩
  refine ⟨rfl, ?_, ?_⟩
  · have h4 := (((hr.set (i * 2) (.int .u64 q.1)).set (i * 2 + 1) (.int .u64 q.2)).set (j * 2) (.int .u64 p.1)).set (j * 2 + 1) (.int .u64 p.2)
    rw [flat_set, flat_set] at h4
    exact h4.drewN nq
  · exact (((((Keeps.refl (fun k => k = b) w).setCell (p := ⟨b, i * 2, none⟩) rfl _).setCell (p := ⟨b, i * 2 + 1, none⟩) rfl _).setCell (p := ⟨b, j * 2, none⟩) rfl _).setCell (p := ⟨b, j * 2 + 1, none⟩) rfl _).drewN nq

/-! ### ZZnewFreeRuns -/
theorem info47 : (Try.prog.info? 47).map (fun i => (i.zero, i.size, i.bytes)) = some (some (.agg #[.int .u64 0, .int .u64 0]), 2, 16) := by kernel_rfl
theorem info27 : (Try.prog.info? 27).map (fun i => (i.zero, i.size, i.bytes)) = some (some (.int .u64 0), 1, 8) := by kernel_rfl
def ints (zs : List Int) : List Value := zs.map (Value.int .u64)
theorem ints_get (zs : List Int) (i : Nat) (z : Int) (h : zs[i]? = some z) : (ints zs)[i]? = some (.int .u64 z) := by simp [ints, h]

/-- The runs laid so far: the first k of them, then zeros. -/
def laid (zs ys : List Int) (n k : Nat) : List (Int × Int) := (zs.zip ys).take k ++ List.replicate (n - k) (0, 0)

theorem laid_set (zs ys : List Int) (n k : Nat) (z y : Int) (hk : k < n) (hz : zs.length = n) (hy : ys.length = n) (h1 : zs[k]? = some z) (h2 : ys[k]? = some y) : (laid zs ys n k).set k (z, y) = laid zs ys n (k + 1) := by
  have hl : (zs.zip ys).length = n := by simp [hz, hy]
  have hg : (zs.zip ys)[k]'(by omega) = (z, y) := by
    rw [List.getElem_zip]
    rw [List.getElem?_eq_getElem (by omega)] at h1 h2
    simp only [Option.some.injEq] at h1 h2
    rw [h1, h2]
  unfold laid
  rw [List.set_append_right _ _ (by simp; omega), List.take_succ_eq_append_getElem (by omega), hg, show n - k = (n - (k + 1)) + 1 from by omega, List.replicate_succ]
  have : k - (List.take k (zs.zip ys)).length = 0 := by simp; omega
  rw [this]
  simp
theorem laid_start (zs ys : List Int) (n : Nat) : laid zs ys n 0 = List.replicate n (0, 0) := by simp [laid]
theorem laid_end (zs ys : List Int) (n : Nat) (hz : zs.length = n) (hy : ys.length = n) : laid zs ys n n = zs.zip ys := by
  simp [laid, List.take_of_length_le (show (zs.zip ys).length ≤ n by simp; omega)]
theorem laid_get (zs ys : List Int) (n k : Nat) (hk : k < n) (hz : zs.length = n) (hy : ys.length = n) : ∃ p, (laid zs ys n k)[k]? = some p := by
  have : (laid zs ys n k).length = n := by simp [laid]; omega
  exact ⟨_, List.getElem?_eq_getElem (by omega)⟩

theorem flat_zeros (n : Nat) : flat (List.replicate n (0, 0)) = List.replicate (n * 2) (.int .u64 0) := by
  induction n with
  | zero => rfl
  | succ n ih => rw [List.replicate_succ, flat_cons, ih, show (n + 1) * 2 = n * 2 + 1 + 1 from by omega, List.replicate_succ, List.replicate_succ]
theorem made2 (n : Nat) : (madeCells #[.int .u64 0, .int .u64 0] (n * 2)).toList = flat (List.replicate n (0, 0)) := by
  rw [flat_zeros]
  apply List.ext_getElem?
  intro j
  by_cases hj : j < n * 2
  · have h2 : j % 2 = 0 ∨ j % 2 = 1 := by omega
    rcases h2 with h | h <;> simp [madeCells, hj, h]
  · simp [madeCells, hj]
theorem made1 (n : Nat) : (madeCells #[.int .u64 0] n).toList = ints (List.replicate n 0) := by
  simpa [ints] using toList_madeCells_one (.int .u64 0) n
/-- What a make of n elements owns is a row. -/
theorem owns_row {w : World} {base : Nat} {e : TypeId} {size : Nat} {g n : Nat} {xs : List Value} (h : w.ownsRow base e size (.slice (some ⟨g, 0, none⟩) n n) n xs) : Row w g e xs := by
  rcases h.2 with ⟨h', _⟩ | ⟨g', cap', cur, h', _, hg, _, _, hcs, htake⟩
  · simp at h'
  · simp only [Value.slice.injEq, Option.some.injEq, Addr.mk.injEq, and_true, true_and] at h'
    obtain ⟨rfl, rfl⟩ := h'
    have : cur = xs.toArray := by
      rw [← htake, List.take_of_length_le (by simp; omega)]
    rw [Row, hg, this]

set_option maxRecDepth 100000 in
set_option maxHeartbeats 1000000 in
theorem newRuns_some (bf bc n : Nat) (zs ys : List Int) (w : World) (hn : n ≤ 65536) (hz : zs.length = n) (hy : ys.length = n) (hf : Row w bf 27 (ints zs)) (hc : Row w bc 27 (ints ys)) :
    Calls Try.prog 8 #[.slice (some ⟨bf, 0, none⟩) n n, .slice (some ⟨bc, 0, none⟩) n n] w fun e w' => e = .returned (.slice (some ⟨w.heap.size, 0, none⟩) n n) ∧ Row w' w.heap.size 47 (flat (zs.zip ys)) ∧ Keeps (fun _ => False) w w' := by
  obtain ⟨i0, hi, hz0, hz1, hz2⟩ := info_parts info47
  have HZ : Hid (zs.length = n) := hz
  have HY : Hid (ys.length = n) := hy
  clear hz hy
  go_enter Try.func8, Try.ntmps8
  go_wp2_with (at_make; refine wpList_make_full _ rfl _ _ 25 rfl w.heap.size 47 i0 _ 2 Try.underlying25 hi hz0 hz1 _ _ _ _ n rfl rfl rfl rfl ?c2 ?c3 ?c4 ?_)
  case c2 => rw [hz2]; omega
  case c3 => unfold maxLen; omega
  case c4 => exact Nat.le_refl _
  intro w1 hown hgrow
  have hr1 := owns_row hown
  rw [made2, ← laid_start zs ys n] at hr1
  have k1 : Keeps (fun _ => False) w w1 := (Keeps.refl _ w).grown hgrow
  clear hown hgrow hi hz0 hz1 hz2
  generalize hgb : w.heap.size = g at hr1 ⊢
  have HG : Hid (w.heap.size = g) := hgb
  clear hgb
  go_wp2_with fail
  go_loopw [12] (fun i wr => ∃ k : Nat, k ≤ n ∧ i = .int .i64 k ∧ Row wr g 47 (flat (laid zs ys n k)) ∧ Keeps (fun _ => False) w wr) (fun i _ => n - (intOf i).toNat)
  case atStart => exact ⟨0, Nat.zero_le _, rfl, hr1, k1⟩
  case round =>
    obtain ⟨k, hk, rfl, hrow, hkp⟩ := hrel
    clear hr1 k1
    by_cases hlt : k < n
    · have c0 := (hkp.row hf (fun h => h)).cell k
      have c1 := (hkp.row hc (fun h => h)).cell k
      obtain ⟨z, hzk⟩ : ∃ z, zs[k]? = some z := ⟨_, List.getElem?_eq_getElem (by have := HZ.out; omega)⟩
      obtain ⟨y, hyk⟩ : ∃ y, ys[k]? = some y := ⟨_, List.getElem?_eq_getElem (by have := HY.out; omega)⟩
      rw [ints_get zs k z hzk] at c0
      rw [ints_get ys k y hyk] at c1
      obtain ⟨p, hp⟩ := laid_get zs ys n k hlt HZ.out HY.out
      have d0 := (hrow.cell (k * 2)).trans (flat_get0 _ k _ hp)
      have d1 := (hrow.cell (k * 2 + 1)).trans (flat_get1 _ k _ hp)
      have fz := hrow.frozen
      have R : Hid (Row ((wr.setCell ⟨g, k * 2, none⟩ (.int .u64 z)).setCell ⟨g, k * 2 + 1, none⟩ (.int .u64 y)) g 47 (flat (laid zs ys n (k + 1)))) := by
        have := (hrow.set (k * 2) (.int .u64 z)).set (k * 2 + 1) (.int .u64 y)
        rw [flat_set, laid_set zs ys n k z y hlt HZ.out HY.out hzk hyk] at this
        exact this
      have K : Hid (Keeps (fun _ => False) w ((wr.setCell ⟨g, k * 2, none⟩ (.int .u64 z)).setCell ⟨g, k * 2 + 1, none⟩ (.int .u64 y))) :=
        (hkp.setNew (p := ⟨g, k * 2, none⟩) (by have := HG.out; simp only []; omega) _).setNew (p := ⟨g, k * 2 + 1, none⟩) (by have := HG.out; simp only []; omega) _
      clear hzk hyk hp hrow hkp
      have hlt' : (k : Int) < (n : Int) := by omega
      go_wp2
      go_region
      go_wp2
      go_roundw
      case rel => exact ⟨k + 1, by omega, by go_num, R.out.drew, K.out.drew⟩
      case measure => simp [intOf]; omega
    · obtain rfl : k = n := by omega
      go_wp2
      go_ret
      rw [laid_end zs ys k HZ.out HY.out] at hrow
      rw [HG.out]
      exact ⟨rfl, hrow, hkp⟩

set_option maxRecDepth 100000 in
set_option maxHeartbeats 1000000 in
/-- At length 0, wherever the two slices lead. -/
theorem newRuns_zero (a0 a1 : Option Addr) (c0 c1 : Nat) (w : World) :
    Calls Try.prog 8 #[.slice a0 0 c0, .slice a1 0 c1] w fun e w' => e = .returned (.slice (some ⟨w.heap.size, 0, none⟩) 0 0) ∧ Keeps (fun _ => False) w w' := by
  obtain ⟨i0, hi, hz0, hz1, hz2⟩ := info_parts info47
  go_enter Try.func8, Try.ntmps8
  go_wp2_with (at_make; refine wpList_make_full _ rfl _ _ 25 rfl w.heap.size 47 i0 _ 2 Try.underlying25 hi hz0 hz1 _ _ _ _ 0 rfl rfl rfl rfl ?c2 ?c3 ?c4 ?_)
  case c2 => omega
  case c3 => unfold maxLen; omega
  case c4 => exact Nat.le_refl _
  intro w1 hown hgrow
  have k1 : Keeps (fun _ => False) w w1 := (Keeps.refl _ w).grown hgrow
  clear hown hgrow hi hz0 hz1 hz2
  go_wp2_with fail
  go_loopw [12] (fun i wr => i = .int .i64 0 ∧ Keeps (fun _ => False) w wr) (fun _ _ => 0)
  case atStart => exact ⟨rfl, k1⟩
  case round =>
    obtain ⟨rfl, hkp⟩ := hrel
    clear k1
    go_wp2
    go_ret
    exact ⟨rfl, hkp⟩

/-- It answers a bool and turns nothing. -/
def SomeBool (w : World) (e : Ending) (w' : World) : Prop := ∃ b, e = .returned (.bool b) ∧ w' = w
theorem SomeBool.mk {w : World} (b : Bool) {e : Ending} (h : e = .returned (.bool b)) : SomeBool w e w := ⟨b, h, rfl⟩

set_option maxRecDepth 100000 in
theorem bytes12 (a0 a1 : Option Addr) (m r c0 c1 : Nat) (w : World) (hm : m ≤ 9223372036854775807) (hr : r ≤ 9223372036854775807) :
    Calls Try.prog 12 #[.slice a0 m c0, .slice a1 r c1] w (SomeBool w) := by
  by_cases h1 : m ≤ 1048576
  · have d1 : decide ((1048576 : Int) < (m : Int)) = false := by simp; omega
    by_cases h2 : r ≤ 1048576
    · have d2 : decide ((1048576 : Int) < (r : Int)) = false := by simp; omega
      by_cases h3 : m + r ≤ 1048576
      · have d3 : decide ((1048576 : Int) < (m : Int) + (r : Int)) = false := by simp; omega
        go_enter Try.func12, Try.ntmps12
        go_wp2
        go_ret
        exact SomeBool.mk true rfl
      · have d3 : decide ((1048576 : Int) < (m : Int) + (r : Int)) = true := by simp; omega
        go_enter Try.func12, Try.ntmps12
        go_wp2
        go_ret
        exact SomeBool.mk false rfl
    · have d2 : decide ((1048576 : Int) < (r : Int)) = true := by simp; omega
      go_enter Try.func12, Try.ntmps12
      go_wp2
      go_ret
      exact SomeBool.mk false rfl
  · have d1 : decide ((1048576 : Int) < (m : Int)) = true := by simp; omega
    go_enter Try.func12, Try.ntmps12
    go_wp2
    go_ret
    exact SomeBool.mk false rfl
set_option maxRecDepth 100000 in
theorem bytes7 (a0 a1 : Option Addr) (m r c0 c1 : Nat) (w : World) (hm : m ≤ 9223372036854775807) (hr : r ≤ 9223372036854775807) :
    Calls Try.prog 7 #[.slice a0 m c0, .slice a1 r c1] w (SomeBool w) := by
  by_cases h1 : m ≤ 1048576
  · have d1 : decide ((1048576 : Int) < (m : Int)) = false := by simp; omega
    by_cases h2 : r ≤ 1048576
    · have d2 : decide ((1048576 : Int) < (r : Int)) = false := by simp; omega
      by_cases h3 : m + r ≤ 1048576
      · have d3 : decide ((1048576 : Int) < (m : Int) + (r : Int)) = false := by simp; omega
        go_enter Try.func7, Try.ntmps7
        go_wp2
        go_ret
        exact SomeBool.mk true rfl
      · have d3 : decide ((1048576 : Int) < (m : Int) + (r : Int)) = true := by simp; omega
        go_enter Try.func7, Try.ntmps7
        go_wp2
        go_ret
        exact SomeBool.mk false rfl
    · have d2 : decide ((1048576 : Int) < (r : Int)) = true := by simp; omega
      go_enter Try.func7, Try.ntmps7
      go_wp2
      go_ret
      exact SomeBool.mk false rfl
  · have d1 : decide ((1048576 : Int) < (m : Int)) = true := by simp; omega
    go_enter Try.func7, Try.ntmps7
    go_wp2
    go_ret
    exact SomeBool.mk false rfl
end Go.Proofs.Qxb6612374a
