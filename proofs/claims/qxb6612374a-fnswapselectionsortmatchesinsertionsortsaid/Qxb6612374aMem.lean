/-
  Rows of cells in memory, and what a call may turn: plain laws on worlds and lists, no Go text.
-/
import Derived.Test.Qxb6612374aRows
import Derived.WalkKit
import Derived.Deep.QuietTactic
import Derived.BigQuiet
import Derived.KernelRfl
namespace Go.Proofs.Qxb6612374a
open Go.RowKit

/-- Of what lay in w nothing has turned but blocks of S. -/
structure Keeps (S : Nat → Prop) (w w' : World) : Prop where
  os : w'.os = w.os
  tape : w'.tape = w.tape
  output : w'.output = w.output
  size : w.heap.size ≤ w'.heap.size
  block : ∀ k, k < w.heap.size → ¬ S k → w'.heap[k]? = w.heap[k]?

theorem Keeps.refl (S : Nat → Prop) (w : World) : Keeps S w w := ⟨rfl, rfl, rfl, Nat.le_refl _, fun _ _ _ => rfl⟩
theorem Keeps.trans {S : Nat → Prop} {a b c : World} (h : Keeps S a b) (k : Keeps S b c) : Keeps S a c :=
  ⟨k.os.trans h.os, k.tape.trans h.tape, k.output.trans h.output, Nat.le_trans h.size k.size, fun i hi hn => (k.block i (Nat.lt_of_lt_of_le hi h.size) hn).trans (h.block i hi hn)⟩
/-- The second step may turn more: blocks that were not there when the first began. -/
theorem Keeps.trans' {S T : Nat → Prop} {a b c : World} (h : Keeps S a b) (k : Keeps T b c) (hT : ∀ i, T i → S i ∨ a.heap.size ≤ i) : Keeps S a c :=
  ⟨k.os.trans h.os, k.tape.trans h.tape, k.output.trans h.output, Nat.le_trans h.size k.size, fun i hi hn => (k.block i (Nat.lt_of_lt_of_le hi h.size) (fun t => by rcases hT i t with h | h; exact hn h; omega)).trans (h.block i hi hn)⟩
theorem Keeps.mono {S T : Nat → Prop} {a b : World} (h : Keeps S a b) (hT : ∀ i, S i → T i) : Keeps T a b := ⟨h.os, h.tape, h.output, h.size, fun k hk hn => h.block k hk (fun s => hn (hT k s))⟩
theorem Keeps.setCell {S : Nat → Prop} {a w : World} (h : Keeps S a w) {p : Addr} (hp : S p.block) (u : Value) : Keeps S a (w.setCell p u) :=
  h.trans ⟨rfl, rfl, rfl, by simp [World.setCell], fun k _ hn => Below.heap_setCell _ _ _ _ (fun e => hn (e ▸ hp))⟩
/-- A store into a block that was not there at the start. -/
theorem Keeps.setNew {S : Nat → Prop} {a w : World} (h : Keeps S a w) {p : Addr} (hp : a.heap.size ≤ p.block) (u : Value) : Keeps S a (w.setCell p u) :=
  h.trans' (T := fun k => k = p.block) ((Keeps.refl (fun k => k = p.block) w).setCell (p := p) rfl u) fun i hi => .inr (by omega)
theorem Keeps.drew {S : Nat → Prop} {a w : World} (h : Keeps S a w) : Keeps S a w.drew := ⟨h.os, h.tape, h.output, h.size, h.block⟩
theorem Keeps.drewN {S : Nat → Prop} {a w : World} (h : Keeps S a w) (n : Nat) : Keeps S a (w.drewN n) := ⟨h.os, h.tape, h.output, h.size, h.block⟩
theorem Keeps.grown {S : Nat → Prop} {a w w' : World} (h : Keeps S a w) (hg : w.grownBy w' none) : Keeps S a w' :=
  h.trans ⟨hg.os, hg.tape, hg.output, hg.size, fun k hk _ => hg.block k hk (by simp)⟩
theorem Keeps.below {S : Nat → Prop} {a w : World} (h : Keeps S a w) (hS : ∀ k, S k → a.heap.size ≤ k) : Below a.heap.size a w :=
  ⟨h.os, h.tape, h.output, h.size, fun k hk => h.block k hk (fun s => by have := hS k s; omega)⟩

/-! ### rows -/
/-- Block b is a row of the cells xs, none of them frozen. -/
def Row (w : World) (b : Nat) (t : TypeId) (xs : List Value) : Prop := w.heap[b]? = some (.cells xs.toArray t (0, 0))
theorem Row.lt {w : World} {b : Nat} {t : TypeId} {xs : List Value} (h : Row w b t xs) : b < w.heap.size := (Array.getElem?_eq_some_iff.1 h).1
theorem Row.cell {w : World} {b : Nat} {t : TypeId} {xs : List Value} (h : Row w b t xs) (i : Nat) : w.cell? ⟨b, i, none⟩ = xs[i]? := by
  rw [cell_of_row w b i _ t _ h]; simp
theorem Row.frozen {w : World} {b : Nat} {t : TypeId} {xs : List Value} (h : Row w b t xs) (i : Nat) : w.frozen? ⟨b, i, none⟩ = false := frozen_of_row w b i _ t h
theorem Row.set {w : World} {b : Nat} {t : TypeId} {xs : List Value} (h : Row w b t xs) (i : Nat) (v : Value) : Row (w.setCell ⟨b, i, none⟩ v) b t (xs.set i v) := by
  have := heap_setCell_same w b i _ t v h
  rw [Row, this]
  simp
theorem Row.drewN {w : World} {b : Nat} {t : TypeId} {xs : List Value} (h : Row w b t xs) (n : Nat) : Row (w.drewN n) b t xs := h
theorem Row.drew {w : World} {b : Nat} {t : TypeId} {xs : List Value} (h : Row w b t xs) : Row w.drew b t xs := h
theorem Keeps.row {S : Nat → Prop} {w w' : World} {b : Nat} {t : TypeId} {xs : List Value} (k : Keeps S w w') (h : Row w b t xs) (hn : ¬ S b) : Row w' b t xs := (k.block b h.lt hn).trans h

/-! ### the runs -/
/-- The cells of a list of runs, two a run. -/
def flat (hs : List (Int × Int)) : List Value := hs.flatMap fun p => [.int .u64 p.1, .int .u64 p.2]
theorem flat_cons (p : Int × Int) (hs : List (Int × Int)) : flat (p :: hs) = .int .u64 p.1 :: .int .u64 p.2 :: flat hs := rfl
theorem flat_length (hs : List (Int × Int)) : (flat hs).length = hs.length * 2 := by
  induction hs with
  | nil => rfl
  | cons p t ih => rw [flat_cons]; simp [ih]; omega
theorem flat_get0 (hs : List (Int × Int)) (i : Nat) (p : Int × Int) (h : hs[i]? = some p) : (flat hs)[i * 2]? = some (.int .u64 p.1) := by
  induction hs generalizing i with
  | nil => simp at h
  | cons q t ih =>
    cases i with
    | zero => simp at h; subst h; rfl
    | succ i => rw [flat_cons, show (i + 1) * 2 = i * 2 + 1 + 1 from by omega]; simpa using ih i (by simpa using h)
theorem flat_get1 (hs : List (Int × Int)) (i : Nat) (p : Int × Int) (h : hs[i]? = some p) : (flat hs)[i * 2 + 1]? = some (.int .u64 p.2) := by
  induction hs generalizing i with
  | nil => simp at h
  | cons q t ih =>
    cases i with
    | zero => simp at h; subst h; rfl
    | succ i => rw [flat_cons, show (i + 1) * 2 + 1 = i * 2 + 1 + 1 + 1 from by omega]; simpa using ih i (by simpa using h)
theorem flat_set (hs : List (Int × Int)) (i : Nat) (f c : Int) : ((flat hs).set (i * 2) (.int .u64 f)).set (i * 2 + 1) (.int .u64 c) = flat (hs.set i (f, c)) := by
  induction hs generalizing i with
  | nil => simp [flat]
  | cons q t ih =>
    cases i with
    | zero => simp [flat_cons]
    | succ i => rw [flat_cons, show (i + 1) * 2 = i * 2 + 1 + 1 from by omega]; simp [flat_cons, ih i]

end Go.Proofs.Qxb6612374a
