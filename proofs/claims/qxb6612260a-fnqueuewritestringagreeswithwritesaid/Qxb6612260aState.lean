/-
  A Queue in memory, and what a call may turn: plain laws on worlds, no Go text.
-/
import Derived.Test.Qxb6612260aTokenWalk
import Derived.Maps.AppendAt
namespace Go.Proofs.Qxb6612260a
open Go.Conc Go.RowKit

/-- Of what lay in w nothing has turned but blocks of S. -/
structure Keeps (S : Nat → Prop) (w w' : World) : Prop where
  os : w'.os = w.os
  tape : w'.tape = w.tape
  output : w'.output = w.output
  size : w.heap.size ≤ w'.heap.size
  block : ∀ k, k < w.heap.size → ¬ S k → w'.heap[k]? = w.heap[k]?

theorem Keeps.refl (S : Nat → Prop) (w : World) : Keeps S w w := ⟨rfl, rfl, rfl, Nat.le_refl _, fun _ _ _ => rfl⟩
theorem Keeps.trans {S : Nat → Prop} {a b c : World} (h : Keeps S a b) (k : Keeps S b c) : Keeps S a c :=
  ⟨k.os.trans h.os, k.tape.trans h.tape, k.output.trans h.output, Nat.le_trans h.size k.size, fun i hi hn => (k.block i (Nat.lt_of_lt_of_le hi h.size) hn).trans (h.block i hi hn)⟩
/-- The second step may turn more: blocks that were not there when the first began. -/
theorem Keeps.trans' {S T : Nat → Prop} {a b c : World} (h : Keeps S a b) (k : Keeps T b c) (hT : ∀ i, T i → S i ∨ a.heap.size ≤ i) : Keeps S a c :=
  ⟨k.os.trans h.os, k.tape.trans h.tape, k.output.trans h.output, Nat.le_trans h.size k.size, fun i hi hn => (k.block i (Nat.lt_of_lt_of_le hi h.size) (fun t => by rcases hT i t with h | h; exact hn h; omega)).trans (h.block i hi hn)⟩
theorem Keeps.mono {S T : Nat → Prop} {a b : World} (h : Keeps S a b) (hT : ∀ i, S i → T i) : Keeps T a b := ⟨h.os, h.tape, h.output, h.size, fun k hk hn => h.block k hk (fun s => hn (hT k s))⟩
theorem Keeps.setCell {S : Nat → Prop} {a w : World} (h : Keeps S a w) {p : Addr} (hp : S p.block) (u : Value) : Keeps S a (w.setCell p u) :=
  h.trans ⟨rfl, rfl, rfl, by simp [World.setCell], fun k _ hn => Below.heap_setCell _ _ _ _ (fun e => hn (e ▸ hp))⟩
theorem Keeps.alloc {S : Nat → Prop} {a w : World} (h : Keeps S a w) (o : Obj) : Keeps S a (w.alloc o) :=
  h.trans ⟨rfl, rfl, rfl, by simp, fun k hk _ => Below.heap_alloc _ _ _ hk⟩
theorem Keeps.drew {S : Nat → Prop} {a w : World} (h : Keeps S a w) : Keeps S a w.drew := ⟨h.os, h.tape, h.output, h.size, h.block⟩
theorem Keeps.grown {S : Nat → Prop} {a w w' : World} {row : Option Nat} (h : Keeps S a w) (hg : w.grownBy w' row) (hr : ∀ k, row = some k → S k) : Keeps S a w' :=
  h.trans ⟨hg.os, hg.tape, hg.output, hg.size, fun k hk hn => hg.block k hk (fun e => hn (hr k e.symm))⟩
theorem Keeps.setChan {S : Nat → Prop} {a w : World} (h : Keeps S a w) {c : Nat} (hc : S c) (cap : Nat) (buf : Array Value) (cl : Bool) (s r : Nat) (tm : Bool) : Keeps S a (w.setChan c cap buf cl s r tm) :=
  h.trans ⟨rfl, rfl, rfl, by simp [World.setChan], fun k _ hn => by
    have hne : c ≠ k := fun e => hn (by rw [← e]; exact hc)
    simp only [World.setChan]
    rw [Array.getElem?_setIfInBounds_ne hne]⟩
theorem Keeps.below {S : Nat → Prop} {a w : World} (h : Keeps S a w) (hS : ∀ k, S k → a.heap.size ≤ k) : Below a.heap.size a w :=
  ⟨h.os, h.tape, h.output, h.size, fun k hk => h.block k hk (fun s => by have := hS k s; omega)⟩
theorem Keeps.owns {S : Nat → Prop} {w w' : World} {base : Nat} {e : TypeId} {size : Nat} {v : Value} {n : Nat} {xs : List Value} (h : Keeps S w w') (ho : w.ownsRow base e size v n xs) (hn : ∀ k, v.ownBlock = some k → ¬ S k) :
    w'.ownsRow base e size v n xs := by
  refine ⟨ho.1, ?_⟩
  rcases ho.2 with hn' | ⟨g, cap, cur, rfl, hb, hgg, rest⟩
  · exact .inl hn'
  · refine .inr ⟨g, cap, cur, rfl, hb, ?_, rest⟩
    rw [h.block g (Array.getElem?_eq_some_iff.1 hgg).1 (hn g rfl)]
    exact hgg
theorem lt_of_heap {w : World} {k : Nat} {o : Obj} (h : w.heap[k]? = some o) : k < w.heap.size := (Array.getElem?_eq_some_iff.1 h).1
theorem Keeps.at {S : Nat → Prop} {w w' : World} {k : Nat} {o : Obj} (h : Keeps S w w') (hk : w.heap[k]? = some o) (hn : ¬ S k) : w'.heap[k]? = some o := (h.block k (lt_of_heap hk) hn).trans hk

/-! ### the queue's block -/
/-- A Queue in memory, its lock's word m. -/
def qobjL (m : Int) (c d : Nat) (held : Value) (size : Int) : Obj := .cells #[.nilIface, .chan (some c), .chan (some d), .int .i32 m, .int .u32 0, held, .int .i64 size, .bool false] 51
theorem qobj_eq (c d : Nat) (held : Value) (size : Int) : qobj c d held size = qobjL 0 c d held size := rfl
section
variable {w : World} {q c d : Nat} {m : Int} {held : Value} {size : Int}
theorem q1 (h : w.heap[q]? = some (qobjL m c d held size)) : w.cell? ⟨q, 1, none⟩ = some (.chan (some c)) := cell_of_row w q 1 _ 51 _ h
theorem q3 (h : w.heap[q]? = some (qobjL m c d held size)) : w.cell? ⟨q, 3, none⟩ = some (.int .i32 m) := cell_of_row w q 3 _ 51 _ h
theorem q5 (h : w.heap[q]? = some (qobjL m c d held size)) : w.cell? ⟨q, 5, none⟩ = some held := cell_of_row w q 5 _ 51 _ h
theorem q6 (h : w.heap[q]? = some (qobjL m c d held size)) : w.cell? ⟨q, 6, none⟩ = some (.int .i64 size) := cell_of_row w q 6 _ 51 _ h
theorem q7 (h : w.heap[q]? = some (qobjL m c d held size)) : w.cell? ⟨q, 7, none⟩ = some (.bool false) := cell_of_row w q 7 _ 51 _ h
theorem qf (h : w.heap[q]? = some (qobjL m c d held size)) (i : Nat) : w.frozen? ⟨q, i, none⟩ = false := frozen_of_row w q i _ 51 h
theorem q_set3 (h : w.heap[q]? = some (qobjL m c d held size)) (m' : Int) : (w.setCell ⟨q, 3, none⟩ (.int .i32 m')).heap[q]? = some (qobjL m' c d held size) := heap_setCell_same w q 3 _ 51 _ h
theorem q_set5 (h : w.heap[q]? = some (qobjL m c d held size)) (held' : Value) : (w.setCell ⟨q, 5, none⟩ held').heap[q]? = some (qobjL m c d held' size) := heap_setCell_same w q 5 _ 51 _ h
theorem q_set6 (h : w.heap[q]? = some (qobjL m c d held size)) (n : Int) : (w.setCell ⟨q, 6, none⟩ (.int .i64 n)).heap[q]? = some (qobjL m c d held n) := heap_setCell_same w q 6 _ 51 _ h
end

/-! ### what the queue holds -/
/-- The three cells of an entry that holds a line. -/
def ent (s : ByteArray) : List Value := [.string s, .int .i64 0, .int .i64 0]
def ents (ls : List ByteArray) : List Value := ls.flatMap ent
def total (ls : List ByteArray) : Nat := (ls.map (·.size)).sum
theorem ents_snoc (ls : List ByteArray) (s : ByteArray) : ents (ls ++ [s]) = ents ls ++ ent s := by simp [ents]
theorem total_snoc (ls : List ByteArray) (s : ByteArray) : total (ls ++ [s]) = total ls + s.size := by simp [total]
theorem ents_length (ls : List ByteArray) : (ents ls).length = ls.length * 3 := by
  induction ls with
  | nil => rfl
  | cons s t ih => simp [ents, ent] at ih ⊢; omega

/-- THE QUEUE AT q HOLDS THE LINES ls: its block, its row, its channel. -/
structure Holds (w : World) (base q c d : Nat) (m : Int) (held : Value) (ls : List ByteArray) : Prop where
  obj : w.heap[q]? = some (qobjL m c d held (total ls))
  row : w.ownsRow base 55 3 held ls.length (ents ls)
  ch : w.heap[c]? = some (.chan 1 (toks ls.length) false (sent ls.length) 0 false)

end Go.Proofs.Qxb6612260a
