/-
  Two queues side by side: what one round of the law does to them. No Go text.
-/
import Derived.Test.Qxb6612260aSame
import Derived.Test.Qxb6612260aBounds
namespace Go.Proofs.Qxb6612260a
open Go.Conc Go.RowKit

theorem isEmpty_size {s : ByteArray} (h : s.toList.isEmpty = true) : s.size = 0 := by
  rw [ByteArray.toList_eq] at h
  have h' : s.data = #[] := by simpa using h
  show s.data.size = 0
  rw [h']
  rfl
theorem size_isEmpty {s : ByteArray} (h : s.toList.isEmpty = false) : 0 < s.size := by
  rw [ByteArray.toList_eq] at h
  rcases Nat.eq_zero_or_pos s.size with h' | h'
  · exfalso
    have : s.data.toList = [] := List.eq_nil_of_length_eq_zero (by simpa using h')
    rw [this] at h
    simp at h
  · exact h'

/-- The lines that are held behind k rounds. -/
def kept (ss : List ByteArray) : Nat → List ByteArray
  | 0 => []
  | k + 1 => push (kept ss k) (at' ss k)
theorem total_push (ls : List ByteArray) (s : ByteArray) : total (push ls s) = total ls + s.size := by
  unfold push
  split
  · rename_i h
    rw [isEmpty_size h, Nat.add_zero]
  · rw [total_snoc]
theorem total_kept (ss : List ByteArray) (k : Nat) : total (kept ss k) = total (ss.take k) := by
  induction k with
  | zero => simp [kept, total]
  | succ k ih => rw [kept, total_push, ih, total_take]
theorem length_push (ls : List ByteArray) (s : ByteArray) : (push ls s).length ≤ ls.length + 1 := by unfold push; split <;> simp
theorem length_kept (ss : List ByteArray) (k : Nat) : (kept ss k).length ≤ k := by
  induction k with
  | zero => simp [kept]
  | succ k ih => rw [kept]; have := length_push (kept ss k) (at' ss k); omega

/-- Two rows are not one. -/
def Apart (a b : Value) : Prop := ∀ k, a.ownBlock = some k → b.ownBlock ≠ some k

theorem Holds.keep {S : Nat → Prop} {w w' : World} {base q c d : Nat} {m : Int} {held : Value} {ls : List ByteArray} (H : Holds w base q c d m held ls) (k : Keeps S w w') (hq : ¬ S q) (hc : ¬ S c) (hr : ∀ g, held.ownBlock = some g → ¬ S g) :
    Holds w' base q c d m held ls := ⟨k.at H.obj hq, k.owns H.row hr, k.at H.ch hc⟩

theorem keeps_bytes (w : World) (s : ByteArray) : Keeps (fun _ => False) w (Lib.bytesWorld w 5 s) :=
  ⟨rfl, rfl, rfl, by rw [Lib.bytesWorld_size]; omega, fun k hk _ => Lib.bytesWorld_at_old w 5 s k hk⟩

/-- THE TWO QUEUES, each with the lines ls, in one world. -/
structure Pair (w0 w : World) (base qa ca da qb cb db : Nat) (ha hb : Value) (ls : List ByteArray) : Prop where
  a : Holds w base qa ca da 0 ha ls
  b : Holds w base qb cb db 0 hb ls
  apart : Apart ha hb
  size : base ≤ w.heap.size
  below : Below w0.heap.size w0 w

/-- The blocks of the two queues: where they lie. -/
structure Laid (w0 : World) (base qa ca qb cb : Nat) : Prop where
  xqa : qa < base
  xca : ca < base
  xqb : qb < base
  xcb : cb < base
  xcaqa : ca ≠ qa
  xcbqb : cb ≠ qb
  xqaqb : qa ≠ qb
  xqacb : qa ≠ cb
  xcaqb : ca ≠ qb
  xcacb : ca ≠ cb
  xlqa : w0.heap.size ≤ qa
  xlca : w0.heap.size ≤ ca
  xlqb : w0.heap.size ≤ qb
  xlcb : w0.heap.size ≤ cb
  xlbase : w0.heap.size ≤ base

section
variable {w0 w w1 w3 : World} {base qa ca da qb cb db : Nat} {ha hb : Value} {ls : List ByteArray} {s : ByteArray}

theorem May.off {q c : Nat} {held : Value} {k : Nat} (h1 : k ≠ q) (h2 : k ≠ c) (h3 : held.ownBlock ≠ some k) : ¬ May q c held k := by
  rintro (h | h | h)
  · exact h1 h
  · exact h2 h
  · exact h3 h

/-- Behind WriteString on the first queue and '[]byte(s)': the second is as it was. -/
theorem Pair.first (L : Laid w0 base qa ca qb cb) (P : Pair w0 w base qa ca da qb cb db ha hb ls) (A : Added base qa ca da ha ls s w w1) :
    ∃ ha', Holds (Lib.bytesWorld w1 5 s) base qa ca da 0 ha' (push ls s) ∧ Holds (Lib.bytesWorld w1 5 s) base qb cb db 0 hb ls ∧ Apart ha' hb ∧ base ≤ (Lib.bytesWorld w1 5 s).heap.size ∧ Below w0.heap.size w0 (Lib.bytesWorld w1 5 s) := by
  obtain ⟨ha', H', ho, k⟩ := A
  have kb := keeps_bytes w1 s
  have hrow : ∀ g, hb.ownBlock = some g → base ≤ g ∧ g < w.heap.size := P.b.row.lt
  have hqb : ¬ May qa ca ha qb := May.off (Ne.symm L.xqaqb) (Ne.symm L.xcaqb) (fun h => by have := (P.a.row.lt qb h).1; have := L.xqb; omega)
  have hcb : ¬ May qa ca ha cb := May.off (Ne.symm L.xqacb) (Ne.symm L.xcacb) (fun h => by have := (P.a.row.lt cb h).1; have := L.xcb; omega)
  have hr : ∀ g, hb.ownBlock = some g → ¬ May qa ca ha g := fun g hg => May.off (by have := hrow g hg; have := L.xqa; omega) (by have := hrow g hg; have := L.xca; omega) (fun h => P.apart g h hg)
  have HB1 := P.b.keep k hqb hcb hr
  refine ⟨ha', H'.keep kb (fun h => h) (fun h => h) (fun _ _ h => h), HB1.keep kb (fun h => h) (fun h => h) (fun _ _ h => h), ?_, ?_, ?_⟩
  · intro g h1 h2
    rcases ho with h | ⟨g', hg', hge⟩
    · exact P.apart g (h ▸ h1) h2
    · rw [hg'] at h1
      have := hrow g h2
      simp at h1
      omega
  · rw [Lib.bytesWorld_size]; have := k.size; have := P.size; omega
  · have b1 : Below w0.heap.size w w1 := ⟨k.os, k.tape, k.output, k.size, fun i hi => k.block i (by have := P.below.size; omega) (May.off (by have := L.xlqa; omega) (by have := L.xlca; omega) (fun h => by have := (P.a.row.lt i h).1; have := L.xlbase; omega))⟩
    have b2 : Below w0.heap.size w1 (Lib.bytesWorld w1 5 s) := ⟨rfl, rfl, rfl, kb.size, fun i hi => Lib.bytesWorld_at_old w1 5 s i (by have := P.below.size; have := k.size; omega)⟩
    exact (P.below.trans b1).trans b2

/-- Behind Write on the second queue: both hold the line. -/
theorem Pair.second (L : Laid w0 base qa ca qb cb) (HA : Holds w base qa ca da 0 ha (push ls s)) (HB : Holds w base qb cb db 0 hb ls) (hap : Apart ha hb) (hsz : base ≤ w.heap.size) (hbel : Below w0.heap.size w0 w)
    (A : Added base qb cb db hb ls s w w3) : ∃ hb', Pair w0 w3 base qa ca da qb cb db ha hb' (push ls s) := by
  obtain ⟨hb', H', ho, k⟩ := A
  have hrow : ∀ g, ha.ownBlock = some g → base ≤ g ∧ g < w.heap.size := HA.row.lt
  have hqa : ¬ May qb cb hb qa := May.off L.xqaqb L.xqacb (fun h => by have := (HB.row.lt qa h).1; have := L.xqa; omega)
  have hca : ¬ May qb cb hb ca := May.off L.xcaqb L.xcacb (fun h => by have := (HB.row.lt ca h).1; have := L.xca; omega)
  have hr : ∀ g, ha.ownBlock = some g → ¬ May qb cb hb g := fun g hg => May.off (by have := hrow g hg; have := L.xqb; omega) (by have := hrow g hg; have := L.xcb; omega) (fun h => hap g hg h)
  refine ⟨hb', HA.keep k hqa hca hr, H', ?_, by have := k.size; omega, ?_⟩
  · intro g h1 h2
    rcases ho with h | ⟨g', hg', hge⟩
    · exact hap g h1 (h ▸ h2)
    · rw [hg'] at h2
      have := hrow g h1
      simp at h2
      omega
  · exact hbel.trans ⟨k.os, k.tape, k.output, k.size, fun i hi => k.block i (by have := hbel.size; omega) (May.off (by have := L.xlqb; omega) (by have := L.xlcb; omega) (fun h => by have := (HB.row.lt i h).1; have := L.xlbase; omega))⟩
end
end Go.Proofs.Qxb6612260a
