/-
  The contracts of WriteString and Write, and of the readers of a queue.
-/
import Derived.Test.Qxb6612260aAdd
import Derived.Lib.ConvBytes
import Derived.Laws.IdiomStrings
namespace Go.Proofs.Qxb6612260a
open Go.Conc Go.RowKit Go.MuLone

/-- What is held behind a line: an empty one is not held. -/
def push (ls : List ByteArray) (s : ByteArray) : List ByteArray := if s.toList.isEmpty then ls else ls ++ [s]

/-- What a call that adds the line s leaves. -/
def Added (base q c d : Nat) (held : Value) (ls : List ByteArray) (s : ByteArray) (w w' : World) : Prop :=
  ∃ held', Holds w' base q c d 0 held' (push ls s) ∧ (held'.ownBlock = held.ownBlock ∨ ∃ g, held'.ownBlock = some g ∧ w.heap.size ≤ g) ∧ Keeps (May q c held) w w'

theorem add_any (s : ByteArray) (base q c d : Nat) (held : Value) (ls : List ByteArray) (w : World) (H : Holds w base q c d 0 held ls)
    (ht : s.toList.isEmpty = false → total ls < 1048576) (hs2 : s.size ≤ 1048576) (hl : ls.length ≤ 1048576) (hqb : q < base) (hcb : c < base) (hcq : c ≠ q) (hbase : base ≤ w.heap.size) :
    Calls Try.prog 18 #[.pointer (some ⟨q, 0, none⟩), .string s, .bool false] w fun e w' => e = .returned (.tuple #[]) ∧ Added base q c d held ls s w w' := by
  cases hs : s.toList.isEmpty with
  | true =>
    refine (add_empty s q w hs).mono ?_
    rintro e w' ⟨rfl, rfl⟩
    exact ⟨rfl, held, by simpa [push, hs] using H, .inl rfl, Keeps.refl _ _⟩
  | false =>
    refine (add_line s base q c d held ls w H hs (ht hs) hs2 hl hqb hcb hcq hbase).mono ?_
    rintro e w' ⟨rfl, held', H', ho, k⟩
    exact ⟨rfl, held', by simpa [push, hs] using H', ho, k⟩

theorem writeString_any (s : ByteArray) (base q c d : Nat) (held : Value) (ls : List ByteArray) (w : World) (H : Holds w base q c d 0 held ls)
    (ht : s.toList.isEmpty = false → total ls < 1048576) (hs2 : s.size ≤ 1048576) (hl : ls.length ≤ 1048576) (hqb : q < base) (hcb : c < base) (hcq : c ≠ q) (hbase : base ≤ w.heap.size) :
    Calls Try.prog 9 #[.pointer (some ⟨q, 0, none⟩), .string s] w fun e w' => e = .returned (.tuple #[.int .i64 s.size, .nilIface]) ∧ Added base q c d held ls s w w' := by
  go_enter Try.func9, Try.ntmps9
  go_wp2_with fail
  refine (add_any s base q c d held ls w H ht hs2 hl hqb hcb hcq hbase).mono ?_
  rintro e w1 ⟨rfl, A⟩
  go_wp2
  go_ret2
  exact ⟨rfl, A⟩

theorem write_any (s : ByteArray) (a : Addr) (cap : Nat) (base q c d : Nat) (held : Value) (ls : List ByteArray) (w : World) (H : Holds w base q c d 0 held ls)
    (hc : ∀ j (hj : j < s.data.toList.length), w.cell? (a.add j) = some (.int .u8 (s.data.toList[j].toNat : Int)))
    (ht : s.toList.isEmpty = false → total ls < 1048576) (hs2 : s.size ≤ 1048576) (hl : ls.length ≤ 1048576) (hqb : q < base) (hcb : c < base) (hcq : c ≠ q) (hbase : base ≤ w.heap.size) :
    Calls Try.prog 10 #[.pointer (some ⟨q, 0, none⟩), .slice (some a) s.size cap] w fun e w' => e = .returned (.tuple #[.int .i64 s.size, .nilIface]) ∧ Added base q c d held ls s w w' := by
  have hcv : (convert 32 9 (.slice (some a) s.size cap)).run Try.prog w = .ok (.string s) w := by
    have := run_convert_bytes_back (P := Try.prog) w 32 9 5 a cap s.data.toList Try.underlying32 Try.underlying5 Try.underlying9 hc
    simpa using this
  clear hc
  go_enter Try.func10, Try.ntmps10
  go_wp2_with fail
  refine (add_any s base q c d held ls w H ht hs2 hl hqb hcb hcq hbase).mono ?_
  rintro e w1 ⟨rfl, A⟩
  go_wp2
  go_ret2
  exact ⟨rfl, A⟩

section
variable (base q c d : Nat) (m : Int) (held : Value) (ls : List ByteArray) (w : World) (H : Holds w base q c d m held ls)
theorem size_any (H : Holds w base q c d m held ls) : Calls Try.prog 12 #[.pointer (some ⟨q, 0, none⟩)] w fun e w' => e = .returned (.int .i64 (total ls)) ∧ w' = w := by
  have c6 := q6 H.obj
  go_enter Try.func12, Try.ntmps12
  go_wp2
  go_ret
  exact ⟨rfl, rfl⟩
theorem heldLen_any (H : Holds w base q c d m held ls) : Calls Try.prog 13 #[.pointer (some ⟨q, 0, none⟩)] w fun e w' => e = .returned (.int .i64 ls.length) ∧ w' = w := by
  have c5 := q5 H.obj
  rcases H.row.2 with ⟨hv, hn⟩ | ⟨g, cap, cur, hv, _⟩
  · rw [hv] at c5
    rw [hn]
    clear hv hn H
    go_enter Try.func13, Try.ntmps13
    go_wp2
    go_ret
    exact ⟨rfl, rfl⟩
  · rw [hv] at c5
    clear hv H
    go_enter Try.func13, Try.ntmps13
    go_wp2
    go_ret
    exact ⟨rfl, rfl⟩
theorem wakeLen_any (H : Holds w base q c d m held ls) : Calls Try.prog 14 #[.pointer (some ⟨q, 0, none⟩)] w fun e w' => e = .returned (.int .i64 (sent ls.length)) ∧ w' = w := by
  refine (wake_len q 0 c (sent ls.length) 0 (toks ls.length) w (q1 H.obj) H.ch).mono ?_
  rintro e w' ⟨rfl, rfl⟩
  rw [toks_size]
  exact ⟨rfl, rfl⟩
end
end Go.Proofs.Qxb6612260a
