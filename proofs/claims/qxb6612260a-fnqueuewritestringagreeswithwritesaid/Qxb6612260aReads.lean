/-
  The contracts of ZZheldLine, ZZheldRelayed, ZZheldOwn.
-/
import Derived.Test.Qxb6612260aWrites
namespace Go.Proofs.Qxb6612260a
open Go.Conc Go.RowKit

theorem ents_get (ls : List ByteArray) (j : Nat) (h : j < ls.length) (i : Nat) (hi : i < 3) : (ents ls)[j * 3 + i]? = (ent ls[j])[i]? := by
  induction ls generalizing j with
  | nil => simp at h
  | cons s t ih =>
    have e : ents (s :: t) = ent s ++ ents t := by simp [ents]
    rw [e]
    cases j with
    | zero => rw [List.getElem?_append_left (by simp [ent]; omega)]; simp
    | succ j =>
      rw [List.getElem?_append_right (by simp [ent]; omega)]
      have := ih j (by simpa using h)
      rw [show (j + 1) * 3 + i - (ent s).length = j * 3 + i from by simp [ent]; omega]
      simpa using this

/-- The j-th entry in memory. -/
theorem Holds.entry {base q c d : Nat} {m : Int} {held : Value} {ls : List ByteArray} {w : World} (H : Holds w base q c d m held ls) (j : Nat) (hj : j < ls.length) :
    ∃ g cap, w.cell? ⟨q, 5, none⟩ = some (.slice (some ⟨g, 0, none⟩) ls.length cap) ∧ w.cell? ⟨g, j * 3, none⟩ = some (.string ls[j]) ∧
      w.cell? ⟨g, j * 3 + 1, none⟩ = some (.int .i64 0) ∧ w.cell? ⟨g, j * 3 + 2, none⟩ = some (.int .i64 0) := by
  have c5 := q5 H.obj
  have hr := H.row
  have hex : ∃ g cap, held = .slice (some ⟨g, 0, none⟩) ls.length cap := by
    rcases hr.2 with ⟨_, h⟩ | ⟨g, cap, _, h, _⟩
    · omega
    · exact ⟨g, cap, h⟩
  obtain ⟨g, cap, hv⟩ := hex
  rw [hv] at c5 hr
  refine ⟨g, cap, c5, ?_, ?_, ?_⟩
  · rw [hr.cellAt _ (by omega)]; have := ents_get ls j hj 0 (by omega); rw [Nat.add_zero] at this; rw [this]; rfl
  · rw [hr.cellAt _ (by omega), ents_get ls j hj 1 (by omega)]; rfl
  · rw [hr.cellAt _ (by omega), ents_get ls j hj 2 (by omega)]; rfl

section
variable (base q c d : Nat) (m : Int) (held : Value) (ls : List ByteArray) (w : World) (j : Nat)
theorem heldLine_any (x : ByteArray) (H : Holds w base q c d m held ls) (hj : j < ls.length) (hx : ls[j] = x) (_hl : ls.length ≤ 1048576) :
    Calls Try.prog 17 #[.pointer (some ⟨q, 0, none⟩), .int .i64 j] w fun e w' => e = .returned (.string x) ∧ w' = w := by
  obtain ⟨g, cap, c5, k0, _, _⟩ := H.entry j hj
  rw [hx] at k0
  clear H hx
  go_enter Try.func17, Try.ntmps17
  go_wp2
  go_ret
  exact ⟨rfl, rfl⟩
theorem heldRelayed_any (H : Holds w base q c d m held ls) (hj : j < ls.length) (_hl : ls.length ≤ 1048576) :
    Calls Try.prog 19 #[.pointer (some ⟨q, 0, none⟩), .int .i64 j] w fun e w' => e = .returned (.int .i64 0) ∧ w' = w := by
  obtain ⟨g, cap, c5, _, k1, _⟩ := H.entry j hj
  clear H
  go_enter Try.func19, Try.ntmps19
  go_wp2
  go_ret
  exact ⟨rfl, rfl⟩
theorem heldOwn_any (H : Holds w base q c d m held ls) (hj : j < ls.length) (_hl : ls.length ≤ 1048576) :
    Calls Try.prog 20 #[.pointer (some ⟨q, 0, none⟩), .int .i64 j] w fun e w' => e = .returned (.int .i64 0) ∧ w' = w := by
  obtain ⟨g, cap, c5, _, _, k2⟩ := H.entry j hj
  clear H
  go_enter Try.func20, Try.ntmps20
  go_wp2
  go_ret
  exact ⟨rfl, rfl⟩
end
end Go.Proofs.Qxb6612260a
