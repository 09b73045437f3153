/-
  The walk of FnSignalLeavesOneToken.
-/
import Derived.Test.Qxb6612260aNew
import Derived.LoopTactic
namespace Go.Proofs.Qxb6612260a
open Go.Conc Go.RowKit

/-- What the buffer holds behind k signals. -/
def toks (k : Nat) : Array Value := if k = 0 then #[] else #[.agg #[]]
def sent (k : Nat) : Nat := if k = 0 then 0 else 1
theorem toks_size (k : Nat) : (toks k).size = sent k := by unfold toks sent; split <;> rfl

/-- ZZsignal behind k signals: k + 1 of them. -/
theorem zsignal_any (k q c : Nat) (w : World) (hne : c ≠ q) (hq : w.cell? ⟨q, 1, none⟩ = some (.chan (some c))) (hc : w.heap[c]? = some (.chan 1 (toks k) false (sent k) 0 false)) :
    Calls Try.prog 15 #[.pointer (some ⟨q, 0, none⟩)] w fun e w' => e = .returned (.tuple #[]) ∧ w'.cell? ⟨q, 1, none⟩ = some (.chan (some c)) ∧
      w'.heap[c]? = some (.chan 1 (toks (k + 1)) false (sent (k + 1)) 0 false) ∧ ∀ B a, B ≤ c → Below B a w → Below B a w' := by
  have hlt : c < w.heap.size := by
    rcases Nat.lt_or_ge c w.heap.size with h | h
    · exact h
    · rw [Array.getElem?_eq_none h] at hc; cases hc
  by_cases hk : k = 0
  · subst hk
    refine (zsignal_room q 0 c 0 0 w (by simpa using hq) (by simpa [toks, sent] using hc)).mono ?_
    rintro e w' ⟨rfl, rfl⟩
    refine ⟨rfl, ?_, ?_, fun B a hB hb => below_setChan hb hB _ _ _ _ _ _⟩
    · rw [← hq]
      exact World.cell?_of_block (by simp only [World.setChan]; rw [Array.getElem?_setIfInBounds_ne hne])
    · have := heap_setChan w c 1 #[.agg #[]] false 1 0 false hlt
      simpa [toks, sent] using this
  · have e1 : toks k = #[.agg #[]] := by simp [toks, hk]
    have e2 : sent k = 1 := by simp [sent, hk]
    rw [e1, e2] at hc
    refine (zsignal_full q 0 c 1 0 w (by simpa using hq) hc).mono ?_
    rintro e w' ⟨rfl, rfl⟩
    exact ⟨rfl, hq, by simpa [toks, sent] using hc, fun B a _ hb => hb⟩

theorem cell_idle {w : World} {q c d : Nat} {h : Value} {n : Int} (hb : w.heap[q]? = some (qobj c d h n)) : w.cell? ⟨q, 1, none⟩ = some (.chan (some c)) := by
  simp [World.cell?, hb, qobj]

theorem token_out (a0 : Int) (h : a0 < 0 ∨ 65536 < a0) (w : World) : Calls Try.prog 4 #[.int .i64 a0] w fun e w' => e = .returned (.bool true) ∧ Below w.heap.size w w' := by
  rcases h with h | h
  · go_enter Try.func4, Try.ntmps4
    go_wp2
    go_ret
    exact ⟨rfl, Below.refl _ _⟩
  · have h0 : ¬ a0 < 0 := by omega
    go_enter Try.func4, Try.ntmps4
    go_wp2
    go_ret
    exact ⟨rfl, Below.refl _ _⟩

theorem token_in (n : Nat) (h : n ≤ 65536) (w : World) : Calls Try.prog 4 #[.int .i64 n] w fun e w' => e = .returned (.bool true) ∧ Below w.heap.size w w' := by
  have h0 : (0 : Int) ≤ n := by omega
  have h1 : (n : Int) ≤ 65536 := by omega
  go_enter Try.func4, Try.ntmps4
  go_wp2_with fail
  refine (new_idle w).mono ?_
  rintro e w1 ⟨c, d, rfl, hc0, hc1, hs, hq, hch, hb⟩
  have hcell := cell_idle hq
  clear hq
  go_wp2_with fail
  go_loopw [4] (fun i wr => ∃ k : Nat, k ≤ n ∧ i = .int .i64 k ∧ wr.cell? ⟨w.heap.size + 2, 1, none⟩ = some (.chan (some c)) ∧ wr.heap[c]? = some (.chan 1 (toks k) false (sent k) 0 false) ∧ Below w.heap.size w wr)
    (fun i _ => n - (intOf i).toNat)
  case atStart => exact ⟨0, Nat.zero_le _, rfl, hcell, hch, hb⟩
  case round =>
    obtain ⟨k, hk, rfl, hcr, hchr, hbr⟩ := hrel
    clear hcell hch hb hs
    by_cases hlt : k < n
    · go_wp2_with fail
      refine (zsignal_any k (w.heap.size + 2) c wr (by omega) hcr hchr).mono ?_
      rintro e w2 ⟨rfl, hcr2, hchr2, hb2⟩
      have hbr2 := hb2 _ _ hc0 hbr
      clear hcr hchr hb2 hbr
      go_wp2
      go_roundw
      case rel => exact ⟨k + 1, by omega, by go_num, hcr2, hchr2, hbr2⟩
      case measure => simp [intOf]; omega
    · obtain rfl : k = n := by omega
      by_cases hp : 0 < k
      · have hs1 : (toks k).size = 1 := by rw [toks_size]; unfold sent; rw [if_neg (by omega)]
        go_wp2_with fail
        refine (wake_len _ 0 c (sent k) 0 (toks k) wr hcr hchr).mono ?_
        rintro e w2 ⟨rfl, rfl⟩
        go_wp2
        go_ret
        exact ⟨rfl, hbr⟩
      · have hs1 : (toks k).size = 0 := by rw [toks_size]; unfold sent; rw [if_pos (by omega)]
        go_wp2_with fail
        refine (wake_len _ 0 c (sent k) 0 (toks k) wr hcr hchr).mono ?_
        rintro e w2 ⟨rfl, rfl⟩
        go_wp2
        go_ret
        exact ⟨rfl, hbr⟩

theorem token_walk (a0 : Int) (w : World) : Calls Try.prog 4 #[.int .i64 a0] w fun e w' => e = .returned (.bool true) ∧ Below w.heap.size w w' := by
  by_cases h : a0 < 0 ∨ 65536 < a0
  · exact token_out a0 h w
  · obtain ⟨n, rfl⟩ := Int.eq_ofNat_of_zero_le (show 0 ≤ a0 by omega)
    exact token_in n (by omega) w
end Go.Proofs.Qxb6612260a
