/-
  The two measures of the lines: zzBytes_FnQueueWriteStringAgreesWithWrite and zzb1Bytes.
-/
import Derived.Test.Qxb6612260aState
import Derived.LoopTactic
namespace Go.Proofs.Qxb6612260a
open Go.Conc Go.RowKit

def at' (ss : List ByteArray) (k : Nat) : ByteArray := ss.getD k ByteArray.empty
theorem total_take (ss : List ByteArray) (k : Nat) : total (ss.take (k + 1)) = total (ss.take k) + (at' ss k).size := by
  by_cases h : k < ss.length
  · rw [List.take_succ_eq_append_getElem h, total_snoc]
    simp [at', h]
  · rw [List.take_of_length_le (by omega), List.take_of_length_le (by omega)]
    simp [at', h]
theorem total_take_mono (ss : List ByteArray) {j k : Nat} (h : j ≤ k) : total (ss.take j) ≤ total (ss.take k) := by
  induction h with
  | refl => exact Nat.le_refl _
  | step _ ih => exact Nat.le_trans ih (by rw [total_take]; omega)

/-- What zzBytes answers: true only where no line is longer than the bound. -/
def Short (ss : List ByteArray) (len : Nat) (w : World) (e : Ending) (w' : World) : Prop := ∃ r, e = .returned (.bool r) ∧ w' = w ∧ (r = true → ∀ i, i < len → (at' ss i).size ≤ 1048576)
theorem Short.no {ss : List ByteArray} {len : Nat} {w : World} {e : Ending} (h : e = .returned (.bool false)) : Short ss len w e w := ⟨false, h, rfl, fun h => by cases h⟩
theorem Short.yes {ss : List ByteArray} {len : Nat} {w : World} {e : Ending} (h : e = .returned (.bool true)) (ha : ∀ i, i < len → (at' ss i).size ≤ 1048576) : Short ss len w e w := ⟨true, h, rfl, fun _ => ha⟩

set_option maxRecDepth 100000 in
theorem zzBytes_some (b off len cap : Nat) (ss : List ByteArray) (w : World) (hm : len ≤ 9223372036854775807) (hc : ∀ i, i < len → w.cell? ⟨b, off + i, none⟩ = some (.string (at' ss i))) (hw : ∀ i, i < len → (at' ss i).size ≤ 9223372036854775807) :
    Calls Try.prog 6 #[.slice (some ⟨b, off, none⟩) len cap] w (Short ss len w) := by
  by_cases hlen : len ≤ 1048576
  · have hd0 : decide ((1048576 : Int) < (len : Int)) = false := by simp; omega
    go_enter Try.func6, Try.ntmps6
    go_wp2
    go_loop [3, 4] (fun n i => ∃ k z : Nat, k ≤ len ∧ i = .int .i64 k ∧ n = .int .i64 z ∧ z ≤ 1048576 ∧ ∀ j, j < k → (at' ss j).size ≤ 1048576) (fun _ i => len - (intOf i).toNat)
    case atStart => exact ⟨0, len, Nat.zero_le _, rfl, rfl, hlen, fun j hj => absurd hj (by omega)⟩
    case round =>
      obtain ⟨k, z, hk, rfl, rfl, hz, hall⟩ := hrel
      have HA : Hid (∀ j, j < k → (at' ss j).size ≤ 1048576) := hall
      clear hall
      by_cases hlt : k < len
      · have hcell := hc k hlt
        have hs := hw k hlt
        generalize hx : at' ss k = x at hcell hs
        have HX : Hid (at' ss k = x) := hx
        have HC : Hid (∀ i, i < len → w.cell? ⟨b, off + i, none⟩ = some (.string (at' ss i))) := hc
        have HW : Hid (∀ i, i < len → (at' ss i).size ≤ 9223372036854775807) := hw
        clear hx hc hw
        by_cases h1 : x.size ≤ 1048576
        · have hd1 : decide ((1048576 : Int) < (x.size : Int)) = false := by simp; omega
          by_cases h2 : z + x.size ≤ 1048576
          · have hd2 : decide ((1048576 : Int) < (z : Int) + (x.size : Int)) = false := by simp; omega
            go_wp2
            go_round
            case rel =>
              refine ⟨k + 1, z + x.size, by omega, by go_num, by go_num, h2, fun j hj => ?_⟩
              rcases Nat.lt_or_ge j k with h | h
              · exact HA.out j h
              · obtain rfl : j = k := by omega
                rw [HX.out]; exact h1
            case measure => simp [intOf]; omega
          · have hd2 : decide ((1048576 : Int) < (z : Int) + (x.size : Int)) = true := by simp; omega
            go_wp2
            go_ret
            exact Short.no rfl
        · have hd1 : decide ((1048576 : Int) < (x.size : Int)) = true := by simp; omega
          go_wp2
          go_ret
          exact Short.no rfl
      · obtain rfl : k = len := by omega
        go_wp2
        go_ret
        exact Short.yes rfl HA.out
  · have hd0 : decide ((1048576 : Int) < (len : Int)) = true := by simp; omega
    go_enter Try.func6, Try.ntmps6
    go_wp2
    go_ret
    exact Short.no rfl

set_option maxRecDepth 100000 in
theorem zzb1_some (b off len cap : Nat) (ss : List ByteArray) (w : World) (hm : len ≤ 65536) (hc : ∀ i, i < len → w.cell? ⟨b, off + i, none⟩ = some (.string (at' ss i))) (hw : ∀ i, i < len → (at' ss i).size ≤ 1048576) :
    Calls Try.prog 7 #[.slice (some ⟨b, off, none⟩) len cap, .int .i64 0] w fun e w' => ∃ t : Nat, e = .returned (.int .i64 t) ∧ w' = w ∧ (t ≤ 1048576 → 16 * len + total (ss.take len) ≤ 1048576) := by
  go_enter Try.func7, Try.ntmps7
  go_wp2
  go_loop [5, 6] (fun n i => ∃ k z : Nat, k ≤ len ∧ i = .int .i64 k ∧ n = .int .i64 z ∧ z ≤ 1048576 ∧ Hid (z = 16 * len + total (ss.take k))) (fun _ i => len - (intOf i).toNat)
  case atStart => exact ⟨0, 16 * len, Nat.zero_le _, rfl, by go_num, by omega, show _ = _ from by simp [total]⟩
  case round =>
    obtain ⟨k, z, hk, rfl, rfl, hz, HZ⟩ := hrel
    by_cases hlt : k < len
    · have hcell := hc k hlt
      have hs := hw k hlt
      have hst := total_take ss k
      generalize hx : at' ss k = x at hcell hs hst
      have HS : Hid (total (ss.take (k + 1)) = total (ss.take k) + x.size) := hst
      have HC : Hid (∀ i, i < len → w.cell? ⟨b, off + i, none⟩ = some (.string (at' ss i))) := hc
      have HW : Hid (∀ i, i < len → (at' ss i).size ≤ 1048576) := hw
      clear hx hc hw hst
      by_cases h2 : z + x.size ≤ 1048576
      · have hd2 : decide ((1048576 : Int) < (z : Int) + (x.size : Int)) = false := by simp; omega
        go_wp2
        go_round
        case rel => exact ⟨k + 1, z + x.size, by omega, by go_num, by go_num, h2, show _ = _ from by have h := HZ.out; have h' := HS.out; omega⟩
        case measure => simp [intOf]; omega
      · have hd2 : decide ((1048576 : Int) < (z : Int) + (x.size : Int)) = true := by simp; omega
        go_wp2
        go_ret
        exact ⟨z + x.size, by simp, rfl, fun h => by omega⟩
    · obtain rfl : k = len := by omega
      go_wp2
      go_ret
      exact ⟨z, rfl, rfl, fun h => by have := HZ.out; omega⟩
end Go.Proofs.Qxb6612260a
